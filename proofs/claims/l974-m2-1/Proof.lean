import JvmDerived
import JvmDerived.Pilot.@@N@@Statement
import JvmDerived.Pilot.@@N@@Code
set_option linter.unusedVariables false
set_option linter.unusedSimpArgs false
namespace Jvm.Pilot.@@N@@
open Jvm Jvm.ClassFile Sem Op Lib Jvm.Free Jvm.Stand Jvm.LawKit Jvm.RoadKit Bundle Jvm.Pilot.@@N@@.Jvm.D
section Own
variable {p : Program} {l : Launch} {e : Env} {R : Room} {s : State} {m : MethodId} {args : Array Value} {below : List Frame} {meth : Method} {c : Code} {T : State} {locs : List Loc} {cells slots : Nat} {k n : Nat} {Q : Option Value → Heap → List Loc → Prop} {FF : State → Option Value → Prop} {pc q q' : Nat} {Ls l' : Array Slot} {st rest : List Value}
/-- from U the run comes to a return that FF allows -/
def own_G (p : Program) (e : Env) (below : List Frame) (FF : State → Option Value → Prop) (U : State) : Prop :=
  ∃ s₂ v, Steps p.tables e below U s₂ ∧ s₂.status = .running ∧ Ended s₂ below (.returned v) ∧ FF s₂ v
/-- .. that Q allows, with at most k cells and n slots made since s -/
def own_En (s : State) (k n : Nat) (Q : Option Value → Heap → List Loc → Prop) : State → Option Value → Prop := fun s₂ v => ∃ L, Q v s₂.heap L ∧ FrameEnd s (.returned v) s₂ L k n
theorem own_G.via {U U' : State} (g : own_G p e below FF U') (h : ∀ t, Steps p.tables e below U' t → Steps p.tables e below U t) : own_G p e below FF U := by
  obtain ⟨s₂, o, h1, h2⟩ := g
  exact ⟨s₂, o, h _ h1, h2⟩
theorem own_retI (X : Stand p l e R s m args below meth c T locs cells slots) (hx : p.tables.exec = Jvm.exec) {z : Int32} (hret : meth.sig.returnType = some .int) (hlk : meth.locks = false) (hd : decode c.code pc = .ok (.ireturn, 1)) (hk : cells ≤ k) (hn : slots ≤ n) (hq : Q (some (.int z)) T.heap locs) :
    own_G p e below (own_En s k n Q) (T.setTop (mkF m pc Ls [.int z])) := by
  obtain ⟨fs, hr, hrun, hended, hW, hsame⟩ := X.leave (v := some (.int z)) (fun h => by rw [hret] at h; cases h) hlk
  exact ⟨_, _, X.ireturnOut hx hret rfl (Or.inl rfl) hd hr, hrun, hended, _, hq, ⟨_, rfl⟩, hW, hsame.mono hk hn⟩
theorem own_retN (X : Stand p l e R s m args below meth c T locs cells slots) (hx : p.tables.exec = Jvm.exec) {z w : Int32} {t : FieldType} (hret : meth.sig.returnType = some t) (hlk : meth.locks = false) (ht : t = .boolean ∨ t = .byte ∨ t = .char ∨ t = .short) (hd : decode c.code pc = .ok (.ireturn, 1)) (hk : cells ≤ k) (hn : slots ≤ n) (hz : nar t z = w) (hq : Q (some (.int w)) T.heap locs) :
    own_G p e below (own_En s k n Q) (T.setTop (mkF m pc Ls [.int z])) := by
  subst hz
  obtain ⟨fs, hr, hrun, hended, hW, hsame⟩ := X.leave (v := some (.int (nar t z))) (fun h => by rw [hret] at h; cases h) hlk
  exact ⟨_, _, retN X hx hret ht hd hr, hrun, hended, _, hq, ⟨_, rfl⟩, hW, hsame.mono hk hn⟩
theorem own_retL (X : Stand p l e R s m args below meth c T locs cells slots) (hx : p.tables.exec = Jvm.exec) {z : Int64} (hret : meth.sig.returnType = some .long) (hlk : meth.locks = false) (hd : decode c.code pc = .ok (.lreturn, 1)) (hk : cells ≤ k) (hn : slots ≤ n) (hq : Q (some (.long z)) T.heap locs) :
    own_G p e below (own_En s k n Q) (T.setTop (mkF m pc Ls [.long z])) := by
  obtain ⟨fs, hr, hrun, hended, hW, hsame⟩ := X.leave (v := some (.long z)) (fun h => by rw [hret] at h; cases h) hlk
  exact ⟨_, _, X.lreturnOut hx hret hd hr, hrun, hended, _, hq, ⟨_, rfl⟩, hW, hsame.mono hk hn⟩
theorem own_retV (X : Stand p l e R s m args below meth c T locs cells slots) (hx : p.tables.exec = Jvm.exec) (hret : meth.sig.returnType = none) (hlk : meth.locks = false) (hd : decode c.code pc = .ok (.return_, 1)) (hk : cells ≤ k) (hn : slots ≤ n) (hq : Q none T.heap locs) :
    own_G p e below (own_En s k n Q) (T.setTop (mkF m pc Ls [])) := by
  obtain ⟨fs, hr, hrun, hended, hW, hsame⟩ := X.leave (v := none) (fun _ => rfl) hlk
  exact ⟨_, _, X.returnOut hx hret hd hr, hrun, hended, _, hq, ⟨_, rfl⟩, hW, hsame.mono hk hn⟩
theorem own_body {y : MethodName} {bytes : ByteArray} {maxL : Nat} {ret : Option FieldType} {ws : List Jvm.Cond} {rm : Room} {as' : Array Value} {h0 : Heap} {Z : State} (hpn : plainFor y = true)
    (body : ∀ (p : Program) (e : Env) (s : State) (m : MethodId) (below : List Frame) (meth : Method) (c : Code) (s₁ : State), p.tables.exec = Jvm.exec → c.code = bytes → c.maxLocals = maxL → s.vm.findClass y.cls = some m.cls → meth.name = y.name → meth.sig.returnType = ret → meth.locks = false → Z.Warmed39 s.vm →
      Stand p l e rm s m as' below meth c s₁ [] 0 0 → s₁.heap = h0 → own_G p e below (own_En s rm.cells rm.slots Q) (s₁.setTop (entryFrame m as' maxL))) :
    MetFree l y (head1 (Jvm.Cond.code y bytes maxL ret :: ws) rm) (fun a U => a = as' ∧ Z.Warmed39 U.vm ∧ U.heap = h0) (fun _ _ _ _ _ => True) (fun _ U o U' => ∃ v L, o = .returned v ∧ Q v U'.heap L ∧ FrameEnd U o U' L rm.cells rm.slots) := by
  refine MetFree.of_bodySF hpn hisR ?_
  intro p e s m args below meth c s₁ Bd hml0 hP hK
  obtain ⟨rfl, hZ, hh⟩ := hP
  obtain ⟨s₂, v, h1, h2, h3, L, hq, hf⟩ := body p e s m below meth c s₁ Bd.exec Bd.bytes hml0 (findClass_of_methodNamed Bd.named) (name_of_methodNamed Bd.named Bd.method).1 Bd.returns Bd.notSynchronized hZ (Stand.of_body Bd) (by rw [← hh, Bd.state]; rfl)
  exact ⟨s₂, _, h1, h2, h3, v, L, rfl, hq, hf⟩
/-- a static call by the callee's contract -/
theorem own_callS {Z : State} {a0 : Array Value} {h : Heap} (X : Stand p l e R s m args below meth c T locs cells slots) (hx : p.tables.exec = Jvm.exec) (hZ : Z.Warmed39 s.vm) {own : String} {index : Nat} {y : MethodName} {bytes : ByteArray} {maxL : Nat} {ret : Option FieldType}
    (hown : s.vm.findClass own = some m.cls) (w1 : (Jvm.Cond.methodLink own index y).before a0 Z = true) (w2 : (Jvm.Cond.static y).before a0 Z = true) (w3 : (Jvm.Cond.initialized y.cls).before a0 Z = true) (w4 : (Jvm.Cond.code y bytes maxL ret).before a0 Z = true)
    (hy : y.cls ≠ "java/lang/invoke/MethodHandle" ∧ y.cls ≠ "java/lang/invoke/VarHandle") {rm : Room} {as' : Array Value} {Q' : Option Value → Heap → List Loc → Prop} {W : Nat}
    (hM : MetFree l y (head1 [Jvm.Cond.code y bytes maxL ret] rm) (fun a U => a = as' ∧ Z.Warmed39 U.vm ∧ U.heap = h) (fun _ _ _ _ _ => True) (fun _ U o U' => ∃ v L, o = .returned v ∧ Q' v U'.heap L ∧ FrameEnd U o U' L rm.cells rm.slots))
    (hf : rm.frames + 1 ≤ R.frames) (hl : W + (maxL + 11) + rm.locals ≤ R.locals) (eT : T.heap = h) (hsize : Ls.size = c.maxLocals) {argsL : List Value}
    (hlen : ∀ sig, parseMethodDescriptor y.desc = some sig → argsL.length = sig.parameters.length) (hst : st = argsL.reverse ++ rest) (hW : (rest.map fun v => v.category).sum = W) (hd : decode c.code pc = .ok (.invokestatic index, 3)) (hq : pc + 3 = q) (has : argsL.toArray = as') (hc : cells + rm.cells ≤ R.cells) (hs : slots + rm.slots ≤ R.slots)
    (g : ∀ v T' L, Q' v T'.heap L → Stand p l e R s m args below meth c T' (locs ++ L) (cells + rm.cells) (slots + rm.slots) → own_G p e below FF (T'.setTop (mkF m q Ls (v.toList ++ rest)))) :
    own_G p e below FF (T.setTop (mkF m pc Ls st)) := by
  subst hq hst
  obtain ⟨v, _, ⟨T7, L7, k7, n7⟩, -, X7, ⟨Lc7, hQ7, l7, y7, z7⟩, st7⟩ := Jvm.LawKit.callS X hx hown (mvT hZ w1) (mvT hZ w2) (mvT hZ w3) (mvT hZ w4) hy (backOf (W := W) hM hZ w4 w3 hf hl) (g := mkF m pc Ls (argsL.reverse ++ rest)) rfl hsize hlen rfl (by show 2 * 0 + _ ≤ _; rw [hW]; omega) hd (fun _ _ => ⟨has, eT, hc, hs⟩)
  dsimp only [Pt.U, Pt.locs, Pt.cells, Pt.slots] at X7 l7 y7 z7 st7 hQ7
  subst l7 y7 z7
  exact (g v T7 Lc7 hQ7 X7).via fun t => st7 t
/-- a static call that leaves the heap as it was -/
theorem own_callSP {Z : State} {a0 : Array Value} {h : Heap} (X : Stand p l e R s m args below meth c T locs cells slots) (hx : p.tables.exec = Jvm.exec) (hZ : Z.Warmed39 s.vm) {own : String} {index : Nat} {y : MethodName} {bytes : ByteArray} {maxL : Nat} {ret : Option FieldType}
    (hown : s.vm.findClass own = some m.cls) (w1 : (Jvm.Cond.methodLink own index y).before a0 Z = true) (w2 : (Jvm.Cond.static y).before a0 Z = true) (w3 : (Jvm.Cond.initialized y.cls).before a0 Z = true) (w4 : (Jvm.Cond.code y bytes maxL ret).before a0 Z = true)
    (hy : y.cls ≠ "java/lang/invoke/MethodHandle" ∧ y.cls ≠ "java/lang/invoke/VarHandle") {rm : Room} {as' : Array Value} {P : Value → Prop} {W : Nat}
    (hM : MetFree l y (head1 [Jvm.Cond.code y bytes maxL ret] rm) (fun a U => a = as' ∧ Z.Warmed39 U.vm ∧ U.heap = h) (fun _ _ _ _ _ => True) (fun _ U o U' => ∃ v L, o = .returned v ∧ ((∃ w, v = some w ∧ P w) ∧ L = [] ∧ U'.heap = h) ∧ FrameEnd U o U' L rm.cells rm.slots))
    (hf : rm.frames + 1 ≤ R.frames) (hl : W + (maxL + 11) + rm.locals ≤ R.locals) (eT : T.heap = h) (hsize : Ls.size = c.maxLocals) {argsL : List Value}
    (hlen : ∀ sig, parseMethodDescriptor y.desc = some sig → argsL.length = sig.parameters.length) (hst : st = argsL.reverse ++ rest) (hW : (rest.map fun v => v.category).sum = W) (hd : decode c.code pc = .ok (.invokestatic index, 3)) (hq : pc + 3 = q) (has : argsL.toArray = as') (hc : rm.cells = 0) (hs : rm.slots = 0) (hcc : cells ≤ R.cells) (hss : slots ≤ R.slots)
    (g : ∀ w T', P w → Stand p l e R s m args below meth c T' locs cells slots → T'.heap = h → own_G p e below FF (T'.setTop (mkF m q Ls (w :: rest)))) :
    own_G p e below FF (T.setTop (mkF m pc Ls st)) := by
  refine own_callS (Q' := fun v U L => (∃ w, v = some w ∧ P w) ∧ L = [] ∧ U = h) X hx hZ hown w1 w2 w3 w4 hy hM hf hl eT hsize hlen hst hW hd hq has (by rw [hc]; exact hcc) (by rw [hs]; exact hss) ?_
  rintro v T' L ⟨⟨w, rfl, hP⟩, rfl, e'⟩ X'
  rw [List.append_nil, hc, hs] at X'
  exact g w T' hP X' e'
/-- a virtual call by the callee's contract; the receiver is exactly of class C -/
theorem own_callV {Z : State} {a0 : Array Value} {h : Heap} (X : Stand p l e R s m args below meth c T locs cells slots) (hx : p.tables.exec = Jvm.exec) (hZ : Z.Warmed39 s.vm) {own C : String} {index : Nat} {y : MethodName} {bytes : ByteArray} {maxL : Nat} {ret : Option FieldType}
    (hown : s.vm.findClass own = some m.cls) (w1 : (Jvm.Cond.methodLink own index y).before a0 Z = true) (w2 : (Jvm.Cond.declares y).before a0 Z = true) (w3 : (Jvm.Cond.selects C y y).before a0 Z = true) (w4 : (Jvm.Cond.instanceMethod y).before a0 Z = true) (w5 : (Jvm.Cond.code y bytes maxL ret).before a0 Z = true) (w6 : (Jvm.Cond.initialized y.cls).before a0 Z = true)
    (hy : y.cls ≠ "java/lang/invoke/MethodHandle" ∧ y.cls ≠ "java/lang/invoke/VarHandle") {rm : Room} {as' : Array Value} {Q' : Option Value → Heap → List Loc → Prop} {W : Nat}
    (hM : MetFree l y (head1 [Jvm.Cond.code y bytes maxL ret] rm) (fun a U => a = as' ∧ Z.Warmed39 U.vm ∧ U.heap = h) (fun _ _ _ _ _ => True) (fun _ U o U' => ∃ v L, o = .returned v ∧ Q' v U'.heap L ∧ FrameEnd U o U' L rm.cells rm.slots))
    {b : Addr} (E : Exa Z h b C)
    (hf : rm.frames + 1 ≤ R.frames) (hl : W + (maxL + 11) + rm.locals ≤ R.locals) (eT : T.heap = h) (hsize : Ls.size = c.maxLocals) {argsL : List Value}
    (hlen : ∀ sig, parseMethodDescriptor y.desc = some sig → argsL.length = sig.parameters.length) (hst : st = argsL.reverse ++ .ref b :: rest) (hW : (rest.map fun v => v.category).sum = W) (hd : decode c.code pc = .ok (.invokevirtual index, 3)) (hq : pc + 3 = q) (has : (.ref b :: argsL).toArray = as') (hc : cells + rm.cells ≤ R.cells) (hs : slots + rm.slots ≤ R.slots)
    (g : ∀ v T' L, Q' v T'.heap L → Stand p l e R s m args below meth c T' (locs ++ L) (cells + rm.cells) (slots + rm.slots) → own_G p e below FF (T'.setTop (mkF m q Ls (v.toList ++ rest)))) :
    own_G p e below FF (T.setTop (mkF m pc Ls st)) := by
  subst hq hst
  obtain ⟨cq, kq, qa, qb, qc⟩ := isOf hZ eT E
  obtain ⟨v, _, ⟨T7, L7, k7, n7⟩, -, X7, ⟨Lc7, hQ7, l7, y7, z7⟩, st7⟩ := X.virtualBack hx hown (mvT hZ w1) (mvT hZ w2) (notFace_of_selects (args := #[]) (mvT hZ w3)) (mvT hZ w3) (mvT hZ w4) hy (backOf (W := W) hM hZ w5 w6 hf hl) qa qc (g := mkF m pc Ls (argsL.reverse ++ .ref b :: rest)) rfl hsize (Steps.refl _) (argsL := argsL) (rest := rest) hlen rfl (by show 2 * 0 + _ ≤ _; rw [hW]; omega) hd (fun _ _ => ⟨has, eT, hc, hs⟩)
  dsimp only [Pt.U, Pt.locs, Pt.cells, Pt.slots] at X7 l7 y7 z7 st7 hQ7
  subst l7 y7 z7
  exact (g v T7 Lc7 hQ7 X7).via fun t hh => st7.trans hh
/-- a constructor's call by its contract -/
theorem own_callN {Z : State} {a0 : Array Value} {h : Heap} (X : Stand p l e R s m args below meth c T locs cells slots) (hx : p.tables.exec = Jvm.exec) (hZ : Z.Warmed39 s.vm) {own : String} {index : Nat} {y : MethodName} {bytes : ByteArray} {maxL : Nat}
    (hyn : y.name = "<init>") (hown : s.vm.findClass own = some m.cls) (w1 : (Jvm.Cond.methodLink own index y).before a0 Z = true) (w2 : (Jvm.Cond.instanceMethod y).before a0 Z = true) (w3 : (Jvm.Cond.initialized y.cls).before a0 Z = true) (w4 : (Jvm.Cond.code y bytes maxL none).before a0 Z = true)
    (hy : y.cls ≠ "java/lang/invoke/MethodHandle" ∧ y.cls ≠ "java/lang/invoke/VarHandle") {rm : Room} {as' : Array Value} {Q' : Option Value → Heap → List Loc → Prop} {W : Nat}
    (hM : MetFree l y (head1 [Jvm.Cond.code y bytes maxL none] rm) (fun a U => a = as' ∧ Z.Warmed39 U.vm ∧ U.heap = h) (fun _ _ _ _ _ => True) (fun _ U o U' => ∃ v L, o = .returned v ∧ Q' v U'.heap L ∧ FrameEnd U o U' L rm.cells rm.slots))
    {b : Addr} (hf : rm.frames + 1 ≤ R.frames) (hl : W + (maxL + 11) + rm.locals ≤ R.locals) (eT : T.heap = h) (hsize : Ls.size = c.maxLocals) {argsL : List Value}
    (hlen : ∀ sig, parseMethodDescriptor y.desc = some sig → argsL.length = sig.parameters.length) (hst : st = argsL.reverse ++ .ref b :: rest) (hW : (rest.map fun v => v.category).sum = W) (hd : decode c.code pc = .ok (.invokespecial index, 3)) (hq : pc + 3 = q) (has : (.ref b :: argsL).toArray = as') (hc : cells + rm.cells ≤ R.cells) (hs : slots + rm.slots ≤ R.slots)
    (g : ∀ v T' L, Q' v T'.heap L → Stand p l e R s m args below meth c T' (locs ++ L) (cells + rm.cells) (slots + rm.slots) → own_G p e below FF (T'.setTop (mkF m q Ls (v.toList ++ rest)))) :
    own_G p e below FF (T.setTop (mkF m pc Ls st)) := by
  subst hq hst
  obtain ⟨v, _, ⟨T7, L7, k7, n7⟩, -, X7, ⟨Lc7, hQ7, l7, y7, z7⟩, st7⟩ := X.specialBack hx hyn hown (mvT hZ w1) (mvT hZ w2) (mvT hZ w4) hy (backOf (W := W) hM hZ w4 w3 hf hl) (g := mkF m pc Ls (argsL.reverse ++ .ref b :: rest)) rfl hsize (Steps.refl _) (a := b) (argsL := argsL) (rest := rest) hlen rfl (by show 2 * 0 + _ ≤ _; rw [hW]; omega) hd (fun _ _ => ⟨has, eT, hc, hs⟩)
  dsimp only [Pt.U, Pt.locs, Pt.cells, Pt.slots] at X7 l7 y7 z7 st7 hQ7
  subst l7 y7 z7
  exact (g v T7 Lc7 hQ7 X7).via fun t hh => st7.trans hh
theorem own_ldcI {Z : State} {a0 : Array Value} (X : Stand p l e R s m args below meth c T locs cells slots) (hx : p.tables.exec = Jvm.exec) (hZ : Z.Warmed39 s.vm) {own : String} {index : Nat} {v : Int32} (hown : s.vm.findClass own = some m.cls) (w : (Jvm.Cond.constant own index v).before a0 Z = true) (hd : decode c.code pc = .ok (.ldc index, 2)) (hq : pc + 2 = q)
    (g : own_G p e below FF (T.setTop (mkF m q Ls (.int v :: st)))) : own_G p e below FF (T.setTop (mkF m pc Ls st)) := by
  subst hq; exact g.via fun t => X.ldcInt hx hown (mvT hZ w) (g := mkF m pc Ls st) rfl hd t
theorem own_ldcL {Z : State} {a0 : Array Value} (X : Stand p l e R s m args below meth c T locs cells slots) (hx : p.tables.exec = Jvm.exec) (hZ : Z.Warmed39 s.vm) {own : String} {index : Nat} {v : Int64} (hown : s.vm.findClass own = some m.cls) (w : (Jvm.Cond.constantLong own index v).before a0 Z = true) (hd : decode c.code pc = .ok (.ldc2_w index, 3)) (hq : pc + 3 = q)
    (g : own_G p e below FF (T.setTop (mkF m q Ls (.long v :: st)))) : own_G p e below FF (T.setTop (mkF m pc Ls st)) := by
  subst hq; exact g.via fun t => X.ldc2Long hx hown (mvT hZ w) (g := mkF m pc Ls st) rfl hd t
theorem own_iadd (X : Stand p l e R s m args below meth c T locs cells slots) (hx : p.tables.exec = Jvm.exec) {x y : Int32} (hd : decode c.code pc = .ok (.iadd, 1))  (hq : pc + 1 = q) (g : own_G p e below FF (T.setTop (mkF m q Ls (.int (x + y) :: rest)))) : own_G p e below FF (T.setTop (mkF m pc Ls (.int y :: .int x :: rest))) := by
  subst hq; exact g.via fun _ hr_ => XS.iadd (g := mkF m pc Ls (.int y :: .int x :: rest)) X.here hx rfl hd rfl hr_
theorem own_isub (X : Stand p l e R s m args below meth c T locs cells slots) (hx : p.tables.exec = Jvm.exec) {x y : Int32} (hd : decode c.code pc = .ok (.isub, 1))  (hq : pc + 1 = q) (g : own_G p e below FF (T.setTop (mkF m q Ls (.int (x - y) :: rest)))) : own_G p e below FF (T.setTop (mkF m pc Ls (.int y :: .int x :: rest))) := by
  subst hq; exact g.via fun _ hr_ => XS.isub (g := mkF m pc Ls (.int y :: .int x :: rest)) X.here hx rfl hd rfl hr_
theorem own_imul (X : Stand p l e R s m args below meth c T locs cells slots) (hx : p.tables.exec = Jvm.exec) {x y : Int32} (hd : decode c.code pc = .ok (.imul, 1))  (hq : pc + 1 = q) (g : own_G p e below FF (T.setTop (mkF m q Ls (.int (x * y) :: rest)))) : own_G p e below FF (T.setTop (mkF m pc Ls (.int y :: .int x :: rest))) := by
  subst hq; exact g.via fun _ hr_ => XS.imul (g := mkF m pc Ls (.int y :: .int x :: rest)) X.here hx rfl hd rfl hr_
theorem own_iand (X : Stand p l e R s m args below meth c T locs cells slots) (hx : p.tables.exec = Jvm.exec) {x y : Int32} (hd : decode c.code pc = .ok (.iand, 1))  (hq : pc + 1 = q) (g : own_G p e below FF (T.setTop (mkF m q Ls (.int (x &&& y) :: rest)))) : own_G p e below FF (T.setTop (mkF m pc Ls (.int y :: .int x :: rest))) := by
  subst hq; exact g.via fun _ hr_ => XS.iand (g := mkF m pc Ls (.int y :: .int x :: rest)) X.here hx rfl hd rfl hr_
theorem own_ixor (X : Stand p l e R s m args below meth c T locs cells slots) (hx : p.tables.exec = Jvm.exec) {x y : Int32} (hd : decode c.code pc = .ok (.ixor, 1))  (hq : pc + 1 = q) (g : own_G p e below FF (T.setTop (mkF m q Ls (.int (x ^^^ y) :: rest)))) : own_G p e below FF (T.setTop (mkF m pc Ls (.int y :: .int x :: rest))) := by
  subst hq; exact g.via fun _ hr_ => XT.ixor (g := mkF m pc Ls (.int y :: .int x :: rest)) X.here hx rfl hd rfl hr_
theorem own_ior (X : Stand p l e R s m args below meth c T locs cells slots) (hx : p.tables.exec = Jvm.exec) {x y : Int32} (hd : decode c.code pc = .ok (.ior, 1))  (hq : pc + 1 = q) (g : own_G p e below FF (T.setTop (mkF m q Ls (.int (x ||| y) :: rest)))) : own_G p e below FF (T.setTop (mkF m pc Ls (.int y :: .int x :: rest))) := by
  subst hq; exact g.via fun _ hr_ => XT.ior (g := mkF m pc Ls (.int y :: .int x :: rest)) X.here hx rfl hd rfl hr_
theorem own_ishl (X : Stand p l e R s m args below meth c T locs cells slots) (hx : p.tables.exec = Jvm.exec) {x y : Int32} (hd : decode c.code pc = .ok (.ishl, 1))  (hq : pc + 1 = q) (g : own_G p e below FF (T.setTop (mkF m q Ls (.int (x <<< (y &&& 31)) :: rest)))) : own_G p e below FF (T.setTop (mkF m pc Ls (.int y :: .int x :: rest))) := by
  subst hq; exact g.via fun _ hr_ => XT.ishl (g := mkF m pc Ls (.int y :: .int x :: rest)) X.here hx rfl hd rfl hr_
theorem own_ishr (X : Stand p l e R s m args below meth c T locs cells slots) (hx : p.tables.exec = Jvm.exec) {x y : Int32} (hd : decode c.code pc = .ok (.ishr, 1))  (hq : pc + 1 = q) (g : own_G p e below FF (T.setTop (mkF m q Ls (.int (x >>> (y &&& 31)) :: rest)))) : own_G p e below FF (T.setTop (mkF m pc Ls (.int y :: .int x :: rest))) := by
  subst hq; exact g.via fun _ hr_ => XT.ishr (g := mkF m pc Ls (.int y :: .int x :: rest)) X.here hx rfl hd rfl hr_
theorem own_iushr (X : Stand p l e R s m args below meth c T locs cells slots) (hx : p.tables.exec = Jvm.exec) {x y : Int32} (hd : decode c.code pc = .ok (.iushr, 1))  (hq : pc + 1 = q) (g : own_G p e below FF (T.setTop (mkF m q Ls (.int (XT.ushr x y) :: rest)))) : own_G p e below FF (T.setTop (mkF m pc Ls (.int y :: .int x :: rest))) := by
  subst hq; exact g.via fun _ hr_ => XT.iushr (g := mkF m pc Ls (.int y :: .int x :: rest)) X.here hx rfl hd rfl hr_
theorem own_idiv (X : Stand p l e R s m args below meth c T locs cells slots) (hx : p.tables.exec = Jvm.exec) {x y : Int32} (hd : decode c.code pc = .ok (.idiv, 1)) (hy : y ≠ 0) (hq : pc + 1 = q) (g : own_G p e below FF (T.setTop (mkF m q Ls (.int (x / y) :: rest)))) : own_G p e below FF (T.setTop (mkF m pc Ls (.int y :: .int x :: rest))) := by
  subst hq; exact g.via fun _ hr_ => XS.idiv (g := mkF m pc Ls (.int y :: .int x :: rest)) X.here hx rfl hd rfl hy hr_
theorem own_irem (X : Stand p l e R s m args below meth c T locs cells slots) (hx : p.tables.exec = Jvm.exec) {x y : Int32} (hd : decode c.code pc = .ok (.irem, 1)) (hy : y ≠ 0) (hq : pc + 1 = q) (g : own_G p e below FF (T.setTop (mkF m q Ls (.int (x - (x / y) * y) :: rest)))) : own_G p e below FF (T.setTop (mkF m pc Ls (.int y :: .int x :: rest))) := by
  subst hq; exact g.via fun _ hr_ => XS.irem (g := mkF m pc Ls (.int y :: .int x :: rest)) X.here hx rfl hd rfl hy hr_
theorem own_ladd (X : Stand p l e R s m args below meth c T locs cells slots) (hx : p.tables.exec = Jvm.exec) {x y : Int64} (hd : decode c.code pc = .ok (.ladd, 1))  (hq : pc + 1 = q) (g : own_G p e below FF (T.setTop (mkF m q Ls (.long (x + y) :: rest)))) : own_G p e below FF (T.setTop (mkF m pc Ls (.long y :: .long x :: rest))) := by
  subst hq; exact g.via fun _ hr_ => XT.ladd (g := mkF m pc Ls (.long y :: .long x :: rest)) X.here hx rfl hd rfl hr_
theorem own_lsub (X : Stand p l e R s m args below meth c T locs cells slots) (hx : p.tables.exec = Jvm.exec) {x y : Int64} (hd : decode c.code pc = .ok (.lsub, 1))  (hq : pc + 1 = q) (g : own_G p e below FF (T.setTop (mkF m q Ls (.long (x - y) :: rest)))) : own_G p e below FF (T.setTop (mkF m pc Ls (.long y :: .long x :: rest))) := by
  subst hq; exact g.via fun _ hr_ => XT.lsub (g := mkF m pc Ls (.long y :: .long x :: rest)) X.here hx rfl hd rfl hr_
theorem own_lmul (X : Stand p l e R s m args below meth c T locs cells slots) (hx : p.tables.exec = Jvm.exec) {x y : Int64} (hd : decode c.code pc = .ok (.lmul, 1))  (hq : pc + 1 = q) (g : own_G p e below FF (T.setTop (mkF m q Ls (.long (x * y) :: rest)))) : own_G p e below FF (T.setTop (mkF m pc Ls (.long y :: .long x :: rest))) := by
  subst hq; exact g.via fun _ hr_ => XT.lmul (g := mkF m pc Ls (.long y :: .long x :: rest)) X.here hx rfl hd rfl hr_
theorem own_land (X : Stand p l e R s m args below meth c T locs cells slots) (hx : p.tables.exec = Jvm.exec) {x y : Int64} (hd : decode c.code pc = .ok (.land, 1))  (hq : pc + 1 = q) (g : own_G p e below FF (T.setTop (mkF m q Ls (.long (x &&& y) :: rest)))) : own_G p e below FF (T.setTop (mkF m pc Ls (.long y :: .long x :: rest))) := by
  subst hq; exact g.via fun _ hr_ => XT.land (g := mkF m pc Ls (.long y :: .long x :: rest)) X.here hx rfl hd rfl hr_
theorem own_lor (X : Stand p l e R s m args below meth c T locs cells slots) (hx : p.tables.exec = Jvm.exec) {x y : Int64} (hd : decode c.code pc = .ok (.lor, 1))  (hq : pc + 1 = q) (g : own_G p e below FF (T.setTop (mkF m q Ls (.long (x ||| y) :: rest)))) : own_G p e below FF (T.setTop (mkF m pc Ls (.long y :: .long x :: rest))) := by
  subst hq; exact g.via fun _ hr_ => XT.lor (g := mkF m pc Ls (.long y :: .long x :: rest)) X.here hx rfl hd rfl hr_
theorem own_lxor (X : Stand p l e R s m args below meth c T locs cells slots) (hx : p.tables.exec = Jvm.exec) {x y : Int64} (hd : decode c.code pc = .ok (.lxor, 1))  (hq : pc + 1 = q) (g : own_G p e below FF (T.setTop (mkF m q Ls (.long (x ^^^ y) :: rest)))) : own_G p e below FF (T.setTop (mkF m pc Ls (.long y :: .long x :: rest))) := by
  subst hq; exact g.via fun _ hr_ => XT.lxor (g := mkF m pc Ls (.long y :: .long x :: rest)) X.here hx rfl hd rfl hr_
theorem own_ldiv (X : Stand p l e R s m args below meth c T locs cells slots) (hx : p.tables.exec = Jvm.exec) {x y : Int64} (hd : decode c.code pc = .ok (.ldiv, 1)) (hy : y ≠ 0) (hq : pc + 1 = q) (g : own_G p e below FF (T.setTop (mkF m q Ls (.long (x / y) :: rest)))) : own_G p e below FF (T.setTop (mkF m pc Ls (.long y :: .long x :: rest))) := by
  subst hq; exact g.via fun _ hr_ => XT.ldiv (g := mkF m pc Ls (.long y :: .long x :: rest)) X.here hx rfl hd rfl hy hr_
theorem own_lrem (X : Stand p l e R s m args below meth c T locs cells slots) (hx : p.tables.exec = Jvm.exec) {x y : Int64} (hd : decode c.code pc = .ok (.lrem, 1)) (hy : y ≠ 0) (hq : pc + 1 = q) (g : own_G p e below FF (T.setTop (mkF m q Ls (.long (x - (x / y) * y) :: rest)))) : own_G p e below FF (T.setTop (mkF m pc Ls (.long y :: .long x :: rest))) := by
  subst hq; exact g.via fun _ hr_ => XT.lrem (g := mkF m pc Ls (.long y :: .long x :: rest)) X.here hx rfl hd rfl hy hr_
theorem own_lcmp (X : Stand p l e R s m args below meth c T locs cells slots) (hx : p.tables.exec = Jvm.exec) {x y : Int64} (hd : decode c.code pc = .ok (.lcmp, 1))  (hq : pc + 1 = q) (g : own_G p e below FF (T.setTop (mkF m q Ls (.int (XT.cmpL x y) :: rest)))) : own_G p e below FF (T.setTop (mkF m pc Ls (.long y :: .long x :: rest))) := by
  subst hq; exact g.via fun _ hr_ => XT.lcmp (g := mkF m pc Ls (.long y :: .long x :: rest)) X.here hx rfl hd rfl hr_
theorem own_lshl (X : Stand p l e R s m args below meth c T locs cells slots) (hx : p.tables.exec = Jvm.exec) {x : Int64} {y : Int32} (hd : decode c.code pc = .ok (.lshl, 1))  (hq : pc + 1 = q) (g : own_G p e below FF (T.setTop (mkF m q Ls (.long (x <<< (y.toInt64 &&& 63)) :: rest)))) : own_G p e below FF (T.setTop (mkF m pc Ls (.int y :: .long x :: rest))) := by
  subst hq; exact g.via fun _ hr_ => XT.lshl (g := mkF m pc Ls (.int y :: .long x :: rest)) X.here hx rfl hd rfl hr_
theorem own_lshr (X : Stand p l e R s m args below meth c T locs cells slots) (hx : p.tables.exec = Jvm.exec) {x : Int64} {y : Int32} (hd : decode c.code pc = .ok (.lshr, 1))  (hq : pc + 1 = q) (g : own_G p e below FF (T.setTop (mkF m q Ls (.long (x >>> (y.toInt64 &&& 63)) :: rest)))) : own_G p e below FF (T.setTop (mkF m pc Ls (.int y :: .long x :: rest))) := by
  subst hq; exact g.via fun _ hr_ => XT.lshr (g := mkF m pc Ls (.int y :: .long x :: rest)) X.here hx rfl hd rfl hr_
theorem own_lushr (X : Stand p l e R s m args below meth c T locs cells slots) (hx : p.tables.exec = Jvm.exec) {x : Int64} {y : Int32} (hd : decode c.code pc = .ok (.lushr, 1))  (hq : pc + 1 = q) (g : own_G p e below FF (T.setTop (mkF m q Ls (.long (XT.ushrL x y) :: rest)))) : own_G p e below FF (T.setTop (mkF m pc Ls (.int y :: .long x :: rest))) := by
  subst hq; exact g.via fun _ hr_ => XT.lushr (g := mkF m pc Ls (.int y :: .long x :: rest)) X.here hx rfl hd rfl hr_
theorem own_ineg (X : Stand p l e R s m args below meth c T locs cells slots) (hx : p.tables.exec = Jvm.exec) {x : Int32} (hd : decode c.code pc = .ok (.ineg, 1))  (hq : pc + 1 = q) (g : own_G p e below FF (T.setTop (mkF m q Ls (.int (-x) :: rest)))) : own_G p e below FF (T.setTop (mkF m pc Ls (.int x :: rest))) := by
  subst hq; exact g.via fun _ hr_ => XS.ineg (g := mkF m pc Ls (.int x :: rest)) X.here hx rfl hd rfl hr_
theorem own_lneg (X : Stand p l e R s m args below meth c T locs cells slots) (hx : p.tables.exec = Jvm.exec) {x : Int64} (hd : decode c.code pc = .ok (.lneg, 1))  (hq : pc + 1 = q) (g : own_G p e below FF (T.setTop (mkF m q Ls (.long (-x) :: rest)))) : own_G p e below FF (T.setTop (mkF m pc Ls (.long x :: rest))) := by
  subst hq; exact g.via fun _ hr_ => XT.lneg (g := mkF m pc Ls (.long x :: rest)) X.here hx rfl hd rfl hr_
theorem own_i2l (X : Stand p l e R s m args below meth c T locs cells slots) (hx : p.tables.exec = Jvm.exec) {x : Int32} (hd : decode c.code pc = .ok (.i2l, 1))  (hq : pc + 1 = q) (g : own_G p e below FF (T.setTop (mkF m q Ls (.long (x.toInt64) :: rest)))) : own_G p e below FF (T.setTop (mkF m pc Ls (.int x :: rest))) := by
  subst hq; exact g.via fun _ hr_ => XT.i2l (g := mkF m pc Ls (.int x :: rest)) X.here hx rfl hd rfl hr_
theorem own_l2i (X : Stand p l e R s m args below meth c T locs cells slots) (hx : p.tables.exec = Jvm.exec) {x : Int64} (hd : decode c.code pc = .ok (.l2i, 1))  (hq : pc + 1 = q) (g : own_G p e below FF (T.setTop (mkF m q Ls (.int (x.toInt32) :: rest)))) : own_G p e below FF (T.setTop (mkF m pc Ls (.long x :: rest))) := by
  subst hq; exact g.via fun _ hr_ => XT.l2i (g := mkF m pc Ls (.long x :: rest)) X.here hx rfl hd rfl hr_
theorem own_i2b (X : Stand p l e R s m args below meth c T locs cells slots) (hx : p.tables.exec = Jvm.exec) {x : Int32} (hd : decode c.code pc = .ok (.i2b, 1))  (hq : pc + 1 = q) (g : own_G p e below FF (T.setTop (mkF m q Ls (.int (x.toInt8.toInt32) :: rest)))) : own_G p e below FF (T.setTop (mkF m pc Ls (.int x :: rest))) := by
  subst hq; exact g.via fun _ hr_ => XT.i2b (g := mkF m pc Ls (.int x :: rest)) X.here hx rfl hd rfl hr_
theorem own_i2c (X : Stand p l e R s m args below meth c T locs cells slots) (hx : p.tables.exec = Jvm.exec) {x : Int32} (hd : decode c.code pc = .ok (.i2c, 1))  (hq : pc + 1 = q) (g : own_G p e below FF (T.setTop (mkF m q Ls (.int (x.toUInt32.toUInt16.toUInt32.toInt32) :: rest)))) : own_G p e below FF (T.setTop (mkF m pc Ls (.int x :: rest))) := by
  subst hq; exact g.via fun _ hr_ => XT.i2c (g := mkF m pc Ls (.int x :: rest)) X.here hx rfl hd rfl hr_
theorem own_iconst (X : Stand p l e R s m args below meth c T locs cells slots) (hx : p.tables.exec = Jvm.exec) {i : Int} {v : Int32} (hd : decode c.code pc = .ok (.iconst i, 1)) (hv : Int32.ofInt i = v) (hq : pc + 1 = q) (g : own_G p e below FF (T.setTop (mkF m q Ls (.int v :: st)))) : own_G p e below FF (T.setTop (mkF m pc Ls (st))) := by
  subst hq; subst hv; exact g.via fun _ hr_ => XS.iconst (g := mkF m pc Ls (st)) X.here hx rfl hd  hr_
theorem own_bipush (X : Stand p l e R s m args below meth c T locs cells slots) (hx : p.tables.exec = Jvm.exec) {i : Int} {v : Int32} (hd : decode c.code pc = .ok (.bipush i, 2)) (hv : (Int8.ofInt i).toInt32 = v) (hq : pc + 2 = q) (g : own_G p e below FF (T.setTop (mkF m q Ls (.int v :: st)))) : own_G p e below FF (T.setTop (mkF m pc Ls (st))) := by
  subst hq; subst hv; exact g.via fun _ hr_ => XS.bipush (g := mkF m pc Ls (st)) X.here hx rfl hd  hr_
theorem own_sipush (X : Stand p l e R s m args below meth c T locs cells slots) (hx : p.tables.exec = Jvm.exec) {i : Int} {v : Int32} (hd : decode c.code pc = .ok (.sipush i, 3)) (hv : (Int16.ofInt i).toInt32 = v) (hq : pc + 3 = q) (g : own_G p e below FF (T.setTop (mkF m q Ls (.int v :: st)))) : own_G p e below FF (T.setTop (mkF m pc Ls (st))) := by
  subst hq; subst hv; exact g.via fun _ hr_ => XS.sipush (g := mkF m pc Ls (st)) X.here hx rfl hd  hr_
theorem own_lconst (X : Stand p l e R s m args below meth c T locs cells slots) (hx : p.tables.exec = Jvm.exec) {i : Fin 2} {v : Int64} (hd : decode c.code pc = .ok (.lconst i, 1)) (hv : Int64.ofNat i = v) (hq : pc + 1 = q) (g : own_G p e below FF (T.setTop (mkF m q Ls (.long v :: st)))) : own_G p e below FF (T.setTop (mkF m pc Ls (st))) := by
  subst hq; subst hv; exact g.via fun _ hr_ => XT.lconst (g := mkF m pc Ls (st)) X.here hx rfl hd  hr_
theorem own_aconst_null (X : Stand p l e R s m args below meth c T locs cells slots) (hx : p.tables.exec = Jvm.exec)  (hd : decode c.code pc = .ok (.aconst_null, 1))  (hq : pc + 1 = q) (g : own_G p e below FF (T.setTop (mkF m q Ls (.null :: st)))) : own_G p e below FF (T.setTop (mkF m pc Ls (st))) := by
  subst hq; exact g.via fun _ hr_ => XS.aconstNull (g := mkF m pc Ls (st)) X.here hx rfl hd  hr_
theorem own_iload_n (X : Stand p l e R s m args below meth c T locs cells slots) (hx : p.tables.exec = Jvm.exec) {i : Fin 4} {v : Int32} (hd : decode c.code pc = .ok (.iload_n i, 1)) (hl : Ls[i.val]? = some (.val (.int v))) (hq : pc + 1 = q) (g : own_G p e below FF (T.setTop (mkF m q Ls (.int v :: st)))) : own_G p e below FF (T.setTop (mkF m pc Ls (st))) := by
  subst hq; exact g.via fun _ hr_ => XS.iloadN (g := mkF m pc Ls (st)) X.here hx rfl hd hl hr_
theorem own_iload (X : Stand p l e R s m args below meth c T locs cells slots) (hx : p.tables.exec = Jvm.exec) {i : Nat} {v : Int32} (hd : decode c.code pc = .ok (.iload i, 2)) (hl : Ls[i]? = some (.val (.int v))) (hq : pc + 2 = q) (g : own_G p e below FF (T.setTop (mkF m q Ls (.int v :: st)))) : own_G p e below FF (T.setTop (mkF m pc Ls (st))) := by
  subst hq; exact g.via fun _ hr_ => XS.iload (g := mkF m pc Ls (st)) X.here hx rfl hd hl hr_
theorem own_lload_n (X : Stand p l e R s m args below meth c T locs cells slots) (hx : p.tables.exec = Jvm.exec) {i : Fin 4} {v : Int64} (hd : decode c.code pc = .ok (.lload_n i, 1)) (hl : Ls[i.val]? = some (.val (.long v))) (hq : pc + 1 = q) (g : own_G p e below FF (T.setTop (mkF m q Ls (.long v :: st)))) : own_G p e below FF (T.setTop (mkF m pc Ls (st))) := by
  subst hq; exact g.via fun _ hr_ => XT.lloadN (g := mkF m pc Ls (st)) X.here hx rfl hd hl hr_
theorem own_lload (X : Stand p l e R s m args below meth c T locs cells slots) (hx : p.tables.exec = Jvm.exec) {i : Nat} {v : Int64} (hd : decode c.code pc = .ok (.lload i, 2)) (hl : Ls[i]? = some (.val (.long v))) (hq : pc + 2 = q) (g : own_G p e below FF (T.setTop (mkF m q Ls (.long v :: st)))) : own_G p e below FF (T.setTop (mkF m pc Ls (st))) := by
  subst hq; exact g.via fun _ hr_ => XT.lload (g := mkF m pc Ls (st)) X.here hx rfl hd hl hr_
theorem own_aload_n (X : Stand p l e R s m args below meth c T locs cells slots) (hx : p.tables.exec = Jvm.exec) {i : Fin 4} {v : Value} (hd : decode c.code pc = .ok (.aload_n i, 1)) (hl : Ls[i.val]? = some (.val v)) (hr : v.isRef = true) (hq : pc + 1 = q) (g : own_G p e below FF (T.setTop (mkF m q Ls (v :: st)))) : own_G p e below FF (T.setTop (mkF m pc Ls (st))) := by
  subst hq; exact g.via fun _ hr_ => XS.aloadN (g := mkF m pc Ls (st)) X.here hx rfl hd hl hr hr_
theorem own_aload (X : Stand p l e R s m args below meth c T locs cells slots) (hx : p.tables.exec = Jvm.exec) {i : Nat} {v : Value} (hd : decode c.code pc = .ok (.aload i, 2)) (hl : Ls[i]? = some (.val v)) (hr : v.isRef = true) (hq : pc + 2 = q) (g : own_G p e below FF (T.setTop (mkF m q Ls (v :: st)))) : own_G p e below FF (T.setTop (mkF m pc Ls (st))) := by
  subst hq; exact g.via fun _ hr_ => XS.aload (g := mkF m pc Ls (st)) X.here hx rfl hd hl hr hr_
theorem own_istore_n (X : Stand p l e R s m args below meth c T locs cells slots) (hx : p.tables.exec = Jvm.exec) {i : Fin 4} {v : Int32} (hd : decode c.code pc = .ok (.istore_n i, 1)) (hl : storeLocals Ls i.val (.int v) = some l') (hq : pc + 1 = q) (g : own_G p e below FF (T.setTop (mkF m q l' (rest)))) : own_G p e below FF (T.setTop (mkF m pc Ls (.int v :: rest))) := by
  subst hq; exact g.via fun _ hr_ => XS.istoreN (g := mkF m pc Ls (.int v :: rest)) X.here hx rfl hd rfl hl hr_
theorem own_istore (X : Stand p l e R s m args below meth c T locs cells slots) (hx : p.tables.exec = Jvm.exec) {i : Nat} {v : Int32} (hd : decode c.code pc = .ok (.istore i, 2)) (hl : storeLocals Ls i (.int v) = some l') (hq : pc + 2 = q) (g : own_G p e below FF (T.setTop (mkF m q l' (rest)))) : own_G p e below FF (T.setTop (mkF m pc Ls (.int v :: rest))) := by
  subst hq; exact g.via fun _ hr_ => XS.istore (g := mkF m pc Ls (.int v :: rest)) X.here hx rfl hd rfl hl hr_
theorem own_lstore_n (X : Stand p l e R s m args below meth c T locs cells slots) (hx : p.tables.exec = Jvm.exec) {i : Fin 4} {v : Int64} (hd : decode c.code pc = .ok (.lstore_n i, 1)) (hl : storeLocals Ls i.val (.long v) = some l') (hq : pc + 1 = q) (g : own_G p e below FF (T.setTop (mkF m q l' (rest)))) : own_G p e below FF (T.setTop (mkF m pc Ls (.long v :: rest))) := by
  subst hq; exact g.via fun _ hr_ => XT.lstoreN (g := mkF m pc Ls (.long v :: rest)) X.here hx rfl hd rfl hl hr_
theorem own_lstore (X : Stand p l e R s m args below meth c T locs cells slots) (hx : p.tables.exec = Jvm.exec) {i : Nat} {v : Int64} (hd : decode c.code pc = .ok (.lstore i, 2)) (hl : storeLocals Ls i (.long v) = some l') (hq : pc + 2 = q) (g : own_G p e below FF (T.setTop (mkF m q l' (rest)))) : own_G p e below FF (T.setTop (mkF m pc Ls (.long v :: rest))) := by
  subst hq; exact g.via fun _ hr_ => XT.lstore (g := mkF m pc Ls (.long v :: rest)) X.here hx rfl hd rfl hl hr_
theorem own_astore_n (X : Stand p l e R s m args below meth c T locs cells slots) (hx : p.tables.exec = Jvm.exec) {i : Fin 4} {v : Value} (hd : decode c.code pc = .ok (.astore_n i, 1)) (hr : v.isRef = true) (hl : storeLocals Ls i.val v = some l') (hq : pc + 1 = q) (g : own_G p e below FF (T.setTop (mkF m q l' (rest)))) : own_G p e below FF (T.setTop (mkF m pc Ls (v :: rest))) := by
  subst hq; exact g.via fun _ hr_ => XS.astoreN (g := mkF m pc Ls (v :: rest)) X.here hx rfl hd rfl hr hl hr_
theorem own_astore (X : Stand p l e R s m args below meth c T locs cells slots) (hx : p.tables.exec = Jvm.exec) {i : Nat} {v : Value} (hd : decode c.code pc = .ok (.astore i, 2)) (hr : v.isRef = true) (hl : storeLocals Ls i v = some l') (hq : pc + 2 = q) (g : own_G p e below FF (T.setTop (mkF m q l' (rest)))) : own_G p e below FF (T.setTop (mkF m pc Ls (v :: rest))) := by
  subst hq; exact g.via fun _ hr_ => XS.astore (g := mkF m pc Ls (v :: rest)) X.here hx rfl hd rfl hr hl hr_
theorem own_iinc (X : Stand p l e R s m args below meth c T locs cells slots) (hx : p.tables.exec = Jvm.exec) {i : Nat} {cst : Int} {v w : Int32} (hd : decode c.code pc = .ok (.iinc i cst, 3)) (hl : Ls[i]? = some (.val (.int v))) (hv : v + Int32.ofInt cst = w) (hs : storeLocals Ls i (.int w) = some l') (hq : pc + 3 = q) (g : own_G p e below FF (T.setTop (mkF m q l' (st)))) : own_G p e below FF (T.setTop (mkF m pc Ls (st))) := by
  subst hq; subst hv; exact g.via fun _ hr_ => XS.iinc (g := mkF m pc Ls (st)) X.here hx rfl hd hl hs hr_
theorem own_dup (X : Stand p l e R s m args below meth c T locs cells slots) (hx : p.tables.exec = Jvm.exec) {v : Value} (hd : decode c.code pc = .ok (.dup, 1)) (hc : v.category = 1) (hq : pc + 1 = q) (g : own_G p e below FF (T.setTop (mkF m q Ls (v :: v :: rest)))) : own_G p e below FF (T.setTop (mkF m pc Ls (v :: rest))) := by
  subst hq; exact g.via fun _ hr_ => XS.dup (g := mkF m pc Ls (v :: rest)) X.here hx rfl hd rfl hc hr_
theorem own_pop (X : Stand p l e R s m args below meth c T locs cells slots) (hx : p.tables.exec = Jvm.exec) {v : Value} (hd : decode c.code pc = .ok (.pop, 1)) (hc : v.category = 1) (hq : pc + 1 = q) (g : own_G p e below FF (T.setTop (mkF m q Ls (rest)))) : own_G p e below FF (T.setTop (mkF m pc Ls (v :: rest))) := by
  subst hq; exact g.via fun _ hr_ => XT.pop (g := mkF m pc Ls (v :: rest)) X.here hx rfl hd rfl hc hr_
theorem own_dup2L (X : Stand p l e R s m args below meth c T locs cells slots) (hx : p.tables.exec = Jvm.exec) {x : Int64} (hd : decode c.code pc = .ok (.dup2, 1))  (hq : pc + 1 = q) (g : own_G p e below FF (T.setTop (mkF m q Ls (.long x :: .long x :: rest)))) : own_G p e below FF (T.setTop (mkF m pc Ls (.long x :: rest))) := by
  subst hq; exact g.via fun _ hr_ => XT.dup2L (g := mkF m pc Ls (.long x :: rest)) X.here hx rfl hd rfl hr_
theorem own_dup2 (X : Stand p l e R s m args below meth c T locs cells slots) (hx : p.tables.exec = Jvm.exec) {v w : Value} (hd : decode c.code pc = .ok (.dup2, 1)) (hc : v.category = 1) (hc' : w.category = 1) (hq : pc + 1 = q) (g : own_G p e below FF (T.setTop (mkF m q Ls (v :: w :: v :: w :: rest)))) : own_G p e below FF (T.setTop (mkF m pc Ls (v :: w :: rest))) := by
  subst hq; exact g.via fun _ hr_ => XT.dup2 (g := mkF m pc Ls (v :: w :: rest)) X.here hx rfl hd rfl hc hc' hr_
theorem own_dup_x1 (X : Stand p l e R s m args below meth c T locs cells slots) (hx : p.tables.exec = Jvm.exec) {v w : Value} (hd : decode c.code pc = .ok (.dup_x1, 1)) (hc : v.category = 1) (hc' : w.category = 1) (hq : pc + 1 = q) (g : own_G p e below FF (T.setTop (mkF m q Ls (v :: w :: v :: rest)))) : own_G p e below FF (T.setTop (mkF m pc Ls (v :: w :: rest))) := by
  subst hq; exact g.via fun _ hr_ => XT.dupX1 (g := mkF m pc Ls (v :: w :: rest)) X.here hx rfl hd rfl hc hc' hr_
theorem own_goto (X : Stand p l e R s m args below meth c T locs cells slots) (hx : p.tables.exec = Jvm.exec) {o : Int} (hd : decode c.code pc = .ok (.goto o, 3)) (ho : 0 ≤ (pc : Int) + o) (hp : ((pc : Int) + o).toNat = q) (g : own_G p e below FF (T.setTop (mkF m q Ls st))) : own_G p e below FF (T.setTop (mkF m pc Ls st)) :=
  g.via fun _ hr => XS.goto (g := mkF m pc Ls st) X.here hx rfl (pc0 := pc) rfl hd ho hp hr
theorem own_if (X : Stand p l e R s m args below meth c T locs cells slots) (hx : p.tables.exec = Jvm.exec) {cd : ClassFile.Cond} {x : Int32} {o : Int} {P : Prop} [Decidable P] (hd : decode c.code pc = .ok (.ifCond cd o, 3)) (ho : 0 ≤ (pc : Int) + o) (hp : ((pc : Int) + o).toNat = q) (hq : pc + 3 = q') (hP : ifCond.holds cd x = decide P) (gy : P → own_G p e below FF (T.setTop (mkF m q Ls rest))) (gn : ¬ P → own_G p e below FF (T.setTop (mkF m q' Ls rest))) : own_G p e below FF (T.setTop (mkF m pc Ls (.int x :: rest))) := by
  by_cases h : P
  · exact (gy h).via fun _ hr => XS.ifYes (g := mkF m pc Ls (.int x :: rest)) X.here hx rfl (pc0 := pc) rfl hd rfl (by rw [hP]; exact decide_eq_true h) ho hp hr
  · subst hq; exact (gn h).via fun _ hr => XS.ifNo (g := mkF m pc Ls (.int x :: rest)) X.here hx rfl hd rfl (by rw [hP]; exact decide_eq_false h) hr
theorem own_icmp (X : Stand p l e R s m args below meth c T locs cells slots) (hx : p.tables.exec = Jvm.exec) {cd : ClassFile.Cond} {x y : Int32} {o : Int} {P : Prop} [Decidable P] (hd : decode c.code pc = .ok (.if_icmp cd o, 3)) (ho : 0 ≤ (pc : Int) + o) (hp : ((pc : Int) + o).toNat = q) (hq : pc + 3 = q') (hP : if_icmp.holds cd x y = decide P) (gy : P → own_G p e below FF (T.setTop (mkF m q Ls rest))) (gn : ¬ P → own_G p e below FF (T.setTop (mkF m q' Ls rest))) : own_G p e below FF (T.setTop (mkF m pc Ls (.int y :: .int x :: rest))) := by
  by_cases h : P
  · exact (gy h).via fun _ hr => XS.icmpYes (g := mkF m pc Ls (.int y :: .int x :: rest)) X.here hx rfl (pc0 := pc) rfl hd rfl (by rw [hP]; exact decide_eq_true h) ho hp hr
  · subst hq; exact (gn h).via fun _ hr => XS.icmpNo (g := mkF m pc Ls (.int y :: .int x :: rest)) X.here hx rfl hd rfl (by rw [hP]; exact decide_eq_false h) hr
theorem own_h_eq (x y : Int32) : if_icmp.holds .eq x y = decide (x.toInt = y.toInt) := by
  by_cases h : x = y
  · rw [(teq h).1, h]; simp
  · rw [(feq h).1]; symm; exact decide_eq_false fun q => h (Int32.toInt_inj.mp q)
theorem own_h_ne (x y : Int32) : if_icmp.holds .ne x y = decide (x.toInt ≠ y.toInt) := by
  by_cases h : x = y
  · rw [(teq h).2, h]; simp
  · rw [(feq h).2]; symm; exact decide_eq_true fun q => h (Int32.toInt_inj.mp q)
theorem own_h_lt (x y : Int32) : if_icmp.holds .lt x y = decide (x.toInt < y.toInt) := by
  by_cases h : x < y
  · rw [(tlt h).1]; symm; exact decide_eq_true (Int32.lt_iff_toInt_lt.mp h)
  · rw [(flt h).1]; symm; exact decide_eq_false fun q => h (Int32.lt_iff_toInt_lt.mpr q)
theorem own_h_ge (x y : Int32) : if_icmp.holds .ge x y = decide (y.toInt ≤ x.toInt) := by
  by_cases h : x < y
  · rw [(tlt h).2.1]; symm; exact decide_eq_false fun q => absurd (Int32.lt_iff_toInt_lt.mp h) (by omega)
  · rw [(flt h).2.1]; symm; exact decide_eq_true (Int.not_lt.mp fun q => h (Int32.lt_iff_toInt_lt.mpr q))
theorem own_h_gt (x y : Int32) : if_icmp.holds .gt x y = decide (y.toInt < x.toInt) := by
  by_cases h : y < x
  · rw [(tlt h).2.2.1]; symm; exact decide_eq_true (Int32.lt_iff_toInt_lt.mp h)
  · rw [(flt h).2.2.1]; symm; exact decide_eq_false fun q => h (Int32.lt_iff_toInt_lt.mpr q)
theorem own_h_le (x y : Int32) : if_icmp.holds .le x y = decide (x.toInt ≤ y.toInt) := by
  by_cases h : y < x
  · rw [(tlt h).2.2.2]; symm; exact decide_eq_false fun q => absurd (Int32.lt_iff_toInt_lt.mp h) (by omega)
  · rw [(flt h).2.2.2]; symm; exact decide_eq_true (Int.not_lt.mp fun q => h (Int32.lt_iff_toInt_lt.mpr q))
theorem own_z_eq (x : Int32) : ifCond.holds .eq x = decide (x.toInt = 0) := (if0 _ _).trans (own_h_eq x 0)
theorem own_z_ne (x : Int32) : ifCond.holds .ne x = decide (x.toInt ≠ 0) := (if0 _ _).trans (own_h_ne x 0)
theorem own_z_lt (x : Int32) : ifCond.holds .lt x = decide (x.toInt < 0) := (if0 _ _).trans (own_h_lt x 0)
theorem own_z_ge (x : Int32) : ifCond.holds .ge x = decide (0 ≤ x.toInt) := (if0 _ _).trans (own_h_ge x 0)
theorem own_z_gt (x : Int32) : ifCond.holds .gt x = decide (0 < x.toInt) := (if0 _ _).trans (own_h_gt x 0)
theorem own_z_le (x : Int32) : ifCond.holds .le x = decide (x.toInt ≤ 0) := (if0 _ _).trans (own_h_le x 0)
theorem own_cmpL (x y : Int64) : (x.toInt < y.toInt ∧ (XT.cmpL x y).toInt = -1) ∨ (x.toInt = y.toInt ∧ (XT.cmpL x y).toInt = 0) ∨ (y.toInt < x.toInt ∧ (XT.cmpL x y).toInt = 1) := by
  unfold XT.cmpL
  by_cases h1 : y < x
  · rw [if_pos h1]; exact Or.inr (Or.inr ⟨Int64.lt_iff_toInt_lt.mp h1, rfl⟩)
  · rw [if_neg h1]
    by_cases h2 : x = y
    · rw [if_pos h2]; exact Or.inr (Or.inl ⟨by rw [h2], rfl⟩)
    · rw [if_neg h2]
      have h3 : ¬ y.toInt < x.toInt := fun q => h1 (Int64.lt_iff_toInt_lt.mpr q)
      have h4 : ¬ x.toInt = y.toInt := fun q => h2 (Int64.toInt_inj.mp q)
      exact Or.inl ⟨by omega, rfl⟩
theorem own_l_eq (x y : Int64) : ifCond.holds .eq (XT.cmpL x y) = decide (x.toInt = y.toInt) := by
  rw [own_z_eq]; rcases own_cmpL x y with ⟨h, q⟩ | ⟨h, q⟩ | ⟨h, q⟩ <;> rw [q] <;> simp <;> omega
theorem own_l_ne (x y : Int64) : ifCond.holds .ne (XT.cmpL x y) = decide (x.toInt ≠ y.toInt) := by
  rw [own_z_ne]; rcases own_cmpL x y with ⟨h, q⟩ | ⟨h, q⟩ | ⟨h, q⟩ <;> rw [q] <;> simp <;> omega
theorem own_l_lt (x y : Int64) : ifCond.holds .lt (XT.cmpL x y) = decide (x.toInt < y.toInt) := by
  rw [own_z_lt]; rcases own_cmpL x y with ⟨h, q⟩ | ⟨h, q⟩ | ⟨h, q⟩ <;> rw [q] <;> simp <;> omega
theorem own_l_ge (x y : Int64) : ifCond.holds .ge (XT.cmpL x y) = decide (y.toInt ≤ x.toInt) := by
  rw [own_z_ge]; rcases own_cmpL x y with ⟨h, q⟩ | ⟨h, q⟩ | ⟨h, q⟩ <;> rw [q] <;> simp <;> omega
theorem own_l_gt (x y : Int64) : ifCond.holds .gt (XT.cmpL x y) = decide (y.toInt < x.toInt) := by
  rw [own_z_gt]; rcases own_cmpL x y with ⟨h, q⟩ | ⟨h, q⟩ | ⟨h, q⟩ <;> rw [q] <;> simp <;> omega
theorem own_l_le (x y : Int64) : ifCond.holds .le (XT.cmpL x y) = decide (x.toInt ≤ y.toInt) := by
  rw [own_z_le]; rcases own_cmpL x y with ⟨h, q⟩ | ⟨h, q⟩ | ⟨h, q⟩ <;> rw [q] <;> simp <;> omega
theorem own_addI (x y : Int32) (h1 : -2147483648 ≤ x.toInt + y.toInt) (h2 : x.toInt + y.toInt < 2147483648) : (x + y).toInt = x.toInt + y.toInt := by
  have := c_iadd x y; have := rng32 (x + y); omega
theorem own_subI (x y : Int32) (h1 : -2147483648 ≤ x.toInt - y.toInt) (h2 : x.toInt - y.toInt < 2147483648) : (x - y).toInt = x.toInt - y.toInt := by
  have := c_isub x y; have := rng32 (x - y); omega
theorem own_mulI (x y : Int32) (h1 : -2147483648 ≤ x.toInt * y.toInt) (h2 : x.toInt * y.toInt < 2147483648) : (x * y).toInt = x.toInt * y.toInt := by
  have := c_imul x y; have := rng32 (x * y); omega
theorem own_rem (x y : Int32) (h0 : 0 ≤ x.toInt) (hy : 0 < y.toInt) : (x - (x / y) * y).toInt = x.toInt % y.toInt := by
  have hne : y ≠ -1 := fun q => by rw [q] at hy; exact absurd hy (by decide)
  have h1 := (c_idiv x y y.toInt rfl hne).1 h0
  have h2 := c_imul (x / y) y
  rw [h1] at h2
  have h3 := c_isub x ((x / y) * y)
  have h4 := rng32 (x - (x / y) * y)
  have h5 := Int.emod_def x.toInt y.toInt
  rw [Int.mul_comm] at h5
  have h6 := Int.emod_nonneg x.toInt (Int.ne_of_gt hy)
  have h7 := Int.emod_lt_of_pos x.toInt hy
  have h8 := rng32 y
  generalize x.toInt / y.toInt * y.toInt = P at *
  generalize x.toInt % y.toInt = M at *
  omega
end Own
section Own2
variable {p : Program} {l : Launch} {e : Env} {R : Room} {s : State} {m : MethodId} {args : Array Value} {below : List Frame} {meth : Method} {c : Code} {T : State} {locs : List Loc} {cells slots : Nat} {k n : Nat} {Q : Option Value → Heap → List Loc → Prop} {FF : State → Option Value → Prop} {pc q q' : Nat} {Ls l' : Array Slot} {st rest : List Value}
variable {Z : State} {a0 : Array Value} {h h' : Heap} {a b : Addr} {ty : FieldType} {N i : Nat} {f : Nat → Value} {v : Value} {ws : List Addr} {sl n0 : Nat} {j x : Int32}
/-- an array of N places that hold f 0 .. f (N - 1) -/
def own_Arr (Z : State) (h : Heap) (a : Addr) (ty : FieldType) (N : Nat) (f : Nat → Value) : Prop := ∃ c : Cell, Arr Z h a c ty ∧ c.slots.size = N ∧ N < 2 ^ 31 ∧ ∀ i, i < N → c.slots[i]? = some (f i)
def own_upd (f : Nat → Value) (j : Nat) (v : Value) : Nat → Value := fun i => if i = j then v else f i
theorem own_upd_same (f : Nat → Value) (j : Nat) (v : Value) : own_upd f j v j = v := if_pos rfl
theorem own_upd_ne (f : Nat → Value) {i j : Nat} (v : Value) (q : i ≠ j) : own_upd f j v i = f i := if_neg q
def own_updI (f : Nat → Int32) (j : Nat) (v : Int32) : Nat → Int32 := fun i => if i = j then v else f i
def own_zero : Nat → Int32 := fun _ => 0
theorem own_updI_same (f : Nat → Int32) (j : Nat) (v : Int32) : own_updI f j v j = v := if_pos rfl
theorem own_updI_ne (f : Nat → Int32) {i j : Nat} (v : Int32) (q : i ≠ j) : own_updI f j v i = f i := if_neg q
theorem own_upd_I (f : Nat → Int32) (j : Nat) (v : Int32) : own_upd (fun i => .int (f i)) j (.int v) = fun i => .int (own_updI f j v i) := by
  funext i
  show (if i = j then Value.int v else Value.int (f i)) = Value.int (if i = j then v else f i)
  split <;> rfl
theorem own_Arr.ext (F : own_Arr Z h a ty N f) (E : Ext h h') : own_Arr Z h' a ty N f := by obtain ⟨c, A, r⟩ := F; exact ⟨c, A.ext E, r⟩
theorem own_Arr.keep (F : own_Arr Z h a ty N f) (K : Keep h h' ws) (q : a ∉ ws) : own_Arr Z h' a ty N f := by obtain ⟨c, A, r⟩ := F; exact ⟨c, ⟨K.2.1 a c A.1 q, A.2⟩, r⟩
theorem own_Arr.lt (F : own_Arr Z h a ty N f) : a < h.size := by obtain ⟨c, A, -⟩ := F; exact A.lt
theorem own_Arr.set (F : own_Arr Z h a ty N f) (W : Wr h h' a i v) : own_Arr Z h' a ty N (own_upd f i v) := by
  obtain ⟨c, A, S, hN, H⟩ := F
  refine ⟨_, Arr.same W A, by rw [sz_set]; exact S, hN, fun t ht => ?_⟩
  show (c.slots.setIfInBounds i v)[t]? = _
  rw [Array.getElem?_setIfInBounds]
  by_cases q : t = i
  · subst q; simp [own_upd, S, ht]
  · rw [if_neg (fun z => q z.symm), own_upd, if_neg q]; exact H t ht
theorem own_idx (hj : j.toInt = (i : Int)) (hi : i < N) : ¬ (j < 0 ∨ N ≤ j.toNatClampNeg) ∧ j.toNatClampNeg = i := by
  have h1 : j.toNatClampNeg = i := by show j.toInt.toNat = i; omega
  refine ⟨fun q => ?_, h1⟩
  rcases q with q | q
  · have := Int32.lt_iff_toInt_lt.mp q; have : (0 : Int32).toInt = 0 := rfl; omega
  · omega
theorem own_newP (X : Stand p l e R s m args below meth c T locs cells slots) (hx : p.tables.exec = Jvm.exec) (hZ : Z.Warmed39 s.vm) {aty : ArrayType} (w : (Jvm.Cond.arrayClass (newarray.typeOf aty)).before a0 Z = true) (eT : T.heap = h) (hd : decode c.code pc = .ok (.newarray aty, 2)) (hn : j.toInt = (N : Int)) {cap : Nat} (hcap : N ≤ cap) (hb : cap * 8 ≤ 536870912) (hc : cells + 1 ≤ R.cells) (hl : slots + cap ≤ R.slots) (hq : pc + 2 = q)
    (g : ∀ T' h' b, b = h.size → Stand p l e R s m args below meth c T' locs (cells + 1) (slots + cap) → T'.heap = h' → Ext h h' → own_Arr Z h' b (newarray.typeOf aty) N (fun _ => defaultValue (newarray.typeOf aty)) → own_G p e below FF (T'.setTop (mkF m q Ls (.ref b :: rest)))) :
    own_G p e below FF (T.setTop (mkF m pc Ls (.int j :: rest))) := by
  subst hq
  have hN : j.toNatClampNeg = N := by show j.toInt.toNat = N; omega
  have hn0 : ¬ j < 0 := fun q => by have := Int32.lt_iff_toInt_lt.mp q; have : (0 : Int32).toInt = 0 := rfl; omega
  obtain ⟨T', h', cA, X', e', E, A, st⟩ := newP X hx hZ w eT (g := mkF m pc Ls (.int j :: rest)) rfl hd rfl hn0 (cap := cap) (by rw [hN]; exact hcap) hb hc hl
  refine (g T' h' h.size rfl X' e' E ⟨_, A, by rw [sz_new]; exact hN, ?_, fun t ht => ?_⟩).via st
  · have := (back32 hn0).2; omega
  · show (Array.replicate j.toNatClampNeg _)[t]? = _
    rw [Array.getElem?_replicate, if_pos (by omega)]
theorem own_stB (X : Stand p l e R s m args below meth c T locs cells slots) (hx : p.tables.exec = Jvm.exec) (hZ : Z.Warmed39 s.vm) (eT : T.heap = h) {fi : Nat → Int32} (A : own_Arr Z h a .byte N (fun i => .int (fi i))) (hd : decode c.code pc = .ok (.bastore, 1)) (hj : j.toInt = (i : Int)) (hi : i < N) (Nf : Fr n0 locs) (ha : n0 ≤ a) (hq : pc + 1 = q)
    (g : ∀ T' h' L', Stand p l e R s m args below meth c T' L' cells slots → Fr n0 L' → T'.heap = h' → own_Arr Z h' a .byte N (fun t => .int (own_updI fi i (x.toInt8.toInt32) t)) → Wr h h' a i (.int (x.toInt8.toInt32)) → own_G p e below FF (T'.setTop (mkF m q Ls rest))) :
    own_G p e below FF (T.setTop (mkF m pc Ls (.int x :: .int j :: .ref a :: rest))) := by
  subst hq
  have A0 := A
  obtain ⟨cl, Ar, S, hN, H⟩ := A
  obtain ⟨h1, h2⟩ := own_idx (N := cl.slots.size) hj (by omega)
  obtain ⟨T', h', X', e', W, st⟩ := stB X hx hZ eT Ar (j := j) (x := x) h1 (g := mkF m pc Ls (.int x :: .int j :: .ref a :: rest)) rfl rfl hd
  have N' := Fr.snoc X' Nf ha
  rw [h2] at W
  have A1 := A0.set W
  rw [show (Value.int (nar .byte x)) = .int (x.toInt8.toInt32) from rfl, own_upd_I] at A1
  exact (g T' h' _ X' N' e' A1 W).via st
theorem own_baload (X : Stand p l e R s m args below meth c T locs cells slots) (hx : p.tables.exec = Jvm.exec) (hZ : Z.Warmed39 s.vm) (eT : T.heap = h) (A : own_Arr Z h a .byte N f) (hd : decode c.code pc = .ok (.baload, 1)) (hj : j.toInt = (i : Int)) (hi : i < N) (hv : f i = v) (hq : pc + 1 = q)
    (g : own_G p e below FF (T.setTop (mkF m q Ls (v :: rest)))) :
    own_G p e below FF (T.setTop (mkF m pc Ls (.int j :: .ref a :: rest))) := by
  subst hq
  obtain ⟨cl, Ar, S, hN, H⟩ := A
  obtain ⟨h1, h2⟩ := own_idx (N := cl.slots.size) hj (by omega)
  exact g.via fun t => X.baloadBytes hx (j := j) (v := v) (by rw [eT]; exact Ar.1) (State.isArrayOf_alike hZ.alike Ar.2.1) Ar.2.2 h1 (by rw [h2, ← hv]; exact H i hi) (g := mkF m pc Ls (.int j :: .ref a :: rest)) rfl rfl hd t
theorem own_zaload (X : Stand p l e R s m args below meth c T locs cells slots) (hx : p.tables.exec = Jvm.exec) (hZ : Z.Warmed39 s.vm) (eT : T.heap = h) (A : own_Arr Z h a .boolean N f) (hd : decode c.code pc = .ok (.baload, 1)) (hj : j.toInt = (i : Int)) (hi : i < N) (hv : f i = v) (hq : pc + 1 = q)
    (g : own_G p e below FF (T.setTop (mkF m q Ls (v :: rest)))) :
    own_G p e below FF (T.setTop (mkF m pc Ls (.int j :: .ref a :: rest))) := by
  subst hq
  obtain ⟨cl, Ar, S, hN, H⟩ := A
  obtain ⟨h1, h2⟩ := own_idx (N := cl.slots.size) hj (by omega)
  exact g.via fun t => X.baloadBooleans hx (j := j) (v := v) (by rw [eT]; exact Ar.1) (State.isArrayOf_alike hZ.alike Ar.2.1) Ar.2.2 h1 (by rw [h2, ← hv]; exact H i hi) (g := mkF m pc Ls (.int j :: .ref a :: rest)) rfl rfl hd t
theorem own_newO (X : Stand p l e R s m args below meth c T locs cells slots) (hx : p.tables.exec = Jvm.exec) (hZ : Z.Warmed39 s.vm) {own C : String} {index sz : Nat} (hown : s.vm.findClass own = some m.cls) (w : (Jvm.Cond.classLink own index C).before a0 Z = true) (wi : (Jvm.Cond.instantiable C sz).before a0 Z = true) (wz : (Jvm.Cond.initialized C).before a0 Z = true) (eT : T.heap = h) (hd : decode c.code pc = .ok (.new index, 3)) (hc : cells + 1 ≤ R.cells) (hl : slots + sz ≤ R.slots) (hq : pc + 3 = q)
    (g : ∀ T' h' b, b = h.size → Stand p l e R s m args below meth c T' locs (cells + 1) (slots + sz) → T'.heap = h' → Ext h h' → Exa Z h' b C → (∀ {O nm d : String} {ty : FieldType}, Laid Z a0 C O nm d → parseFieldDescriptor d = some ty → Fld Z h' b O nm d (defaultValue ty)) → own_G p e below FF (T'.setTop (mkF m q Ls (.ref b :: st)))) :
    own_G p e below FF (T.setTop (mkF m pc Ls st)) := by
  subst hq
  obtain ⟨T', h', X', e', E, A, D, -, stp⟩ := newO X hx hZ hown w wi wz eT (g := mkF m pc Ls st) rfl hd hc hl
  exact (g T' h' h.size rfl X' e' E A D).via stp
theorem own_initO (X : Stand p l e R s m args below meth c T locs cells slots) (hx : p.tables.exec = Jvm.exec) (hZ : Z.Warmed39 s.vm) {own : String} {idx : Nat} (hown : s.vm.findClass own = some m.cls) (w1 : (Jvm.Cond.methodLink own idx Lib.objectInit).before a0 Z = true) (w2 : (Jvm.Cond.instanceMethod Lib.objectInit).before a0 Z = true)
    (w3 : (Jvm.Cond.code Lib.objectInit ⟨#[0xb1]⟩ 1 none).before a0 Z = true) (eT : T.heap = h) (hsize : Ls.size = c.maxLocals) (hd : decode c.code pc = .ok (.invokespecial idx, 3)) (hf : 1 ≤ R.frames) {W : Nat} (hW : (rest.map fun v => v.category).sum = W) (hl : W + 12 ≤ R.locals) (hq : pc + 3 = q)
    (g : ∀ T', Stand p l e R s m args below meth c T' locs cells slots → T'.heap = h → own_G p e below FF (T'.setTop (mkF m q Ls rest))) :
    own_G p e below FF (T.setTop (mkF m pc Ls (.ref a :: rest))) := by
  subst hq
  obtain ⟨T', X', e', st⟩ := initO X hx hZ hown w1 w2 w3 eT (g := mkF m pc Ls (.ref a :: rest)) rfl hsize rfl hd hf (W := W) (by show 2 * 0 + _ ≤ _; rw [hW]; omega) hl
  exact (g T' X' e').via st
theorem own_putF (X : Stand p l e R s m args below meth c T locs cells slots) (hx : p.tables.exec = Jvm.exec) (hZ : Z.Warmed39 s.vm) {own O nm d C : String} {index kk : Nat} {ft : FieldType} (hown : s.vm.findClass own = some m.cls) (w : (Jvm.Cond.fieldLink own index O nm d).before a0 Z = true)
    (eT : T.heap = h) {old : Value} (F : Fld Z h a O nm d old) (E : Exa Z h a C) (L : (Jvm.Cond.lays C O nm d).before a0 Z = true ∨ ((Jvm.Cond.laysFinal C O nm d).before a0 Z = true ∧ own = O ∧ meth.name = "<init>")) (wi : (Jvm.Cond.instantiable C kk).before a0 Z = true)
    (hty : parseFieldDescriptor d = some ft) (hn : narrow ft v = v) (hf : fits ft v = true) (hd : decode c.code pc = .ok (.putfield index, 3)) (Nf : Fr n0 locs) (ha : n0 ≤ a) (hq : pc + 3 = q)
    (g : ∀ T' h' L', Stand p l e R s m args below meth c T' L' cells slots → Fr n0 L' → T'.heap = h' → Wr h h' a (Jvm.RoadKit.slotOf Z O nm d) v → own_G p e below FF (T'.setTop (mkF m q Ls rest))) :
    own_G p e below FF (T.setTop (mkF m pc Ls (v :: .ref a :: rest))) := by
  subst hq
  obtain ⟨T', h', X', e', W, st⟩ := putF X hx hZ hown (host := "") (Or.inl w) Via.refl eT F E L wi hty hn hf (g := mkF m pc Ls (v :: .ref a :: rest)) rfl rfl hd
  exact (g T' h' _ X' (Fr.snoc X' Nf ha) e' W).via st
theorem own_getF (X : Stand p l e R s m args below meth c T locs cells slots) (hx : p.tables.exec = Jvm.exec) (hZ : Z.Warmed39 s.vm) {own O nm d : String} {index : Nat} (hown : s.vm.findClass own = some m.cls) (w : (Jvm.Cond.fieldLink own index O nm d).before a0 Z = true)
    (eT : T.heap = h) (F : Fld Z h a O nm d v) (hd : decode c.code pc = .ok (.getfield index, 3)) (hq : pc + 3 = q)
    (g : ∀ T', Stand p l e R s m args below meth c T' locs cells slots → T'.heap = h → own_G p e below FF (T'.setTop (mkF m q Ls (v :: rest)))) :
    own_G p e below FF (T.setTop (mkF m pc Ls (.ref a :: rest))) := by
  subst hq
  obtain ⟨T', X', e', st⟩ := getF X hx hZ hown (host := "") (Or.inl w) Via.refl eT F (g := mkF m pc Ls (.ref a :: rest)) rfl rfl hd
  exact (g T' X' e').via st
theorem own_getS (X : Stand p l e R s m args below meth c T locs cells slots) (hx : p.tables.exec = Jvm.exec) (hZ : Z.Warmed39 s.vm) {own O nm d : String} {index : Nat} (hown : s.vm.findClass own = some m.cls) (w : (Jvm.Cond.fieldLink own index O nm d).before a0 Z = true)
    (eT : T.heap = h) (F : Sta Z h O nm d v) (hd : decode c.code pc = .ok (.getstatic index, 3)) (hq : pc + 3 = q)
    (g : ∀ T', Stand p l e R s m args below meth c T' locs cells slots → T'.heap = h → own_G p e below FF (T'.setTop (mkF m q Ls (v :: st)))) :
    own_G p e below FF (T.setTop (mkF m pc Ls st)) := by
  subst hq
  obtain ⟨T', X', e', stp⟩ := getS X hx hZ (host := "") hown w Via.refl eT F (g := mkF m pc Ls st) rfl hd
  exact (g T' X' e').via stp
theorem own_retA (X : Stand p l e R s m args below meth c T locs cells slots) (hx : p.tables.exec = Jvm.exec) {t : FieldType} (hv : v.isRef = true) (hret : meth.sig.returnType = some t) (ht : t.isReference = true) (hlk : meth.locks = false) (hd : decode c.code pc = .ok (.areturn, 1)) (hk : cells ≤ k) (hn : slots ≤ n) (hq : Q (some v) T.heap locs) :
    own_G p e below (own_En s k n Q) (T.setTop (mkF m pc Ls [v])) := by
  obtain ⟨fs, hr, hrun, hended, hW, hsame⟩ := X.leave (v := some v) (fun h => by rw [hret] at h; cases h) hlk
  exact ⟨_, _, X.areturnOut hx hv hret ht hd hr, hrun, hended, _, hq, ⟨_, rfl⟩, hW, hsame.mono hk hn⟩
theorem own_newR (X : Stand p l e R s m args below meth c T locs cells slots) (hx : p.tables.exec = Jvm.exec) (hZ : Z.Warmed39 s.vm) {own C : String} {index : Nat} (hown : s.vm.findClass own = some m.cls) (w1 : (Jvm.Cond.classLink own index C).before a0 Z = true) (w2 : (Jvm.Cond.arrayOver (.object C)).before a0 Z = true) (eT : T.heap = h) (hd : decode c.code pc = .ok (.anewarray index, 3)) (hn : j.toInt = (N : Int)) {cap : Nat} (hcap : N ≤ cap) (hb : cap * 8 ≤ 536870912) (hc : cells + 1 ≤ R.cells) (hl : slots + cap ≤ R.slots) (hq : pc + 3 = q)
    (g : ∀ T' h' b, b = h.size → Stand p l e R s m args below meth c T' locs (cells + 1) (slots + cap) → T'.heap = h' → Ext h h' → own_Arr Z h' b (.object C) N (fun _ => .null) → (∃ cl, Arr Z h' b cl (.object C) ∧ Ovr Z cl.cls C) → own_G p e below FF (T'.setTop (mkF m q Ls (.ref b :: rest)))) :
    own_G p e below FF (T.setTop (mkF m pc Ls (.int j :: rest))) := by
  subst hq
  have hN : j.toNatClampNeg = N := by show j.toInt.toNat = N; omega
  have hn0 : ¬ j < 0 := fun q => by have := Int32.lt_iff_toInt_lt.mp q; have : (0 : Int32).toInt = 0 := rfl; omega
  obtain ⟨T', h', cA, X', e', E, A, O, st⟩ := newR X hx hZ hown w1 w2 eT (g := mkF m pc Ls (.int j :: rest)) rfl hd rfl hn0 (cap := cap) (by rw [hN]; exact hcap) hb hc hl
  refine (g T' h' h.size rfl X' e' E ⟨_, A, by rw [sz_new]; exact hN, ?_, fun t ht => ?_⟩ ⟨_, A, O⟩).via st
  · have := (back32 hn0).2; omega
  · show (Array.replicate j.toNatClampNeg _)[t]? = _
    rw [Array.getElem?_replicate, if_pos (by omega)]; rfl
theorem own_ovr_keep {C : String} (F : ∃ cl : Cell, Arr Z h a cl (.object C) ∧ Ovr Z cl.cls C) (W : Wr h h' a i v) : ∃ cl : Cell, Arr Z h' a cl (.object C) ∧ Ovr Z cl.cls C := by
  obtain ⟨cl, A, O⟩ := F
  exact ⟨_, Arr.same W A, O⟩
theorem own_stR {C : String} (X : Stand p l e R s m args below meth c T locs cells slots) (hx : p.tables.exec = Jvm.exec) (hZ : Z.Warmed39 s.vm) (eT : T.heap = h) (A : own_Arr Z h a (.object C) N f) (O : ∃ cl : Cell, Arr Z h a cl (.object C) ∧ Ovr Z cl.cls C) (I : Ins Z h b C true) (hd : decode c.code pc = .ok (.aastore, 1)) (hj : j.toInt = (i : Int)) (hi : i < N) (Nf : Fr n0 locs) (ha : n0 ≤ a) (hq : pc + 1 = q)
    (g : ∀ T' h' L', Stand p l e R s m args below meth c T' L' cells slots → Fr n0 L' → T'.heap = h' → own_Arr Z h' a (.object C) N (own_upd f i (.ref b)) → (∃ cl : Cell, Arr Z h' a cl (.object C) ∧ Ovr Z cl.cls C) → Wr h h' a i (.ref b) → own_G p e below FF (T'.setTop (mkF m q Ls rest))) :
    own_G p e below FF (T.setTop (mkF m pc Ls (.ref b :: .int j :: .ref a :: rest))) := by
  subst hq
  have A0 := A
  have O0 := O
  obtain ⟨cl, Ar, S, hN, H⟩ := A
  obtain ⟨cl', Ar', Ov⟩ := O
  cases Ar.1.symm.trans Ar'.1
  obtain ⟨h1, h2⟩ := own_idx (N := cl.slots.size) hj (by omega)
  obtain ⟨T', h', X', e', W, st⟩ := stR X hx hZ eT Ar (j := j) (v := .ref b) h1 rfl (Sto.of Ar Ov I) (g := mkF m pc Ls (.ref b :: .int j :: .ref a :: rest)) rfl rfl hd
  have N' := Fr.snoc X' Nf ha
  rw [h2] at W
  exact (g T' h' _ X' N' e' (A0.set W) (own_ovr_keep O0 W) W).via st
theorem own_aaload {C : String} (X : Stand p l e R s m args below meth c T locs cells slots) (hx : p.tables.exec = Jvm.exec) (hZ : Z.Warmed39 s.vm) (eT : T.heap = h) (A : own_Arr Z h a (.object C) N f) (hd : decode c.code pc = .ok (.aaload, 1)) (hj : j.toInt = (i : Int)) (hi : i < N) (hv : f i = v) (hq : pc + 1 = q)
    (g : own_G p e below FF (T.setTop (mkF m q Ls (v :: rest)))) :
    own_G p e below FF (T.setTop (mkF m pc Ls (.int j :: .ref a :: rest))) := by
  subst hq
  obtain ⟨cl, Ar, S, hN, H⟩ := A
  obtain ⟨h1, h2⟩ := own_idx (N := cl.slots.size) hj (by omega)
  exact g.via fun t => X.aaload hx (j := j) (v := v) (by rw [eT]; exact Ar.1) (State.isArrayOf_alike hZ.alike Ar.2.1) rfl Ar.2.2 h1 (by rw [h2, ← hv]; exact H i hi) (g := mkF m pc Ls (.int j :: .ref a :: rest)) rfl rfl hd t
theorem own_acmp (X : Stand p l e R s m args below meth c T locs cells slots) (hx : p.tables.exec = Jvm.exec) {cd : ClassFile.ACond} {o : Int} {P : Prop} [Decidable P] {u v : Value} (hd : decode c.code pc = .ok (.if_acmp cd o, 3)) (ho : 0 ≤ (pc : Int) + o) (hp : ((pc : Int) + o).toNat = q) (hq : pc + 3 = q') (hu : u.isRef = true) (hv : v.isRef = true) (hP : XT.acmp cd u v = decide P) (gy : P → own_G p e below FF (T.setTop (mkF m q Ls rest))) (gn : ¬ P → own_G p e below FF (T.setTop (mkF m q' Ls rest))) : own_G p e below FF (T.setTop (mkF m pc Ls (v :: u :: rest))) := by
  by_cases h : P
  · exact (gy h).via fun _ hr => XT.acmpYes (g := mkF m pc Ls (v :: u :: rest)) X.here hx rfl (pc0 := pc) rfl hd rfl hu hv (by rw [hP]; exact decide_eq_true h) ho hp hr
  · subst hq; exact (gn h).via fun _ hr => XT.acmpNo (g := mkF m pc Ls (v :: u :: rest)) X.here hx rfl hd rfl hu hv (by rw [hP]; exact decide_eq_false h) hr
theorem own_callVP {C own : String} {index : Nat} {y : MethodName} {bytes : ByteArray} {maxL : Nat} {ret : Option FieldType} (X : Stand p l e R s m args below meth c T locs cells slots) (hx : p.tables.exec = Jvm.exec) (hZ : Z.Warmed39 s.vm)
    (hown : s.vm.findClass own = some m.cls) (w1 : (Jvm.Cond.methodLink own index y).before a0 Z = true) (w2 : (Jvm.Cond.declares y).before a0 Z = true) (w3 : (Jvm.Cond.selects C y y).before a0 Z = true) (w4 : (Jvm.Cond.instanceMethod y).before a0 Z = true) (w5 : (Jvm.Cond.code y bytes maxL ret).before a0 Z = true) (w6 : (Jvm.Cond.initialized y.cls).before a0 Z = true)
    (hy : y.cls ≠ "java/lang/invoke/MethodHandle" ∧ y.cls ≠ "java/lang/invoke/VarHandle") {rm : Room} {as' : Array Value} {P : Value → Prop} {W : Nat}
    (hM : MetFree l y (head1 [Jvm.Cond.code y bytes maxL ret] rm) (fun a U => a = as' ∧ Z.Warmed39 U.vm ∧ U.heap = h) (fun _ _ _ _ _ => True) (fun _ U o U' => ∃ v L, o = .returned v ∧ ((∃ w, v = some w ∧ P w) ∧ L = [] ∧ U'.heap = h) ∧ FrameEnd U o U' L rm.cells rm.slots))
    (E : Exa Z h b C) (hf : rm.frames + 1 ≤ R.frames) (hl : W + (maxL + 11) + rm.locals ≤ R.locals) (eT : T.heap = h) (hsize : Ls.size = c.maxLocals) {argsL : List Value}
    (hlen : ∀ sig, parseMethodDescriptor y.desc = some sig → argsL.length = sig.parameters.length) (hst : st = argsL.reverse ++ .ref b :: rest) (hW : (rest.map fun v => v.category).sum = W) (hd : decode c.code pc = .ok (.invokevirtual index, 3)) (hq : pc + 3 = q) (has : (.ref b :: argsL).toArray = as') (hc : rm.cells = 0) (hs : rm.slots = 0) (hcc : cells ≤ R.cells) (hss : slots ≤ R.slots)
    (g : ∀ w T', P w → Stand p l e R s m args below meth c T' locs cells slots → T'.heap = h → own_G p e below FF (T'.setTop (mkF m q Ls (w :: rest)))) :
    own_G p e below FF (T.setTop (mkF m pc Ls st)) := by
  refine own_callV (Q' := fun v U L => (∃ w, v = some w ∧ P w) ∧ L = [] ∧ U = h) X hx hZ hown w1 w2 w3 w4 w5 w6 hy hM E hf hl eT hsize hlen hst hW hd hq has (by rw [hc]; exact hcc) (by rw [hs]; exact hss) ?_
  rintro v T' L ⟨⟨w, rfl, hP⟩, rfl, e'⟩ X'
  rw [List.append_nil, hc, hs] at X'
  exact g w T' hP X' e'
/-- a private method by invokevirtual, the heap left as it was -/
theorem own_callPP {C own : String} {index kk : Nat} {y : MethodName} {bytes : ByteArray} {maxL : Nat} {ret : Option FieldType} (X : Stand p l e R s m args below meth c T locs cells slots) (hx : p.tables.exec = Jvm.exec) (hZ : Z.Warmed39 s.vm)
    (hown : s.vm.findClass own = some m.cls) (w1 : (Jvm.Cond.methodLink own index y).before a0 Z = true) (w2 : (Jvm.Cond.privateMethod y).before a0 Z = true) (w3 : (Jvm.Cond.instantiable y.cls kk).before a0 Z = true) (w4 : (Jvm.Cond.instanceMethod y).before a0 Z = true) (w5 : (Jvm.Cond.code y bytes maxL ret).before a0 Z = true) (w6 : (Jvm.Cond.initialized y.cls).before a0 Z = true)
    (hy : y.cls ≠ "java/lang/invoke/MethodHandle" ∧ y.cls ≠ "java/lang/invoke/VarHandle") {rm : Room} {as' : Array Value} {P : Value → Prop} {W : Nat}
    (hM : MetFree l y (head1 [Jvm.Cond.code y bytes maxL ret] rm) (fun a U => a = as' ∧ Z.Warmed39 U.vm ∧ U.heap = h) (fun _ _ _ _ _ => True) (fun _ U o U' => ∃ v L, o = .returned v ∧ ((∃ w, v = some w ∧ P w) ∧ L = [] ∧ U'.heap = h) ∧ FrameEnd U o U' L rm.cells rm.slots))
    (E : Exa Z h b C) (hf : rm.frames + 1 ≤ R.frames) (hl : W + (maxL + 11) + rm.locals ≤ R.locals) (eT : T.heap = h) (hsize : Ls.size = c.maxLocals) {argsL : List Value}
    (hlen : ∀ sig, parseMethodDescriptor y.desc = some sig → argsL.length = sig.parameters.length) (hst : st = argsL.reverse ++ .ref b :: rest) (hW : (rest.map fun v => v.category).sum = W) (hd : decode c.code pc = .ok (.invokevirtual index, 3)) (hq : pc + 3 = q) (has : (.ref b :: argsL).toArray = as') (hc : rm.cells = 0) (hs : rm.slots = 0) (hcc : cells ≤ R.cells) (hss : slots ≤ R.slots)
    (g : ∀ w T', P w → Stand p l e R s m args below meth c T' locs cells slots → T'.heap = h → own_G p e below FF (T'.setTop (mkF m q Ls (w :: rest)))) :
    own_G p e below FF (T.setTop (mkF m pc Ls st)) := by
  subst hq hst
  obtain ⟨cq, q1, q2⟩ := E.cell
  have hi := mvT (args := args) hZ w4
  have hp := Cond.privateMethod_at (mvP (args := #[]) hZ w2)
  obtain ⟨ci, ki, f1, f2, -, f3, -⟩ := Cond.instantiable_spec (mvT (args := args) hZ w3)
  have hsel := selects_self_of_private f1 f2 (Bool.or_eq_false_iff.mp f3).1 hp hi hy
  obtain ⟨v, _, ⟨T7, L7, k7, n7⟩, -, X7, ⟨Lc7, hQ7, l7, y7, z7⟩, st7⟩ := X.privateBack hx hown (mvT hZ w1) hi hsel hp (mvT hZ w5) hy (backOf (W := W) (Q := fun v U L => (∃ w, v = some w ∧ P w) ∧ L = [] ∧ U = h) hM hZ w5 w6 hf hl) (g := mkF m pc Ls (argsL.reverse ++ .ref b :: rest)) rfl hsize (Steps.refl _) (a := b) (by rw [eT]; exact q1) q2 (argsL := argsL) (rest := rest) hlen rfl (by show 2 * 0 + _ ≤ _; rw [hW]; omega) hd (fun _ _ => ⟨has, eT, by rw [hc]; exact hcc, by rw [hs]; exact hss⟩)
  dsimp only [Pt.U, Pt.locs, Pt.cells, Pt.slots] at X7 l7 y7 z7 st7 hQ7
  obtain ⟨⟨w, rfl, hP⟩, rfl, e'⟩ := hQ7
  rw [List.append_nil] at l7
  rw [hc] at y7
  rw [hs] at z7
  subst l7 y7 z7
  exact (g w T7 hP X7 e').via fun t hh => st7.trans hh
/-- a constructor that leaves the heap as it was (Record's, say) -/
theorem own_callNP {own : String} {index : Nat} {y : MethodName} {bytes : ByteArray} {maxL : Nat} (X : Stand p l e R s m args below meth c T locs cells slots) (hx : p.tables.exec = Jvm.exec) (hZ : Z.Warmed39 s.vm)
    (hyn : y.name = "<init>") (hown : s.vm.findClass own = some m.cls) (w1 : (Jvm.Cond.methodLink own index y).before a0 Z = true) (w2 : (Jvm.Cond.instanceMethod y).before a0 Z = true) (w3 : (Jvm.Cond.initialized y.cls).before a0 Z = true) (w4 : (Jvm.Cond.code y bytes maxL none).before a0 Z = true)
    (hy : y.cls ≠ "java/lang/invoke/MethodHandle" ∧ y.cls ≠ "java/lang/invoke/VarHandle") {rm : Room} {as' : Array Value} {W : Nat}
    (hM : MetFree l y (head1 [Jvm.Cond.code y bytes maxL none] rm) (fun a U => a = as' ∧ Z.Warmed39 U.vm ∧ U.heap = h) (fun _ _ _ _ _ => True) (fun _ U o U' => ∃ v L, o = .returned v ∧ (v = none ∧ L = [] ∧ U'.heap = h) ∧ FrameEnd U o U' L rm.cells rm.slots))
    (hf : rm.frames + 1 ≤ R.frames) (hl : W + (maxL + 11) + rm.locals ≤ R.locals) (eT : T.heap = h) (hsize : Ls.size = c.maxLocals) {argsL : List Value}
    (hlen : ∀ sig, parseMethodDescriptor y.desc = some sig → argsL.length = sig.parameters.length) (hst : st = argsL.reverse ++ .ref b :: rest) (hW : (rest.map fun v => v.category).sum = W) (hd : decode c.code pc = .ok (.invokespecial index, 3)) (hq : pc + 3 = q) (has : (.ref b :: argsL).toArray = as') (hc : rm.cells = 0) (hs : rm.slots = 0) (hcc : cells ≤ R.cells) (hss : slots ≤ R.slots)
    (g : ∀ T', Stand p l e R s m args below meth c T' locs cells slots → T'.heap = h → own_G p e below FF (T'.setTop (mkF m q Ls rest))) :
    own_G p e below FF (T.setTop (mkF m pc Ls st)) := by
  refine own_callN (Q' := fun v U L => v = none ∧ L = [] ∧ U = h) (b := b) X hx hZ hyn hown w1 w2 w3 w4 hy hM hf hl eT hsize hlen hst hW hd hq has (by rw [hc]; exact hcc) (by rw [hs]; exact hss) ?_
  rintro v T' L ⟨rfl, rfl, e'⟩ X'
  rw [List.append_nil, hc, hs] at X'
  exact g T' X' e'
theorem own_addL (x y : Int64) (h1 : -9223372036854775808 ≤ x.toInt + y.toInt) (h2 : x.toInt + y.toInt < 9223372036854775808) : (x + y).toInt = x.toInt + y.toInt := by
  have := c_ladd x y; have := rng64 (x + y); omega
theorem own_subL (x y : Int64) (h1 : -9223372036854775808 ≤ x.toInt - y.toInt) (h2 : x.toInt - y.toInt < 9223372036854775808) : (x - y).toInt = x.toInt - y.toInt := by
  have := c_lsub x y; have := rng64 (x - y); omega
theorem own_mulL (x y : Int64) (h1 : -9223372036854775808 ≤ x.toInt * y.toInt) (h2 : x.toInt * y.toInt < 9223372036854775808) : (x * y).toInt = x.toInt * y.toInt := by
  have := c_lmul x y; have := rng64 (x * y); omega
theorem own_nb (z : Int32) (h : z.toInt = 0 ∨ z.toInt = 1) : nar .boolean z = z := by
  rcases h with h | h
  · rw [show z = 0 from Int32.toInt_inj.mp h]; rfl
  · rw [show z = 1 from Int32.toInt_inj.mp h]; rfl
theorem own_rngU {f : Nat → Int32} (hf : ∀ j, -128 ≤ (f j).toInt ∧ (f j).toInt < 128) (i : Nat) (x : Int32) : ∀ j, -128 ≤ (own_updI f i (x.toInt8.toInt32) j).toInt ∧ (own_updI f i (x.toInt8.toInt32) j).toInt < 128 := by
  intro j
  by_cases q : j = i
  · subst q; rw [own_updI_same]; exact (c_i2b x).2
  · rw [own_updI_ne _ _ q]; exact hf j
theorem own_rng0 : ∀ j, -128 ≤ (own_zero j).toInt ∧ (own_zero j).toInt < 128 := fun _ => ⟨show (-128 : Int) ≤ (0 : Int32).toInt by decide, show (0 : Int32).toInt < (128 : Int) by decide⟩
end Own2
theorem own_kext {h h' : Heap} (K : Keep h h' []) : Ext h h' := ⟨K.1, fun x c q => K.2.1 x c q nin0⟩
section OwnAl
variable {p : Program} {l : Launch} {e : Env} {R : Room} {s : State} {m : MethodId} {args : Array Value} {below : List Frame} {meth : Method} {c : Code} {T : State} {locs : List Loc} {cells slots : Nat} {k n : Nat} {Q : Option Value → Heap → List Loc → Prop} {FF : State → Option Value → Prop} {pc q q' : Nat} {Ls l' : Array Slot} {st rest : List Value} {Z : State} {a0 : Array Value} {h h' : Heap} {ws : List Addr} {a : Addr} {ty : FieldType} {N i n0 : Nat} {f : Nat → Value} {j : Int32}
theorem own_arraylength (X : Stand p l e R s m args below meth c T locs cells slots) (hx : p.tables.exec = Jvm.exec) (hZ : Z.Warmed39 s.vm) (eT : T.heap = h) (A : own_Arr Z h a ty N f) (hd : decode c.code pc = .ok (.arraylength, 1)) {v : Int32} (hv : N.toInt32 = v) (hq : pc + 1 = q)
    (g : own_G p e below FF (T.setTop (mkF m q Ls (.int v :: rest)))) :
    own_G p e below FF (T.setTop (mkF m pc Ls (.ref a :: rest))) := by
  subst hq hv
  obtain ⟨cl, Ar, S, hN, H⟩ := A
  subst S
  exact g.via fun t => X.arraylength hx (by rw [eT]; exact Ar.1) (State.isArrayOf_alike hZ.alike Ar.2.1) (g := mkF m pc Ls (.ref a :: rest)) rfl rfl hd t
end OwnAl
section OwnW
variable {p : Program} {l : Launch} {e : Env} {R : Room} {s : State} {vm0 : Vm} {m : MethodId} {args : Array Value} {below : List Frame} {meth : Method} {c : Code} {T : State} {locs : List Loc} {cells slots : Nat} {k n : Nat} {Q : Option Value → Heap → List Loc → Prop} {FF : State → Option Value → Prop} {pc q q' : Nat} {Ls l' : Array Slot} {st rest : List Value}
variable {Z : State} {a0 : Array Value} {EL : List (String × Nat)} {h h' : Heap} {a b : Addr} {v : Value} {ws : List Addr} {k0 : Nat}
/-- the wide end: String constants may have been loaded -/
def own_FW (Z : State) (EL : List (String × Nat)) (s : State) (k n : Nat) (Q : Option Value → Heap → List Loc → Prop) : State → Option Value → Prop := fun s₂ v => ∃ L, Q v s₂.heap L ∧ CHr Z EL s.vm s.heap s₂.vm s₂.heap ∧ ReturnedEndW s (.returned v) s₂ L k n
/-- .. and what is booked is not said -/
def own_FV (s : State) (k n : Nat) (Q : Option Value → Heap → List Loc → Prop) : State → Option Value → Prop := fun s₂ v => ∃ L, Q v s₂.heap L ∧ ReturnedEndW s (.returned v) s₂ L k n
theorem own_endW (X : Stand p l e R (s.setVm vm0) m args below meth c T locs cells slots) (hZ : Z.Warmed39 vm0) (hEL : EW Z a0 EL) (eT : T.heap = h) (HC : CHr Z EL s.vm s.heap vm0 h) : CHr Z EL s.vm s.heap T.vm T.heap := by
  have q := HC.trans (CHv.at X hZ hEL HC.1)
  rw [← eT] at q; exact q
theorem own_WretA (X : Stand p l e R (s.setVm vm0) m args below meth c T locs cells slots) (hx : p.tables.exec = Jvm.exec) (hZ : Z.Warmed39 vm0) (hEL : EW Z a0 EL) (hS : s.Since vm0 k0) (hk0 : k0 ≤ h.size) (HC : CHr Z EL s.vm s.heap vm0 h) (eT : T.heap = h) {t : FieldType} (hv : v.isRef = true) (hret : meth.sig.returnType = some t) (ht : t.isReference = true) (hlk : meth.locks = false) (hd : decode c.code pc = .ok (.areturn, 1)) (hk : cells ≤ k) (hn : slots ≤ n) (hq : Q (some v) T.heap locs) :
    own_G p e below (own_FW Z EL s k n Q) (T.setTop (mkF m pc Ls [v])) := by
  obtain ⟨fs, hr, hrun, hended, h1, h2, h3, h4⟩ := X.leaveW hS (by rw [eT]; exact hk0) (v := some v) (fun h => by rw [hret] at h; cases h) hlk
  exact ⟨_, _, X.areturnOut hx hv hret ht hd hr, hrun, hended, _, hq, (show CHr Z EL s.vm s.heap T.vm T.heap from own_endW X hZ hEL eT HC), h1, h2, h3, h4.mono hk hn⟩
theorem own_WretN (X : Stand p l e R (s.setVm vm0) m args below meth c T locs cells slots) (hx : p.tables.exec = Jvm.exec) (hZ : Z.Warmed39 vm0) (hEL : EW Z a0 EL) (hS : s.Since vm0 k0) (hk0 : k0 ≤ h.size) (HC : CHr Z EL s.vm s.heap vm0 h) (eT : T.heap = h) {z w : Int32} {t : FieldType} (hret : meth.sig.returnType = some t) (hlk : meth.locks = false) (ht : t = .boolean ∨ t = .byte ∨ t = .char ∨ t = .short) (hd : decode c.code pc = .ok (.ireturn, 1)) (hk : cells ≤ k) (hn : slots ≤ n) (hz : nar t z = w) (hq : Q (some (.int w)) T.heap locs) :
    own_G p e below (own_FW Z EL s k n Q) (T.setTop (mkF m pc Ls [.int z])) := by
  subst hz
  obtain ⟨fs, hr, hrun, hended, h1, h2, h3, h4⟩ := X.leaveW hS (by rw [eT]; exact hk0) (v := some (.int (nar t z))) (fun h => by rw [hret] at h; cases h) hlk
  exact ⟨_, _, retN X hx hret ht hd hr, hrun, hended, _, hq, (show CHr Z EL s.vm s.heap T.vm T.heap from own_endW X hZ hEL eT HC), h1, h2, h3, h4.mono hk hn⟩
theorem own_VretN (X : Stand p l e R (s.setVm vm0) m args below meth c T locs cells slots) (hx : p.tables.exec = Jvm.exec) (hS : s.Since vm0 k0) (hk0 : k0 ≤ h.size) (eT : T.heap = h) {z w : Int32} {t : FieldType} (hret : meth.sig.returnType = some t) (hlk : meth.locks = false) (ht : t = .boolean ∨ t = .byte ∨ t = .char ∨ t = .short) (hd : decode c.code pc = .ok (.ireturn, 1)) (hk : cells ≤ k) (hn : slots ≤ n) (hz : nar t z = w) (hq : Q (some (.int w)) T.heap locs) :
    own_G p e below (own_FV s k n Q) (T.setTop (mkF m pc Ls [.int z])) := by
  subst hz
  obtain ⟨fs, hr, hrun, hended, h1, h2, h3, h4⟩ := X.leaveW hS (by rw [eT]; exact hk0) (v := some (.int (nar t z))) (fun h => by rw [hret] at h; cases h) hlk
  exact ⟨_, _, retN X hx hret ht hd hr, hrun, hended, _, hq, h1, h2, h3, h4.mono hk hn⟩
theorem own_WretV (X : Stand p l e R (s.setVm vm0) m args below meth c T locs cells slots) (hx : p.tables.exec = Jvm.exec) (hZ : Z.Warmed39 vm0) (hEL : EW Z a0 EL) (hS : s.Since vm0 k0) (hk0 : k0 ≤ h.size) (HC : CHr Z EL s.vm s.heap vm0 h) (eT : T.heap = h) (hret : meth.sig.returnType = none) (hlk : meth.locks = false) (hd : decode c.code pc = .ok (.return_, 1)) (hk : cells ≤ k) (hn : slots ≤ n) (hq : Q none T.heap locs) :
    own_G p e below (own_FW Z EL s k n Q) (T.setTop (mkF m pc Ls [])) := by
  obtain ⟨fs, hr, hrun, hended, h1, h2, h3, h4⟩ := X.leaveW hS (by rw [eT]; exact hk0) (v := none) (fun _ => rfl) hlk
  exact ⟨_, _, X.returnOut hx hret hd hr, hrun, hended, _, hq, (show CHr Z EL s.vm s.heap T.vm T.heap from own_endW X hZ hEL eT HC), h1, h2, h3, h4.mono hk hn⟩
theorem own_Wbody {y : MethodName} {bytes : ByteArray} {maxL : Nat} {ret : Option FieldType} {ws : List Jvm.Cond} {rm : Room} {as' : Array Value} {h0 : Heap} {sf : List Addr} (hpn : plainFor y = true)
    (body : ∀ (p : Program) (e : Env) (s : State) (m : MethodId) (below : List Frame) (meth : Method) (c : Code) (s₁ : State), p.tables.exec = Jvm.exec → c.code = bytes → c.maxLocals = maxL → s.vm.findClass y.cls = some m.cls → meth.name = y.name → meth.sig.returnType = ret → meth.locks = false → Z.Warmed39 s.vm →
      Stand p l e rm (s.setVm s.vm) m as' below meth c s₁ [] 0 0 → s₁.heap = h0 → s.Since s.vm h0.size → h0.size ≤ h0.size → CHr Z EL s.vm s.heap s.vm h0 → (∀ x ∈ sf, Safe Z EL s.vm h0 x) → own_G p e below (own_FW Z EL s rm.cells rm.slots Q) (s₁.setTop (entryFrame m as' maxL))) :
    MetFree l y (head1 (Jvm.Cond.code y bytes maxL ret :: ws) rm) (fun a U => a = as' ∧ Z.Warmed39 U.vm ∧ U.heap = h0 ∧ CHv Z EL U.vm h0 ∧ ∀ x ∈ sf, Safe Z EL U.vm h0 x) (fun _ _ _ _ _ => True) (fun _ U o U' => ∃ v L, o = .returned v ∧ Q v U'.heap L ∧ CHr Z EL U.vm U.heap U'.vm U'.heap ∧ ReturnedEndW U o U' L rm.cells rm.slots) := by
  refine MetFree.of_bodySF hpn hisR ?_
  intro p e s m args below meth c s₁ Bd hml0 hP hK
  obtain ⟨rfl, hZ, hh, hC, hsf⟩ := hP
  have X0 : Stand p l e rm s m args below meth c s₁ [] 0 0 := Stand.of_body Bd
  obtain ⟨s₂, v, h1, h2, h3, L, hq, hf⟩ := body p e s m below meth c s₁ Bd.exec Bd.bytes hml0 (findClass_of_methodNamed Bd.named) (name_of_methodNamed Bd.named Bd.method).1 Bd.returns Bd.notSynchronized hZ X0 (by rw [← hh, Bd.state]; rfl) ((State.WarmedH.refl s).since _) (Nat.le_refl _) (by rw [hh]; exact CHr.refl hC) hsf
  exact ⟨s₂, _, h1, h2, h3, v, L, rfl, hq, hf⟩
theorem own_Vbody {y : MethodName} {bytes : ByteArray} {maxL : Nat} {ret : Option FieldType} {ws : List Jvm.Cond} {rm : Room} {as' : Array Value} {h0 : Heap} {sf : List Addr} (hpn : plainFor y = true)
    (body : ∀ (p : Program) (e : Env) (s : State) (m : MethodId) (below : List Frame) (meth : Method) (c : Code) (s₁ : State), p.tables.exec = Jvm.exec → c.code = bytes → c.maxLocals = maxL → s.vm.findClass y.cls = some m.cls → meth.name = y.name → meth.sig.returnType = ret → meth.locks = false → Z.Warmed39 s.vm →
      Stand p l e rm (s.setVm s.vm) m as' below meth c s₁ [] 0 0 → s₁.heap = h0 → s.Since s.vm h0.size → h0.size ≤ h0.size → CHr Z EL s.vm s.heap s.vm h0 → (∀ x ∈ sf, Safe Z EL s.vm h0 x) → own_G p e below (own_FV s rm.cells rm.slots Q) (s₁.setTop (entryFrame m as' maxL))) :
    MetFree l y (head1 (Jvm.Cond.code y bytes maxL ret :: ws) rm) (fun a U => a = as' ∧ Z.Warmed39 U.vm ∧ U.heap = h0 ∧ CHv Z EL U.vm h0 ∧ ∀ x ∈ sf, Safe Z EL U.vm h0 x) (fun _ _ _ _ _ => True) (fun _ U o U' => ∃ v L, o = .returned v ∧ Q v U'.heap L ∧ ReturnedEndW U o U' L rm.cells rm.slots) := by
  refine MetFree.of_bodySF hpn hisR ?_
  intro p e s m args below meth c s₁ Bd hml0 hP hK
  obtain ⟨rfl, hZ, hh, hC, hsf⟩ := hP
  have X0 : Stand p l e rm s m args below meth c s₁ [] 0 0 := Stand.of_body Bd
  obtain ⟨s₂, v, h1, h2, h3, L, hq, hf⟩ := body p e s m below meth c s₁ Bd.exec Bd.bytes hml0 (findClass_of_methodNamed Bd.named) (name_of_methodNamed Bd.named Bd.method).1 Bd.returns Bd.notSynchronized hZ X0 (by rw [← hh, Bd.state]; rfl) ((State.WarmedH.refl s).since _) (Nat.le_refl _) (by rw [hh]; exact CHr.refl hC) hsf
  exact ⟨s₂, _, h1, h2, h3, v, L, rfl, hq, hf⟩
/-- the i-th byte of a text -/
def own_tx (text : String) (i : Nat) : Int32 := Jvm.Lit.byteI (text.toList.getD i 'A').toNat.toUInt16
theorem own_arv {text : String} {kk : ClassId} {z : Int32} {N : Nat} (A : Arv Z h b kk .byte z (text.toList.map fun c => Value.int (Jvm.Lit.byteI c.toNat.toUInt16)) (.int 0)) (hz : z.toNatClampNeg = N) (hN : text.toList.length = N) (hb : N < 2 ^ 31) : own_Arr Z h b .byte N (fun i => .int (own_tx text i)) := by
  obtain ⟨cl, A1, -, A2, -, A3, -⟩ := A
  refine ⟨cl, A1, A2.trans hz, hb, fun i hi => ?_⟩
  rw [A3 i (by rw [A2, hz]; exact hi)]
  have hi' : i < text.toList.length := by rw [hN]; exact hi
  simp [own_tx, List.getD_eq_getElem?_getD, List.getElem?_map, List.getElem?_eq_getElem hi']
/-- ldc of a String constant of EL, its text read -/
theorem own_Wldc (X : Stand p l e R (s.setVm vm0) m args below meth c T locs cells slots) (hx : p.tables.exec = Jvm.exec) (hZ : Z.Warmed39 vm0) {own text : String} {index : Nat} (hown : vm0.findClass own = some m.cls) (w : (Jvm.Cond.stringLink own index text).before a0 Z = true) (wS : ∀ a ∈ Bundle.stringAtoms, a.before a0 Z = true)
    (eT : T.heap = h) (hS : s.Since vm0 k0) (hk : k0 ≤ h.size) (hEL : EW Z a0 EL) (hmem : (own, index) ∈ EL) (HC : CHr Z EL s.vm s.heap vm0 h) (ht : ∀ c ∈ text.toList, c.toNat < 256) {N : Nat} {z : Int32} (hN : text.toList.length = N) (hz0 : ¬ z < 0) (hz : z.toNatClampNeg = N) (hb : N < 2 ^ 31)
    (hd : decode c.code pc = .ok (.ldc index, 2)) {n' : Nat} (hn : 4 * N ≤ n') (hbig : n' ≤ 536870912) (hc : cells + 2 ≤ R.cells) (hl : slots + (n' + 4) ≤ R.slots) (hq : pc + 2 = q)
    (g : ∀ (T' : State) (h' : Heap) (k1 : Nat) (a b : Addr), Stand p l e R (s.setVm T'.vm) m args below meth c T' locs (cells + 2) (slots + (n' + 4)) → T'.heap = h' → Ext h h' → s.Since T'.vm k1 → k1 ≤ h'.size → Z.Warmed39 T'.vm → T'.vm.findClass own = some m.cls →
      Exa Z h' a "java/lang/String" → Fld Z h' a "java/lang/String" "coder" "B" (.int 0) → Fld Z h' a "java/lang/String" "value" "[B" (.ref b) → own_Arr Z h' b .byte N (fun i => .int (own_tx text i)) → CHr Z EL s.vm s.heap T'.vm h' → Lit (s.setVm T'.vm) own index a → (∀ x, x < h.size → Safe Z EL vm0 h x → Safe Z EL T'.vm h' x ∧ x ≠ a ∧ x ≠ b) → own_G p e below FF (T'.setTop (mkF m q Ls (.ref a :: st)))) :
    own_G p e below FF (T.setTop (mkF m pc Ls st)) := by
  subst hq
  obtain ⟨a, T', h', k1, b, kk, X', e', E, hS', hk', hZ', hf', Q1, Q2, Q3, Q4, -, -, HC', hL, hsf, stp⟩ := ldcCH X hx hZ hown w wS eT hS hk hEL hmem HC.1 (z := z) ⟨ht, rfl⟩ hz0 (by rw [hz, List.length_map, hN]) (g := mkF m pc Ls st) rfl hd (n := n') (by rw [hN]; exact hn) hbig hc hl
  exact (g T' h' k1 a b X' e' E hS' hk' hZ' hf' Q1 Q2 Q3 (own_arv Q4 hz hN hb) (HC.trans HC') hL (fun x hxx S => have S' := HC'.safe hxx S; ⟨S', hsf x S'⟩)).via stp
/-- a second load -/
theorem own_Wagain (X : Stand p l e R (s.setVm vm0) m args below meth c T locs cells slots) (hx : p.tables.exec = Jvm.exec) (hZ : Z.Warmed39 vm0) {own text : String} {index : Nat} (hown : vm0.findClass own = some m.cls) (w : (Jvm.Cond.stringLink own index text).before a0 Z = true) (L : Lit (s.setVm vm0) own index a) (hd : decode c.code pc = .ok (.ldc index, 2)) (hq : pc + 2 = q)
    (g : own_G p e below FF (T.setTop (mkF m q Ls (.ref a :: st)))) : own_G p e below FF (T.setTop (mkF m pc Ls st)) := by
  subst hq
  exact g.via (ldcAgain X hx hZ hown w L (g := mkF m pc Ls st) rfl hd)
/-- RW14's 'backOfSH', with places of the caller's that hold no constant -/
theorem own_backW {y : MethodName} {bytes : ByteArray} {maxL : Nat} {ret : Option FieldType} {rm : Room} {len W : Nat} {as' : Array Value} {Q : Option Value → Heap → List Loc → Prop} {sf : List Addr}
    (hM : MetFree l y (head1 [Jvm.Cond.code y bytes maxL ret] rm) (fun a U => a = as' ∧ Z.Warmed39 U.vm ∧ U.heap = h ∧ CHv Z EL U.vm h ∧ ∀ x ∈ sf, Safe Z EL U.vm h x) (fun _ _ _ _ _ => True) (fun _ U o U' => ∃ v L, o = .returned v ∧ Q v U'.heap L ∧ CHr Z EL U.vm U.heap U'.vm U'.heap ∧ ReturnedEndW U o U' L rm.cells rm.slots))
    (hZ : Z.Warmed39 vm0) (wc : (Jvm.Cond.code y bytes maxL ret).before a0 Z = true) (wz : (Jvm.Cond.initialized y.cls).before a0 Z = true) (hf : rm.frames + 1 ≤ R.frames) (hl : W + (maxL + 11) + rm.locals ≤ R.locals) (hEL : EW Z a0 EL) (H : CHv Z EL vm0 h) (hsf : ∀ x ∈ sf, x < h.size ∧ Safe Z EL vm0 h x) :
    BackS l R p e below (s.setVm vm0) args y len W (fun A a => a = as' ∧ A.U.heap = h ∧ A.cells + rm.cells ≤ R.cells ∧ A.slots + rm.slots ≤ R.slots)
      (fun A _ v B => ∃ L, Q v B.U.heap L ∧ B.locs = A.locs ++ L ∧ B.cells = A.cells + rm.cells ∧ B.slots = A.slots + rm.slots ∧ CHr Z EL vm0 h B.U.vm B.U.heap) :=
  BackS.of_freeW (bytes := bytes) (maxL := maxL) (ret := ret) (E := fun _ first o t L k n => k = rm.cells ∧ n = rm.slots ∧ (∃ v, o = .returned v ∧ Q v t.heap L) ∧ CHr Z EL first.vm first.heap t.vm t.heap) hM hf hl
    (fun m meth c A a Y hp => have hU : Z.Warmed39 A.U.vm := wtrans (s := s.setVm vm0) hZ Y.warmed
      ⟨by show (Jvm.Cond.and _ .tt).before a A.U = true; rw [Cond.before_and, mv hU wc]; rfl, mv hU wc, mv hU wz, hp.2.2.1, hp.2.2.2⟩)
    (fun m meth c A a g mk Y hp => have HH := CHv.at Y hZ hEL H; ⟨hp.1, wtrans (s := s.setVm vm0) hZ Y.warmed, hp.2.1, HH.1, fun x hx => HH.safe (hsf x hx).1 (hsf x hx).2⟩) (fun _ _ _ _ _ _ _ _ _ => trivial)
    (fun _ _ _ _ ⟨v, L, h1, h2, h3, h4⟩ => ⟨L, _, _, h4, rfl, rfl, ⟨v, h1, h2⟩, h3⟩)
    (fun m meth c A a g mk v t L k n Y hp _ _ ⟨e1, e2, ⟨v', e3, e4⟩, e5⟩ => by
      cases e3; subst e1 e2
      refine ⟨L, e4, rfl, rfl, rfl, (CHv.at Y hZ hEL H).trans ?_⟩
      rw [← hp.2.1]; exact e5)
/-- a static call of a callee that may load constants -/
theorem own_WcallS (X : Stand p l e R (s.setVm vm0) m args below meth c T locs cells slots) (hx : p.tables.exec = Jvm.exec) (hZ : Z.Warmed39 vm0) {own : String} {index : Nat} {y : MethodName} {bytes : ByteArray} {maxL : Nat} {ret : Option FieldType}
    (hown : vm0.findClass own = some m.cls) (w1 : (Jvm.Cond.methodLink own index y).before a0 Z = true) (w2 : (Jvm.Cond.static y).before a0 Z = true) (w3 : (Jvm.Cond.initialized y.cls).before a0 Z = true) (w4 : (Jvm.Cond.code y bytes maxL ret).before a0 Z = true)
    (hy : y.cls ≠ "java/lang/invoke/MethodHandle" ∧ y.cls ≠ "java/lang/invoke/VarHandle") {rm : Room} {as' : Array Value} {Q' : Option Value → Heap → List Loc → Prop} {sf : List Addr} {W : Nat}
    (hM : MetFree l y (head1 [Jvm.Cond.code y bytes maxL ret] rm) (fun a U => a = as' ∧ Z.Warmed39 U.vm ∧ U.heap = h ∧ CHv Z EL U.vm h ∧ ∀ x ∈ sf, Safe Z EL U.vm h x) (fun _ _ _ _ _ => True) (fun _ U o U' => ∃ v L, o = .returned v ∧ Q' v U'.heap L ∧ CHr Z EL U.vm U.heap U'.vm U'.heap ∧ ReturnedEndW U o U' L rm.cells rm.slots))
    (hf : rm.frames + 1 ≤ R.frames) (hl : W + (maxL + 11) + rm.locals ≤ R.locals) (hS : s.Since vm0 k0) (hk : k0 ≤ h.size) (hEL : EW Z a0 EL) (HC : CHr Z EL s.vm s.heap vm0 h) (hsf : ∀ x ∈ sf, x < h.size ∧ Safe Z EL vm0 h x) (eT : T.heap = h) (hsize : Ls.size = c.maxLocals) {argsL : List Value}
    (hlen : ∀ sig, parseMethodDescriptor y.desc = some sig → argsL.length = sig.parameters.length) (hst : st = argsL.reverse ++ rest) (hW : (rest.map fun v => v.category).sum = W) (hd : decode c.code pc = .ok (.invokestatic index, 3)) (hq : pc + 3 = q) (has : argsL.toArray = as') (hc : cells + rm.cells ≤ R.cells) (hs : slots + rm.slots ≤ R.slots)
    (g : ∀ (v : Option Value) (T' : State) (L : List Loc) (h' : Heap) (k1 : Nat), Q' v h' L → Stand p l e R (s.setVm T'.vm) m args below meth c T' (locs ++ L) (cells + rm.cells) (slots + rm.slots) → T'.heap = h' → s.Since T'.vm k1 → k1 ≤ h'.size → Z.Warmed39 T'.vm → T'.vm.findClass own = some m.cls → CHr Z EL s.vm s.heap T'.vm h' → (∀ x, x < h.size → Safe Z EL vm0 h x → Safe Z EL T'.vm h' x) → own_G p e below FF (T'.setTop (mkF m q Ls (v.toList ++ rest)))) :
    own_G p e below FF (T.setTop (mkF m pc Ls st)) := by
  subst hq hst
  have hZ0 : Z.Warmed39 (s.setVm vm0).vm := hZ
  obtain ⟨v, _, ⟨T7, L7, k7, n7⟩, -, X7, hS7, hg7, ⟨Lc7, hQ7, l7, y7, z7, C7⟩, st7⟩ := callSS X hx (own := own) hown (mvT hZ0 w1) (mvT hZ0 w2) (mvT hZ0 w3) (mvT hZ0 w4) hy (own_backW (s := s) (W := W) hM hZ w4 w3 hf hl hEL HC.1 hsf) (g := mkF m pc Ls (argsL.reverse ++ rest)) rfl hsize hlen rfl (by show 2 * 0 + _ ≤ _; rw [hW]; omega) hd (fun _ _ => ⟨has, eT, hc, hs⟩)
  dsimp only [Pt.U, Pt.locs, Pt.cells, Pt.slots] at X7 l7 y7 z7 st7 hQ7 hS7 hg7 C7
  subst l7 y7 z7
  rw [eT] at hg7
  exact (g v T7 Lc7 T7.heap T7.heap.size hQ7 X7 rfl (hS.trans hS7 (Nat.le_trans hk hg7)) (Nat.le_refl _) (State.Warmed39.trans (t := s.setVm vm0) hZ hS7.1) (by rw [hS7.1.alike.findClass]; exact hown) (HC.trans C7) (fun x hxx S => C7.safe hxx S)).via fun t hh => st7.trans hh
/-- a constructor that may load constants -/
theorem own_WcallN (X : Stand p l e R (s.setVm vm0) m args below meth c T locs cells slots) (hx : p.tables.exec = Jvm.exec) (hZ : Z.Warmed39 vm0) {own : String} {index : Nat} {y : MethodName} {bytes : ByteArray} {maxL : Nat}
    (hyn : y.name = "<init>") (hown : vm0.findClass own = some m.cls) (w1 : (Jvm.Cond.methodLink own index y).before a0 Z = true) (w2 : (Jvm.Cond.instanceMethod y).before a0 Z = true) (w3 : (Jvm.Cond.initialized y.cls).before a0 Z = true) (w4 : (Jvm.Cond.code y bytes maxL none).before a0 Z = true)
    (hy : y.cls ≠ "java/lang/invoke/MethodHandle" ∧ y.cls ≠ "java/lang/invoke/VarHandle") {rm : Room} {as' : Array Value} {Q' : Option Value → Heap → List Loc → Prop} {sf : List Addr} {W : Nat}
    (hM : MetFree l y (head1 [Jvm.Cond.code y bytes maxL none] rm) (fun a U => a = as' ∧ Z.Warmed39 U.vm ∧ U.heap = h ∧ CHv Z EL U.vm h ∧ ∀ x ∈ sf, Safe Z EL U.vm h x) (fun _ _ _ _ _ => True) (fun _ U o U' => ∃ v L, o = .returned v ∧ Q' v U'.heap L ∧ CHr Z EL U.vm U.heap U'.vm U'.heap ∧ ReturnedEndW U o U' L rm.cells rm.slots))
    (hf : rm.frames + 1 ≤ R.frames) (hl : W + (maxL + 11) + rm.locals ≤ R.locals) (hS : s.Since vm0 k0) (hk : k0 ≤ h.size) (hEL : EW Z a0 EL) (HC : CHr Z EL s.vm s.heap vm0 h) (hsf : ∀ x ∈ sf, x < h.size ∧ Safe Z EL vm0 h x) (eT : T.heap = h) (hsize : Ls.size = c.maxLocals) {argsL : List Value}
    (hlen : ∀ sig, parseMethodDescriptor y.desc = some sig → argsL.length = sig.parameters.length) (hst : st = argsL.reverse ++ .ref b :: rest) (hW : (rest.map fun v => v.category).sum = W) (hd : decode c.code pc = .ok (.invokespecial index, 3)) (hq : pc + 3 = q) (has : (.ref b :: argsL).toArray = as') (hc : cells + rm.cells ≤ R.cells) (hs : slots + rm.slots ≤ R.slots)
    (g : ∀ (v : Option Value) (T' : State) (L : List Loc) (h' : Heap) (k1 : Nat), Q' v h' L → Stand p l e R (s.setVm T'.vm) m args below meth c T' (locs ++ L) (cells + rm.cells) (slots + rm.slots) → T'.heap = h' → s.Since T'.vm k1 → k1 ≤ h'.size → Z.Warmed39 T'.vm → T'.vm.findClass own = some m.cls → CHr Z EL s.vm s.heap T'.vm h' → (∀ x, x < h.size → Safe Z EL vm0 h x → Safe Z EL T'.vm h' x) → own_G p e below FF (T'.setTop (mkF m q Ls (v.toList ++ rest)))) :
    own_G p e below FF (T.setTop (mkF m pc Ls st)) := by
  subst hq hst
  have hZ0 : Z.Warmed39 (s.setVm vm0).vm := hZ
  obtain ⟨v, _, ⟨T7, L7, k7, n7⟩, -, X7, hS7, hg7, ⟨Lc7, hQ7, l7, y7, z7, C7⟩, st7⟩ := X.specialBackS hx hyn (own := own) hown (mvT hZ0 w1) (mvT hZ0 w2) (mvT hZ0 w4) hy (own_backW (s := s) (W := W) hM hZ w4 w3 hf hl hEL HC.1 hsf) (g := mkF m pc Ls (argsL.reverse ++ .ref b :: rest)) rfl hsize (Steps.refl _) (a := b) (argsL := argsL) (rest := rest) hlen rfl (by show 2 * 0 + _ ≤ _; rw [hW]; omega) hd (fun _ _ => ⟨has, eT, hc, hs⟩)
  dsimp only [Pt.U, Pt.locs, Pt.cells, Pt.slots] at X7 l7 y7 z7 st7 hQ7 hS7 hg7 C7
  subst l7 y7 z7
  rw [eT] at hg7
  exact (g v T7 Lc7 T7.heap T7.heap.size hQ7 X7 rfl (hS.trans hS7 (Nat.le_trans hk hg7)) (Nat.le_refl _) (State.Warmed39.trans (t := s.setVm vm0) hZ hS7.1) (by rw [hS7.1.alike.findClass]; exact hown) (HC.trans C7) (fun x hxx S => C7.safe hxx S)).via fun t hh => st7.trans hh
theorem own_sta_keep {C nm d : String} {w : Value} (F : Sta Z h C nm d w) (K : Keep h h' ws) (hns : ∀ x ∈ ws, ∀ cell : Cell, h[x]? = some cell → cell.vm.isStatics = false) : Sta Z h' C nm d w := by
  obtain ⟨cf, i, kk, f, sa, cell, h1, h2, h3, h4, h5, h6, r⟩ := F
  exact ⟨cf, i, kk, f, sa, cell, h1, h2, h3, h4, K.2.1 _ _ h5 (fun hm => by have := hns _ hm _ h5; rw [h6] at this; cases this), h6, r⟩
theorem own_arr_ns {ty : FieldType} {N : Nat} {f : Nat → Value} (A : own_Arr Z h a ty N f) : ∀ cell : Cell, h[a]? = some cell → cell.vm.isStatics = false := fun cell q => by
  obtain ⟨cl, A1, -⟩ := A
  cases A1.1.symm.trans q
  exact A1.plain
/-- a place's own array or object differs from a constant's -/
theorem own_kp_any {ws' : List Addr} (K : Keep h h' ws) (q : ∀ x ∈ ws, x ∈ ws') : Keep h h' ws' := ⟨K.1, fun x cl h1 h2 => K.2.1 x cl h1 (fun hm => h2 (q x hm)), K.2.2⟩
theorem own_stC {x j : Int32} {N i n0 : Nat} (X : Stand p l e R s m args below meth c T locs cells slots) (hx : p.tables.exec = Jvm.exec) (hZ : Z.Warmed39 s.vm) (eT : T.heap = h) {fi : Nat → Int32} (A : own_Arr Z h a .char N (fun i => .int (fi i))) (hd : decode c.code pc = .ok (.castore, 1)) (hj : j.toInt = (i : Int)) (hi : i < N) (Nf : Fr n0 locs) (ha : n0 ≤ a) (hq : pc + 1 = q)
    (g : ∀ T' h' L', Stand p l e R s m args below meth c T' L' cells slots → Fr n0 L' → T'.heap = h' → own_Arr Z h' a .char N (fun t => .int (own_updI fi i (nar .char x) t)) → Wr h h' a i (.int (nar .char x)) → own_G p e below FF (T'.setTop (mkF m q Ls rest))) :
    own_G p e below FF (T.setTop (mkF m pc Ls (.int x :: .int j :: .ref a :: rest))) := by
  subst hq
  have A0 := A
  obtain ⟨cl, Ar, S, hN, H⟩ := A
  obtain ⟨h1, h2⟩ := own_idx (N := cl.slots.size) hj (by omega)
  obtain ⟨T', h', X', e', W, st⟩ := stC X hx hZ eT Ar (j := j) (x := x) h1 (g := mkF m pc Ls (.int x :: .int j :: .ref a :: rest)) rfl rfl hd
  have N' := Fr.snoc X' Nf ha
  rw [h2] at W
  have A1 := A0.set W
  rw [own_upd_I] at A1
  exact (g T' h' _ X' N' e' A1 W).via st
theorem own_caload {f : Nat → Value} {j : Int32} {N i : Nat} (X : Stand p l e R s m args below meth c T locs cells slots) (hx : p.tables.exec = Jvm.exec) (hZ : Z.Warmed39 s.vm) (eT : T.heap = h) (A : own_Arr Z h a .char N f) (hd : decode c.code pc = .ok (.caload, 1)) (hj : j.toInt = (i : Int)) (hi : i < N) (hv : f i = v) (hq : pc + 1 = q)
    (g : own_G p e below FF (T.setTop (mkF m q Ls (v :: rest)))) :
    own_G p e below FF (T.setTop (mkF m pc Ls (.int j :: .ref a :: rest))) := by
  subst hq
  obtain ⟨cl, Ar, S, hN, H⟩ := A
  obtain ⟨h1, h2⟩ := own_idx (N := cl.slots.size) hj (by omega)
  exact g.via fun t => X.caload hx (j := j) (v := v) (by rw [eT]; exact Ar.1) (State.isArrayOf_alike hZ.alike Ar.2.1) Ar.2.2 h1 (by rw [h2, ← hv]; exact H i hi) (g := mkF m pc Ls (.int j :: .ref a :: rest)) rfl rfl hd t
theorem own_ifnullN (X : Stand p l e R s m args below meth c T locs cells slots) (hx : p.tables.exec = Jvm.exec) {o : Int} (hd : decode c.code pc = .ok (.ifnull o, 3)) (hq : pc + 3 = q) (g : own_G p e below FF (T.setTop (mkF m q Ls rest))) : own_G p e below FF (T.setTop (mkF m pc Ls (.ref a :: rest))) := by
  subst hq; exact g.via fun _ hr => XS.ifnullNo (g := mkF m pc Ls (.ref a :: rest)) X.here hx rfl hd rfl hr
theorem own_ifnullY (X : Stand p l e R s m args below meth c T locs cells slots) (hx : p.tables.exec = Jvm.exec) {o : Int} (hd : decode c.code pc = .ok (.ifnull o, 3)) (ho : 0 ≤ (pc : Int) + o) (hp : ((pc : Int) + o).toNat = q) (g : own_G p e below FF (T.setTop (mkF m q Ls rest))) : own_G p e below FF (T.setTop (mkF m pc Ls (.null :: rest))) :=
  g.via fun _ hr => XS.ifnullYes (g := mkF m pc Ls (.null :: rest)) X.here hx rfl (pc0 := pc) rfl hd rfl ho hp hr
theorem own_ifnonnullY (X : Stand p l e R s m args below meth c T locs cells slots) (hx : p.tables.exec = Jvm.exec) {o : Int} (hd : decode c.code pc = .ok (.ifnonnull o, 3)) (ho : 0 ≤ (pc : Int) + o) (hp : ((pc : Int) + o).toNat = q) (g : own_G p e below FF (T.setTop (mkF m q Ls rest))) : own_G p e below FF (T.setTop (mkF m pc Ls (.ref a :: rest))) :=
  g.via fun _ hr => XT.ifnonnullYes (g := mkF m pc Ls (.ref a :: rest)) X.here hx rfl (pc0 := pc) rfl hd rfl ho hp hr
theorem own_ifnonnullN (X : Stand p l e R s m args below meth c T locs cells slots) (hx : p.tables.exec = Jvm.exec) {o : Int} (hd : decode c.code pc = .ok (.ifnonnull o, 3)) (hq : pc + 3 = q) (g : own_G p e below FF (T.setTop (mkF m q Ls rest))) : own_G p e below FF (T.setTop (mkF m pc Ls (.null :: rest))) := by
  subst hq; exact g.via fun _ hr => XT.ifnonnullNo (g := mkF m pc Ls (.null :: rest)) X.here hx rfl hd rfl hr
theorem own_rngC {f : Nat → Int32} (hf : ∀ j, 0 ≤ (f j).toInt ∧ (f j).toInt ≤ 255) (i : Nat) (x : Int32) : ∀ j, 0 ≤ (own_updI f i (nar .char ((x &&& (255 : Int32)).toUInt32.toUInt16.toUInt32.toInt32)) j).toInt ∧ (own_updI f i (nar .char ((x &&& (255 : Int32)).toUInt32.toUInt16.toUInt32.toInt32)) j).toInt ≤ 255 := by
  intro j
  by_cases q : j = i
  · subst q; rw [own_updI_same, i2c_mask]
    show 0 ≤ ((x &&& (255 : Int32)).toUInt32.toUInt16.toUInt32.toInt32).toInt ∧ ((x &&& (255 : Int32)).toUInt32.toUInt16.toUInt32.toInt32).toInt ≤ 255
    rw [i2c_mask]
    have e : (x &&& (255 : Int32)).toInt = x.toInt % 256 := c_mask x 255 8 (by decide) (by decide)
    omega
  · rw [own_updI_ne _ _ q]; exact hf j
theorem own_rngC0 : ∀ j, 0 ≤ (own_zero j).toInt ∧ (own_zero j).toInt ≤ 255 := fun _ => ⟨show (0 : Int) ≤ (0 : Int32).toInt by decide, show (0 : Int32).toInt ≤ (255 : Int) by decide⟩
end OwnW
section Own7
variable {p : Program} {l : Launch} {e : Env} {R : Room} {s : State} {m : MethodId} {args : Array Value} {below : List Frame} {meth : Method} {c : Code} {T : State} {locs : List Loc} {cells slots : Nat} {FF : State → Option Value → Prop} {pc q : Nat} {Ls l' : Array Slot} {st rest : List Value}
variable {Z : State} {a0 : Array Value} {h h' : Heap} {a b : Addr} {v : Value} {n0 : Nat}
theorem own_putFV (X : Stand p l e R s m args below meth c T locs cells slots) (hx : p.tables.exec = Jvm.exec) (hZ : Z.Warmed39 s.vm) {own R0 O nm d C : String} {index kk : Nat} {ft : FieldType} (hown : s.vm.findClass own = some m.cls) (w : (Jvm.Cond.fieldLink own index R0 nm d).before a0 Z = true) (wv : (Jvm.Cond.sameField R0 O nm d).before a0 Z = true)
    (eT : T.heap = h) {old : Value} (F : Fld Z h a O nm d old) (E : Exa Z h a C) (L : (Jvm.Cond.lays C O nm d).before a0 Z = true ∨ ((Jvm.Cond.laysFinal C O nm d).before a0 Z = true ∧ own = O ∧ meth.name = "<init>")) (wi : (Jvm.Cond.instantiable C kk).before a0 Z = true)
    (hty : parseFieldDescriptor d = some ft) (hn : narrow ft v = v) (hf : fits ft v = true) (hd : decode c.code pc = .ok (.putfield index, 3)) (Nf : Fr n0 locs) (ha : n0 ≤ a) (hq : pc + 3 = q)
    (g : ∀ T' h' L', Stand p l e R s m args below meth c T' L' cells slots → Fr n0 L' → T'.heap = h' → Wr h h' a (Jvm.RoadKit.slotOf Z O nm d) v → own_G p e below FF (T'.setTop (mkF m q Ls rest))) :
    own_G p e below FF (T.setTop (mkF m pc Ls (v :: .ref a :: rest))) := by
  subst hq
  obtain ⟨T', h', X', e', W, st⟩ := putF X hx hZ hown (host := "") (Or.inl w) (Via.of wv) eT F E L wi hty hn hf (g := mkF m pc Ls (v :: .ref a :: rest)) rfl rfl hd
  exact (g T' h' _ X' (Fr.snoc X' Nf ha) e' W).via st
theorem own_getFV (X : Stand p l e R s m args below meth c T locs cells slots) (hx : p.tables.exec = Jvm.exec) (hZ : Z.Warmed39 s.vm) {own R0 O nm d : String} {index : Nat} (hown : s.vm.findClass own = some m.cls) (w : (Jvm.Cond.fieldLink own index R0 nm d).before a0 Z = true) (wv : (Jvm.Cond.sameField R0 O nm d).before a0 Z = true)
    (eT : T.heap = h) (F : Fld Z h a O nm d v) (hd : decode c.code pc = .ok (.getfield index, 3)) (hq : pc + 3 = q)
    (g : ∀ T', Stand p l e R s m args below meth c T' locs cells slots → T'.heap = h → own_G p e below FF (T'.setTop (mkF m q Ls (v :: rest)))) :
    own_G p e below FF (T.setTop (mkF m pc Ls (.ref a :: rest))) := by
  subst hq
  obtain ⟨T', X', e', st⟩ := getF X hx hZ hown (host := "") (Or.inl w) (Via.of wv) eT F (g := mkF m pc Ls (.ref a :: rest)) rfl rfl hd
  exact (g T' X' e').via st
/-- a private method by invokevirtual, by its contract -/
theorem own_callP {C own : String} {index kk : Nat} {y : MethodName} {bytes : ByteArray} {maxL : Nat} {ret : Option FieldType} (X : Stand p l e R s m args below meth c T locs cells slots) (hx : p.tables.exec = Jvm.exec) (hZ : Z.Warmed39 s.vm)
    (hown : s.vm.findClass own = some m.cls) (w1 : (Jvm.Cond.methodLink own index y).before a0 Z = true) (w2 : (Jvm.Cond.privateMethod y).before a0 Z = true) (w3 : (Jvm.Cond.instantiable y.cls kk).before a0 Z = true) (w4 : (Jvm.Cond.instanceMethod y).before a0 Z = true) (w5 : (Jvm.Cond.code y bytes maxL ret).before a0 Z = true) (w6 : (Jvm.Cond.initialized y.cls).before a0 Z = true)
    (hy : y.cls ≠ "java/lang/invoke/MethodHandle" ∧ y.cls ≠ "java/lang/invoke/VarHandle") {rm : Room} {as' : Array Value} {Q' : Option Value → Heap → List Loc → Prop} {W : Nat}
    (hM : MetFree l y (head1 [Jvm.Cond.code y bytes maxL ret] rm) (fun a U => a = as' ∧ Z.Warmed39 U.vm ∧ U.heap = h) (fun _ _ _ _ _ => True) (fun _ U o U' => ∃ v L, o = .returned v ∧ Q' v U'.heap L ∧ FrameEnd U o U' L rm.cells rm.slots))
    (E : Exa Z h b C) (hf : rm.frames + 1 ≤ R.frames) (hl : W + (maxL + 11) + rm.locals ≤ R.locals) (eT : T.heap = h) (hsize : Ls.size = c.maxLocals) {argsL : List Value}
    (hlen : ∀ sig, parseMethodDescriptor y.desc = some sig → argsL.length = sig.parameters.length) (hst : st = argsL.reverse ++ .ref b :: rest) (hW : (rest.map fun v => v.category).sum = W) (hd : decode c.code pc = .ok (.invokevirtual index, 3)) (hq : pc + 3 = q) (has : (.ref b :: argsL).toArray = as') (hc : cells + rm.cells ≤ R.cells) (hs : slots + rm.slots ≤ R.slots)
    (g : ∀ v T' L, Q' v T'.heap L → Stand p l e R s m args below meth c T' (locs ++ L) (cells + rm.cells) (slots + rm.slots) → own_G p e below FF (T'.setTop (mkF m q Ls (v.toList ++ rest)))) :
    own_G p e below FF (T.setTop (mkF m pc Ls st)) := by
  subst hq hst
  obtain ⟨cq, q1, q2⟩ := E.cell
  have hi := mvT (args := args) hZ w4
  have hp := Cond.privateMethod_at (mvP (args := #[]) hZ w2)
  obtain ⟨ci, ki, f1, f2, -, f3, -⟩ := Cond.instantiable_spec (mvT (args := args) hZ w3)
  have hsel := selects_self_of_private f1 f2 (Bool.or_eq_false_iff.mp f3).1 hp hi hy
  obtain ⟨v, _, ⟨T7, L7, k7, n7⟩, -, X7, ⟨Lc7, hQ7, l7, y7, z7⟩, st7⟩ := X.privateBack hx hown (mvT hZ w1) hi hsel hp (mvT hZ w5) hy (backOf (W := W) hM hZ w5 w6 hf hl) (g := mkF m pc Ls (argsL.reverse ++ .ref b :: rest)) rfl hsize (Steps.refl _) (a := b) (by rw [eT]; exact q1) q2 (argsL := argsL) (rest := rest) hlen rfl (by show 2 * 0 + _ ≤ _; rw [hW]; omega) hd (fun _ _ => ⟨has, eT, hc, hs⟩)
  dsimp only [Pt.U, Pt.locs, Pt.cells, Pt.slots] at X7 l7 y7 z7 st7 hQ7
  subst l7 y7 z7
  exact (g v T7 Lc7 hQ7 X7).via fun t hh => st7.trans hh
theorem own_mvPub {y : MethodName} {args : Array Value} (hZ : Z.Warmed39 s.vm) (w : (Jvm.Cond.publicMethod y).before a0 Z = true) : (Jvm.Cond.publicMethod y).before args s = true := by
  have h1 : (Jvm.Cond.publicMethod y).before a0 (Z.setVm s.vm) = true := Cond.rides hZ rfl w
  exact h1
/-- an interface's method that leaves the heap -/
theorem own_callIP {C own : String} {index count : Nat} {xi y : MethodName} {bytes : ByteArray} {maxL : Nat} {ret : Option FieldType} (X : Stand p l e R s m args below meth c T locs cells slots) (hx : p.tables.exec = Jvm.exec) (hZ : Z.Warmed39 s.vm)
    (hown : s.vm.findClass own = some m.cls) (w1 : (Jvm.Cond.methodLink own index xi).before a0 Z = true) (w2 : (Jvm.Cond.declares xi).before a0 Z = true) (w3 : (Jvm.Cond.interfaceMethod xi.cls xi.cls xi.name xi.desc).before a0 Z = true) (hw3 : ((Jvm.Cond.interfaceMethod xi.cls xi.cls xi.name xi.desc).onTables && (Jvm.Cond.interfaceMethod xi.cls xi.cls xi.name xi.desc).keepsFace) = true) (w4 : (Jvm.Cond.selects C xi y).before a0 Z = true) (w5 : (Jvm.Cond.instanceMethod y).before a0 Z = true) (w6 : (Jvm.Cond.publicMethod y).before a0 Z = true) (w7 : (Jvm.Cond.unhidden C xi.name xi.desc).before a0 Z = true) (w8 : (Jvm.Cond.castable C xi.cls).before a0 Z = true) (w9 : (Jvm.Cond.code y bytes maxL ret).before a0 Z = true) (w10 : (Jvm.Cond.initialized y.cls).before a0 Z = true)
    (hy : xi.cls ≠ "java/lang/invoke/MethodHandle" ∧ xi.cls ≠ "java/lang/invoke/VarHandle") {rm : Room} {as' : Array Value} {P : Value → Prop} {W : Nat}
    (hM : MetFree l y (head1 [Jvm.Cond.code y bytes maxL ret] rm) (fun a U => a = as' ∧ Z.Warmed39 U.vm ∧ U.heap = h) (fun _ _ _ _ _ => True) (fun _ U o U' => ∃ v L, o = .returned v ∧ ((∃ w, v = some w ∧ P w) ∧ L = [] ∧ U'.heap = h) ∧ FrameEnd U o U' L rm.cells rm.slots))
    (E : Exa Z h b C) (hf : rm.frames + 1 ≤ R.frames) (hl : W + (maxL + 11) + rm.locals ≤ R.locals) (eT : T.heap = h) (hsize : Ls.size = c.maxLocals) {argsL : List Value}
    (hlen : ∀ sig, parseMethodDescriptor xi.desc = some sig → argsL.length = sig.parameters.length) (hst : st = argsL.reverse ++ .ref b :: rest) (hW : (rest.map fun v => v.category).sum = W) (hd : decode c.code pc = .ok (.invokeinterface index count, 5)) (hq : pc + 5 = q) (has : (.ref b :: argsL).toArray = as') (hc : rm.cells = 0) (hs : rm.slots = 0) (hcc : cells ≤ R.cells) (hss : slots ≤ R.slots)
    (g : ∀ w T', P w → Stand p l e R s m args below meth c T' locs cells slots → T'.heap = h → own_G p e below FF (T'.setTop (mkF m q Ls (w :: rest)))) :
    own_G p e below FF (T.setTop (mkF m pc Ls st)) := by
  subst hq hst
  obtain ⟨cq, kq, qa, qb, qc⟩ := isOf hZ eT E
  obtain ⟨v, _, ⟨T7, L7, k7, n7⟩, -, X7, ⟨Lc7, hQ7, l7, y7, z7⟩, st7⟩ := X.interfaceBack hx hown (mvT hZ w1) (mvT hZ w2) (mvT hZ w3 hw3) (mvT hZ w4) (mvT hZ w5) (own_mvPub hZ w6) (mvT hZ w7) (mvT hZ w8) hy (backOf (W := W) (Q := fun v U L => (∃ w, v = some w ∧ P w) ∧ L = [] ∧ U = h) hM hZ w9 w10 hf hl) qa qb qc (g := mkF m pc Ls (argsL.reverse ++ .ref b :: rest)) rfl hsize (Steps.refl _) (argsL := argsL) (rest := rest) hlen rfl (by show 2 * 0 + _ ≤ _; rw [hW]; omega) hd (fun _ _ => ⟨has, eT, by rw [hc]; exact hcc, by rw [hs]; exact hss⟩)
  dsimp only [Pt.U, Pt.locs, Pt.cells, Pt.slots] at X7 l7 y7 z7 st7 hQ7
  obtain ⟨⟨w, rfl, hP⟩, rfl, e'⟩ := hQ7
  rw [List.append_nil] at l7
  rw [hc] at y7
  rw [hs] at z7
  subst l7 y7 z7
  exact (g w T7 hP X7 e').via fun t hh => st7.trans hh
theorem own_ovr_kp {C : String} {ws : List Addr} (F : ∃ cl : Cell, Arr Z h a cl (.object C) ∧ Ovr Z cl.cls C) (K : Keep h h' ws) (q : a ∉ ws) : ∃ cl : Cell, Arr Z h' a cl (.object C) ∧ Ovr Z cl.cls C := by
  obtain ⟨cl, A, O⟩ := F
  exact ⟨cl, ⟨K.2.1 a cl A.1 q, A.2⟩, O⟩
theorem own_ovr_ext {C : String} (F : ∃ cl : Cell, Arr Z h a cl (.object C) ∧ Ovr Z cl.cls C) (E : Ext h h') : ∃ cl : Cell, Arr Z h' a cl (.object C) ∧ Ovr Z cl.cls C := by
  obtain ⟨cl, A, O⟩ := F
  exact ⟨cl, A.ext E, O⟩
end Own7
theorem own_pd0 : parseMethodDescriptor "([CI[BII)I" = some ⟨[(.array .char), .int, (.array .byte), .int, .int], (some .int)⟩ := by decide +kernel
theorem own_pd1 : parseMethodDescriptor "([CII)[B" = some ⟨[(.array .char), .int, .int], (some (.array .byte))⟩ := by decide +kernel
theorem own_pd2 : parseMethodDescriptor "([BI)B" = some ⟨[(.array .byte), .int], (some .byte)⟩ := by decide +kernel
theorem own_pd3 : parseMethodDescriptor "([CIILjava/lang/Void;)V" = some ⟨[(.array .char), .int, .int, (.object "java/lang/Void")], none⟩ := by decide +kernel
theorem own_pd4 : parseMethodDescriptor "()V" = some ⟨[], none⟩ := by decide +kernel
theorem own_pd5 : parseMethodDescriptor "(II)I" = some ⟨[.int, .int], (some .int)⟩ := by decide +kernel
theorem own_pd6 : parseMethodDescriptor "(I)[Ljava/lang/Object;" = some ⟨[.int], (some (.array (.object "java/lang/Object")))⟩ := by decide +kernel
theorem own_pd7 : parseMethodDescriptor "()[Ljava/lang/Object;" = some ⟨[], (some (.array (.object "java/lang/Object")))⟩ := by decide +kernel
theorem own_pd8 : parseMethodDescriptor "(Ljava/lang/Object;[Ljava/lang/Object;I)V" = some ⟨[(.object "java/lang/Object"), (.array (.object "java/lang/Object")), .int], none⟩ := by decide +kernel
theorem own_pd9 : parseMethodDescriptor "(Lcom/example/keyward/keyward/command/ExitStatus;Ljava/util/List;Ljava/lang/String;)V" = some ⟨[(.object "com/example/keyward/keyward/command/ExitStatus"), (.object "java/util/List"), (.object "java/lang/String")], none⟩ := by decide +kernel
theorem own_pd10 : parseMethodDescriptor "(IILjava/util/function/BiFunction;)I" = some ⟨[.int, .int, (.object "java/util/function/BiFunction")], (some .int)⟩ := by decide +kernel
theorem own_pd11 : parseMethodDescriptor "(I)Ljava/lang/Object;" = some ⟨[.int], (some (.object "java/lang/Object"))⟩ := by decide +kernel
theorem own_pd12 : parseMethodDescriptor "([C)V" = some ⟨[(.array .char)], none⟩ := by decide +kernel
theorem own_pd13 : parseMethodDescriptor "(I)Lcom/example/keyward/keyward/command/ExitStatus;" = some ⟨[.int], (some (.object "com/example/keyward/keyward/command/ExitStatus"))⟩ := by decide +kernel
theorem own_pd14 : parseMethodDescriptor "(I)Ljava/lang/String;" = some ⟨[.int], (some (.object "java/lang/String"))⟩ := by decide +kernel
theorem own_pd15 : parseMethodDescriptor "(Ljava/lang/Object;)Z" = some ⟨[(.object "java/lang/Object")], (some .boolean)⟩ := by decide +kernel
theorem own_pd16 : parseMethodDescriptor "(Ljava/lang/String;)Lcom/example/keyward/keyward/command/Outcome;" = some ⟨[(.object "java/lang/String")], (some (.object "com/example/keyward/keyward/command/Outcome"))⟩ := by decide +kernel
theorem own_pd17 : parseMethodDescriptor "()Lcom/example/keyward/keyward/command/ExitStatus;" = some ⟨[], (some (.object "com/example/keyward/keyward/command/ExitStatus"))⟩ := by decide +kernel
theorem own_pd18 : parseMethodDescriptor "()Ljava/util/List;" = some ⟨[], (some (.object "java/util/List"))⟩ := by decide +kernel
theorem own_pd19 : parseMethodDescriptor "()I" = some ⟨[], (some .int)⟩ := by decide +kernel
theorem own_pd20 : parseMethodDescriptor "()Ljava/lang/String;" = some ⟨[], (some (.object "java/lang/String"))⟩ := by decide +kernel
theorem own_EW {Z : State} {a0 : Array Value} (hw : ∀ d ∈ tables_1, d.before a0 Z = true) : EW Z a0 consts_1 := (EW.cons (hw _ (List.mem_of_getElem? (i := 24) rfl)) (by decide) EW.nil)
theorem own_wS {Z : State} {a0 : Array Value} (hw : ∀ d ∈ tables_1, d.before a0 Z = true) : ∀ a ∈ Bundle.stringAtoms, a.before a0 Z = true := by
  intro d hd
  simp only [Bundle.stringAtoms, List.mem_cons, List.not_mem_nil, or_false] at hd
  rcases hd with rfl | rfl | rfl | rfl | rfl | rfl | rfl
  · exact (hw _ (List.mem_of_getElem? (i := 12) rfl))
  · exact (hw _ (List.mem_of_getElem? (i := 11) rfl))
  · exact (hw _ (List.mem_of_getElem? (i := 25) rfl))
  · exact (hw _ (List.mem_of_getElem? (i := 26) rfl))
  · exact (hw _ (List.mem_of_getElem? (i := 27) rfl))
  · exact (hw _ (List.mem_of_getElem? (i := 28) rfl))
  · exact (hw _ (List.mem_of_getElem? (i := 29) rfl))
section OwnT
variable {args : Array Value} {s : State} {t : Term} {a : Addr} {cl : Cell} {F : Nat → Int32} {v : Int32}
theorem own_fold (g : Option Bool → Nat → Option Bool) (f : Nat → Option Bool) (h1 : ∀ i, g (some true) i = f i) (h2 : ∀ x i, x ≠ some true → g x i = x) (n : Nat) (h : (List.range n).foldl g (some true) = some true) : ∀ i, i < n → f i = some true := by
  induction n with
  | zero => intro i hi; exact absurd hi (Nat.not_lt_zero _)
  | succ n ih =>
    rw [List.range_succ, List.foldl_append, List.foldl_cons, List.foldl_nil] at h
    by_cases hp : (List.range n).foldl g (some true) = some true
    · rw [hp, h1] at h
      intro i hi
      by_cases q : i = n
      · subst q; exact h
      · exact ih hp i (by omega)
    · rw [h2 _ _ hp] at h; exact absurd h hp
theorem own_all {c : Jvm.Cond} (ht : t.eval args s none [] s = some (.ref a)) (ha : s.arrayAt? a = some cl) (h : (Jvm.Cond.all t c).value args s none s [] = some true) : ∀ j, j < cl.slots.size → c.value args s none s [j] = some true := by
  intro j hj
  simp only [Cond.value, ht, ha] at h
  exact own_fold _ (fun i => c.value args s none s [i]) (fun _ => rfl) (fun x _ hx => by
    cases x with
    | none => rfl
    | some b => cases b <;> first | rfl | exact absurd rfl hx) cl.slots.size h j hj
theorem own_idxv {j : Nat} (hj : j < 2 ^ 31) : (j.toInt32).toInt = (j : Int) ∧ ¬ j.toInt32 < 0 ∧ j.toInt32.toNatClampNeg = j := by
  have h1 : (j.toInt32).toInt = (j : Int) := len_toInt hj
  refine ⟨h1, fun q => ?_, by show (j.toInt32).toInt.toNat = j; omega⟩
  have := Int32.lt_iff_toInt_lt.mp q; have : (0 : Int32).toInt = 0 := rfl; omega
theorem own_t_at {j : Nat} {u : Term} {k : Int32} {idx : List Nat} (ev : ∀ idx, t.eval args s none idx s = some (.ref a)) (ha : s.arrayAt? a = some cl) (hF : ∀ i, i < cl.slots.size → cl.slots[i]? = some (.int (F i))) (hu : u.eval args s none idx s = some (.int k)) (hk : k.toInt = (j : Int)) (hj : j < cl.slots.size) : (Term.elem t u).eval args s none idx s = some (.int (F j)) := by
  obtain ⟨h1, h2⟩ := own_idx (N := cl.slots.size) hk hj
  rw [elem_f (ev idx) hu ha (fun q => h1 (Or.inl q)), h2]; exact hF j hj
theorem own_tE {k : Int32} {i : Nat} (ev : ∀ idx, t.eval args s none idx s = some (.ref a)) (ha : s.arrayAt? a = some cl) (hF : ∀ i, i < cl.slots.size → cl.slots[i]? = some (.int (F i))) (h : (Jvm.Cond.eq (.elem t (.int k)) (.int v)).value args s none s [] = some true) (hk : k.toInt = (i : Int)) (hi : i < cl.slots.size) : ∀ j, j ≠ i ∨ F j = v := by
  intro j
  by_cases q : j = i
  · subst q; exact Or.inr (gotT (Cond.eq_ints (own_t_at ev ha hF rfl hk hi) rfl) h)
  · exact Or.inl q
theorem own_tA {x : Int32} (ev : ∀ idx, t.eval args s none idx s = some (.ref a)) (ha : s.arrayAt? a = some cl) (hsz : cl.slots.size < 2 ^ 31) (hF : ∀ i, i < cl.slots.size → cl.slots[i]? = some (.int (F i))) (h : (Jvm.Cond.all t (.or (.le (.int x) (.index 0)) (.eq (.elem t (.index 0)) (.int v)))).value args s none s [] = some true) : ∀ j, j < cl.slots.size → x.toInt ≤ (j : Int) ∨ F j = v := by
  intro j hj
  obtain ⟨q1, q2, q3⟩ := own_idxv (Nat.lt_trans hj hsz)
  have e1 : (Term.index 0).eval args s none [j] s = some (.int j.toInt32) := rfl
  rcases or_e2 (Cond.le_ints (s := s) rfl e1) (Cond.eq_ints (own_t_at ev ha hF e1 q1 hj) rfl) (own_all (ev []) ha h j hj) with q | q
  · have := Int32.le_iff_toInt_le.mp q; rw [q1] at this; exact Or.inl this
  · exact Or.inr q
theorem own_tC {x : Int32} (ev : ∀ idx, t.eval args s none idx s = some (.ref a)) (ha : s.arrayAt? a = some cl) (hsz : cl.slots.size < 2 ^ 31) (hF : ∀ i, i < cl.slots.size → cl.slots[i]? = some (.int (F i))) (h : (Jvm.Cond.all t (.or (.lt (.index 0) (.int x)) (.eq (.elem t (.index 0)) (.int v)))).value args s none s [] = some true) : ∀ j, j < cl.slots.size → (j : Int) < x.toInt ∨ F j = v := by
  intro j hj
  obtain ⟨q1, q2, q3⟩ := own_idxv (Nat.lt_trans hj hsz)
  have e1 : (Term.index 0).eval args s none [j] s = some (.int j.toInt32) := rfl
  rcases or_e2 (Cond.lt_ints (s := s) e1 rfl) (Cond.eq_ints (own_t_at ev ha hF e1 q1 hj) rfl) (own_all (ev []) ha h j hj) with q | q
  · have := Int32.lt_iff_toInt_lt.mp q; rw [q1] at this; exact Or.inl this
  · exact Or.inr q
theorem own_or2 {P R : Prop} [Decidable P] [Decidable R] {c d : Jvm.Cond} {idx : List Nat} (h1 : c.value args s none s idx = some (decide P)) (h2 : d.value args s none s idx = some (decide R)) : (Jvm.Cond.or c d).value args s none s idx = some (decide (P ∨ R)) := by
  by_cases p : P <;> by_cases r : R <;> simp [Cond.value, h1, h2, p, r]
theorem own_tB {x y : Int32} (ev : ∀ idx, t.eval args s none idx s = some (.ref a)) (ha : s.arrayAt? a = some cl) (hsz : cl.slots.size < 2 ^ 31) (hF : ∀ i, i < cl.slots.size → cl.slots[i]? = some (.int (F i))) (h : (Jvm.Cond.all t (.or (.lt (.index 0) (.int x)) (.or (.le (.int y) (.index 0)) (.eq (.elem t (.index 0)) (.int v))))).value args s none s [] = some true) : ∀ j, j < cl.slots.size → (j : Int) < x.toInt ∨ y.toInt ≤ (j : Int) ∨ F j = v := by
  intro j hj
  obtain ⟨q1, q2, q3⟩ := own_idxv (Nat.lt_trans hj hsz)
  have e1 : (Term.index 0).eval args s none [j] s = some (.int j.toInt32) := rfl
  rcases gotT (own_or2 (Cond.lt_ints (s := s) e1 rfl) (own_or2 (Cond.le_ints (s := s) rfl e1) (Cond.eq_ints (own_t_at ev ha hF e1 q1 hj) rfl))) (own_all (ev []) ha h j hj) with q | q | q
  · have := Int32.lt_iff_toInt_lt.mp q; rw [q1] at this; exact Or.inl this
  · have := Int32.le_iff_toInt_le.mp q; rw [q1] at this; exact Or.inr (Or.inl this)
  · exact Or.inr (Or.inr q)
theorem own_t_len {z : Int32} {n : Nat} (ht : t.eval args s none [] s = some (.ref a)) (ha : s.arrayAt? a = some cl) (h : (Jvm.Cond.eq (.length t) (.int z)).value args s none s [] = some true) (hz : z.toInt = (n : Int)) : cl.slots.size = n ∧ cl.slots.size < 2 ^ 31 := by
  by_cases hl : cl.slots.size < 2 ^ 31
  · have h1 := gotT (Cond.eq_ints (len_f ht ha hl) rfl) h
    have h2 := len_toInt hl
    rw [h1, hz] at h2
    exact ⟨by omega, hl⟩
  · have h3 : (Term.length t).eval args s none [] s = none := by simp [Term.eval, ht, ha, hl]
    simp [Cond.value, h3] at h
def own_atF (cl : Cell) (i : Nat) : Int32 := match cl.slots[i]? with | some (.int x) => x | _ => 0
theorem own_t_F {ty : FieldType} (hfit : Fit s) (A : Arr s s.heap a cl ty) (hty : ty = .int ∨ ty = .boolean ∨ ty = .byte ∨ ty = .char ∨ ty = .short) (hsz : cl.slots.size < 2 ^ 31) : ∀ i, i < cl.slots.size → cl.slots[i]? = some (.int (own_atF cl i)) := by
  intro i hi
  obtain ⟨q1, q2, q3⟩ := own_idxv (Nat.lt_trans hi hsz)
  obtain ⟨h1, h2⟩ := own_idx (N := cl.slots.size) q1 hi
  obtain ⟨w, hw, hf⟩ := elem_fit hfit A h1
  obtain ⟨x, rfl⟩ := fit_I hf hty
  rw [h2] at hw
  rw [hw, own_atF, hw]
end OwnT
theorem dK1_0 : decode jdk_52_method_21_code 0 = .ok (.iconst 0, 1) := by decide +kernel
theorem dK1_1 : decode jdk_52_method_21_code 1 = .ok (.istore 5, 2) := by decide +kernel
theorem dK1_3 : decode jdk_52_method_21_code 3 = .ok (.iload 5, 2) := by decide +kernel
theorem dK1_5 : decode jdk_52_method_21_code 5 = .ok (.iload 4, 2) := by decide +kernel
theorem dK1_7 : decode jdk_52_method_21_code 7 = .ok (.if_icmp .ge 37, 3) := by decide +kernel
theorem dK1_10 : decode jdk_52_method_21_code 10 = .ok (.aload_n 0, 1) := by decide +kernel
theorem dK1_11 : decode jdk_52_method_21_code 11 = .ok (.iload_n 1, 1) := by decide +kernel
theorem dK1_12 : decode jdk_52_method_21_code 12 = .ok (.caload, 1) := by decide +kernel
theorem dK1_13 : decode jdk_52_method_21_code 13 = .ok (.istore 6, 2) := by decide +kernel
theorem dK1_15 : decode jdk_52_method_21_code 15 = .ok (.iload 6, 2) := by decide +kernel
theorem dK1_17 : decode jdk_52_method_21_code 17 = .ok (.sipush 255, 3) := by decide +kernel
theorem dK1_20 : decode jdk_52_method_21_code 20 = .ok (.if_icmp .le 6, 3) := by decide +kernel
theorem dK1_26 : decode jdk_52_method_21_code 26 = .ok (.aload_n 2, 1) := by decide +kernel
theorem dK1_27 : decode jdk_52_method_21_code 27 = .ok (.iload_n 3, 1) := by decide +kernel
theorem dK1_28 : decode jdk_52_method_21_code 28 = .ok (.iload 6, 2) := by decide +kernel
theorem dK1_30 : decode jdk_52_method_21_code 30 = .ok (.i2b, 1) := by decide +kernel
theorem dK1_31 : decode jdk_52_method_21_code 31 = .ok (.bastore, 1) := by decide +kernel
theorem dK1_32 : decode jdk_52_method_21_code 32 = .ok (.iinc 1 1, 3) := by decide +kernel
theorem dK1_35 : decode jdk_52_method_21_code 35 = .ok (.iinc 3 1, 3) := by decide +kernel
theorem dK1_38 : decode jdk_52_method_21_code 38 = .ok (.iinc 5 1, 3) := by decide +kernel
theorem dK1_41 : decode jdk_52_method_21_code 41 = .ok (.goto (-38), 3) := by decide +kernel
theorem dK1_44 : decode jdk_52_method_21_code 44 = .ok (.iload 4, 2) := by decide +kernel
theorem dK1_46 : decode jdk_52_method_21_code 46 = .ok (.ireturn, 1) := by decide +kernel
def own_QK1 (Z : State) (a1 : Addr) (p1 : Int32) (a2 : Addr) (p2 : Int32) (p3 : Int32) (h0 : Heap) (n0 : Nat) : Option Value → Heap → List Loc → Prop := fun v h L => v = some (.int 1) ∧ Fr n0 L ∧ Keep h0 h [a2] ∧ ∃ g' : Nat → Int32, own_Arr Z h a2 .byte 1 (fun i => .int (g' i))
theorem own_pnK1 : plainFor (⟨"java/lang/StringUTF16", "compress", "([CI[BII)I"⟩ : MethodName) = true := plainFor_of_name (show plainName "java/lang/StringUTF16" = true by first | (simp [plainName, overriddenIn]; done) | decide +kernel)
theorem own_efK1 (m : MethodId) (a1 : Addr) (p1 : Int32) (a2 : Addr) (p2 : Int32) (p3 : Int32)  : entryFrame m #[(.ref a1), (.int p1), (.ref a2), (.int p2), (.int p3)] 7 = mkF m 0 #[.val (.ref a1), .val (.int p1), .val (.ref a2), .val (.int p2), .val (.int p3), .unset, .unset] [] := by first | (simp [entryFrame, mkF, argsToLocals, Value.category, maxLocals]; done) | rfl
set_option maxRecDepth 65536 in
set_option maxHeartbeats 40000000 in
theorem own_rmK1 (l : Launch) (Z : State) (a0 : Array Value) (hw : ∀ d ∈ tables_1, d.before a0 Z = true) (ws : List Jvm.Cond) (a1 : Addr) (p1 : Int32) (a2 : Addr) (p2 : Int32) (p3 : Int32) (f g : Nat → Int32) (h0 : Heap) (n0 : Nat) (hn0 : n0 ≤ h0.size) (ha : n0 ≤ a2) (hne : a1 ≠ a2) (AC : own_Arr Z h0 a1 .char 1 (fun i => .int (f i))) (hf : ∀ j, 0 ≤ (f j).toInt ∧ (f j).toInt ≤ 255) (AB : own_Arr Z h0 a2 .byte 1 (fun i => .int (g i))) (hp1 : p1 = 0) (hp2 : p2 = 0) (hp3 : p3 = 1) :
    MetFree l (⟨"java/lang/StringUTF16", "compress", "([CI[BII)I"⟩ : MethodName) (head1 (Jvm.Cond.code (⟨"java/lang/StringUTF16", "compress", "([CI[BII)I"⟩ : MethodName) jdk_52_method_21_code 7 (some .int) :: ws) ({ frames := 0, cells := 0, slots := 0, locals := 0 } : Room)) (fun a U => a = #[(.ref a1), (.int p1), (.ref a2), (.int p2), (.int p3)] ∧ Z.Warmed39 U.vm ∧ U.heap = h0) (fun _ _ _ _ _ => True) (fun _ U o U' => ∃ v L, o = .returned v ∧ (own_QK1 Z a1 p1 a2 p2 p3 h0 n0) v U'.heap L ∧ FrameEnd U o U' L ({ frames := 0, cells := 0, slots := 0, locals := 0 } : Room).cells ({ frames := 0, cells := 0, slots := 0, locals := 0 } : Room).slots) := by
  refine own_body (y := (⟨"java/lang/StringUTF16", "compress", "([CI[BII)I"⟩ : MethodName)) (Q := own_QK1 Z a1 p1 a2 p2 p3 h0 n0) (rm := ({ frames := 0, cells := 0, slots := 0, locals := 0 } : Room)) (as' := #[(.ref a1), (.int p1), (.ref a2), (.int p2), (.int p3)]) (h0 := h0) (Z := Z) own_pnK1 ?_
  intro p e s m below meth c s₁ hx hby hml hown hnm hret hlk hZ X0 e0
  have hown : s.vm.findClass "java/lang/StringUTF16" = some m.cls := hown
  rw [own_efK1]
  subst hp1 hp2 hp3
  refine own_iconst X0 hx (hb hby dK1_0) (v := (0 : Int32)) rfl (q := 1) rfl ?_
  refine own_istore X0 hx (hb hby dK1_1) (l' := #[.val (.ref a1), .val (.int (0 : Int32)), .val (.ref a2), .val (.int (0 : Int32)), .val (.int (1 : Int32)), .val (.int (0 : Int32)), .unset]) rfl (q := 3) rfl ?_
  refine own_iload X0 hx (hb hby dK1_3) rfl (q := 5) rfl ?_
  refine own_iload X0 hx (hb hby dK1_5) rfl (q := 7) rfl ?_
  refine own_icmp X0 hx (hb hby dK1_7) (by decide) (q := 44) rfl (q' := 10) rfl (own_h_ge _ _) (fun h7 => ?_) (fun h7 => ?_)
  · replace h7 : (1 : Int) ≤ (0 : Int) := h7
    exact absurd h7 (by decide)
  · replace h7 : ¬ ((1 : Int) ≤ (0 : Int)) := h7
    refine own_aload_n X0 hx (hb hby dK1_10) rfl rfl (q := 11) rfl ?_
    refine own_iload_n X0 hx (hb hby dK1_11) rfl (q := 12) rfl ?_
    refine own_caload X0 hx hZ e0 AC (hb hby dK1_12) (i := 0) rfl (by decide) (v := .int (f 0)) rfl (q := 13) rfl ?_
    refine own_istore X0 hx (hb hby dK1_13) (l' := #[.val (.ref a1), .val (.int (0 : Int32)), .val (.ref a2), .val (.int (0 : Int32)), .val (.int (1 : Int32)), .val (.int (0 : Int32)), .val (.int (f 0))]) rfl (q := 15) rfl ?_
    refine own_iload X0 hx (hb hby dK1_15) rfl (q := 17) rfl ?_
    refine own_sipush X0 hx (hb hby dK1_17) (v := (255 : Int32)) rfl (q := 20) rfl ?_
    refine own_icmp X0 hx (hb hby dK1_20) (by decide) (q := 26) rfl (q' := 23) rfl (own_h_le _ _) (fun h20 => ?_) (fun h20 => ?_)
    · replace h20 : (f 0).toInt ≤ (255 : Int) := h20
      refine own_aload_n X0 hx (hb hby dK1_26) rfl rfl (q := 27) rfl ?_
      refine own_iload_n X0 hx (hb hby dK1_27) rfl (q := 28) rfl ?_
      refine own_iload X0 hx (hb hby dK1_28) rfl (q := 30) rfl ?_
      refine own_i2b X0 hx (hb hby dK1_30) (q := 31) rfl ?_
      refine own_stB X0 hx hZ e0 AB (hb hby dK1_31) (i := 0) (rfl) (by decide) (Fr.nil n0) ha (q := 32) rfl ?_
      intro T1 h1_ L1 X1 N1 e1 A1 W1
      have K1 := Keep.of_wr W1
      have AC_1 := AC.keep K1 (ninS hne nin0)
      have KK1 := Keep.trans (Keep.refl h0 [a2]) K1 (allS (Or.inl (List.mem_of_getElem? (i := 0) rfl)) all0)
      have z1_ : h0.size ≤ h1_.size := Nat.le_trans (Nat.le_refl _) K1.1
      refine own_iinc X1 hx (hb hby dK1_32) (w := (1 : Int32)) rfl rfl (l' := #[.val (.ref a1), .val (.int (1 : Int32)), .val (.ref a2), .val (.int (0 : Int32)), .val (.int (1 : Int32)), .val (.int (0 : Int32)), .val (.int (f 0))]) rfl (q := 35) rfl ?_
      refine own_iinc X1 hx (hb hby dK1_35) (w := (1 : Int32)) rfl rfl (l' := #[.val (.ref a1), .val (.int (1 : Int32)), .val (.ref a2), .val (.int (1 : Int32)), .val (.int (1 : Int32)), .val (.int (0 : Int32)), .val (.int (f 0))]) rfl (q := 38) rfl ?_
      refine own_iinc X1 hx (hb hby dK1_38) (w := (1 : Int32)) rfl rfl (l' := #[.val (.ref a1), .val (.int (1 : Int32)), .val (.ref a2), .val (.int (1 : Int32)), .val (.int (1 : Int32)), .val (.int (1 : Int32)), .val (.int (f 0))]) rfl (q := 41) rfl ?_
      refine own_goto X1 hx (hb hby dK1_41) (by decide) (q := 3) rfl ?_
      refine own_iload X1 hx (hb hby dK1_3) rfl (q := 5) rfl ?_
      refine own_iload X1 hx (hb hby dK1_5) rfl (q := 7) rfl ?_
      refine own_icmp X1 hx (hb hby dK1_7) (by decide) (q := 44) rfl (q' := 10) rfl (own_h_ge _ _) (fun h7 => ?_) (fun h7 => ?_)
      · replace h7 : (1 : Int) ≤ (1 : Int) := h7
        refine own_iload X1 hx (hb hby dK1_44) rfl (q := 46) rfl ?_
        exact own_retI X1 hx hret hlk (hb hby dK1_46) (by decide) (by decide) (by rw [e1]; unfold own_QK1; exact ⟨rfl, N1, KK1, _, A1⟩)
      · replace h7 : ¬ ((1 : Int) ≤ (1 : Int)) := h7
        exact absurd h7 (by decide)
    · replace h20 : ¬ ((f 0).toInt ≤ (255 : Int)) := h20
      exfalso; exact h20 (hf _).2
theorem dK2_0 : decode jdk_52_method_21_code 0 = .ok (.iconst 0, 1) := by decide +kernel
theorem dK2_1 : decode jdk_52_method_21_code 1 = .ok (.istore 5, 2) := by decide +kernel
theorem dK2_3 : decode jdk_52_method_21_code 3 = .ok (.iload 5, 2) := by decide +kernel
theorem dK2_5 : decode jdk_52_method_21_code 5 = .ok (.iload 4, 2) := by decide +kernel
theorem dK2_7 : decode jdk_52_method_21_code 7 = .ok (.if_icmp .ge 37, 3) := by decide +kernel
theorem dK2_10 : decode jdk_52_method_21_code 10 = .ok (.aload_n 0, 1) := by decide +kernel
theorem dK2_11 : decode jdk_52_method_21_code 11 = .ok (.iload_n 1, 1) := by decide +kernel
theorem dK2_12 : decode jdk_52_method_21_code 12 = .ok (.caload, 1) := by decide +kernel
theorem dK2_13 : decode jdk_52_method_21_code 13 = .ok (.istore 6, 2) := by decide +kernel
theorem dK2_15 : decode jdk_52_method_21_code 15 = .ok (.iload 6, 2) := by decide +kernel
theorem dK2_17 : decode jdk_52_method_21_code 17 = .ok (.sipush 255, 3) := by decide +kernel
theorem dK2_20 : decode jdk_52_method_21_code 20 = .ok (.if_icmp .le 6, 3) := by decide +kernel
theorem dK2_26 : decode jdk_52_method_21_code 26 = .ok (.aload_n 2, 1) := by decide +kernel
theorem dK2_27 : decode jdk_52_method_21_code 27 = .ok (.iload_n 3, 1) := by decide +kernel
theorem dK2_28 : decode jdk_52_method_21_code 28 = .ok (.iload 6, 2) := by decide +kernel
theorem dK2_30 : decode jdk_52_method_21_code 30 = .ok (.i2b, 1) := by decide +kernel
theorem dK2_31 : decode jdk_52_method_21_code 31 = .ok (.bastore, 1) := by decide +kernel
theorem dK2_32 : decode jdk_52_method_21_code 32 = .ok (.iinc 1 1, 3) := by decide +kernel
theorem dK2_35 : decode jdk_52_method_21_code 35 = .ok (.iinc 3 1, 3) := by decide +kernel
theorem dK2_38 : decode jdk_52_method_21_code 38 = .ok (.iinc 5 1, 3) := by decide +kernel
theorem dK2_41 : decode jdk_52_method_21_code 41 = .ok (.goto (-38), 3) := by decide +kernel
theorem dK2_44 : decode jdk_52_method_21_code 44 = .ok (.iload 4, 2) := by decide +kernel
theorem dK2_46 : decode jdk_52_method_21_code 46 = .ok (.ireturn, 1) := by decide +kernel
def own_QK2 (Z : State) (a1 : Addr) (p1 : Int32) (a2 : Addr) (p2 : Int32) (p3 : Int32) (h0 : Heap) (n0 : Nat) : Option Value → Heap → List Loc → Prop := fun v h L => v = some (.int 2) ∧ Fr n0 L ∧ Keep h0 h [a2] ∧ ∃ g' : Nat → Int32, own_Arr Z h a2 .byte 2 (fun i => .int (g' i))
theorem own_pnK2 : plainFor (⟨"java/lang/StringUTF16", "compress", "([CI[BII)I"⟩ : MethodName) = true := plainFor_of_name (show plainName "java/lang/StringUTF16" = true by first | (simp [plainName, overriddenIn]; done) | decide +kernel)
theorem own_efK2 (m : MethodId) (a1 : Addr) (p1 : Int32) (a2 : Addr) (p2 : Int32) (p3 : Int32)  : entryFrame m #[(.ref a1), (.int p1), (.ref a2), (.int p2), (.int p3)] 7 = mkF m 0 #[.val (.ref a1), .val (.int p1), .val (.ref a2), .val (.int p2), .val (.int p3), .unset, .unset] [] := by first | (simp [entryFrame, mkF, argsToLocals, Value.category, maxLocals]; done) | rfl
set_option maxRecDepth 65536 in
set_option maxHeartbeats 40000000 in
theorem own_rmK2 (l : Launch) (Z : State) (a0 : Array Value) (hw : ∀ d ∈ tables_1, d.before a0 Z = true) (ws : List Jvm.Cond) (a1 : Addr) (p1 : Int32) (a2 : Addr) (p2 : Int32) (p3 : Int32) (f g : Nat → Int32) (h0 : Heap) (n0 : Nat) (hn0 : n0 ≤ h0.size) (ha : n0 ≤ a2) (hne : a1 ≠ a2) (AC : own_Arr Z h0 a1 .char 2 (fun i => .int (f i))) (hf : ∀ j, 0 ≤ (f j).toInt ∧ (f j).toInt ≤ 255) (AB : own_Arr Z h0 a2 .byte 2 (fun i => .int (g i))) (hp1 : p1 = 0) (hp2 : p2 = 0) (hp3 : p3 = 2) :
    MetFree l (⟨"java/lang/StringUTF16", "compress", "([CI[BII)I"⟩ : MethodName) (head1 (Jvm.Cond.code (⟨"java/lang/StringUTF16", "compress", "([CI[BII)I"⟩ : MethodName) jdk_52_method_21_code 7 (some .int) :: ws) ({ frames := 0, cells := 0, slots := 0, locals := 0 } : Room)) (fun a U => a = #[(.ref a1), (.int p1), (.ref a2), (.int p2), (.int p3)] ∧ Z.Warmed39 U.vm ∧ U.heap = h0) (fun _ _ _ _ _ => True) (fun _ U o U' => ∃ v L, o = .returned v ∧ (own_QK2 Z a1 p1 a2 p2 p3 h0 n0) v U'.heap L ∧ FrameEnd U o U' L ({ frames := 0, cells := 0, slots := 0, locals := 0 } : Room).cells ({ frames := 0, cells := 0, slots := 0, locals := 0 } : Room).slots) := by
  refine own_body (y := (⟨"java/lang/StringUTF16", "compress", "([CI[BII)I"⟩ : MethodName)) (Q := own_QK2 Z a1 p1 a2 p2 p3 h0 n0) (rm := ({ frames := 0, cells := 0, slots := 0, locals := 0 } : Room)) (as' := #[(.ref a1), (.int p1), (.ref a2), (.int p2), (.int p3)]) (h0 := h0) (Z := Z) own_pnK2 ?_
  intro p e s m below meth c s₁ hx hby hml hown hnm hret hlk hZ X0 e0
  have hown : s.vm.findClass "java/lang/StringUTF16" = some m.cls := hown
  rw [own_efK2]
  subst hp1 hp2 hp3
  refine own_iconst X0 hx (hb hby dK2_0) (v := (0 : Int32)) rfl (q := 1) rfl ?_
  refine own_istore X0 hx (hb hby dK2_1) (l' := #[.val (.ref a1), .val (.int (0 : Int32)), .val (.ref a2), .val (.int (0 : Int32)), .val (.int (2 : Int32)), .val (.int (0 : Int32)), .unset]) rfl (q := 3) rfl ?_
  refine own_iload X0 hx (hb hby dK2_3) rfl (q := 5) rfl ?_
  refine own_iload X0 hx (hb hby dK2_5) rfl (q := 7) rfl ?_
  refine own_icmp X0 hx (hb hby dK2_7) (by decide) (q := 44) rfl (q' := 10) rfl (own_h_ge _ _) (fun h7 => ?_) (fun h7 => ?_)
  · replace h7 : (2 : Int) ≤ (0 : Int) := h7
    exact absurd h7 (by decide)
  · replace h7 : ¬ ((2 : Int) ≤ (0 : Int)) := h7
    refine own_aload_n X0 hx (hb hby dK2_10) rfl rfl (q := 11) rfl ?_
    refine own_iload_n X0 hx (hb hby dK2_11) rfl (q := 12) rfl ?_
    refine own_caload X0 hx hZ e0 AC (hb hby dK2_12) (i := 0) rfl (by decide) (v := .int (f 0)) rfl (q := 13) rfl ?_
    refine own_istore X0 hx (hb hby dK2_13) (l' := #[.val (.ref a1), .val (.int (0 : Int32)), .val (.ref a2), .val (.int (0 : Int32)), .val (.int (2 : Int32)), .val (.int (0 : Int32)), .val (.int (f 0))]) rfl (q := 15) rfl ?_
    refine own_iload X0 hx (hb hby dK2_15) rfl (q := 17) rfl ?_
    refine own_sipush X0 hx (hb hby dK2_17) (v := (255 : Int32)) rfl (q := 20) rfl ?_
    refine own_icmp X0 hx (hb hby dK2_20) (by decide) (q := 26) rfl (q' := 23) rfl (own_h_le _ _) (fun h20 => ?_) (fun h20 => ?_)
    · replace h20 : (f 0).toInt ≤ (255 : Int) := h20
      refine own_aload_n X0 hx (hb hby dK2_26) rfl rfl (q := 27) rfl ?_
      refine own_iload_n X0 hx (hb hby dK2_27) rfl (q := 28) rfl ?_
      refine own_iload X0 hx (hb hby dK2_28) rfl (q := 30) rfl ?_
      refine own_i2b X0 hx (hb hby dK2_30) (q := 31) rfl ?_
      refine own_stB X0 hx hZ e0 AB (hb hby dK2_31) (i := 0) (rfl) (by decide) (Fr.nil n0) ha (q := 32) rfl ?_
      intro T1 h1_ L1 X1 N1 e1 A1 W1
      have K1 := Keep.of_wr W1
      have AC_1 := AC.keep K1 (ninS hne nin0)
      have KK1 := Keep.trans (Keep.refl h0 [a2]) K1 (allS (Or.inl (List.mem_of_getElem? (i := 0) rfl)) all0)
      have z1_ : h0.size ≤ h1_.size := Nat.le_trans (Nat.le_refl _) K1.1
      refine own_iinc X1 hx (hb hby dK2_32) (w := (1 : Int32)) rfl rfl (l' := #[.val (.ref a1), .val (.int (1 : Int32)), .val (.ref a2), .val (.int (0 : Int32)), .val (.int (2 : Int32)), .val (.int (0 : Int32)), .val (.int (f 0))]) rfl (q := 35) rfl ?_
      refine own_iinc X1 hx (hb hby dK2_35) (w := (1 : Int32)) rfl rfl (l' := #[.val (.ref a1), .val (.int (1 : Int32)), .val (.ref a2), .val (.int (1 : Int32)), .val (.int (2 : Int32)), .val (.int (0 : Int32)), .val (.int (f 0))]) rfl (q := 38) rfl ?_
      refine own_iinc X1 hx (hb hby dK2_38) (w := (1 : Int32)) rfl rfl (l' := #[.val (.ref a1), .val (.int (1 : Int32)), .val (.ref a2), .val (.int (1 : Int32)), .val (.int (2 : Int32)), .val (.int (1 : Int32)), .val (.int (f 0))]) rfl (q := 41) rfl ?_
      refine own_goto X1 hx (hb hby dK2_41) (by decide) (q := 3) rfl ?_
      refine own_iload X1 hx (hb hby dK2_3) rfl (q := 5) rfl ?_
      refine own_iload X1 hx (hb hby dK2_5) rfl (q := 7) rfl ?_
      refine own_icmp X1 hx (hb hby dK2_7) (by decide) (q := 44) rfl (q' := 10) rfl (own_h_ge _ _) (fun h7 => ?_) (fun h7 => ?_)
      · replace h7 : (2 : Int) ≤ (1 : Int) := h7
        exact absurd h7 (by decide)
      · replace h7 : ¬ ((2 : Int) ≤ (1 : Int)) := h7
        refine own_aload_n X1 hx (hb hby dK2_10) rfl rfl (q := 11) rfl ?_
        refine own_iload_n X1 hx (hb hby dK2_11) rfl (q := 12) rfl ?_
        refine own_caload X1 hx hZ e1 AC_1 (hb hby dK2_12) (i := 1) rfl (by decide) (v := .int (f 1)) rfl (q := 13) rfl ?_
        refine own_istore X1 hx (hb hby dK2_13) (l' := #[.val (.ref a1), .val (.int (1 : Int32)), .val (.ref a2), .val (.int (1 : Int32)), .val (.int (2 : Int32)), .val (.int (1 : Int32)), .val (.int (f 1))]) rfl (q := 15) rfl ?_
        refine own_iload X1 hx (hb hby dK2_15) rfl (q := 17) rfl ?_
        refine own_sipush X1 hx (hb hby dK2_17) (v := (255 : Int32)) rfl (q := 20) rfl ?_
        refine own_icmp X1 hx (hb hby dK2_20) (by decide) (q := 26) rfl (q' := 23) rfl (own_h_le _ _) (fun h20 => ?_) (fun h20 => ?_)
        · replace h20 : (f 1).toInt ≤ (255 : Int) := h20
          refine own_aload_n X1 hx (hb hby dK2_26) rfl rfl (q := 27) rfl ?_
          refine own_iload_n X1 hx (hb hby dK2_27) rfl (q := 28) rfl ?_
          refine own_iload X1 hx (hb hby dK2_28) rfl (q := 30) rfl ?_
          refine own_i2b X1 hx (hb hby dK2_30) (q := 31) rfl ?_
          refine own_stB X1 hx hZ e1 A1 (hb hby dK2_31) (i := 1) (rfl) (by decide) N1 ha (q := 32) rfl ?_
          intro T2 h2_ L2 X2 N2 e2 A2 W2
          have K2 := Keep.of_wr W2
          have AC_2 := AC_1.keep K2 (ninS hne nin0)
          have KK2 := Keep.trans KK1 K2 (allS (Or.inl (List.mem_of_getElem? (i := 0) rfl)) all0)
          have z2_ : h0.size ≤ h2_.size := Nat.le_trans z1_ K2.1
          refine own_iinc X2 hx (hb hby dK2_32) (w := (2 : Int32)) rfl rfl (l' := #[.val (.ref a1), .val (.int (2 : Int32)), .val (.ref a2), .val (.int (1 : Int32)), .val (.int (2 : Int32)), .val (.int (1 : Int32)), .val (.int (f 1))]) rfl (q := 35) rfl ?_
          refine own_iinc X2 hx (hb hby dK2_35) (w := (2 : Int32)) rfl rfl (l' := #[.val (.ref a1), .val (.int (2 : Int32)), .val (.ref a2), .val (.int (2 : Int32)), .val (.int (2 : Int32)), .val (.int (1 : Int32)), .val (.int (f 1))]) rfl (q := 38) rfl ?_
          refine own_iinc X2 hx (hb hby dK2_38) (w := (2 : Int32)) rfl rfl (l' := #[.val (.ref a1), .val (.int (2 : Int32)), .val (.ref a2), .val (.int (2 : Int32)), .val (.int (2 : Int32)), .val (.int (2 : Int32)), .val (.int (f 1))]) rfl (q := 41) rfl ?_
          refine own_goto X2 hx (hb hby dK2_41) (by decide) (q := 3) rfl ?_
          refine own_iload X2 hx (hb hby dK2_3) rfl (q := 5) rfl ?_
          refine own_iload X2 hx (hb hby dK2_5) rfl (q := 7) rfl ?_
          refine own_icmp X2 hx (hb hby dK2_7) (by decide) (q := 44) rfl (q' := 10) rfl (own_h_ge _ _) (fun h7 => ?_) (fun h7 => ?_)
          · replace h7 : (2 : Int) ≤ (2 : Int) := h7
            refine own_iload X2 hx (hb hby dK2_44) rfl (q := 46) rfl ?_
            exact own_retI X2 hx hret hlk (hb hby dK2_46) (by decide) (by decide) (by rw [e2]; unfold own_QK2; exact ⟨rfl, N2, KK2, _, A2⟩)
          · replace h7 : ¬ ((2 : Int) ≤ (2 : Int)) := h7
            exact absurd h7 (by decide)
        · replace h20 : ¬ ((f 1).toInt ≤ (255 : Int)) := h20
          exfalso; exact h20 (hf _).2
    · replace h20 : ¬ ((f 0).toInt ≤ (255 : Int)) := h20
      exfalso; exact h20 (hf _).2
theorem dK3_0 : decode jdk_52_method_21_code 0 = .ok (.iconst 0, 1) := by decide +kernel
theorem dK3_1 : decode jdk_52_method_21_code 1 = .ok (.istore 5, 2) := by decide +kernel
theorem dK3_3 : decode jdk_52_method_21_code 3 = .ok (.iload 5, 2) := by decide +kernel
theorem dK3_5 : decode jdk_52_method_21_code 5 = .ok (.iload 4, 2) := by decide +kernel
theorem dK3_7 : decode jdk_52_method_21_code 7 = .ok (.if_icmp .ge 37, 3) := by decide +kernel
theorem dK3_10 : decode jdk_52_method_21_code 10 = .ok (.aload_n 0, 1) := by decide +kernel
theorem dK3_11 : decode jdk_52_method_21_code 11 = .ok (.iload_n 1, 1) := by decide +kernel
theorem dK3_12 : decode jdk_52_method_21_code 12 = .ok (.caload, 1) := by decide +kernel
theorem dK3_13 : decode jdk_52_method_21_code 13 = .ok (.istore 6, 2) := by decide +kernel
theorem dK3_15 : decode jdk_52_method_21_code 15 = .ok (.iload 6, 2) := by decide +kernel
theorem dK3_17 : decode jdk_52_method_21_code 17 = .ok (.sipush 255, 3) := by decide +kernel
theorem dK3_20 : decode jdk_52_method_21_code 20 = .ok (.if_icmp .le 6, 3) := by decide +kernel
theorem dK3_26 : decode jdk_52_method_21_code 26 = .ok (.aload_n 2, 1) := by decide +kernel
theorem dK3_27 : decode jdk_52_method_21_code 27 = .ok (.iload_n 3, 1) := by decide +kernel
theorem dK3_28 : decode jdk_52_method_21_code 28 = .ok (.iload 6, 2) := by decide +kernel
theorem dK3_30 : decode jdk_52_method_21_code 30 = .ok (.i2b, 1) := by decide +kernel
theorem dK3_31 : decode jdk_52_method_21_code 31 = .ok (.bastore, 1) := by decide +kernel
theorem dK3_32 : decode jdk_52_method_21_code 32 = .ok (.iinc 1 1, 3) := by decide +kernel
theorem dK3_35 : decode jdk_52_method_21_code 35 = .ok (.iinc 3 1, 3) := by decide +kernel
theorem dK3_38 : decode jdk_52_method_21_code 38 = .ok (.iinc 5 1, 3) := by decide +kernel
theorem dK3_41 : decode jdk_52_method_21_code 41 = .ok (.goto (-38), 3) := by decide +kernel
theorem dK3_44 : decode jdk_52_method_21_code 44 = .ok (.iload 4, 2) := by decide +kernel
theorem dK3_46 : decode jdk_52_method_21_code 46 = .ok (.ireturn, 1) := by decide +kernel
def own_QK3 (Z : State) (a1 : Addr) (p1 : Int32) (a2 : Addr) (p2 : Int32) (p3 : Int32) (h0 : Heap) (n0 : Nat) : Option Value → Heap → List Loc → Prop := fun v h L => v = some (.int 3) ∧ Fr n0 L ∧ Keep h0 h [a2] ∧ ∃ g' : Nat → Int32, own_Arr Z h a2 .byte 3 (fun i => .int (g' i))
theorem own_pnK3 : plainFor (⟨"java/lang/StringUTF16", "compress", "([CI[BII)I"⟩ : MethodName) = true := plainFor_of_name (show plainName "java/lang/StringUTF16" = true by first | (simp [plainName, overriddenIn]; done) | decide +kernel)
theorem own_efK3 (m : MethodId) (a1 : Addr) (p1 : Int32) (a2 : Addr) (p2 : Int32) (p3 : Int32)  : entryFrame m #[(.ref a1), (.int p1), (.ref a2), (.int p2), (.int p3)] 7 = mkF m 0 #[.val (.ref a1), .val (.int p1), .val (.ref a2), .val (.int p2), .val (.int p3), .unset, .unset] [] := by first | (simp [entryFrame, mkF, argsToLocals, Value.category, maxLocals]; done) | rfl
set_option maxRecDepth 65536 in
set_option maxHeartbeats 40000000 in
theorem own_rmK3 (l : Launch) (Z : State) (a0 : Array Value) (hw : ∀ d ∈ tables_1, d.before a0 Z = true) (ws : List Jvm.Cond) (a1 : Addr) (p1 : Int32) (a2 : Addr) (p2 : Int32) (p3 : Int32) (f g : Nat → Int32) (h0 : Heap) (n0 : Nat) (hn0 : n0 ≤ h0.size) (ha : n0 ≤ a2) (hne : a1 ≠ a2) (AC : own_Arr Z h0 a1 .char 3 (fun i => .int (f i))) (hf : ∀ j, 0 ≤ (f j).toInt ∧ (f j).toInt ≤ 255) (AB : own_Arr Z h0 a2 .byte 3 (fun i => .int (g i))) (hp1 : p1 = 0) (hp2 : p2 = 0) (hp3 : p3 = 3) :
    MetFree l (⟨"java/lang/StringUTF16", "compress", "([CI[BII)I"⟩ : MethodName) (head1 (Jvm.Cond.code (⟨"java/lang/StringUTF16", "compress", "([CI[BII)I"⟩ : MethodName) jdk_52_method_21_code 7 (some .int) :: ws) ({ frames := 0, cells := 0, slots := 0, locals := 0 } : Room)) (fun a U => a = #[(.ref a1), (.int p1), (.ref a2), (.int p2), (.int p3)] ∧ Z.Warmed39 U.vm ∧ U.heap = h0) (fun _ _ _ _ _ => True) (fun _ U o U' => ∃ v L, o = .returned v ∧ (own_QK3 Z a1 p1 a2 p2 p3 h0 n0) v U'.heap L ∧ FrameEnd U o U' L ({ frames := 0, cells := 0, slots := 0, locals := 0 } : Room).cells ({ frames := 0, cells := 0, slots := 0, locals := 0 } : Room).slots) := by
  refine own_body (y := (⟨"java/lang/StringUTF16", "compress", "([CI[BII)I"⟩ : MethodName)) (Q := own_QK3 Z a1 p1 a2 p2 p3 h0 n0) (rm := ({ frames := 0, cells := 0, slots := 0, locals := 0 } : Room)) (as' := #[(.ref a1), (.int p1), (.ref a2), (.int p2), (.int p3)]) (h0 := h0) (Z := Z) own_pnK3 ?_
  intro p e s m below meth c s₁ hx hby hml hown hnm hret hlk hZ X0 e0
  have hown : s.vm.findClass "java/lang/StringUTF16" = some m.cls := hown
  rw [own_efK3]
  subst hp1 hp2 hp3
  refine own_iconst X0 hx (hb hby dK3_0) (v := (0 : Int32)) rfl (q := 1) rfl ?_
  refine own_istore X0 hx (hb hby dK3_1) (l' := #[.val (.ref a1), .val (.int (0 : Int32)), .val (.ref a2), .val (.int (0 : Int32)), .val (.int (3 : Int32)), .val (.int (0 : Int32)), .unset]) rfl (q := 3) rfl ?_
  refine own_iload X0 hx (hb hby dK3_3) rfl (q := 5) rfl ?_
  refine own_iload X0 hx (hb hby dK3_5) rfl (q := 7) rfl ?_
  refine own_icmp X0 hx (hb hby dK3_7) (by decide) (q := 44) rfl (q' := 10) rfl (own_h_ge _ _) (fun h7 => ?_) (fun h7 => ?_)
  · replace h7 : (3 : Int) ≤ (0 : Int) := h7
    exact absurd h7 (by decide)
  · replace h7 : ¬ ((3 : Int) ≤ (0 : Int)) := h7
    refine own_aload_n X0 hx (hb hby dK3_10) rfl rfl (q := 11) rfl ?_
    refine own_iload_n X0 hx (hb hby dK3_11) rfl (q := 12) rfl ?_
    refine own_caload X0 hx hZ e0 AC (hb hby dK3_12) (i := 0) rfl (by decide) (v := .int (f 0)) rfl (q := 13) rfl ?_
    refine own_istore X0 hx (hb hby dK3_13) (l' := #[.val (.ref a1), .val (.int (0 : Int32)), .val (.ref a2), .val (.int (0 : Int32)), .val (.int (3 : Int32)), .val (.int (0 : Int32)), .val (.int (f 0))]) rfl (q := 15) rfl ?_
    refine own_iload X0 hx (hb hby dK3_15) rfl (q := 17) rfl ?_
    refine own_sipush X0 hx (hb hby dK3_17) (v := (255 : Int32)) rfl (q := 20) rfl ?_
    refine own_icmp X0 hx (hb hby dK3_20) (by decide) (q := 26) rfl (q' := 23) rfl (own_h_le _ _) (fun h20 => ?_) (fun h20 => ?_)
    · replace h20 : (f 0).toInt ≤ (255 : Int) := h20
      refine own_aload_n X0 hx (hb hby dK3_26) rfl rfl (q := 27) rfl ?_
      refine own_iload_n X0 hx (hb hby dK3_27) rfl (q := 28) rfl ?_
      refine own_iload X0 hx (hb hby dK3_28) rfl (q := 30) rfl ?_
      refine own_i2b X0 hx (hb hby dK3_30) (q := 31) rfl ?_
      refine own_stB X0 hx hZ e0 AB (hb hby dK3_31) (i := 0) (rfl) (by decide) (Fr.nil n0) ha (q := 32) rfl ?_
      intro T1 h1_ L1 X1 N1 e1 A1 W1
      have K1 := Keep.of_wr W1
      have AC_1 := AC.keep K1 (ninS hne nin0)
      have KK1 := Keep.trans (Keep.refl h0 [a2]) K1 (allS (Or.inl (List.mem_of_getElem? (i := 0) rfl)) all0)
      have z1_ : h0.size ≤ h1_.size := Nat.le_trans (Nat.le_refl _) K1.1
      refine own_iinc X1 hx (hb hby dK3_32) (w := (1 : Int32)) rfl rfl (l' := #[.val (.ref a1), .val (.int (1 : Int32)), .val (.ref a2), .val (.int (0 : Int32)), .val (.int (3 : Int32)), .val (.int (0 : Int32)), .val (.int (f 0))]) rfl (q := 35) rfl ?_
      refine own_iinc X1 hx (hb hby dK3_35) (w := (1 : Int32)) rfl rfl (l' := #[.val (.ref a1), .val (.int (1 : Int32)), .val (.ref a2), .val (.int (1 : Int32)), .val (.int (3 : Int32)), .val (.int (0 : Int32)), .val (.int (f 0))]) rfl (q := 38) rfl ?_
      refine own_iinc X1 hx (hb hby dK3_38) (w := (1 : Int32)) rfl rfl (l' := #[.val (.ref a1), .val (.int (1 : Int32)), .val (.ref a2), .val (.int (1 : Int32)), .val (.int (3 : Int32)), .val (.int (1 : Int32)), .val (.int (f 0))]) rfl (q := 41) rfl ?_
      refine own_goto X1 hx (hb hby dK3_41) (by decide) (q := 3) rfl ?_
      refine own_iload X1 hx (hb hby dK3_3) rfl (q := 5) rfl ?_
      refine own_iload X1 hx (hb hby dK3_5) rfl (q := 7) rfl ?_
      refine own_icmp X1 hx (hb hby dK3_7) (by decide) (q := 44) rfl (q' := 10) rfl (own_h_ge _ _) (fun h7 => ?_) (fun h7 => ?_)
      · replace h7 : (3 : Int) ≤ (1 : Int) := h7
        exact absurd h7 (by decide)
      · replace h7 : ¬ ((3 : Int) ≤ (1 : Int)) := h7
        refine own_aload_n X1 hx (hb hby dK3_10) rfl rfl (q := 11) rfl ?_
        refine own_iload_n X1 hx (hb hby dK3_11) rfl (q := 12) rfl ?_
        refine own_caload X1 hx hZ e1 AC_1 (hb hby dK3_12) (i := 1) rfl (by decide) (v := .int (f 1)) rfl (q := 13) rfl ?_
        refine own_istore X1 hx (hb hby dK3_13) (l' := #[.val (.ref a1), .val (.int (1 : Int32)), .val (.ref a2), .val (.int (1 : Int32)), .val (.int (3 : Int32)), .val (.int (1 : Int32)), .val (.int (f 1))]) rfl (q := 15) rfl ?_
        refine own_iload X1 hx (hb hby dK3_15) rfl (q := 17) rfl ?_
        refine own_sipush X1 hx (hb hby dK3_17) (v := (255 : Int32)) rfl (q := 20) rfl ?_
        refine own_icmp X1 hx (hb hby dK3_20) (by decide) (q := 26) rfl (q' := 23) rfl (own_h_le _ _) (fun h20 => ?_) (fun h20 => ?_)
        · replace h20 : (f 1).toInt ≤ (255 : Int) := h20
          refine own_aload_n X1 hx (hb hby dK3_26) rfl rfl (q := 27) rfl ?_
          refine own_iload_n X1 hx (hb hby dK3_27) rfl (q := 28) rfl ?_
          refine own_iload X1 hx (hb hby dK3_28) rfl (q := 30) rfl ?_
          refine own_i2b X1 hx (hb hby dK3_30) (q := 31) rfl ?_
          refine own_stB X1 hx hZ e1 A1 (hb hby dK3_31) (i := 1) (rfl) (by decide) N1 ha (q := 32) rfl ?_
          intro T2 h2_ L2 X2 N2 e2 A2 W2
          have K2 := Keep.of_wr W2
          have AC_2 := AC_1.keep K2 (ninS hne nin0)
          have KK2 := Keep.trans KK1 K2 (allS (Or.inl (List.mem_of_getElem? (i := 0) rfl)) all0)
          have z2_ : h0.size ≤ h2_.size := Nat.le_trans z1_ K2.1
          refine own_iinc X2 hx (hb hby dK3_32) (w := (2 : Int32)) rfl rfl (l' := #[.val (.ref a1), .val (.int (2 : Int32)), .val (.ref a2), .val (.int (1 : Int32)), .val (.int (3 : Int32)), .val (.int (1 : Int32)), .val (.int (f 1))]) rfl (q := 35) rfl ?_
          refine own_iinc X2 hx (hb hby dK3_35) (w := (2 : Int32)) rfl rfl (l' := #[.val (.ref a1), .val (.int (2 : Int32)), .val (.ref a2), .val (.int (2 : Int32)), .val (.int (3 : Int32)), .val (.int (1 : Int32)), .val (.int (f 1))]) rfl (q := 38) rfl ?_
          refine own_iinc X2 hx (hb hby dK3_38) (w := (2 : Int32)) rfl rfl (l' := #[.val (.ref a1), .val (.int (2 : Int32)), .val (.ref a2), .val (.int (2 : Int32)), .val (.int (3 : Int32)), .val (.int (2 : Int32)), .val (.int (f 1))]) rfl (q := 41) rfl ?_
          refine own_goto X2 hx (hb hby dK3_41) (by decide) (q := 3) rfl ?_
          refine own_iload X2 hx (hb hby dK3_3) rfl (q := 5) rfl ?_
          refine own_iload X2 hx (hb hby dK3_5) rfl (q := 7) rfl ?_
          refine own_icmp X2 hx (hb hby dK3_7) (by decide) (q := 44) rfl (q' := 10) rfl (own_h_ge _ _) (fun h7 => ?_) (fun h7 => ?_)
          · replace h7 : (3 : Int) ≤ (2 : Int) := h7
            exact absurd h7 (by decide)
          · replace h7 : ¬ ((3 : Int) ≤ (2 : Int)) := h7
            refine own_aload_n X2 hx (hb hby dK3_10) rfl rfl (q := 11) rfl ?_
            refine own_iload_n X2 hx (hb hby dK3_11) rfl (q := 12) rfl ?_
            refine own_caload X2 hx hZ e2 AC_2 (hb hby dK3_12) (i := 2) rfl (by decide) (v := .int (f 2)) rfl (q := 13) rfl ?_
            refine own_istore X2 hx (hb hby dK3_13) (l' := #[.val (.ref a1), .val (.int (2 : Int32)), .val (.ref a2), .val (.int (2 : Int32)), .val (.int (3 : Int32)), .val (.int (2 : Int32)), .val (.int (f 2))]) rfl (q := 15) rfl ?_
            refine own_iload X2 hx (hb hby dK3_15) rfl (q := 17) rfl ?_
            refine own_sipush X2 hx (hb hby dK3_17) (v := (255 : Int32)) rfl (q := 20) rfl ?_
            refine own_icmp X2 hx (hb hby dK3_20) (by decide) (q := 26) rfl (q' := 23) rfl (own_h_le _ _) (fun h20 => ?_) (fun h20 => ?_)
            · replace h20 : (f 2).toInt ≤ (255 : Int) := h20
              refine own_aload_n X2 hx (hb hby dK3_26) rfl rfl (q := 27) rfl ?_
              refine own_iload_n X2 hx (hb hby dK3_27) rfl (q := 28) rfl ?_
              refine own_iload X2 hx (hb hby dK3_28) rfl (q := 30) rfl ?_
              refine own_i2b X2 hx (hb hby dK3_30) (q := 31) rfl ?_
              refine own_stB X2 hx hZ e2 A2 (hb hby dK3_31) (i := 2) (rfl) (by decide) N2 ha (q := 32) rfl ?_
              intro T3 h3_ L3 X3 N3 e3 A3 W3
              have K3 := Keep.of_wr W3
              have AC_3 := AC_2.keep K3 (ninS hne nin0)
              have KK3 := Keep.trans KK2 K3 (allS (Or.inl (List.mem_of_getElem? (i := 0) rfl)) all0)
              have z3_ : h0.size ≤ h3_.size := Nat.le_trans z2_ K3.1
              refine own_iinc X3 hx (hb hby dK3_32) (w := (3 : Int32)) rfl rfl (l' := #[.val (.ref a1), .val (.int (3 : Int32)), .val (.ref a2), .val (.int (2 : Int32)), .val (.int (3 : Int32)), .val (.int (2 : Int32)), .val (.int (f 2))]) rfl (q := 35) rfl ?_
              refine own_iinc X3 hx (hb hby dK3_35) (w := (3 : Int32)) rfl rfl (l' := #[.val (.ref a1), .val (.int (3 : Int32)), .val (.ref a2), .val (.int (3 : Int32)), .val (.int (3 : Int32)), .val (.int (2 : Int32)), .val (.int (f 2))]) rfl (q := 38) rfl ?_
              refine own_iinc X3 hx (hb hby dK3_38) (w := (3 : Int32)) rfl rfl (l' := #[.val (.ref a1), .val (.int (3 : Int32)), .val (.ref a2), .val (.int (3 : Int32)), .val (.int (3 : Int32)), .val (.int (3 : Int32)), .val (.int (f 2))]) rfl (q := 41) rfl ?_
              refine own_goto X3 hx (hb hby dK3_41) (by decide) (q := 3) rfl ?_
              refine own_iload X3 hx (hb hby dK3_3) rfl (q := 5) rfl ?_
              refine own_iload X3 hx (hb hby dK3_5) rfl (q := 7) rfl ?_
              refine own_icmp X3 hx (hb hby dK3_7) (by decide) (q := 44) rfl (q' := 10) rfl (own_h_ge _ _) (fun h7 => ?_) (fun h7 => ?_)
              · replace h7 : (3 : Int) ≤ (3 : Int) := h7
                refine own_iload X3 hx (hb hby dK3_44) rfl (q := 46) rfl ?_
                exact own_retI X3 hx hret hlk (hb hby dK3_46) (by decide) (by decide) (by rw [e3]; unfold own_QK3; exact ⟨rfl, N3, KK3, _, A3⟩)
              · replace h7 : ¬ ((3 : Int) ≤ (3 : Int)) := h7
                exact absurd h7 (by decide)
            · replace h20 : ¬ ((f 2).toInt ≤ (255 : Int)) := h20
              exfalso; exact h20 (hf _).2
        · replace h20 : ¬ ((f 1).toInt ≤ (255 : Int)) := h20
          exfalso; exact h20 (hf _).2
    · replace h20 : ¬ ((f 0).toInt ≤ (255 : Int)) := h20
      exfalso; exact h20 (hf _).2
theorem dU1_0 : decode jdk_52_method_16_code 0 = .ok (.iload_n 2, 1) := by decide +kernel
theorem dU1_1 : decode jdk_52_method_16_code 1 = .ok (.newarray .byte, 2) := by decide +kernel
theorem dU1_3 : decode jdk_52_method_16_code 3 = .ok (.astore_n 3, 1) := by decide +kernel
theorem dU1_4 : decode jdk_52_method_16_code 4 = .ok (.aload_n 0, 1) := by decide +kernel
theorem dU1_5 : decode jdk_52_method_16_code 5 = .ok (.iload_n 1, 1) := by decide +kernel
theorem dU1_6 : decode jdk_52_method_16_code 6 = .ok (.aload_n 3, 1) := by decide +kernel
theorem dU1_7 : decode jdk_52_method_16_code 7 = .ok (.iconst 0, 1) := by decide +kernel
theorem dU1_8 : decode jdk_52_method_16_code 8 = .ok (.iload_n 2, 1) := by decide +kernel
theorem dU1_9 : decode jdk_52_method_16_code 9 = .ok (.invokestatic 115, 3) := by decide +kernel
theorem dU1_12 : decode jdk_52_method_16_code 12 = .ok (.istore 4, 2) := by decide +kernel
theorem dU1_14 : decode jdk_52_method_16_code 14 = .ok (.iload 4, 2) := by decide +kernel
theorem dU1_16 : decode jdk_52_method_16_code 16 = .ok (.iload_n 2, 1) := by decide +kernel
theorem dU1_17 : decode jdk_52_method_16_code 17 = .ok (.if_icmp .eq 40, 3) := by decide +kernel
theorem dU1_57 : decode jdk_52_method_16_code 57 = .ok (.aload_n 3, 1) := by decide +kernel
theorem dU1_58 : decode jdk_52_method_16_code 58 = .ok (.areturn, 1) := by decide +kernel
def own_QU1 (Z : State) (a1 : Addr) (p1 : Int32) (p2 : Int32) (h0 : Heap) (n0 : Nat) : Option Value → Heap → List Loc → Prop := fun v h L => ∃ b, v = some (.ref b) ∧ n0 ≤ b ∧ Fr n0 L ∧ Keep h0 h [] ∧ ∃ g' : Nat → Int32, own_Arr Z h b .byte 1 (fun i => .int (g' i))
theorem own_pnU1 : plainFor (⟨"java/lang/StringUTF16", "compress", "([CII)[B"⟩ : MethodName) = true := plainFor_of_name (show plainName "java/lang/StringUTF16" = true by first | (simp [plainName, overriddenIn]; done) | decide +kernel)
theorem own_efU1 (m : MethodId) (a1 : Addr) (p1 : Int32) (p2 : Int32)  : entryFrame m #[(.ref a1), (.int p1), (.int p2)] 6 = mkF m 0 #[.val (.ref a1), .val (.int p1), .val (.int p2), .unset, .unset, .unset] [] := by first | (simp [entryFrame, mkF, argsToLocals, Value.category, maxLocals]; done) | rfl
set_option maxRecDepth 65536 in
set_option maxHeartbeats 40000000 in
theorem own_rmU1 (l : Launch) (Z : State) (a0 : Array Value) (hw : ∀ d ∈ tables_1, d.before a0 Z = true) (ws : List Jvm.Cond) (a1 : Addr) (p1 : Int32) (p2 : Int32) (f : Nat → Int32) (h0 : Heap) (n0 : Nat) (hn0 : n0 ≤ h0.size) (AC : own_Arr Z h0 a1 .char 1 (fun i => .int (f i))) (hf : ∀ j, 0 ≤ (f j).toInt ∧ (f j).toInt ≤ 255) (hp1 : p1 = 0) (hp2 : p2 = 1) :
    MetFree l (⟨"java/lang/StringUTF16", "compress", "([CII)[B"⟩ : MethodName) (head1 (Jvm.Cond.code (⟨"java/lang/StringUTF16", "compress", "([CII)[B"⟩ : MethodName) jdk_52_method_16_code 6 (some (.array .byte)) :: ws) ({ frames := 1, cells := 1, slots := 1, locals := 18 } : Room)) (fun a U => a = #[(.ref a1), (.int p1), (.int p2)] ∧ Z.Warmed39 U.vm ∧ U.heap = h0) (fun _ _ _ _ _ => True) (fun _ U o U' => ∃ v L, o = .returned v ∧ (own_QU1 Z a1 p1 p2 h0 n0) v U'.heap L ∧ FrameEnd U o U' L ({ frames := 1, cells := 1, slots := 1, locals := 18 } : Room).cells ({ frames := 1, cells := 1, slots := 1, locals := 18 } : Room).slots) := by
  refine own_body (y := (⟨"java/lang/StringUTF16", "compress", "([CII)[B"⟩ : MethodName)) (Q := own_QU1 Z a1 p1 p2 h0 n0) (rm := ({ frames := 1, cells := 1, slots := 1, locals := 18 } : Room)) (as' := #[(.ref a1), (.int p1), (.int p2)]) (h0 := h0) (Z := Z) own_pnU1 ?_
  intro p e s m below meth c s₁ hx hby hml hown hnm hret hlk hZ X0 e0
  have hown : s.vm.findClass "java/lang/StringUTF16" = some m.cls := hown
  rw [own_efU1]
  subst hp1 hp2
  refine own_iload_n X0 hx (hb hby dU1_0) rfl (q := 1) rfl ?_
  refine own_newP X0 hx hZ (hw _ (List.mem_of_getElem? (i := 25) rfl)) e0 (hb hby dU1_1) (N := 1) (rfl) (cap := 1) (by decide) (by decide) (by decide) (by decide) (q := 3) rfl ?_
  intro T1 h1_ b1 g1 X1 e1 E1 A1
  have ne_a1_b1 : a1 ≠ b1 := Nat.ne_of_lt (by rw [g1]; exact AC.lt)
  have AC_1 := AC.ext E1
  have KK1 := Keep.ext (Keep.refl h0 []) E1
  have o1 : h0.size ≤ b1 := by rw [g1]; exact (Nat.le_refl _)
  have p1_ : n0 ≤ b1 := Nat.le_trans hn0 o1
  have z1_ : h0.size ≤ h1_.size := Nat.le_trans (Nat.le_refl _) E1.1
  have A1 : own_Arr Z h1_ b1 .byte 1 (fun i => .int (own_zero i)) := A1
  refine own_astore_n X1 hx (hb hby dU1_3) rfl (l' := #[.val (.ref a1), .val (.int (0 : Int32)), .val (.int (1 : Int32)), .val (.ref b1), .unset, .unset]) rfl (q := 4) rfl ?_
  refine own_aload_n X1 hx (hb hby dU1_4) rfl rfl (q := 5) rfl ?_
  refine own_iload_n X1 hx (hb hby dU1_5) rfl (q := 6) rfl ?_
  refine own_aload_n X1 hx (hb hby dU1_6) rfl rfl (q := 7) rfl ?_
  refine own_iconst X1 hx (hb hby dU1_7) (v := (0 : Int32)) rfl (q := 8) rfl ?_
  refine own_iload_n X1 hx (hb hby dU1_8) rfl (q := 9) rfl ?_
  refine own_callS X1 hx hZ hown (hw _ (List.mem_of_getElem? (i := 172) rfl)) (hw _ (List.mem_of_getElem? (i := 173) rfl)) (hw _ (List.mem_of_getElem? (i := 170) rfl)) (hw _ (List.mem_of_getElem? (i := 174) rfl)) (by decide) (own_rmK1 l Z a0 hw [] a1 (0 : Int32) b1 (0 : Int32) (1 : Int32) f own_zero h1_ n0 (Nat.le_trans hn0 z1_) p1_ ne_a1_b1 AC_1 hf A1 rfl rfl rfl) (by decide) (by decide) e1 (by rw [hml]; rfl) (argsL := [(.ref a1), (.int (0 : Int32)), (.ref b1), (.int (0 : Int32)), (.int (1 : Int32))]) (rest := []) (lenOf own_pd0 rfl) rfl (W := 0) rfl (hb hby dU1_9) (q := 12) rfl rfl (by decide) (by decide) ?_
  rintro _ T2 L2 ⟨rfl, NL2, K2, g2_, A2⟩ X2
  have N2 := Fr.app (Fr.nil n0) NL2
  obtain ⟨h2_, e2⟩ : ∃ z, T2.heap = z := ⟨_, rfl⟩
  rw [e2] at K2 A2
  have AC_2 := AC_1.keep K2 (ninS ne_a1_b1 nin0)
  have KK2 := Keep.trans KK1 K2 (allS (Or.inr o1) all0)
  have z2_ : h0.size ≤ h2_.size := Nat.le_trans z1_ K2.1
  obtain ⟨LL2, eL2⟩ : ∃ z, [] ++ L2 = z := ⟨_, rfl⟩
  rw [eL2] at X2 N2
  show own_G p e below _ (T2.setTop (mkF m 12 #[.val (.ref a1), .val (.int (0 : Int32)), .val (.int (1 : Int32)), .val (.ref b1), .unset, .unset] [(.int (1 : Int32))]))
  refine own_istore X2 hx (hb hby dU1_12) (l' := #[.val (.ref a1), .val (.int (0 : Int32)), .val (.int (1 : Int32)), .val (.ref b1), .val (.int (1 : Int32)), .unset]) rfl (q := 14) rfl ?_
  refine own_iload X2 hx (hb hby dU1_14) rfl (q := 16) rfl ?_
  refine own_iload_n X2 hx (hb hby dU1_16) rfl (q := 17) rfl ?_
  refine own_icmp X2 hx (hb hby dU1_17) (by decide) (q := 57) rfl (q' := 20) rfl (own_h_eq _ _) (fun h17 => ?_) (fun h17 => ?_)
  · replace h17 : (1 : Int) = (1 : Int) := h17
    refine own_aload_n X2 hx (hb hby dU1_57) rfl rfl (q := 58) rfl ?_
    exact own_retA X2 hx rfl hret rfl hlk (hb hby dU1_58) (by decide) (by decide) (by rw [e2]; unfold own_QU1; exact ⟨_, rfl, p1_, N2, KK2, _, A2⟩)
  · replace h17 : ¬ ((1 : Int) = (1 : Int)) := h17
    exact absurd h17 (by decide)
theorem dU2_0 : decode jdk_52_method_16_code 0 = .ok (.iload_n 2, 1) := by decide +kernel
theorem dU2_1 : decode jdk_52_method_16_code 1 = .ok (.newarray .byte, 2) := by decide +kernel
theorem dU2_3 : decode jdk_52_method_16_code 3 = .ok (.astore_n 3, 1) := by decide +kernel
theorem dU2_4 : decode jdk_52_method_16_code 4 = .ok (.aload_n 0, 1) := by decide +kernel
theorem dU2_5 : decode jdk_52_method_16_code 5 = .ok (.iload_n 1, 1) := by decide +kernel
theorem dU2_6 : decode jdk_52_method_16_code 6 = .ok (.aload_n 3, 1) := by decide +kernel
theorem dU2_7 : decode jdk_52_method_16_code 7 = .ok (.iconst 0, 1) := by decide +kernel
theorem dU2_8 : decode jdk_52_method_16_code 8 = .ok (.iload_n 2, 1) := by decide +kernel
theorem dU2_9 : decode jdk_52_method_16_code 9 = .ok (.invokestatic 115, 3) := by decide +kernel
theorem dU2_12 : decode jdk_52_method_16_code 12 = .ok (.istore 4, 2) := by decide +kernel
theorem dU2_14 : decode jdk_52_method_16_code 14 = .ok (.iload 4, 2) := by decide +kernel
theorem dU2_16 : decode jdk_52_method_16_code 16 = .ok (.iload_n 2, 1) := by decide +kernel
theorem dU2_17 : decode jdk_52_method_16_code 17 = .ok (.if_icmp .eq 40, 3) := by decide +kernel
theorem dU2_57 : decode jdk_52_method_16_code 57 = .ok (.aload_n 3, 1) := by decide +kernel
theorem dU2_58 : decode jdk_52_method_16_code 58 = .ok (.areturn, 1) := by decide +kernel
def own_QU2 (Z : State) (a1 : Addr) (p1 : Int32) (p2 : Int32) (h0 : Heap) (n0 : Nat) : Option Value → Heap → List Loc → Prop := fun v h L => ∃ b, v = some (.ref b) ∧ n0 ≤ b ∧ Fr n0 L ∧ Keep h0 h [] ∧ ∃ g' : Nat → Int32, own_Arr Z h b .byte 2 (fun i => .int (g' i))
theorem own_pnU2 : plainFor (⟨"java/lang/StringUTF16", "compress", "([CII)[B"⟩ : MethodName) = true := plainFor_of_name (show plainName "java/lang/StringUTF16" = true by first | (simp [plainName, overriddenIn]; done) | decide +kernel)
theorem own_efU2 (m : MethodId) (a1 : Addr) (p1 : Int32) (p2 : Int32)  : entryFrame m #[(.ref a1), (.int p1), (.int p2)] 6 = mkF m 0 #[.val (.ref a1), .val (.int p1), .val (.int p2), .unset, .unset, .unset] [] := by first | (simp [entryFrame, mkF, argsToLocals, Value.category, maxLocals]; done) | rfl
set_option maxRecDepth 65536 in
set_option maxHeartbeats 40000000 in
theorem own_rmU2 (l : Launch) (Z : State) (a0 : Array Value) (hw : ∀ d ∈ tables_1, d.before a0 Z = true) (ws : List Jvm.Cond) (a1 : Addr) (p1 : Int32) (p2 : Int32) (f : Nat → Int32) (h0 : Heap) (n0 : Nat) (hn0 : n0 ≤ h0.size) (AC : own_Arr Z h0 a1 .char 2 (fun i => .int (f i))) (hf : ∀ j, 0 ≤ (f j).toInt ∧ (f j).toInt ≤ 255) (hp1 : p1 = 0) (hp2 : p2 = 2) :
    MetFree l (⟨"java/lang/StringUTF16", "compress", "([CII)[B"⟩ : MethodName) (head1 (Jvm.Cond.code (⟨"java/lang/StringUTF16", "compress", "([CII)[B"⟩ : MethodName) jdk_52_method_16_code 6 (some (.array .byte)) :: ws) ({ frames := 1, cells := 1, slots := 2, locals := 18 } : Room)) (fun a U => a = #[(.ref a1), (.int p1), (.int p2)] ∧ Z.Warmed39 U.vm ∧ U.heap = h0) (fun _ _ _ _ _ => True) (fun _ U o U' => ∃ v L, o = .returned v ∧ (own_QU2 Z a1 p1 p2 h0 n0) v U'.heap L ∧ FrameEnd U o U' L ({ frames := 1, cells := 1, slots := 2, locals := 18 } : Room).cells ({ frames := 1, cells := 1, slots := 2, locals := 18 } : Room).slots) := by
  refine own_body (y := (⟨"java/lang/StringUTF16", "compress", "([CII)[B"⟩ : MethodName)) (Q := own_QU2 Z a1 p1 p2 h0 n0) (rm := ({ frames := 1, cells := 1, slots := 2, locals := 18 } : Room)) (as' := #[(.ref a1), (.int p1), (.int p2)]) (h0 := h0) (Z := Z) own_pnU2 ?_
  intro p e s m below meth c s₁ hx hby hml hown hnm hret hlk hZ X0 e0
  have hown : s.vm.findClass "java/lang/StringUTF16" = some m.cls := hown
  rw [own_efU2]
  subst hp1 hp2
  refine own_iload_n X0 hx (hb hby dU2_0) rfl (q := 1) rfl ?_
  refine own_newP X0 hx hZ (hw _ (List.mem_of_getElem? (i := 25) rfl)) e0 (hb hby dU2_1) (N := 2) (rfl) (cap := 2) (by decide) (by decide) (by decide) (by decide) (q := 3) rfl ?_
  intro T1 h1_ b1 g1 X1 e1 E1 A1
  have ne_a1_b1 : a1 ≠ b1 := Nat.ne_of_lt (by rw [g1]; exact AC.lt)
  have AC_1 := AC.ext E1
  have KK1 := Keep.ext (Keep.refl h0 []) E1
  have o1 : h0.size ≤ b1 := by rw [g1]; exact (Nat.le_refl _)
  have p1_ : n0 ≤ b1 := Nat.le_trans hn0 o1
  have z1_ : h0.size ≤ h1_.size := Nat.le_trans (Nat.le_refl _) E1.1
  have A1 : own_Arr Z h1_ b1 .byte 2 (fun i => .int (own_zero i)) := A1
  refine own_astore_n X1 hx (hb hby dU2_3) rfl (l' := #[.val (.ref a1), .val (.int (0 : Int32)), .val (.int (2 : Int32)), .val (.ref b1), .unset, .unset]) rfl (q := 4) rfl ?_
  refine own_aload_n X1 hx (hb hby dU2_4) rfl rfl (q := 5) rfl ?_
  refine own_iload_n X1 hx (hb hby dU2_5) rfl (q := 6) rfl ?_
  refine own_aload_n X1 hx (hb hby dU2_6) rfl rfl (q := 7) rfl ?_
  refine own_iconst X1 hx (hb hby dU2_7) (v := (0 : Int32)) rfl (q := 8) rfl ?_
  refine own_iload_n X1 hx (hb hby dU2_8) rfl (q := 9) rfl ?_
  refine own_callS X1 hx hZ hown (hw _ (List.mem_of_getElem? (i := 172) rfl)) (hw _ (List.mem_of_getElem? (i := 173) rfl)) (hw _ (List.mem_of_getElem? (i := 170) rfl)) (hw _ (List.mem_of_getElem? (i := 174) rfl)) (by decide) (own_rmK2 l Z a0 hw [] a1 (0 : Int32) b1 (0 : Int32) (2 : Int32) f own_zero h1_ n0 (Nat.le_trans hn0 z1_) p1_ ne_a1_b1 AC_1 hf A1 rfl rfl rfl) (by decide) (by decide) e1 (by rw [hml]; rfl) (argsL := [(.ref a1), (.int (0 : Int32)), (.ref b1), (.int (0 : Int32)), (.int (2 : Int32))]) (rest := []) (lenOf own_pd0 rfl) rfl (W := 0) rfl (hb hby dU2_9) (q := 12) rfl rfl (by decide) (by decide) ?_
  rintro _ T2 L2 ⟨rfl, NL2, K2, g2_, A2⟩ X2
  have N2 := Fr.app (Fr.nil n0) NL2
  obtain ⟨h2_, e2⟩ : ∃ z, T2.heap = z := ⟨_, rfl⟩
  rw [e2] at K2 A2
  have AC_2 := AC_1.keep K2 (ninS ne_a1_b1 nin0)
  have KK2 := Keep.trans KK1 K2 (allS (Or.inr o1) all0)
  have z2_ : h0.size ≤ h2_.size := Nat.le_trans z1_ K2.1
  obtain ⟨LL2, eL2⟩ : ∃ z, [] ++ L2 = z := ⟨_, rfl⟩
  rw [eL2] at X2 N2
  show own_G p e below _ (T2.setTop (mkF m 12 #[.val (.ref a1), .val (.int (0 : Int32)), .val (.int (2 : Int32)), .val (.ref b1), .unset, .unset] [(.int (2 : Int32))]))
  refine own_istore X2 hx (hb hby dU2_12) (l' := #[.val (.ref a1), .val (.int (0 : Int32)), .val (.int (2 : Int32)), .val (.ref b1), .val (.int (2 : Int32)), .unset]) rfl (q := 14) rfl ?_
  refine own_iload X2 hx (hb hby dU2_14) rfl (q := 16) rfl ?_
  refine own_iload_n X2 hx (hb hby dU2_16) rfl (q := 17) rfl ?_
  refine own_icmp X2 hx (hb hby dU2_17) (by decide) (q := 57) rfl (q' := 20) rfl (own_h_eq _ _) (fun h17 => ?_) (fun h17 => ?_)
  · replace h17 : (2 : Int) = (2 : Int) := h17
    refine own_aload_n X2 hx (hb hby dU2_57) rfl rfl (q := 58) rfl ?_
    exact own_retA X2 hx rfl hret rfl hlk (hb hby dU2_58) (by decide) (by decide) (by rw [e2]; unfold own_QU2; exact ⟨_, rfl, p1_, N2, KK2, _, A2⟩)
  · replace h17 : ¬ ((2 : Int) = (2 : Int)) := h17
    exact absurd h17 (by decide)
theorem dU3_0 : decode jdk_52_method_16_code 0 = .ok (.iload_n 2, 1) := by decide +kernel
theorem dU3_1 : decode jdk_52_method_16_code 1 = .ok (.newarray .byte, 2) := by decide +kernel
theorem dU3_3 : decode jdk_52_method_16_code 3 = .ok (.astore_n 3, 1) := by decide +kernel
theorem dU3_4 : decode jdk_52_method_16_code 4 = .ok (.aload_n 0, 1) := by decide +kernel
theorem dU3_5 : decode jdk_52_method_16_code 5 = .ok (.iload_n 1, 1) := by decide +kernel
theorem dU3_6 : decode jdk_52_method_16_code 6 = .ok (.aload_n 3, 1) := by decide +kernel
theorem dU3_7 : decode jdk_52_method_16_code 7 = .ok (.iconst 0, 1) := by decide +kernel
theorem dU3_8 : decode jdk_52_method_16_code 8 = .ok (.iload_n 2, 1) := by decide +kernel
theorem dU3_9 : decode jdk_52_method_16_code 9 = .ok (.invokestatic 115, 3) := by decide +kernel
theorem dU3_12 : decode jdk_52_method_16_code 12 = .ok (.istore 4, 2) := by decide +kernel
theorem dU3_14 : decode jdk_52_method_16_code 14 = .ok (.iload 4, 2) := by decide +kernel
theorem dU3_16 : decode jdk_52_method_16_code 16 = .ok (.iload_n 2, 1) := by decide +kernel
theorem dU3_17 : decode jdk_52_method_16_code 17 = .ok (.if_icmp .eq 40, 3) := by decide +kernel
theorem dU3_57 : decode jdk_52_method_16_code 57 = .ok (.aload_n 3, 1) := by decide +kernel
theorem dU3_58 : decode jdk_52_method_16_code 58 = .ok (.areturn, 1) := by decide +kernel
def own_QU3 (Z : State) (a1 : Addr) (p1 : Int32) (p2 : Int32) (h0 : Heap) (n0 : Nat) : Option Value → Heap → List Loc → Prop := fun v h L => ∃ b, v = some (.ref b) ∧ n0 ≤ b ∧ Fr n0 L ∧ Keep h0 h [] ∧ ∃ g' : Nat → Int32, own_Arr Z h b .byte 3 (fun i => .int (g' i))
theorem own_pnU3 : plainFor (⟨"java/lang/StringUTF16", "compress", "([CII)[B"⟩ : MethodName) = true := plainFor_of_name (show plainName "java/lang/StringUTF16" = true by first | (simp [plainName, overriddenIn]; done) | decide +kernel)
theorem own_efU3 (m : MethodId) (a1 : Addr) (p1 : Int32) (p2 : Int32)  : entryFrame m #[(.ref a1), (.int p1), (.int p2)] 6 = mkF m 0 #[.val (.ref a1), .val (.int p1), .val (.int p2), .unset, .unset, .unset] [] := by first | (simp [entryFrame, mkF, argsToLocals, Value.category, maxLocals]; done) | rfl
set_option maxRecDepth 65536 in
set_option maxHeartbeats 40000000 in
theorem own_rmU3 (l : Launch) (Z : State) (a0 : Array Value) (hw : ∀ d ∈ tables_1, d.before a0 Z = true) (ws : List Jvm.Cond) (a1 : Addr) (p1 : Int32) (p2 : Int32) (f : Nat → Int32) (h0 : Heap) (n0 : Nat) (hn0 : n0 ≤ h0.size) (AC : own_Arr Z h0 a1 .char 3 (fun i => .int (f i))) (hf : ∀ j, 0 ≤ (f j).toInt ∧ (f j).toInt ≤ 255) (hp1 : p1 = 0) (hp2 : p2 = 3) :
    MetFree l (⟨"java/lang/StringUTF16", "compress", "([CII)[B"⟩ : MethodName) (head1 (Jvm.Cond.code (⟨"java/lang/StringUTF16", "compress", "([CII)[B"⟩ : MethodName) jdk_52_method_16_code 6 (some (.array .byte)) :: ws) ({ frames := 1, cells := 1, slots := 3, locals := 18 } : Room)) (fun a U => a = #[(.ref a1), (.int p1), (.int p2)] ∧ Z.Warmed39 U.vm ∧ U.heap = h0) (fun _ _ _ _ _ => True) (fun _ U o U' => ∃ v L, o = .returned v ∧ (own_QU3 Z a1 p1 p2 h0 n0) v U'.heap L ∧ FrameEnd U o U' L ({ frames := 1, cells := 1, slots := 3, locals := 18 } : Room).cells ({ frames := 1, cells := 1, slots := 3, locals := 18 } : Room).slots) := by
  refine own_body (y := (⟨"java/lang/StringUTF16", "compress", "([CII)[B"⟩ : MethodName)) (Q := own_QU3 Z a1 p1 p2 h0 n0) (rm := ({ frames := 1, cells := 1, slots := 3, locals := 18 } : Room)) (as' := #[(.ref a1), (.int p1), (.int p2)]) (h0 := h0) (Z := Z) own_pnU3 ?_
  intro p e s m below meth c s₁ hx hby hml hown hnm hret hlk hZ X0 e0
  have hown : s.vm.findClass "java/lang/StringUTF16" = some m.cls := hown
  rw [own_efU3]
  subst hp1 hp2
  refine own_iload_n X0 hx (hb hby dU3_0) rfl (q := 1) rfl ?_
  refine own_newP X0 hx hZ (hw _ (List.mem_of_getElem? (i := 25) rfl)) e0 (hb hby dU3_1) (N := 3) (rfl) (cap := 3) (by decide) (by decide) (by decide) (by decide) (q := 3) rfl ?_
  intro T1 h1_ b1 g1 X1 e1 E1 A1
  have ne_a1_b1 : a1 ≠ b1 := Nat.ne_of_lt (by rw [g1]; exact AC.lt)
  have AC_1 := AC.ext E1
  have KK1 := Keep.ext (Keep.refl h0 []) E1
  have o1 : h0.size ≤ b1 := by rw [g1]; exact (Nat.le_refl _)
  have p1_ : n0 ≤ b1 := Nat.le_trans hn0 o1
  have z1_ : h0.size ≤ h1_.size := Nat.le_trans (Nat.le_refl _) E1.1
  have A1 : own_Arr Z h1_ b1 .byte 3 (fun i => .int (own_zero i)) := A1
  refine own_astore_n X1 hx (hb hby dU3_3) rfl (l' := #[.val (.ref a1), .val (.int (0 : Int32)), .val (.int (3 : Int32)), .val (.ref b1), .unset, .unset]) rfl (q := 4) rfl ?_
  refine own_aload_n X1 hx (hb hby dU3_4) rfl rfl (q := 5) rfl ?_
  refine own_iload_n X1 hx (hb hby dU3_5) rfl (q := 6) rfl ?_
  refine own_aload_n X1 hx (hb hby dU3_6) rfl rfl (q := 7) rfl ?_
  refine own_iconst X1 hx (hb hby dU3_7) (v := (0 : Int32)) rfl (q := 8) rfl ?_
  refine own_iload_n X1 hx (hb hby dU3_8) rfl (q := 9) rfl ?_
  refine own_callS X1 hx hZ hown (hw _ (List.mem_of_getElem? (i := 172) rfl)) (hw _ (List.mem_of_getElem? (i := 173) rfl)) (hw _ (List.mem_of_getElem? (i := 170) rfl)) (hw _ (List.mem_of_getElem? (i := 174) rfl)) (by decide) (own_rmK3 l Z a0 hw [] a1 (0 : Int32) b1 (0 : Int32) (3 : Int32) f own_zero h1_ n0 (Nat.le_trans hn0 z1_) p1_ ne_a1_b1 AC_1 hf A1 rfl rfl rfl) (by decide) (by decide) e1 (by rw [hml]; rfl) (argsL := [(.ref a1), (.int (0 : Int32)), (.ref b1), (.int (0 : Int32)), (.int (3 : Int32))]) (rest := []) (lenOf own_pd0 rfl) rfl (W := 0) rfl (hb hby dU3_9) (q := 12) rfl rfl (by decide) (by decide) ?_
  rintro _ T2 L2 ⟨rfl, NL2, K2, g2_, A2⟩ X2
  have N2 := Fr.app (Fr.nil n0) NL2
  obtain ⟨h2_, e2⟩ : ∃ z, T2.heap = z := ⟨_, rfl⟩
  rw [e2] at K2 A2
  have AC_2 := AC_1.keep K2 (ninS ne_a1_b1 nin0)
  have KK2 := Keep.trans KK1 K2 (allS (Or.inr o1) all0)
  have z2_ : h0.size ≤ h2_.size := Nat.le_trans z1_ K2.1
  obtain ⟨LL2, eL2⟩ : ∃ z, [] ++ L2 = z := ⟨_, rfl⟩
  rw [eL2] at X2 N2
  show own_G p e below _ (T2.setTop (mkF m 12 #[.val (.ref a1), .val (.int (0 : Int32)), .val (.int (3 : Int32)), .val (.ref b1), .unset, .unset] [(.int (3 : Int32))]))
  refine own_istore X2 hx (hb hby dU3_12) (l' := #[.val (.ref a1), .val (.int (0 : Int32)), .val (.int (3 : Int32)), .val (.ref b1), .val (.int (3 : Int32)), .unset]) rfl (q := 14) rfl ?_
  refine own_iload X2 hx (hb hby dU3_14) rfl (q := 16) rfl ?_
  refine own_iload_n X2 hx (hb hby dU3_16) rfl (q := 17) rfl ?_
  refine own_icmp X2 hx (hb hby dU3_17) (by decide) (q := 57) rfl (q' := 20) rfl (own_h_eq _ _) (fun h17 => ?_) (fun h17 => ?_)
  · replace h17 : (3 : Int) = (3 : Int) := h17
    refine own_aload_n X2 hx (hb hby dU3_57) rfl rfl (q := 58) rfl ?_
    exact own_retA X2 hx rfl hret rfl hlk (hb hby dU3_58) (by decide) (by decide) (by rw [e2]; unfold own_QU3; exact ⟨_, rfl, p1_, N2, KK2, _, A2⟩)
  · replace h17 : ¬ ((3 : Int) = (3 : Int)) := h17
    exact absurd h17 (by decide)
theorem dL1_0 : decode jdk_52_method_15_code 0 = .ok (.iload_n 1, 1) := by decide +kernel
theorem dL1_1 : decode jdk_52_method_15_code 1 = .ok (.aload_n 0, 1) := by decide +kernel
theorem dL1_2 : decode jdk_52_method_15_code 2 = .ok (.arraylength, 1) := by decide +kernel
theorem dL1_3 : decode jdk_52_method_15_code 3 = .ok (.isub, 1) := by decide +kernel
theorem dL1_4 : decode jdk_52_method_15_code 4 = .ok (.bipush 31, 2) := by decide +kernel
theorem dL1_6 : decode jdk_52_method_15_code 6 = .ok (.iushr, 1) := by decide +kernel
theorem dL1_7 : decode jdk_52_method_15_code 7 = .ok (.i2b, 1) := by decide +kernel
theorem dL1_8 : decode jdk_52_method_15_code 8 = .ok (.ireturn, 1) := by decide +kernel
theorem own_pnL1 : plainFor (⟨"java/lang/StringUTF16", "coderFromArrayLen", "([BI)B"⟩ : MethodName) = true := plainFor_of_name (show plainName "java/lang/StringUTF16" = true by first | (simp [plainName, overriddenIn]; done) | decide +kernel)
theorem own_efL1 (m : MethodId) (a1 : Addr) (p1 : Int32)  : entryFrame m #[(.ref a1), (.int p1)] 2 = mkF m 0 #[.val (.ref a1), .val (.int p1)] [] := by first | (simp [entryFrame, mkF, argsToLocals, Value.category, maxLocals]; done) | rfl
set_option maxRecDepth 65536 in
set_option maxHeartbeats 40000000 in
theorem own_rmL1 (l : Launch) (Z : State) (a0 : Array Value) (hw : ∀ d ∈ tables_1, d.before a0 Z = true) (ws : List Jvm.Cond) (a1 : Addr) (p1 : Int32) (f : Nat → Int32) (h0 : Heap) (AB : own_Arr Z h0 a1 .byte 1 (fun i => .int (f i))) (hp1 : p1 = 1) :
    MetFree l (⟨"java/lang/StringUTF16", "coderFromArrayLen", "([BI)B"⟩ : MethodName) (head1 (Jvm.Cond.code (⟨"java/lang/StringUTF16", "coderFromArrayLen", "([BI)B"⟩ : MethodName) jdk_52_method_15_code 2 (some .byte) :: ws) ({ frames := 0, cells := 0, slots := 0, locals := 0 } : Room)) (fun a U => a = #[(.ref a1), (.int p1)] ∧ Z.Warmed39 U.vm ∧ U.heap = h0) (fun _ _ _ _ _ => True) (fun _ U o U' => ∃ v L, o = .returned v ∧ (fun v h L => (∃ w, v = some w ∧ (fun w => w = .int 0) w) ∧ L = [] ∧ h = h0) v U'.heap L ∧ FrameEnd U o U' L ({ frames := 0, cells := 0, slots := 0, locals := 0 } : Room).cells ({ frames := 0, cells := 0, slots := 0, locals := 0 } : Room).slots) := by
  refine own_body (y := (⟨"java/lang/StringUTF16", "coderFromArrayLen", "([BI)B"⟩ : MethodName)) (Q := fun v h L => (∃ w, v = some w ∧ (fun w => w = .int 0) w) ∧ L = [] ∧ h = h0) (rm := ({ frames := 0, cells := 0, slots := 0, locals := 0 } : Room)) (as' := #[(.ref a1), (.int p1)]) (h0 := h0) (Z := Z) own_pnL1 ?_
  intro p e s m below meth c s₁ hx hby hml hown hnm hret hlk hZ X0 e0
  have hown : s.vm.findClass "java/lang/StringUTF16" = some m.cls := hown
  rw [own_efL1]
  subst hp1
  refine own_iload_n X0 hx (hb hby dL1_0) rfl (q := 1) rfl ?_
  refine own_aload_n X0 hx (hb hby dL1_1) rfl rfl (q := 2) rfl ?_
  refine own_arraylength X0 hx hZ e0 AB (hb hby dL1_2) (v := (1 : Int32)) rfl (q := 3) rfl ?_
  refine own_isub X0 hx (hb hby dL1_3) (q := 4) rfl ?_
  rw [show ((1 : Int32) - (1 : Int32)) = (0 : Int32) by decide]
  refine own_bipush X0 hx (hb hby dL1_4) (v := (31 : Int32)) rfl (q := 6) rfl ?_
  refine own_iushr X0 hx (hb hby dL1_6) (q := 7) rfl ?_
  rw [show (XT.ushr (0 : Int32) (31 : Int32)) = (0 : Int32) by decide]
  refine own_i2b X0 hx (hb hby dL1_7) (q := 8) rfl ?_
  rw [show ((0 : Int32).toInt8.toInt32) = (0 : Int32) by decide]
  exact own_retN X0 hx (t := .byte) hret hlk (by simp) (hb hby dL1_8) (by decide) (by decide) (w := (0 : Int32)) rfl ⟨⟨_, rfl, rfl⟩, rfl, e0⟩
theorem dL2_0 : decode jdk_52_method_15_code 0 = .ok (.iload_n 1, 1) := by decide +kernel
theorem dL2_1 : decode jdk_52_method_15_code 1 = .ok (.aload_n 0, 1) := by decide +kernel
theorem dL2_2 : decode jdk_52_method_15_code 2 = .ok (.arraylength, 1) := by decide +kernel
theorem dL2_3 : decode jdk_52_method_15_code 3 = .ok (.isub, 1) := by decide +kernel
theorem dL2_4 : decode jdk_52_method_15_code 4 = .ok (.bipush 31, 2) := by decide +kernel
theorem dL2_6 : decode jdk_52_method_15_code 6 = .ok (.iushr, 1) := by decide +kernel
theorem dL2_7 : decode jdk_52_method_15_code 7 = .ok (.i2b, 1) := by decide +kernel
theorem dL2_8 : decode jdk_52_method_15_code 8 = .ok (.ireturn, 1) := by decide +kernel
theorem own_pnL2 : plainFor (⟨"java/lang/StringUTF16", "coderFromArrayLen", "([BI)B"⟩ : MethodName) = true := plainFor_of_name (show plainName "java/lang/StringUTF16" = true by first | (simp [plainName, overriddenIn]; done) | decide +kernel)
theorem own_efL2 (m : MethodId) (a1 : Addr) (p1 : Int32)  : entryFrame m #[(.ref a1), (.int p1)] 2 = mkF m 0 #[.val (.ref a1), .val (.int p1)] [] := by first | (simp [entryFrame, mkF, argsToLocals, Value.category, maxLocals]; done) | rfl
set_option maxRecDepth 65536 in
set_option maxHeartbeats 40000000 in
theorem own_rmL2 (l : Launch) (Z : State) (a0 : Array Value) (hw : ∀ d ∈ tables_1, d.before a0 Z = true) (ws : List Jvm.Cond) (a1 : Addr) (p1 : Int32) (f : Nat → Int32) (h0 : Heap) (AB : own_Arr Z h0 a1 .byte 2 (fun i => .int (f i))) (hp1 : p1 = 2) :
    MetFree l (⟨"java/lang/StringUTF16", "coderFromArrayLen", "([BI)B"⟩ : MethodName) (head1 (Jvm.Cond.code (⟨"java/lang/StringUTF16", "coderFromArrayLen", "([BI)B"⟩ : MethodName) jdk_52_method_15_code 2 (some .byte) :: ws) ({ frames := 0, cells := 0, slots := 0, locals := 0 } : Room)) (fun a U => a = #[(.ref a1), (.int p1)] ∧ Z.Warmed39 U.vm ∧ U.heap = h0) (fun _ _ _ _ _ => True) (fun _ U o U' => ∃ v L, o = .returned v ∧ (fun v h L => (∃ w, v = some w ∧ (fun w => w = .int 0) w) ∧ L = [] ∧ h = h0) v U'.heap L ∧ FrameEnd U o U' L ({ frames := 0, cells := 0, slots := 0, locals := 0 } : Room).cells ({ frames := 0, cells := 0, slots := 0, locals := 0 } : Room).slots) := by
  refine own_body (y := (⟨"java/lang/StringUTF16", "coderFromArrayLen", "([BI)B"⟩ : MethodName)) (Q := fun v h L => (∃ w, v = some w ∧ (fun w => w = .int 0) w) ∧ L = [] ∧ h = h0) (rm := ({ frames := 0, cells := 0, slots := 0, locals := 0 } : Room)) (as' := #[(.ref a1), (.int p1)]) (h0 := h0) (Z := Z) own_pnL2 ?_
  intro p e s m below meth c s₁ hx hby hml hown hnm hret hlk hZ X0 e0
  have hown : s.vm.findClass "java/lang/StringUTF16" = some m.cls := hown
  rw [own_efL2]
  subst hp1
  refine own_iload_n X0 hx (hb hby dL2_0) rfl (q := 1) rfl ?_
  refine own_aload_n X0 hx (hb hby dL2_1) rfl rfl (q := 2) rfl ?_
  refine own_arraylength X0 hx hZ e0 AB (hb hby dL2_2) (v := (2 : Int32)) rfl (q := 3) rfl ?_
  refine own_isub X0 hx (hb hby dL2_3) (q := 4) rfl ?_
  rw [show ((2 : Int32) - (2 : Int32)) = (0 : Int32) by decide]
  refine own_bipush X0 hx (hb hby dL2_4) (v := (31 : Int32)) rfl (q := 6) rfl ?_
  refine own_iushr X0 hx (hb hby dL2_6) (q := 7) rfl ?_
  rw [show (XT.ushr (0 : Int32) (31 : Int32)) = (0 : Int32) by decide]
  refine own_i2b X0 hx (hb hby dL2_7) (q := 8) rfl ?_
  rw [show ((0 : Int32).toInt8.toInt32) = (0 : Int32) by decide]
  exact own_retN X0 hx (t := .byte) hret hlk (by simp) (hb hby dL2_8) (by decide) (by decide) (w := (0 : Int32)) rfl ⟨⟨_, rfl, rfl⟩, rfl, e0⟩
theorem dL3_0 : decode jdk_52_method_15_code 0 = .ok (.iload_n 1, 1) := by decide +kernel
theorem dL3_1 : decode jdk_52_method_15_code 1 = .ok (.aload_n 0, 1) := by decide +kernel
theorem dL3_2 : decode jdk_52_method_15_code 2 = .ok (.arraylength, 1) := by decide +kernel
theorem dL3_3 : decode jdk_52_method_15_code 3 = .ok (.isub, 1) := by decide +kernel
theorem dL3_4 : decode jdk_52_method_15_code 4 = .ok (.bipush 31, 2) := by decide +kernel
theorem dL3_6 : decode jdk_52_method_15_code 6 = .ok (.iushr, 1) := by decide +kernel
theorem dL3_7 : decode jdk_52_method_15_code 7 = .ok (.i2b, 1) := by decide +kernel
theorem dL3_8 : decode jdk_52_method_15_code 8 = .ok (.ireturn, 1) := by decide +kernel
theorem own_pnL3 : plainFor (⟨"java/lang/StringUTF16", "coderFromArrayLen", "([BI)B"⟩ : MethodName) = true := plainFor_of_name (show plainName "java/lang/StringUTF16" = true by first | (simp [plainName, overriddenIn]; done) | decide +kernel)
theorem own_efL3 (m : MethodId) (a1 : Addr) (p1 : Int32)  : entryFrame m #[(.ref a1), (.int p1)] 2 = mkF m 0 #[.val (.ref a1), .val (.int p1)] [] := by first | (simp [entryFrame, mkF, argsToLocals, Value.category, maxLocals]; done) | rfl
set_option maxRecDepth 65536 in
set_option maxHeartbeats 40000000 in
theorem own_rmL3 (l : Launch) (Z : State) (a0 : Array Value) (hw : ∀ d ∈ tables_1, d.before a0 Z = true) (ws : List Jvm.Cond) (a1 : Addr) (p1 : Int32) (f : Nat → Int32) (h0 : Heap) (AB : own_Arr Z h0 a1 .byte 3 (fun i => .int (f i))) (hp1 : p1 = 3) :
    MetFree l (⟨"java/lang/StringUTF16", "coderFromArrayLen", "([BI)B"⟩ : MethodName) (head1 (Jvm.Cond.code (⟨"java/lang/StringUTF16", "coderFromArrayLen", "([BI)B"⟩ : MethodName) jdk_52_method_15_code 2 (some .byte) :: ws) ({ frames := 0, cells := 0, slots := 0, locals := 0 } : Room)) (fun a U => a = #[(.ref a1), (.int p1)] ∧ Z.Warmed39 U.vm ∧ U.heap = h0) (fun _ _ _ _ _ => True) (fun _ U o U' => ∃ v L, o = .returned v ∧ (fun v h L => (∃ w, v = some w ∧ (fun w => w = .int 0) w) ∧ L = [] ∧ h = h0) v U'.heap L ∧ FrameEnd U o U' L ({ frames := 0, cells := 0, slots := 0, locals := 0 } : Room).cells ({ frames := 0, cells := 0, slots := 0, locals := 0 } : Room).slots) := by
  refine own_body (y := (⟨"java/lang/StringUTF16", "coderFromArrayLen", "([BI)B"⟩ : MethodName)) (Q := fun v h L => (∃ w, v = some w ∧ (fun w => w = .int 0) w) ∧ L = [] ∧ h = h0) (rm := ({ frames := 0, cells := 0, slots := 0, locals := 0 } : Room)) (as' := #[(.ref a1), (.int p1)]) (h0 := h0) (Z := Z) own_pnL3 ?_
  intro p e s m below meth c s₁ hx hby hml hown hnm hret hlk hZ X0 e0
  have hown : s.vm.findClass "java/lang/StringUTF16" = some m.cls := hown
  rw [own_efL3]
  subst hp1
  refine own_iload_n X0 hx (hb hby dL3_0) rfl (q := 1) rfl ?_
  refine own_aload_n X0 hx (hb hby dL3_1) rfl rfl (q := 2) rfl ?_
  refine own_arraylength X0 hx hZ e0 AB (hb hby dL3_2) (v := (3 : Int32)) rfl (q := 3) rfl ?_
  refine own_isub X0 hx (hb hby dL3_3) (q := 4) rfl ?_
  rw [show ((3 : Int32) - (3 : Int32)) = (0 : Int32) by decide]
  refine own_bipush X0 hx (hb hby dL3_4) (v := (31 : Int32)) rfl (q := 6) rfl ?_
  refine own_iushr X0 hx (hb hby dL3_6) (q := 7) rfl ?_
  rw [show (XT.ushr (0 : Int32) (31 : Int32)) = (0 : Int32) by decide]
  refine own_i2b X0 hx (hb hby dL3_7) (q := 8) rfl ?_
  rw [show ((0 : Int32).toInt8.toInt32) = (0 : Int32) by decide]
  exact own_retN X0 hx (t := .byte) hret hlk (by simp) (hb hby dL3_8) (by decide) (by decide) (w := (0 : Int32)) rfl ⟨⟨_, rfl, rfl⟩, rfl, e0⟩
theorem dI0_0 : decode jdk_42_method_149_code 0 = .ok (.aload_n 0, 1) := by decide +kernel
theorem dI0_1 : decode jdk_42_method_149_code 1 = .ok (.invokespecial 1, 3) := by decide +kernel
theorem dI0_4 : decode jdk_42_method_149_code 4 = .ok (.iload_n 3, 1) := by decide +kernel
theorem dI0_5 : decode jdk_42_method_149_code 5 = .ok (.ifCond .ne 22, 3) := by decide +kernel
theorem dI0_8 : decode jdk_42_method_149_code 8 = .ok (.aload_n 0, 1) := by decide +kernel
theorem dI0_9 : decode jdk_42_method_149_code 9 = .ok (.ldc 7, 2) := by decide +kernel
theorem dI0_11 : decode jdk_42_method_149_code 11 = .ok (.getfield 9, 3) := by decide +kernel
theorem dI0_14 : decode jdk_42_method_149_code 14 = .ok (.putfield 9, 3) := by decide +kernel
theorem dI0_17 : decode jdk_42_method_149_code 17 = .ok (.aload_n 0, 1) := by decide +kernel
theorem dI0_18 : decode jdk_42_method_149_code 18 = .ok (.ldc 7, 2) := by decide +kernel
theorem dI0_20 : decode jdk_42_method_149_code 20 = .ok (.getfield 15, 3) := by decide +kernel
theorem dI0_23 : decode jdk_42_method_149_code 23 = .ok (.putfield 15, 3) := by decide +kernel
theorem dI0_26 : decode jdk_42_method_149_code 26 = .ok (.return_, 1) := by decide +kernel
def own_QI0 (Z : State) (a1 : Addr) (a2 : Addr) (p1 : Int32) (p2 : Int32) (h0 : Heap) (n0 : Nat) : Option Value → Heap → List Loc → Prop := fun v h L => v = none ∧ Fr n0 L ∧ Keep h0 h [a1]
theorem own_pnI0 : plainFor (⟨"java/lang/String", "<init>", "([CIILjava/lang/Void;)V"⟩ : MethodName) = true := plainFor_of_name (show plainName "java/lang/String" = true by first | (simp [plainName, overriddenIn]; done) | decide +kernel)
theorem own_efI0 (m : MethodId) (a1 : Addr) (a2 : Addr) (p1 : Int32) (p2 : Int32)  : entryFrame m #[(.ref a1), (.ref a2), (.int p1), (.int p2), .null] 6 = mkF m 0 #[.val (.ref a1), .val (.ref a2), .val (.int p1), .val (.int p2), .val .null, .unset] [] := by first | (simp [entryFrame, mkF, argsToLocals, Value.category, maxLocals]; done) | rfl
set_option maxRecDepth 65536 in
set_option maxHeartbeats 40000000 in
theorem own_rmI0 (l : Launch) (Z : State) (a0 : Array Value) (hw : ∀ d ∈ tables_1, d.before a0 Z = true) (ws : List Jvm.Cond) (a1 : Addr) (a2 : Addr) (p1 : Int32) (p2 : Int32)  (h0 : Heap) (n0 : Nat) (hn0 : n0 ≤ h0.size) (ha : n0 ≤ a1) (E : Exa Z h0 a1 "java/lang/String") (F1 : Fld Z h0 a1 "java/lang/String" "value" "[B" (.null)) (F2 : Fld Z h0 a1 "java/lang/String" "coder" "B" (.int 0)) (hp1 : p1 = 0) (hp2 : p2 = 0) :
    MetFree l (⟨"java/lang/String", "<init>", "([CIILjava/lang/Void;)V"⟩ : MethodName) (head1 (Jvm.Cond.code (⟨"java/lang/String", "<init>", "([CIILjava/lang/Void;)V"⟩ : MethodName) jdk_42_method_149_code 6 none :: ws) ({ frames := 1, cells := 4, slots := 8, locals := 12 } : Room)) (fun a U => a = #[(.ref a1), (.ref a2), (.int p1), (.int p2), .null] ∧ Z.Warmed39 U.vm ∧ U.heap = h0 ∧ CHv Z consts_1 U.vm h0 ∧ ∀ x ∈ ([a1] : List Addr), Safe Z consts_1 U.vm h0 x) (fun _ _ _ _ _ => True) (fun _ U o U' => ∃ v L, o = .returned v ∧ (own_QI0 Z a1 a2 p1 p2 h0 n0) v U'.heap L ∧ CHr Z consts_1 U.vm U.heap U'.vm U'.heap ∧ ReturnedEndW U o U' L ({ frames := 1, cells := 4, slots := 8, locals := 12 } : Room).cells ({ frames := 1, cells := 4, slots := 8, locals := 12 } : Room).slots) := by
  refine own_Wbody (EL := consts_1) (y := (⟨"java/lang/String", "<init>", "([CIILjava/lang/Void;)V"⟩ : MethodName)) (Q := own_QI0 Z a1 a2 p1 p2 h0 n0) (rm := ({ frames := 1, cells := 4, slots := 8, locals := 12 } : Room)) (as' := #[(.ref a1), (.ref a2), (.int p1), (.int p2), .null]) (h0 := h0) (Z := Z) (sf := [a1]) own_pnI0 ?_
  intro p e s m below meth c s₁ hx hby hml hown hnm hret hlk hZ X0 e0 hS hk HC0 hsf0
  have hown : s.vm.findClass "java/lang/String" = some m.cls := hown
  rw [own_efI0]
  have SP0 := hsf0 a1 (List.mem_of_getElem? (i := 0) rfl)
  subst hp1 hp2
  refine own_aload_n X0 hx (hb hby dI0_0) rfl rfl (q := 1) rfl ?_
  refine own_initO X0 hx hZ hown (hw _ (List.mem_of_getElem? (i := 21) rfl)) (hw _ (List.mem_of_getElem? (i := 22) rfl)) (hw _ (List.mem_of_getElem? (i := 23) rfl)) e0 (by rw [hml]; rfl) (hb hby dI0_1) (by decide) (W := 0) rfl (by decide) (q := 4) rfl ?_
  intro T1 X1 e1
  refine own_iload_n X1 hx (hb hby dI0_4) rfl (q := 5) rfl ?_
  refine own_if X1 hx (hb hby dI0_5) (by decide) (q := 27) rfl (q' := 8) rfl (own_z_ne _) (fun h5 => ?_) (fun h5 => ?_)
  · replace h5 : (0 : Int) ≠ 0 := h5
    exact absurd h5 (by decide)
  · replace h5 : ¬ ((0 : Int) ≠ 0) := h5
    refine own_aload_n X1 hx (hb hby dI0_8) rfl rfl (q := 9) rfl ?_
    refine own_Wldc X1 hx hZ hown (hw _ (List.mem_of_getElem? (i := 24) rfl)) (own_wS hw) e1 hS hk (own_EW hw) (by simp [consts_1]) HC0 (by decide) (N := 0) (z := 0) (by decide) (by decide) (by decide) (by decide) (hb hby dI0_9) (n' := 0) (by decide) (by decide) (by decide) (by decide) (q := 11) rfl ?_
    intro T2 h2_ kk2 c2 b2 X2 e2 E2 hS hk hZ hown Q2 C2 V2 A2 HC2 LT2 SF2
    have SN2_a1 := SF2 a1 E.lt SP0
    have SP0_2 := SN2_a1.1
    have E_2 := E.ext E2
    have F1_2 := F1.ext E2
    have F2_2 := F2.ext E2
    have KK2 := Keep.ext (Keep.refl h0 [a1]) E2
    have z2_ : h0.size ≤ h2_.size := Nat.le_trans (Nat.le_refl _) E2.1
    refine own_getF X2 hx hZ hown (hw _ (List.mem_of_getElem? (i := 30) rfl)) e2 V2 (hb hby dI0_11) (q := 14) rfl ?_
    intro T3 X3 e3
    refine own_putF X3 hx hZ hown (hw _ (List.mem_of_getElem? (i := 30) rfl)) e3 F1_2 E_2 (Or.inr ⟨(hw _ (List.mem_of_getElem? (i := 26) rfl)), rfl, hnm⟩) (hw _ (List.mem_of_getElem? (i := 11) rfl)) (ft := (.array .byte)) (by decide) rfl rfl (hb hby dI0_14) (Fr.nil n0) ha (q := 17) rfl ?_
    intro T4 h4_ L4 X4 N4 e4 W4
    have K4 := Keep.of_wr W4
    have SP0_4 := Safe.wr W4 SP0_2 HC2.1 SP0_2
    have E_4 := E_2.wr W4
    have F1_4 := F1_2.same W4
    have F2_4 := F2_2.other W4 (Or.inr (slot_ne (Or.inr (hw _ (List.mem_of_getElem? (i := 27) rfl))) (Or.inr (hw _ (List.mem_of_getElem? (i := 26) rfl))) (by decide) (t := .byte) (t' := (.array .byte)) (by decide) (by decide)))
    have Q2_4 := Q2.wr W4
    have C2_4 := C2.keep K4 (ninS SN2_a1.2.1.symm nin0)
    have V2_4 := V2.keep K4 (ninS SN2_a1.2.1.symm nin0)
    have A2_4 := A2.keep K4 (ninS SN2_a1.2.2.symm nin0)
    have KK4 := Keep.wr KK2 W4 (Or.inl (List.mem_of_getElem? (i := 0) rfl))
    have HC4 := CHr.trans HC2 (CHr.wr W4 SP0_2 HC2.1)
    have hk : _ ≤ h4_.size := Nat.le_trans hk K4.1
    have z4_ : h0.size ≤ h4_.size := Nat.le_trans z2_ K4.1
    refine own_aload_n X4 hx (hb hby dI0_17) rfl rfl (q := 18) rfl ?_
    refine own_Wldc X4 hx hZ hown (hw _ (List.mem_of_getElem? (i := 24) rfl)) (own_wS hw) e4 hS hk (own_EW hw) (by simp [consts_1]) HC4 (by decide) (N := 0) (z := 0) (by decide) (by decide) (by decide) (by decide) (hb hby dI0_18) (n' := 0) (by decide) (by decide) (by decide) (by decide) (q := 20) rfl ?_
    intro T5 h5_ kk5 c5 b5 X5 e5 E5 hS hk hZ hown Q5 C5 V5 A5 HC5 LT5 SF5
    have SN5_a1 := SF5 a1 E_4.lt SP0_4
    have SP0_5 := SN5_a1.1
    have E_5 := E_4.ext E5
    have F1_5 := F1_4.ext E5
    have F2_5 := F2_4.ext E5
    have Q2_5 := Q2_4.ext E5
    have C2_5 := C2_4.ext E5
    have V2_5 := V2_4.ext E5
    have A2_5 := A2_4.ext E5
    have KK5 := Keep.ext KK4 E5
    have z5_ : h0.size ≤ h5_.size := Nat.le_trans z4_ E5.1
    refine own_getF X5 hx hZ hown (hw _ (List.mem_of_getElem? (i := 31) rfl)) e5 C5 (hb hby dI0_20) (q := 23) rfl ?_
    intro T6 X6 e6
    refine own_putF X6 hx hZ hown (hw _ (List.mem_of_getElem? (i := 31) rfl)) e6 F2_5 E_5 (Or.inr ⟨(hw _ (List.mem_of_getElem? (i := 27) rfl)), rfl, hnm⟩) (hw _ (List.mem_of_getElem? (i := 11) rfl)) (ft := .byte) (by decide) rfl rfl (hb hby dI0_23) N4 ha (q := 26) rfl ?_
    intro T7 h7_ L7 X7 N7 e7 W7
    have K7 := Keep.of_wr W7
    have SP0_7 := Safe.wr W7 SP0_5 HC5.1 SP0_5
    have E_7 := E_5.wr W7
    have F1_7 := F1_5.other W7 (Or.inr (slot_ne (Or.inr (hw _ (List.mem_of_getElem? (i := 26) rfl))) (Or.inr (hw _ (List.mem_of_getElem? (i := 27) rfl))) (by decide) (t := (.array .byte)) (t' := .byte) (by decide) (by decide)))
    have F2_7 := F2_5.same W7
    have Q2_7 := Q2_5.wr W7
    have C2_7 := C2_5.keep K7 (ninS SN2_a1.2.1.symm nin0)
    have V2_7 := V2_5.keep K7 (ninS SN2_a1.2.1.symm nin0)
    have A2_7 := A2_5.keep K7 (ninS SN2_a1.2.2.symm nin0)
    have Q5_7 := Q5.wr W7
    have C5_7 := C5.keep K7 (ninS SN5_a1.2.1.symm nin0)
    have V5_7 := V5.keep K7 (ninS SN5_a1.2.1.symm nin0)
    have A5_7 := A5.keep K7 (ninS SN5_a1.2.2.symm nin0)
    have KK7 := Keep.wr KK5 W7 (Or.inl (List.mem_of_getElem? (i := 0) rfl))
    have HC7 := CHr.trans HC5 (CHr.wr W7 SP0_5 HC5.1)
    have hk : _ ≤ h7_.size := Nat.le_trans hk K7.1
    have z7_ : h0.size ≤ h7_.size := Nat.le_trans z5_ K7.1
    exact own_WretV X7 hx hZ (own_EW hw) hS hk HC7 e7 hret hlk (hb hby dI0_26) (by decide) (by decide) (by rw [e7]; unfold own_QI0; exact ⟨rfl, N7, KK7⟩)
theorem dI1_0 : decode jdk_42_method_149_code 0 = .ok (.aload_n 0, 1) := by decide +kernel
theorem dI1_1 : decode jdk_42_method_149_code 1 = .ok (.invokespecial 1, 3) := by decide +kernel
theorem dI1_4 : decode jdk_42_method_149_code 4 = .ok (.iload_n 3, 1) := by decide +kernel
theorem dI1_5 : decode jdk_42_method_149_code 5 = .ok (.ifCond .ne 22, 3) := by decide +kernel
theorem dI1_27 : decode jdk_42_method_149_code 27 = .ok (.getstatic 38, 3) := by decide +kernel
theorem dI1_30 : decode jdk_42_method_149_code 30 = .ok (.ifCond .eq 28, 3) := by decide +kernel
theorem dI1_33 : decode jdk_42_method_149_code 33 = .ok (.aload_n 1, 1) := by decide +kernel
theorem dI1_34 : decode jdk_42_method_149_code 34 = .ok (.iload_n 2, 1) := by decide +kernel
theorem dI1_35 : decode jdk_42_method_149_code 35 = .ok (.iload_n 3, 1) := by decide +kernel
theorem dI1_36 : decode jdk_42_method_149_code 36 = .ok (.invokestatic 177, 3) := by decide +kernel
theorem dI1_39 : decode jdk_42_method_149_code 39 = .ok (.astore 5, 2) := by decide +kernel
theorem dI1_41 : decode jdk_42_method_149_code 41 = .ok (.aload_n 0, 1) := by decide +kernel
theorem dI1_42 : decode jdk_42_method_149_code 42 = .ok (.aload 5, 2) := by decide +kernel
theorem dI1_44 : decode jdk_42_method_149_code 44 = .ok (.iload_n 3, 1) := by decide +kernel
theorem dI1_45 : decode jdk_42_method_149_code 45 = .ok (.invokestatic 47, 3) := by decide +kernel
theorem dI1_48 : decode jdk_42_method_149_code 48 = .ok (.putfield 15, 3) := by decide +kernel
theorem dI1_51 : decode jdk_42_method_149_code 51 = .ok (.aload_n 0, 1) := by decide +kernel
theorem dI1_52 : decode jdk_42_method_149_code 52 = .ok (.aload 5, 2) := by decide +kernel
theorem dI1_54 : decode jdk_42_method_149_code 54 = .ok (.putfield 9, 3) := by decide +kernel
theorem dI1_57 : decode jdk_42_method_149_code 57 = .ok (.return_, 1) := by decide +kernel
def own_QI1 (Z : State) (a1 : Addr) (a2 : Addr) (p1 : Int32) (p2 : Int32) (h0 : Heap) (n0 : Nat) : Option Value → Heap → List Loc → Prop := fun v h L => v = none ∧ Fr n0 L ∧ Keep h0 h [a1]
theorem own_pnI1 : plainFor (⟨"java/lang/String", "<init>", "([CIILjava/lang/Void;)V"⟩ : MethodName) = true := plainFor_of_name (show plainName "java/lang/String" = true by first | (simp [plainName, overriddenIn]; done) | decide +kernel)
theorem own_efI1 (m : MethodId) (a1 : Addr) (a2 : Addr) (p1 : Int32) (p2 : Int32)  : entryFrame m #[(.ref a1), (.ref a2), (.int p1), (.int p2), .null] 6 = mkF m 0 #[.val (.ref a1), .val (.ref a2), .val (.int p1), .val (.int p2), .val .null, .unset] [] := by first | (simp [entryFrame, mkF, argsToLocals, Value.category, maxLocals]; done) | rfl
set_option maxRecDepth 65536 in
set_option maxHeartbeats 40000000 in
theorem own_rmI1 (l : Launch) (Z : State) (a0 : Array Value) (hw : ∀ d ∈ tables_1, d.before a0 Z = true) (ws : List Jvm.Cond) (a1 : Addr) (a2 : Addr) (p1 : Int32) (p2 : Int32) (f : Nat → Int32) (G1 : Int32) (h0 : Heap) (n0 : Nat) (hn0 : n0 ≤ h0.size) (ha : n0 ≤ a1) (E : Exa Z h0 a1 "java/lang/String") (F1 : Fld Z h0 a1 "java/lang/String" "value" "[B" (.null)) (F2 : Fld Z h0 a1 "java/lang/String" "coder" "B" (.int 0)) (hp1 : p1 = 0) (hp2 : p2 = 1) (hne : a2 ≠ a1) (AC : own_Arr Z h0 a2 .char 1 (fun i => .int (f i))) (hf : ∀ j, 0 ≤ (f j).toInt ∧ (f j).toInt ≤ 255) (ST : Sta Z h0 "java/lang/String" "COMPACT_STRINGS" "Z" (.int G1)) (hG : G1.toInt ≠ 0) :
    MetFree l (⟨"java/lang/String", "<init>", "([CIILjava/lang/Void;)V"⟩ : MethodName) (head1 (Jvm.Cond.code (⟨"java/lang/String", "<init>", "([CIILjava/lang/Void;)V"⟩ : MethodName) jdk_42_method_149_code 6 none :: ws) ({ frames := 2, cells := 1, slots := 1, locals := 35 } : Room)) (fun a U => a = #[(.ref a1), (.ref a2), (.int p1), (.int p2), .null] ∧ Z.Warmed39 U.vm ∧ U.heap = h0) (fun _ _ _ _ _ => True) (fun _ U o U' => ∃ v L, o = .returned v ∧ (own_QI1 Z a1 a2 p1 p2 h0 n0) v U'.heap L ∧ FrameEnd U o U' L ({ frames := 2, cells := 1, slots := 1, locals := 35 } : Room).cells ({ frames := 2, cells := 1, slots := 1, locals := 35 } : Room).slots) := by
  refine own_body (y := (⟨"java/lang/String", "<init>", "([CIILjava/lang/Void;)V"⟩ : MethodName)) (Q := own_QI1 Z a1 a2 p1 p2 h0 n0) (rm := ({ frames := 2, cells := 1, slots := 1, locals := 35 } : Room)) (as' := #[(.ref a1), (.ref a2), (.int p1), (.int p2), .null]) (h0 := h0) (Z := Z) own_pnI1 ?_
  intro p e s m below meth c s₁ hx hby hml hown hnm hret hlk hZ X0 e0
  have hown : s.vm.findClass "java/lang/String" = some m.cls := hown
  rw [own_efI1]
  subst hp1 hp2
  refine own_aload_n X0 hx (hb hby dI1_0) rfl rfl (q := 1) rfl ?_
  refine own_initO X0 hx hZ hown (hw _ (List.mem_of_getElem? (i := 21) rfl)) (hw _ (List.mem_of_getElem? (i := 22) rfl)) (hw _ (List.mem_of_getElem? (i := 23) rfl)) e0 (by rw [hml]; rfl) (hb hby dI1_1) (by decide) (W := 0) rfl (by decide) (q := 4) rfl ?_
  intro T1 X1 e1
  refine own_iload_n X1 hx (hb hby dI1_4) rfl (q := 5) rfl ?_
  refine own_if X1 hx (hb hby dI1_5) (by decide) (q := 27) rfl (q' := 8) rfl (own_z_ne _) (fun h5 => ?_) (fun h5 => ?_)
  · replace h5 : (1 : Int) ≠ 0 := h5
    refine own_getS X1 hx hZ hown (hw _ (List.mem_of_getElem? (i := 167) rfl)) e1 ST (hb hby dI1_27) (q := 30) rfl ?_
    intro T2 X2 e2
    refine own_if X2 hx (hb hby dI1_30) (by decide) (q := 58) rfl (q' := 33) rfl (own_z_eq _) (fun h30 => ?_) (fun h30 => ?_)
    · replace h30 : G1.toInt = 0 := h30
      exfalso; omega
    · replace h30 : ¬ (G1.toInt = 0) := h30
      refine own_aload_n X2 hx (hb hby dI1_33) rfl rfl (q := 34) rfl ?_
      refine own_iload_n X2 hx (hb hby dI1_34) rfl (q := 35) rfl ?_
      refine own_iload_n X2 hx (hb hby dI1_35) rfl (q := 36) rfl ?_
      refine own_callS X2 hx hZ hown (hw _ (List.mem_of_getElem? (i := 168) rfl)) (hw _ (List.mem_of_getElem? (i := 169) rfl)) (hw _ (List.mem_of_getElem? (i := 170) rfl)) (hw _ (List.mem_of_getElem? (i := 171) rfl)) (by decide) (own_rmU1 l Z a0 hw [] a2 (0 : Int32) (1 : Int32) f h0 n0 (Nat.le_trans hn0 (Nat.le_refl _)) AC hf rfl rfl) (by decide) (by decide) e2 (by rw [hml]; rfl) (argsL := [(.ref a2), (.int (0 : Int32)), (.int (1 : Int32))]) (rest := []) (lenOf own_pd1 rfl) rfl (W := 0) rfl (hb hby dI1_36) (q := 39) rfl rfl (by decide) (by decide) ?_
      rintro _ T3 L3 ⟨b3, rfl, o3, NL3, K3, g3_, AA3⟩ X3
      have N3 := Fr.app (Fr.nil n0) NL3
      obtain ⟨h3_, e3⟩ : ∃ z, T3.heap = z := ⟨_, rfl⟩
      rw [e3] at K3
      have E3 := own_kext K3
      have E_3 := E.ext E3
      have F1_3 := F1.ext E3
      have F2_3 := F2.ext E3
      have AC_3 := AC.ext E3
      have ST_3 := ST.ext E3
      have KK3 := Keep.ext (Keep.refl h0 [a1]) E3
      have z3_ : h0.size ≤ h3_.size := Nat.le_trans (Nat.le_refl _) K3.1
      obtain ⟨LL3, eL3⟩ : ∃ z, [] ++ L3 = z := ⟨_, rfl⟩
      rw [eL3] at X3 N3
      show own_G p e below _ (T3.setTop (mkF m 39 #[.val (.ref a1), .val (.ref a2), .val (.int (0 : Int32)), .val (.int (1 : Int32)), .val .null, .unset] [(.ref b3)]))
      rw [e3] at AA3
      refine own_astore X3 hx (hb hby dI1_39) rfl (l' := #[.val (.ref a1), .val (.ref a2), .val (.int (0 : Int32)), .val (.int (1 : Int32)), .val .null, .val (.ref b3)]) rfl (q := 41) rfl ?_
      refine own_aload_n X3 hx (hb hby dI1_41) rfl rfl (q := 42) rfl ?_
      refine own_aload X3 hx (hb hby dI1_42) rfl rfl (q := 44) rfl ?_
      refine own_iload_n X3 hx (hb hby dI1_44) rfl (q := 45) rfl ?_
      refine own_callSP X3 hx hZ hown (hw _ (List.mem_of_getElem? (i := 175) rfl)) (hw _ (List.mem_of_getElem? (i := 176) rfl)) (hw _ (List.mem_of_getElem? (i := 170) rfl)) (hw _ (List.mem_of_getElem? (i := 177) rfl)) (by decide) (own_rmL1 l Z a0 hw [] b3 (1 : Int32) g3_ h3_ AA3 rfl) (by decide) (by decide) e3 (by rw [hml]; rfl) (argsL := [(.ref b3), (.int (1 : Int32))]) (rest := [(.ref a1)]) (lenOf own_pd2 rfl) rfl (W := 1) rfl (hb hby dI1_45) (q := 48) rfl rfl rfl rfl (by decide) (by decide) ?_
      rintro _ T4 rfl X4 e4
      refine own_putF X4 hx hZ hown (hw _ (List.mem_of_getElem? (i := 31) rfl)) e4 F2_3 E_3 (Or.inr ⟨(hw _ (List.mem_of_getElem? (i := 27) rfl)), rfl, hnm⟩) (hw _ (List.mem_of_getElem? (i := 11) rfl)) (ft := .byte) (by decide) rfl rfl (hb hby dI1_48) N3 ha (q := 51) rfl ?_
      intro T5 h5_ L5 X5 N5 e5 W5
      have K5 := Keep.of_wr W5
      have E_5 := E_3.wr W5
      have F1_5 := F1_3.other W5 (Or.inr (slot_ne (Or.inr (hw _ (List.mem_of_getElem? (i := 26) rfl))) (Or.inr (hw _ (List.mem_of_getElem? (i := 27) rfl))) (by decide) (t := (.array .byte)) (t' := .byte) (by decide) (by decide)))
      have F2_5 := F2_3.same W5
      have KK5 := Keep.wr KK3 W5 (Or.inl (List.mem_of_getElem? (i := 0) rfl))
      have z5_ : h0.size ≤ h5_.size := Nat.le_trans z3_ K5.1
      refine own_aload_n X5 hx (hb hby dI1_51) rfl rfl (q := 52) rfl ?_
      refine own_aload X5 hx (hb hby dI1_52) rfl rfl (q := 54) rfl ?_
      refine own_putF X5 hx hZ hown (hw _ (List.mem_of_getElem? (i := 30) rfl)) e5 F1_5 E_5 (Or.inr ⟨(hw _ (List.mem_of_getElem? (i := 26) rfl)), rfl, hnm⟩) (hw _ (List.mem_of_getElem? (i := 11) rfl)) (ft := (.array .byte)) (by decide) rfl rfl (hb hby dI1_54) N5 ha (q := 57) rfl ?_
      intro T6 h6_ L6 X6 N6 e6 W6
      have K6 := Keep.of_wr W6
      have E_6 := E_5.wr W6
      have F1_6 := F1_5.same W6
      have F2_6 := F2_5.other W6 (Or.inr (slot_ne (Or.inr (hw _ (List.mem_of_getElem? (i := 27) rfl))) (Or.inr (hw _ (List.mem_of_getElem? (i := 26) rfl))) (by decide) (t := .byte) (t' := (.array .byte)) (by decide) (by decide)))
      have KK6 := Keep.wr KK5 W6 (Or.inl (List.mem_of_getElem? (i := 0) rfl))
      have z6_ : h0.size ≤ h6_.size := Nat.le_trans z5_ K6.1
      exact own_retV X6 hx hret hlk (hb hby dI1_57) (by decide) (by decide) (by rw [e6]; unfold own_QI1; exact ⟨rfl, N6, KK6⟩)
  · replace h5 : ¬ ((1 : Int) ≠ 0) := h5
    exact absurd h5 (by decide)
theorem dI2_0 : decode jdk_42_method_149_code 0 = .ok (.aload_n 0, 1) := by decide +kernel
theorem dI2_1 : decode jdk_42_method_149_code 1 = .ok (.invokespecial 1, 3) := by decide +kernel
theorem dI2_4 : decode jdk_42_method_149_code 4 = .ok (.iload_n 3, 1) := by decide +kernel
theorem dI2_5 : decode jdk_42_method_149_code 5 = .ok (.ifCond .ne 22, 3) := by decide +kernel
theorem dI2_27 : decode jdk_42_method_149_code 27 = .ok (.getstatic 38, 3) := by decide +kernel
theorem dI2_30 : decode jdk_42_method_149_code 30 = .ok (.ifCond .eq 28, 3) := by decide +kernel
theorem dI2_33 : decode jdk_42_method_149_code 33 = .ok (.aload_n 1, 1) := by decide +kernel
theorem dI2_34 : decode jdk_42_method_149_code 34 = .ok (.iload_n 2, 1) := by decide +kernel
theorem dI2_35 : decode jdk_42_method_149_code 35 = .ok (.iload_n 3, 1) := by decide +kernel
theorem dI2_36 : decode jdk_42_method_149_code 36 = .ok (.invokestatic 177, 3) := by decide +kernel
theorem dI2_39 : decode jdk_42_method_149_code 39 = .ok (.astore 5, 2) := by decide +kernel
theorem dI2_41 : decode jdk_42_method_149_code 41 = .ok (.aload_n 0, 1) := by decide +kernel
theorem dI2_42 : decode jdk_42_method_149_code 42 = .ok (.aload 5, 2) := by decide +kernel
theorem dI2_44 : decode jdk_42_method_149_code 44 = .ok (.iload_n 3, 1) := by decide +kernel
theorem dI2_45 : decode jdk_42_method_149_code 45 = .ok (.invokestatic 47, 3) := by decide +kernel
theorem dI2_48 : decode jdk_42_method_149_code 48 = .ok (.putfield 15, 3) := by decide +kernel
theorem dI2_51 : decode jdk_42_method_149_code 51 = .ok (.aload_n 0, 1) := by decide +kernel
theorem dI2_52 : decode jdk_42_method_149_code 52 = .ok (.aload 5, 2) := by decide +kernel
theorem dI2_54 : decode jdk_42_method_149_code 54 = .ok (.putfield 9, 3) := by decide +kernel
theorem dI2_57 : decode jdk_42_method_149_code 57 = .ok (.return_, 1) := by decide +kernel
def own_QI2 (Z : State) (a1 : Addr) (a2 : Addr) (p1 : Int32) (p2 : Int32) (h0 : Heap) (n0 : Nat) : Option Value → Heap → List Loc → Prop := fun v h L => v = none ∧ Fr n0 L ∧ Keep h0 h [a1]
theorem own_pnI2 : plainFor (⟨"java/lang/String", "<init>", "([CIILjava/lang/Void;)V"⟩ : MethodName) = true := plainFor_of_name (show plainName "java/lang/String" = true by first | (simp [plainName, overriddenIn]; done) | decide +kernel)
theorem own_efI2 (m : MethodId) (a1 : Addr) (a2 : Addr) (p1 : Int32) (p2 : Int32)  : entryFrame m #[(.ref a1), (.ref a2), (.int p1), (.int p2), .null] 6 = mkF m 0 #[.val (.ref a1), .val (.ref a2), .val (.int p1), .val (.int p2), .val .null, .unset] [] := by first | (simp [entryFrame, mkF, argsToLocals, Value.category, maxLocals]; done) | rfl
set_option maxRecDepth 65536 in
set_option maxHeartbeats 40000000 in
theorem own_rmI2 (l : Launch) (Z : State) (a0 : Array Value) (hw : ∀ d ∈ tables_1, d.before a0 Z = true) (ws : List Jvm.Cond) (a1 : Addr) (a2 : Addr) (p1 : Int32) (p2 : Int32) (f : Nat → Int32) (G1 : Int32) (h0 : Heap) (n0 : Nat) (hn0 : n0 ≤ h0.size) (ha : n0 ≤ a1) (E : Exa Z h0 a1 "java/lang/String") (F1 : Fld Z h0 a1 "java/lang/String" "value" "[B" (.null)) (F2 : Fld Z h0 a1 "java/lang/String" "coder" "B" (.int 0)) (hp1 : p1 = 0) (hp2 : p2 = 2) (hne : a2 ≠ a1) (AC : own_Arr Z h0 a2 .char 2 (fun i => .int (f i))) (hf : ∀ j, 0 ≤ (f j).toInt ∧ (f j).toInt ≤ 255) (ST : Sta Z h0 "java/lang/String" "COMPACT_STRINGS" "Z" (.int G1)) (hG : G1.toInt ≠ 0) :
    MetFree l (⟨"java/lang/String", "<init>", "([CIILjava/lang/Void;)V"⟩ : MethodName) (head1 (Jvm.Cond.code (⟨"java/lang/String", "<init>", "([CIILjava/lang/Void;)V"⟩ : MethodName) jdk_42_method_149_code 6 none :: ws) ({ frames := 2, cells := 1, slots := 2, locals := 35 } : Room)) (fun a U => a = #[(.ref a1), (.ref a2), (.int p1), (.int p2), .null] ∧ Z.Warmed39 U.vm ∧ U.heap = h0) (fun _ _ _ _ _ => True) (fun _ U o U' => ∃ v L, o = .returned v ∧ (own_QI2 Z a1 a2 p1 p2 h0 n0) v U'.heap L ∧ FrameEnd U o U' L ({ frames := 2, cells := 1, slots := 2, locals := 35 } : Room).cells ({ frames := 2, cells := 1, slots := 2, locals := 35 } : Room).slots) := by
  refine own_body (y := (⟨"java/lang/String", "<init>", "([CIILjava/lang/Void;)V"⟩ : MethodName)) (Q := own_QI2 Z a1 a2 p1 p2 h0 n0) (rm := ({ frames := 2, cells := 1, slots := 2, locals := 35 } : Room)) (as' := #[(.ref a1), (.ref a2), (.int p1), (.int p2), .null]) (h0 := h0) (Z := Z) own_pnI2 ?_
  intro p e s m below meth c s₁ hx hby hml hown hnm hret hlk hZ X0 e0
  have hown : s.vm.findClass "java/lang/String" = some m.cls := hown
  rw [own_efI2]
  subst hp1 hp2
  refine own_aload_n X0 hx (hb hby dI2_0) rfl rfl (q := 1) rfl ?_
  refine own_initO X0 hx hZ hown (hw _ (List.mem_of_getElem? (i := 21) rfl)) (hw _ (List.mem_of_getElem? (i := 22) rfl)) (hw _ (List.mem_of_getElem? (i := 23) rfl)) e0 (by rw [hml]; rfl) (hb hby dI2_1) (by decide) (W := 0) rfl (by decide) (q := 4) rfl ?_
  intro T1 X1 e1
  refine own_iload_n X1 hx (hb hby dI2_4) rfl (q := 5) rfl ?_
  refine own_if X1 hx (hb hby dI2_5) (by decide) (q := 27) rfl (q' := 8) rfl (own_z_ne _) (fun h5 => ?_) (fun h5 => ?_)
  · replace h5 : (2 : Int) ≠ 0 := h5
    refine own_getS X1 hx hZ hown (hw _ (List.mem_of_getElem? (i := 167) rfl)) e1 ST (hb hby dI2_27) (q := 30) rfl ?_
    intro T2 X2 e2
    refine own_if X2 hx (hb hby dI2_30) (by decide) (q := 58) rfl (q' := 33) rfl (own_z_eq _) (fun h30 => ?_) (fun h30 => ?_)
    · replace h30 : G1.toInt = 0 := h30
      exfalso; omega
    · replace h30 : ¬ (G1.toInt = 0) := h30
      refine own_aload_n X2 hx (hb hby dI2_33) rfl rfl (q := 34) rfl ?_
      refine own_iload_n X2 hx (hb hby dI2_34) rfl (q := 35) rfl ?_
      refine own_iload_n X2 hx (hb hby dI2_35) rfl (q := 36) rfl ?_
      refine own_callS X2 hx hZ hown (hw _ (List.mem_of_getElem? (i := 168) rfl)) (hw _ (List.mem_of_getElem? (i := 169) rfl)) (hw _ (List.mem_of_getElem? (i := 170) rfl)) (hw _ (List.mem_of_getElem? (i := 171) rfl)) (by decide) (own_rmU2 l Z a0 hw [] a2 (0 : Int32) (2 : Int32) f h0 n0 (Nat.le_trans hn0 (Nat.le_refl _)) AC hf rfl rfl) (by decide) (by decide) e2 (by rw [hml]; rfl) (argsL := [(.ref a2), (.int (0 : Int32)), (.int (2 : Int32))]) (rest := []) (lenOf own_pd1 rfl) rfl (W := 0) rfl (hb hby dI2_36) (q := 39) rfl rfl (by decide) (by decide) ?_
      rintro _ T3 L3 ⟨b3, rfl, o3, NL3, K3, g3_, AA3⟩ X3
      have N3 := Fr.app (Fr.nil n0) NL3
      obtain ⟨h3_, e3⟩ : ∃ z, T3.heap = z := ⟨_, rfl⟩
      rw [e3] at K3
      have E3 := own_kext K3
      have E_3 := E.ext E3
      have F1_3 := F1.ext E3
      have F2_3 := F2.ext E3
      have AC_3 := AC.ext E3
      have ST_3 := ST.ext E3
      have KK3 := Keep.ext (Keep.refl h0 [a1]) E3
      have z3_ : h0.size ≤ h3_.size := Nat.le_trans (Nat.le_refl _) K3.1
      obtain ⟨LL3, eL3⟩ : ∃ z, [] ++ L3 = z := ⟨_, rfl⟩
      rw [eL3] at X3 N3
      show own_G p e below _ (T3.setTop (mkF m 39 #[.val (.ref a1), .val (.ref a2), .val (.int (0 : Int32)), .val (.int (2 : Int32)), .val .null, .unset] [(.ref b3)]))
      rw [e3] at AA3
      refine own_astore X3 hx (hb hby dI2_39) rfl (l' := #[.val (.ref a1), .val (.ref a2), .val (.int (0 : Int32)), .val (.int (2 : Int32)), .val .null, .val (.ref b3)]) rfl (q := 41) rfl ?_
      refine own_aload_n X3 hx (hb hby dI2_41) rfl rfl (q := 42) rfl ?_
      refine own_aload X3 hx (hb hby dI2_42) rfl rfl (q := 44) rfl ?_
      refine own_iload_n X3 hx (hb hby dI2_44) rfl (q := 45) rfl ?_
      refine own_callSP X3 hx hZ hown (hw _ (List.mem_of_getElem? (i := 175) rfl)) (hw _ (List.mem_of_getElem? (i := 176) rfl)) (hw _ (List.mem_of_getElem? (i := 170) rfl)) (hw _ (List.mem_of_getElem? (i := 177) rfl)) (by decide) (own_rmL2 l Z a0 hw [] b3 (2 : Int32) g3_ h3_ AA3 rfl) (by decide) (by decide) e3 (by rw [hml]; rfl) (argsL := [(.ref b3), (.int (2 : Int32))]) (rest := [(.ref a1)]) (lenOf own_pd2 rfl) rfl (W := 1) rfl (hb hby dI2_45) (q := 48) rfl rfl rfl rfl (by decide) (by decide) ?_
      rintro _ T4 rfl X4 e4
      refine own_putF X4 hx hZ hown (hw _ (List.mem_of_getElem? (i := 31) rfl)) e4 F2_3 E_3 (Or.inr ⟨(hw _ (List.mem_of_getElem? (i := 27) rfl)), rfl, hnm⟩) (hw _ (List.mem_of_getElem? (i := 11) rfl)) (ft := .byte) (by decide) rfl rfl (hb hby dI2_48) N3 ha (q := 51) rfl ?_
      intro T5 h5_ L5 X5 N5 e5 W5
      have K5 := Keep.of_wr W5
      have E_5 := E_3.wr W5
      have F1_5 := F1_3.other W5 (Or.inr (slot_ne (Or.inr (hw _ (List.mem_of_getElem? (i := 26) rfl))) (Or.inr (hw _ (List.mem_of_getElem? (i := 27) rfl))) (by decide) (t := (.array .byte)) (t' := .byte) (by decide) (by decide)))
      have F2_5 := F2_3.same W5
      have KK5 := Keep.wr KK3 W5 (Or.inl (List.mem_of_getElem? (i := 0) rfl))
      have z5_ : h0.size ≤ h5_.size := Nat.le_trans z3_ K5.1
      refine own_aload_n X5 hx (hb hby dI2_51) rfl rfl (q := 52) rfl ?_
      refine own_aload X5 hx (hb hby dI2_52) rfl rfl (q := 54) rfl ?_
      refine own_putF X5 hx hZ hown (hw _ (List.mem_of_getElem? (i := 30) rfl)) e5 F1_5 E_5 (Or.inr ⟨(hw _ (List.mem_of_getElem? (i := 26) rfl)), rfl, hnm⟩) (hw _ (List.mem_of_getElem? (i := 11) rfl)) (ft := (.array .byte)) (by decide) rfl rfl (hb hby dI2_54) N5 ha (q := 57) rfl ?_
      intro T6 h6_ L6 X6 N6 e6 W6
      have K6 := Keep.of_wr W6
      have E_6 := E_5.wr W6
      have F1_6 := F1_5.same W6
      have F2_6 := F2_5.other W6 (Or.inr (slot_ne (Or.inr (hw _ (List.mem_of_getElem? (i := 27) rfl))) (Or.inr (hw _ (List.mem_of_getElem? (i := 26) rfl))) (by decide) (t := .byte) (t' := (.array .byte)) (by decide) (by decide)))
      have KK6 := Keep.wr KK5 W6 (Or.inl (List.mem_of_getElem? (i := 0) rfl))
      have z6_ : h0.size ≤ h6_.size := Nat.le_trans z5_ K6.1
      exact own_retV X6 hx hret hlk (hb hby dI2_57) (by decide) (by decide) (by rw [e6]; unfold own_QI2; exact ⟨rfl, N6, KK6⟩)
  · replace h5 : ¬ ((2 : Int) ≠ 0) := h5
    exact absurd h5 (by decide)
theorem dI3_0 : decode jdk_42_method_149_code 0 = .ok (.aload_n 0, 1) := by decide +kernel
theorem dI3_1 : decode jdk_42_method_149_code 1 = .ok (.invokespecial 1, 3) := by decide +kernel
theorem dI3_4 : decode jdk_42_method_149_code 4 = .ok (.iload_n 3, 1) := by decide +kernel
theorem dI3_5 : decode jdk_42_method_149_code 5 = .ok (.ifCond .ne 22, 3) := by decide +kernel
theorem dI3_27 : decode jdk_42_method_149_code 27 = .ok (.getstatic 38, 3) := by decide +kernel
theorem dI3_30 : decode jdk_42_method_149_code 30 = .ok (.ifCond .eq 28, 3) := by decide +kernel
theorem dI3_33 : decode jdk_42_method_149_code 33 = .ok (.aload_n 1, 1) := by decide +kernel
theorem dI3_34 : decode jdk_42_method_149_code 34 = .ok (.iload_n 2, 1) := by decide +kernel
theorem dI3_35 : decode jdk_42_method_149_code 35 = .ok (.iload_n 3, 1) := by decide +kernel
theorem dI3_36 : decode jdk_42_method_149_code 36 = .ok (.invokestatic 177, 3) := by decide +kernel
theorem dI3_39 : decode jdk_42_method_149_code 39 = .ok (.astore 5, 2) := by decide +kernel
theorem dI3_41 : decode jdk_42_method_149_code 41 = .ok (.aload_n 0, 1) := by decide +kernel
theorem dI3_42 : decode jdk_42_method_149_code 42 = .ok (.aload 5, 2) := by decide +kernel
theorem dI3_44 : decode jdk_42_method_149_code 44 = .ok (.iload_n 3, 1) := by decide +kernel
theorem dI3_45 : decode jdk_42_method_149_code 45 = .ok (.invokestatic 47, 3) := by decide +kernel
theorem dI3_48 : decode jdk_42_method_149_code 48 = .ok (.putfield 15, 3) := by decide +kernel
theorem dI3_51 : decode jdk_42_method_149_code 51 = .ok (.aload_n 0, 1) := by decide +kernel
theorem dI3_52 : decode jdk_42_method_149_code 52 = .ok (.aload 5, 2) := by decide +kernel
theorem dI3_54 : decode jdk_42_method_149_code 54 = .ok (.putfield 9, 3) := by decide +kernel
theorem dI3_57 : decode jdk_42_method_149_code 57 = .ok (.return_, 1) := by decide +kernel
def own_QI3 (Z : State) (a1 : Addr) (a2 : Addr) (p1 : Int32) (p2 : Int32) (h0 : Heap) (n0 : Nat) : Option Value → Heap → List Loc → Prop := fun v h L => v = none ∧ Fr n0 L ∧ Keep h0 h [a1]
theorem own_pnI3 : plainFor (⟨"java/lang/String", "<init>", "([CIILjava/lang/Void;)V"⟩ : MethodName) = true := plainFor_of_name (show plainName "java/lang/String" = true by first | (simp [plainName, overriddenIn]; done) | decide +kernel)
theorem own_efI3 (m : MethodId) (a1 : Addr) (a2 : Addr) (p1 : Int32) (p2 : Int32)  : entryFrame m #[(.ref a1), (.ref a2), (.int p1), (.int p2), .null] 6 = mkF m 0 #[.val (.ref a1), .val (.ref a2), .val (.int p1), .val (.int p2), .val .null, .unset] [] := by first | (simp [entryFrame, mkF, argsToLocals, Value.category, maxLocals]; done) | rfl
set_option maxRecDepth 65536 in
set_option maxHeartbeats 40000000 in
theorem own_rmI3 (l : Launch) (Z : State) (a0 : Array Value) (hw : ∀ d ∈ tables_1, d.before a0 Z = true) (ws : List Jvm.Cond) (a1 : Addr) (a2 : Addr) (p1 : Int32) (p2 : Int32) (f : Nat → Int32) (G1 : Int32) (h0 : Heap) (n0 : Nat) (hn0 : n0 ≤ h0.size) (ha : n0 ≤ a1) (E : Exa Z h0 a1 "java/lang/String") (F1 : Fld Z h0 a1 "java/lang/String" "value" "[B" (.null)) (F2 : Fld Z h0 a1 "java/lang/String" "coder" "B" (.int 0)) (hp1 : p1 = 0) (hp2 : p2 = 3) (hne : a2 ≠ a1) (AC : own_Arr Z h0 a2 .char 3 (fun i => .int (f i))) (hf : ∀ j, 0 ≤ (f j).toInt ∧ (f j).toInt ≤ 255) (ST : Sta Z h0 "java/lang/String" "COMPACT_STRINGS" "Z" (.int G1)) (hG : G1.toInt ≠ 0) :
    MetFree l (⟨"java/lang/String", "<init>", "([CIILjava/lang/Void;)V"⟩ : MethodName) (head1 (Jvm.Cond.code (⟨"java/lang/String", "<init>", "([CIILjava/lang/Void;)V"⟩ : MethodName) jdk_42_method_149_code 6 none :: ws) ({ frames := 2, cells := 1, slots := 3, locals := 35 } : Room)) (fun a U => a = #[(.ref a1), (.ref a2), (.int p1), (.int p2), .null] ∧ Z.Warmed39 U.vm ∧ U.heap = h0) (fun _ _ _ _ _ => True) (fun _ U o U' => ∃ v L, o = .returned v ∧ (own_QI3 Z a1 a2 p1 p2 h0 n0) v U'.heap L ∧ FrameEnd U o U' L ({ frames := 2, cells := 1, slots := 3, locals := 35 } : Room).cells ({ frames := 2, cells := 1, slots := 3, locals := 35 } : Room).slots) := by
  refine own_body (y := (⟨"java/lang/String", "<init>", "([CIILjava/lang/Void;)V"⟩ : MethodName)) (Q := own_QI3 Z a1 a2 p1 p2 h0 n0) (rm := ({ frames := 2, cells := 1, slots := 3, locals := 35 } : Room)) (as' := #[(.ref a1), (.ref a2), (.int p1), (.int p2), .null]) (h0 := h0) (Z := Z) own_pnI3 ?_
  intro p e s m below meth c s₁ hx hby hml hown hnm hret hlk hZ X0 e0
  have hown : s.vm.findClass "java/lang/String" = some m.cls := hown
  rw [own_efI3]
  subst hp1 hp2
  refine own_aload_n X0 hx (hb hby dI3_0) rfl rfl (q := 1) rfl ?_
  refine own_initO X0 hx hZ hown (hw _ (List.mem_of_getElem? (i := 21) rfl)) (hw _ (List.mem_of_getElem? (i := 22) rfl)) (hw _ (List.mem_of_getElem? (i := 23) rfl)) e0 (by rw [hml]; rfl) (hb hby dI3_1) (by decide) (W := 0) rfl (by decide) (q := 4) rfl ?_
  intro T1 X1 e1
  refine own_iload_n X1 hx (hb hby dI3_4) rfl (q := 5) rfl ?_
  refine own_if X1 hx (hb hby dI3_5) (by decide) (q := 27) rfl (q' := 8) rfl (own_z_ne _) (fun h5 => ?_) (fun h5 => ?_)
  · replace h5 : (3 : Int) ≠ 0 := h5
    refine own_getS X1 hx hZ hown (hw _ (List.mem_of_getElem? (i := 167) rfl)) e1 ST (hb hby dI3_27) (q := 30) rfl ?_
    intro T2 X2 e2
    refine own_if X2 hx (hb hby dI3_30) (by decide) (q := 58) rfl (q' := 33) rfl (own_z_eq _) (fun h30 => ?_) (fun h30 => ?_)
    · replace h30 : G1.toInt = 0 := h30
      exfalso; omega
    · replace h30 : ¬ (G1.toInt = 0) := h30
      refine own_aload_n X2 hx (hb hby dI3_33) rfl rfl (q := 34) rfl ?_
      refine own_iload_n X2 hx (hb hby dI3_34) rfl (q := 35) rfl ?_
      refine own_iload_n X2 hx (hb hby dI3_35) rfl (q := 36) rfl ?_
      refine own_callS X2 hx hZ hown (hw _ (List.mem_of_getElem? (i := 168) rfl)) (hw _ (List.mem_of_getElem? (i := 169) rfl)) (hw _ (List.mem_of_getElem? (i := 170) rfl)) (hw _ (List.mem_of_getElem? (i := 171) rfl)) (by decide) (own_rmU3 l Z a0 hw [] a2 (0 : Int32) (3 : Int32) f h0 n0 (Nat.le_trans hn0 (Nat.le_refl _)) AC hf rfl rfl) (by decide) (by decide) e2 (by rw [hml]; rfl) (argsL := [(.ref a2), (.int (0 : Int32)), (.int (3 : Int32))]) (rest := []) (lenOf own_pd1 rfl) rfl (W := 0) rfl (hb hby dI3_36) (q := 39) rfl rfl (by decide) (by decide) ?_
      rintro _ T3 L3 ⟨b3, rfl, o3, NL3, K3, g3_, AA3⟩ X3
      have N3 := Fr.app (Fr.nil n0) NL3
      obtain ⟨h3_, e3⟩ : ∃ z, T3.heap = z := ⟨_, rfl⟩
      rw [e3] at K3
      have E3 := own_kext K3
      have E_3 := E.ext E3
      have F1_3 := F1.ext E3
      have F2_3 := F2.ext E3
      have AC_3 := AC.ext E3
      have ST_3 := ST.ext E3
      have KK3 := Keep.ext (Keep.refl h0 [a1]) E3
      have z3_ : h0.size ≤ h3_.size := Nat.le_trans (Nat.le_refl _) K3.1
      obtain ⟨LL3, eL3⟩ : ∃ z, [] ++ L3 = z := ⟨_, rfl⟩
      rw [eL3] at X3 N3
      show own_G p e below _ (T3.setTop (mkF m 39 #[.val (.ref a1), .val (.ref a2), .val (.int (0 : Int32)), .val (.int (3 : Int32)), .val .null, .unset] [(.ref b3)]))
      rw [e3] at AA3
      refine own_astore X3 hx (hb hby dI3_39) rfl (l' := #[.val (.ref a1), .val (.ref a2), .val (.int (0 : Int32)), .val (.int (3 : Int32)), .val .null, .val (.ref b3)]) rfl (q := 41) rfl ?_
      refine own_aload_n X3 hx (hb hby dI3_41) rfl rfl (q := 42) rfl ?_
      refine own_aload X3 hx (hb hby dI3_42) rfl rfl (q := 44) rfl ?_
      refine own_iload_n X3 hx (hb hby dI3_44) rfl (q := 45) rfl ?_
      refine own_callSP X3 hx hZ hown (hw _ (List.mem_of_getElem? (i := 175) rfl)) (hw _ (List.mem_of_getElem? (i := 176) rfl)) (hw _ (List.mem_of_getElem? (i := 170) rfl)) (hw _ (List.mem_of_getElem? (i := 177) rfl)) (by decide) (own_rmL3 l Z a0 hw [] b3 (3 : Int32) g3_ h3_ AA3 rfl) (by decide) (by decide) e3 (by rw [hml]; rfl) (argsL := [(.ref b3), (.int (3 : Int32))]) (rest := [(.ref a1)]) (lenOf own_pd2 rfl) rfl (W := 1) rfl (hb hby dI3_45) (q := 48) rfl rfl rfl rfl (by decide) (by decide) ?_
      rintro _ T4 rfl X4 e4
      refine own_putF X4 hx hZ hown (hw _ (List.mem_of_getElem? (i := 31) rfl)) e4 F2_3 E_3 (Or.inr ⟨(hw _ (List.mem_of_getElem? (i := 27) rfl)), rfl, hnm⟩) (hw _ (List.mem_of_getElem? (i := 11) rfl)) (ft := .byte) (by decide) rfl rfl (hb hby dI3_48) N3 ha (q := 51) rfl ?_
      intro T5 h5_ L5 X5 N5 e5 W5
      have K5 := Keep.of_wr W5
      have E_5 := E_3.wr W5
      have F1_5 := F1_3.other W5 (Or.inr (slot_ne (Or.inr (hw _ (List.mem_of_getElem? (i := 26) rfl))) (Or.inr (hw _ (List.mem_of_getElem? (i := 27) rfl))) (by decide) (t := (.array .byte)) (t' := .byte) (by decide) (by decide)))
      have F2_5 := F2_3.same W5
      have KK5 := Keep.wr KK3 W5 (Or.inl (List.mem_of_getElem? (i := 0) rfl))
      have z5_ : h0.size ≤ h5_.size := Nat.le_trans z3_ K5.1
      refine own_aload_n X5 hx (hb hby dI3_51) rfl rfl (q := 52) rfl ?_
      refine own_aload X5 hx (hb hby dI3_52) rfl rfl (q := 54) rfl ?_
      refine own_putF X5 hx hZ hown (hw _ (List.mem_of_getElem? (i := 30) rfl)) e5 F1_5 E_5 (Or.inr ⟨(hw _ (List.mem_of_getElem? (i := 26) rfl)), rfl, hnm⟩) (hw _ (List.mem_of_getElem? (i := 11) rfl)) (ft := (.array .byte)) (by decide) rfl rfl (hb hby dI3_54) N5 ha (q := 57) rfl ?_
      intro T6 h6_ L6 X6 N6 e6 W6
      have K6 := Keep.of_wr W6
      have E_6 := E_5.wr W6
      have F1_6 := F1_5.same W6
      have F2_6 := F2_5.other W6 (Or.inr (slot_ne (Or.inr (hw _ (List.mem_of_getElem? (i := 27) rfl))) (Or.inr (hw _ (List.mem_of_getElem? (i := 26) rfl))) (by decide) (t := .byte) (t' := (.array .byte)) (by decide) (by decide)))
      have KK6 := Keep.wr KK5 W6 (Or.inl (List.mem_of_getElem? (i := 0) rfl))
      have z6_ : h0.size ≤ h6_.size := Nat.le_trans z5_ K6.1
      exact own_retV X6 hx hret hlk (hb hby dI3_57) (by decide) (by decide) (by rw [e6]; unfold own_QI3; exact ⟨rfl, N6, KK6⟩)
  · replace h5 : ¬ ((3 : Int) ≠ 0) := h5
    exact absurd h5 (by decide)
theorem dJ0_0 : decode jdk_42_method_3_code 0 = .ok (.aload_n 0, 1) := by decide +kernel
theorem dJ0_1 : decode jdk_42_method_3_code 1 = .ok (.aload_n 1, 1) := by decide +kernel
theorem dJ0_2 : decode jdk_42_method_3_code 2 = .ok (.iconst 0, 1) := by decide +kernel
theorem dJ0_3 : decode jdk_42_method_3_code 3 = .ok (.aload_n 1, 1) := by decide +kernel
theorem dJ0_4 : decode jdk_42_method_3_code 4 = .ok (.arraylength, 1) := by decide +kernel
theorem dJ0_5 : decode jdk_42_method_3_code 5 = .ok (.aconst_null, 1) := by decide +kernel
theorem dJ0_6 : decode jdk_42_method_3_code 6 = .ok (.invokespecial 27, 3) := by decide +kernel
theorem dJ0_9 : decode jdk_42_method_3_code 9 = .ok (.return_, 1) := by decide +kernel
def own_QJ0 (Z : State) (a1 : Addr) (a2 : Addr) (h0 : Heap) (n0 : Nat) : Option Value → Heap → List Loc → Prop := fun v h L => v = none ∧ Fr n0 L ∧ Keep h0 h [a1]
theorem own_pnJ0 : plainFor (⟨"java/lang/String", "<init>", "([C)V"⟩ : MethodName) = true := plainFor_of_name (show plainName "java/lang/String" = true by first | (simp [plainName, overriddenIn]; done) | decide +kernel)
theorem own_efJ0 (m : MethodId) (a1 : Addr) (a2 : Addr)  : entryFrame m #[(.ref a1), (.ref a2)] 2 = mkF m 0 #[.val (.ref a1), .val (.ref a2)] [] := by first | (simp [entryFrame, mkF, argsToLocals, Value.category, maxLocals]; done) | rfl
set_option maxRecDepth 65536 in
set_option maxHeartbeats 40000000 in
theorem own_rmJ0 (l : Launch) (Z : State) (a0 : Array Value) (hw : ∀ d ∈ tables_1, d.before a0 Z = true) (ws : List Jvm.Cond) (a1 : Addr) (a2 : Addr) (f : Nat → Int32) (h0 : Heap) (n0 : Nat) (hn0 : n0 ≤ h0.size) (ha : n0 ≤ a1) (E : Exa Z h0 a1 "java/lang/String") (F1 : Fld Z h0 a1 "java/lang/String" "value" "[B" (.null)) (F2 : Fld Z h0 a1 "java/lang/String" "coder" "B" (.int 0)) (hne : a2 ≠ a1) (AC : own_Arr Z h0 a2 .char 0 (fun i => .int (f i))) (hf : ∀ j, 0 ≤ (f j).toInt ∧ (f j).toInt ≤ 255) :
    MetFree l (⟨"java/lang/String", "<init>", "([C)V"⟩ : MethodName) (head1 (Jvm.Cond.code (⟨"java/lang/String", "<init>", "([C)V"⟩ : MethodName) jdk_42_method_3_code 2 none :: ws) ({ frames := 2, cells := 4, slots := 8, locals := 29 } : Room)) (fun a U => a = #[(.ref a1), (.ref a2)] ∧ Z.Warmed39 U.vm ∧ U.heap = h0 ∧ CHv Z consts_1 U.vm h0 ∧ ∀ x ∈ ([a1] : List Addr), Safe Z consts_1 U.vm h0 x) (fun _ _ _ _ _ => True) (fun _ U o U' => ∃ v L, o = .returned v ∧ (own_QJ0 Z a1 a2 h0 n0) v U'.heap L ∧ CHr Z consts_1 U.vm U.heap U'.vm U'.heap ∧ ReturnedEndW U o U' L ({ frames := 2, cells := 4, slots := 8, locals := 29 } : Room).cells ({ frames := 2, cells := 4, slots := 8, locals := 29 } : Room).slots) := by
  refine own_Wbody (EL := consts_1) (y := (⟨"java/lang/String", "<init>", "([C)V"⟩ : MethodName)) (Q := own_QJ0 Z a1 a2 h0 n0) (rm := ({ frames := 2, cells := 4, slots := 8, locals := 29 } : Room)) (as' := #[(.ref a1), (.ref a2)]) (h0 := h0) (Z := Z) (sf := [a1]) own_pnJ0 ?_
  intro p e s m below meth c s₁ hx hby hml hown hnm hret hlk hZ X0 e0 hS hk HC0 hsf0
  have hown : s.vm.findClass "java/lang/String" = some m.cls := hown
  rw [own_efJ0]
  have SP0 := hsf0 a1 (List.mem_of_getElem? (i := 0) rfl)
  refine own_aload_n X0 hx (hb hby dJ0_0) rfl rfl (q := 1) rfl ?_
  refine own_aload_n X0 hx (hb hby dJ0_1) rfl rfl (q := 2) rfl ?_
  refine own_iconst X0 hx (hb hby dJ0_2) (v := (0 : Int32)) rfl (q := 3) rfl ?_
  refine own_aload_n X0 hx (hb hby dJ0_3) rfl rfl (q := 4) rfl ?_
  refine own_arraylength X0 hx hZ e0 AC (hb hby dJ0_4) (v := (0 : Int32)) rfl (q := 5) rfl ?_
  refine own_aconst_null X0 hx (hb hby dJ0_5) (q := 6) rfl ?_
  refine own_WcallN X0 hx hZ rfl hown (hw _ (List.mem_of_getElem? (i := 17) rfl)) (hw _ (List.mem_of_getElem? (i := 18) rfl)) (hw _ (List.mem_of_getElem? (i := 12) rfl)) (hw _ (List.mem_of_getElem? (i := 20) rfl)) (by decide) (own_rmI0 l Z a0 hw [] a1 a2 (0 : Int32) (0 : Int32)  h0 n0 (Nat.le_trans hn0 (Nat.le_refl _)) ha E F1 F2 rfl rfl) (by decide) (by decide) hS hk (own_EW hw) HC0 (fun y q => by cases List.mem_singleton.mp q; exact ⟨E.lt, SP0⟩) e0 (by rw [hml]; rfl) (argsL := [(.ref a2), (.int (0 : Int32)), (.int (0 : Int32)), .null]) (rest := []) (lenOf own_pd3 rfl) rfl (W := 0) rfl (hb hby dJ0_6) (q := 9) rfl rfl (by decide) (by decide) ?_
  rintro _ T1 L1 h1_ kk1 ⟨rfl, NL1, K1⟩ X1 e1 hS hk hZ hown HC1 SF1
  have N1 := Fr.app (Fr.nil n0) NL1
  have SP0_1 := SF1 a1 E.lt SP0
  have E_1 := E.keep K1
  have AC_1 := AC.keep K1 (ninS hne nin0)
  have KK1 := Keep.trans (Keep.refl h0 [a1]) K1 (allS (Or.inl (List.mem_of_getElem? (i := 0) rfl)) all0)
  have z1_ : h0.size ≤ h1_.size := Nat.le_trans (Nat.le_refl _) K1.1
  obtain ⟨LL1, eL1⟩ : ∃ z, [] ++ L1 = z := ⟨_, rfl⟩
  rw [eL1] at X1 N1
  show own_G p e below _ (T1.setTop (mkF m 9 #[.val (.ref a1), .val (.ref a2)] []))
  exact own_WretV X1 hx hZ (own_EW hw) hS hk HC1 e1 hret hlk (hb hby dJ0_9) (by decide) (by decide) (by rw [e1]; unfold own_QJ0; exact ⟨rfl, N1, KK1⟩)
theorem dJ1_0 : decode jdk_42_method_3_code 0 = .ok (.aload_n 0, 1) := by decide +kernel
theorem dJ1_1 : decode jdk_42_method_3_code 1 = .ok (.aload_n 1, 1) := by decide +kernel
theorem dJ1_2 : decode jdk_42_method_3_code 2 = .ok (.iconst 0, 1) := by decide +kernel
theorem dJ1_3 : decode jdk_42_method_3_code 3 = .ok (.aload_n 1, 1) := by decide +kernel
theorem dJ1_4 : decode jdk_42_method_3_code 4 = .ok (.arraylength, 1) := by decide +kernel
theorem dJ1_5 : decode jdk_42_method_3_code 5 = .ok (.aconst_null, 1) := by decide +kernel
theorem dJ1_6 : decode jdk_42_method_3_code 6 = .ok (.invokespecial 27, 3) := by decide +kernel
theorem dJ1_9 : decode jdk_42_method_3_code 9 = .ok (.return_, 1) := by decide +kernel
def own_QJ1 (Z : State) (a1 : Addr) (a2 : Addr) (h0 : Heap) (n0 : Nat) : Option Value → Heap → List Loc → Prop := fun v h L => v = none ∧ Fr n0 L ∧ Keep h0 h [a1]
theorem own_pnJ1 : plainFor (⟨"java/lang/String", "<init>", "([C)V"⟩ : MethodName) = true := plainFor_of_name (show plainName "java/lang/String" = true by first | (simp [plainName, overriddenIn]; done) | decide +kernel)
theorem own_efJ1 (m : MethodId) (a1 : Addr) (a2 : Addr)  : entryFrame m #[(.ref a1), (.ref a2)] 2 = mkF m 0 #[.val (.ref a1), .val (.ref a2)] [] := by first | (simp [entryFrame, mkF, argsToLocals, Value.category, maxLocals]; done) | rfl
set_option maxRecDepth 65536 in
set_option maxHeartbeats 40000000 in
theorem own_rmJ1 (l : Launch) (Z : State) (a0 : Array Value) (hw : ∀ d ∈ tables_1, d.before a0 Z = true) (ws : List Jvm.Cond) (a1 : Addr) (a2 : Addr) (f : Nat → Int32) (G1 : Int32) (h0 : Heap) (n0 : Nat) (hn0 : n0 ≤ h0.size) (ha : n0 ≤ a1) (E : Exa Z h0 a1 "java/lang/String") (F1 : Fld Z h0 a1 "java/lang/String" "value" "[B" (.null)) (F2 : Fld Z h0 a1 "java/lang/String" "coder" "B" (.int 0)) (hne : a2 ≠ a1) (AC : own_Arr Z h0 a2 .char 1 (fun i => .int (f i))) (hf : ∀ j, 0 ≤ (f j).toInt ∧ (f j).toInt ≤ 255) (ST : Sta Z h0 "java/lang/String" "COMPACT_STRINGS" "Z" (.int G1)) (hG : G1.toInt ≠ 0) :
    MetFree l (⟨"java/lang/String", "<init>", "([C)V"⟩ : MethodName) (head1 (Jvm.Cond.code (⟨"java/lang/String", "<init>", "([C)V"⟩ : MethodName) jdk_42_method_3_code 2 none :: ws) ({ frames := 3, cells := 1, slots := 1, locals := 52 } : Room)) (fun a U => a = #[(.ref a1), (.ref a2)] ∧ Z.Warmed39 U.vm ∧ U.heap = h0) (fun _ _ _ _ _ => True) (fun _ U o U' => ∃ v L, o = .returned v ∧ (own_QJ1 Z a1 a2 h0 n0) v U'.heap L ∧ FrameEnd U o U' L ({ frames := 3, cells := 1, slots := 1, locals := 52 } : Room).cells ({ frames := 3, cells := 1, slots := 1, locals := 52 } : Room).slots) := by
  refine own_body (y := (⟨"java/lang/String", "<init>", "([C)V"⟩ : MethodName)) (Q := own_QJ1 Z a1 a2 h0 n0) (rm := ({ frames := 3, cells := 1, slots := 1, locals := 52 } : Room)) (as' := #[(.ref a1), (.ref a2)]) (h0 := h0) (Z := Z) own_pnJ1 ?_
  intro p e s m below meth c s₁ hx hby hml hown hnm hret hlk hZ X0 e0
  have hown : s.vm.findClass "java/lang/String" = some m.cls := hown
  rw [own_efJ1]
  refine own_aload_n X0 hx (hb hby dJ1_0) rfl rfl (q := 1) rfl ?_
  refine own_aload_n X0 hx (hb hby dJ1_1) rfl rfl (q := 2) rfl ?_
  refine own_iconst X0 hx (hb hby dJ1_2) (v := (0 : Int32)) rfl (q := 3) rfl ?_
  refine own_aload_n X0 hx (hb hby dJ1_3) rfl rfl (q := 4) rfl ?_
  refine own_arraylength X0 hx hZ e0 AC (hb hby dJ1_4) (v := (1 : Int32)) rfl (q := 5) rfl ?_
  refine own_aconst_null X0 hx (hb hby dJ1_5) (q := 6) rfl ?_
  refine own_callN X0 hx hZ rfl hown (hw _ (List.mem_of_getElem? (i := 17) rfl)) (hw _ (List.mem_of_getElem? (i := 18) rfl)) (hw _ (List.mem_of_getElem? (i := 12) rfl)) (hw _ (List.mem_of_getElem? (i := 20) rfl)) (by decide) (own_rmI1 l Z a0 hw [] a1 a2 (0 : Int32) (1 : Int32) f G1 h0 n0 (Nat.le_trans hn0 (Nat.le_refl _)) ha E F1 F2 rfl rfl hne AC hf ST hG) (by decide) (by decide) e0 (by rw [hml]; rfl) (argsL := [(.ref a2), (.int (0 : Int32)), (.int (1 : Int32)), .null]) (rest := []) (lenOf own_pd3 rfl) rfl (W := 0) rfl (hb hby dJ1_6) (q := 9) rfl rfl (by decide) (by decide) ?_
  rintro _ T1 L1 ⟨rfl, NL1, K1⟩ X1
  have N1 := Fr.app (Fr.nil n0) NL1
  obtain ⟨h1_, e1⟩ : ∃ z, T1.heap = z := ⟨_, rfl⟩
  rw [e1] at K1 
  have E_1 := E.keep K1
  have AC_1 := AC.keep K1 (ninS hne nin0)
  have ST_1 := own_sta_keep ST K1 (nsS (Exa.nostat E) ns0)
  have KK1 := Keep.trans (Keep.refl h0 [a1]) K1 (allS (Or.inl (List.mem_of_getElem? (i := 0) rfl)) all0)
  have z1_ : h0.size ≤ h1_.size := Nat.le_trans (Nat.le_refl _) K1.1
  obtain ⟨LL1, eL1⟩ : ∃ z, [] ++ L1 = z := ⟨_, rfl⟩
  rw [eL1] at X1 N1
  show own_G p e below _ (T1.setTop (mkF m 9 #[.val (.ref a1), .val (.ref a2)] []))
  exact own_retV X1 hx hret hlk (hb hby dJ1_9) (by decide) (by decide) (by rw [e1]; unfold own_QJ1; exact ⟨rfl, N1, KK1⟩)
theorem dJ2_0 : decode jdk_42_method_3_code 0 = .ok (.aload_n 0, 1) := by decide +kernel
theorem dJ2_1 : decode jdk_42_method_3_code 1 = .ok (.aload_n 1, 1) := by decide +kernel
theorem dJ2_2 : decode jdk_42_method_3_code 2 = .ok (.iconst 0, 1) := by decide +kernel
theorem dJ2_3 : decode jdk_42_method_3_code 3 = .ok (.aload_n 1, 1) := by decide +kernel
theorem dJ2_4 : decode jdk_42_method_3_code 4 = .ok (.arraylength, 1) := by decide +kernel
theorem dJ2_5 : decode jdk_42_method_3_code 5 = .ok (.aconst_null, 1) := by decide +kernel
theorem dJ2_6 : decode jdk_42_method_3_code 6 = .ok (.invokespecial 27, 3) := by decide +kernel
theorem dJ2_9 : decode jdk_42_method_3_code 9 = .ok (.return_, 1) := by decide +kernel
def own_QJ2 (Z : State) (a1 : Addr) (a2 : Addr) (h0 : Heap) (n0 : Nat) : Option Value → Heap → List Loc → Prop := fun v h L => v = none ∧ Fr n0 L ∧ Keep h0 h [a1]
theorem own_pnJ2 : plainFor (⟨"java/lang/String", "<init>", "([C)V"⟩ : MethodName) = true := plainFor_of_name (show plainName "java/lang/String" = true by first | (simp [plainName, overriddenIn]; done) | decide +kernel)
theorem own_efJ2 (m : MethodId) (a1 : Addr) (a2 : Addr)  : entryFrame m #[(.ref a1), (.ref a2)] 2 = mkF m 0 #[.val (.ref a1), .val (.ref a2)] [] := by first | (simp [entryFrame, mkF, argsToLocals, Value.category, maxLocals]; done) | rfl
set_option maxRecDepth 65536 in
set_option maxHeartbeats 40000000 in
theorem own_rmJ2 (l : Launch) (Z : State) (a0 : Array Value) (hw : ∀ d ∈ tables_1, d.before a0 Z = true) (ws : List Jvm.Cond) (a1 : Addr) (a2 : Addr) (f : Nat → Int32) (G1 : Int32) (h0 : Heap) (n0 : Nat) (hn0 : n0 ≤ h0.size) (ha : n0 ≤ a1) (E : Exa Z h0 a1 "java/lang/String") (F1 : Fld Z h0 a1 "java/lang/String" "value" "[B" (.null)) (F2 : Fld Z h0 a1 "java/lang/String" "coder" "B" (.int 0)) (hne : a2 ≠ a1) (AC : own_Arr Z h0 a2 .char 2 (fun i => .int (f i))) (hf : ∀ j, 0 ≤ (f j).toInt ∧ (f j).toInt ≤ 255) (ST : Sta Z h0 "java/lang/String" "COMPACT_STRINGS" "Z" (.int G1)) (hG : G1.toInt ≠ 0) :
    MetFree l (⟨"java/lang/String", "<init>", "([C)V"⟩ : MethodName) (head1 (Jvm.Cond.code (⟨"java/lang/String", "<init>", "([C)V"⟩ : MethodName) jdk_42_method_3_code 2 none :: ws) ({ frames := 3, cells := 1, slots := 2, locals := 52 } : Room)) (fun a U => a = #[(.ref a1), (.ref a2)] ∧ Z.Warmed39 U.vm ∧ U.heap = h0) (fun _ _ _ _ _ => True) (fun _ U o U' => ∃ v L, o = .returned v ∧ (own_QJ2 Z a1 a2 h0 n0) v U'.heap L ∧ FrameEnd U o U' L ({ frames := 3, cells := 1, slots := 2, locals := 52 } : Room).cells ({ frames := 3, cells := 1, slots := 2, locals := 52 } : Room).slots) := by
  refine own_body (y := (⟨"java/lang/String", "<init>", "([C)V"⟩ : MethodName)) (Q := own_QJ2 Z a1 a2 h0 n0) (rm := ({ frames := 3, cells := 1, slots := 2, locals := 52 } : Room)) (as' := #[(.ref a1), (.ref a2)]) (h0 := h0) (Z := Z) own_pnJ2 ?_
  intro p e s m below meth c s₁ hx hby hml hown hnm hret hlk hZ X0 e0
  have hown : s.vm.findClass "java/lang/String" = some m.cls := hown
  rw [own_efJ2]
  refine own_aload_n X0 hx (hb hby dJ2_0) rfl rfl (q := 1) rfl ?_
  refine own_aload_n X0 hx (hb hby dJ2_1) rfl rfl (q := 2) rfl ?_
  refine own_iconst X0 hx (hb hby dJ2_2) (v := (0 : Int32)) rfl (q := 3) rfl ?_
  refine own_aload_n X0 hx (hb hby dJ2_3) rfl rfl (q := 4) rfl ?_
  refine own_arraylength X0 hx hZ e0 AC (hb hby dJ2_4) (v := (2 : Int32)) rfl (q := 5) rfl ?_
  refine own_aconst_null X0 hx (hb hby dJ2_5) (q := 6) rfl ?_
  refine own_callN X0 hx hZ rfl hown (hw _ (List.mem_of_getElem? (i := 17) rfl)) (hw _ (List.mem_of_getElem? (i := 18) rfl)) (hw _ (List.mem_of_getElem? (i := 12) rfl)) (hw _ (List.mem_of_getElem? (i := 20) rfl)) (by decide) (own_rmI2 l Z a0 hw [] a1 a2 (0 : Int32) (2 : Int32) f G1 h0 n0 (Nat.le_trans hn0 (Nat.le_refl _)) ha E F1 F2 rfl rfl hne AC hf ST hG) (by decide) (by decide) e0 (by rw [hml]; rfl) (argsL := [(.ref a2), (.int (0 : Int32)), (.int (2 : Int32)), .null]) (rest := []) (lenOf own_pd3 rfl) rfl (W := 0) rfl (hb hby dJ2_6) (q := 9) rfl rfl (by decide) (by decide) ?_
  rintro _ T1 L1 ⟨rfl, NL1, K1⟩ X1
  have N1 := Fr.app (Fr.nil n0) NL1
  obtain ⟨h1_, e1⟩ : ∃ z, T1.heap = z := ⟨_, rfl⟩
  rw [e1] at K1 
  have E_1 := E.keep K1
  have AC_1 := AC.keep K1 (ninS hne nin0)
  have ST_1 := own_sta_keep ST K1 (nsS (Exa.nostat E) ns0)
  have KK1 := Keep.trans (Keep.refl h0 [a1]) K1 (allS (Or.inl (List.mem_of_getElem? (i := 0) rfl)) all0)
  have z1_ : h0.size ≤ h1_.size := Nat.le_trans (Nat.le_refl _) K1.1
  obtain ⟨LL1, eL1⟩ : ∃ z, [] ++ L1 = z := ⟨_, rfl⟩
  rw [eL1] at X1 N1
  show own_G p e below _ (T1.setTop (mkF m 9 #[.val (.ref a1), .val (.ref a2)] []))
  exact own_retV X1 hx hret hlk (hb hby dJ2_9) (by decide) (by decide) (by rw [e1]; unfold own_QJ2; exact ⟨rfl, N1, KK1⟩)
theorem dJ3_0 : decode jdk_42_method_3_code 0 = .ok (.aload_n 0, 1) := by decide +kernel
theorem dJ3_1 : decode jdk_42_method_3_code 1 = .ok (.aload_n 1, 1) := by decide +kernel
theorem dJ3_2 : decode jdk_42_method_3_code 2 = .ok (.iconst 0, 1) := by decide +kernel
theorem dJ3_3 : decode jdk_42_method_3_code 3 = .ok (.aload_n 1, 1) := by decide +kernel
theorem dJ3_4 : decode jdk_42_method_3_code 4 = .ok (.arraylength, 1) := by decide +kernel
theorem dJ3_5 : decode jdk_42_method_3_code 5 = .ok (.aconst_null, 1) := by decide +kernel
theorem dJ3_6 : decode jdk_42_method_3_code 6 = .ok (.invokespecial 27, 3) := by decide +kernel
theorem dJ3_9 : decode jdk_42_method_3_code 9 = .ok (.return_, 1) := by decide +kernel
def own_QJ3 (Z : State) (a1 : Addr) (a2 : Addr) (h0 : Heap) (n0 : Nat) : Option Value → Heap → List Loc → Prop := fun v h L => v = none ∧ Fr n0 L ∧ Keep h0 h [a1]
theorem own_pnJ3 : plainFor (⟨"java/lang/String", "<init>", "([C)V"⟩ : MethodName) = true := plainFor_of_name (show plainName "java/lang/String" = true by first | (simp [plainName, overriddenIn]; done) | decide +kernel)
theorem own_efJ3 (m : MethodId) (a1 : Addr) (a2 : Addr)  : entryFrame m #[(.ref a1), (.ref a2)] 2 = mkF m 0 #[.val (.ref a1), .val (.ref a2)] [] := by first | (simp [entryFrame, mkF, argsToLocals, Value.category, maxLocals]; done) | rfl
set_option maxRecDepth 65536 in
set_option maxHeartbeats 40000000 in
theorem own_rmJ3 (l : Launch) (Z : State) (a0 : Array Value) (hw : ∀ d ∈ tables_1, d.before a0 Z = true) (ws : List Jvm.Cond) (a1 : Addr) (a2 : Addr) (f : Nat → Int32) (G1 : Int32) (h0 : Heap) (n0 : Nat) (hn0 : n0 ≤ h0.size) (ha : n0 ≤ a1) (E : Exa Z h0 a1 "java/lang/String") (F1 : Fld Z h0 a1 "java/lang/String" "value" "[B" (.null)) (F2 : Fld Z h0 a1 "java/lang/String" "coder" "B" (.int 0)) (hne : a2 ≠ a1) (AC : own_Arr Z h0 a2 .char 3 (fun i => .int (f i))) (hf : ∀ j, 0 ≤ (f j).toInt ∧ (f j).toInt ≤ 255) (ST : Sta Z h0 "java/lang/String" "COMPACT_STRINGS" "Z" (.int G1)) (hG : G1.toInt ≠ 0) :
    MetFree l (⟨"java/lang/String", "<init>", "([C)V"⟩ : MethodName) (head1 (Jvm.Cond.code (⟨"java/lang/String", "<init>", "([C)V"⟩ : MethodName) jdk_42_method_3_code 2 none :: ws) ({ frames := 3, cells := 1, slots := 3, locals := 52 } : Room)) (fun a U => a = #[(.ref a1), (.ref a2)] ∧ Z.Warmed39 U.vm ∧ U.heap = h0) (fun _ _ _ _ _ => True) (fun _ U o U' => ∃ v L, o = .returned v ∧ (own_QJ3 Z a1 a2 h0 n0) v U'.heap L ∧ FrameEnd U o U' L ({ frames := 3, cells := 1, slots := 3, locals := 52 } : Room).cells ({ frames := 3, cells := 1, slots := 3, locals := 52 } : Room).slots) := by
  refine own_body (y := (⟨"java/lang/String", "<init>", "([C)V"⟩ : MethodName)) (Q := own_QJ3 Z a1 a2 h0 n0) (rm := ({ frames := 3, cells := 1, slots := 3, locals := 52 } : Room)) (as' := #[(.ref a1), (.ref a2)]) (h0 := h0) (Z := Z) own_pnJ3 ?_
  intro p e s m below meth c s₁ hx hby hml hown hnm hret hlk hZ X0 e0
  have hown : s.vm.findClass "java/lang/String" = some m.cls := hown
  rw [own_efJ3]
  refine own_aload_n X0 hx (hb hby dJ3_0) rfl rfl (q := 1) rfl ?_
  refine own_aload_n X0 hx (hb hby dJ3_1) rfl rfl (q := 2) rfl ?_
  refine own_iconst X0 hx (hb hby dJ3_2) (v := (0 : Int32)) rfl (q := 3) rfl ?_
  refine own_aload_n X0 hx (hb hby dJ3_3) rfl rfl (q := 4) rfl ?_
  refine own_arraylength X0 hx hZ e0 AC (hb hby dJ3_4) (v := (3 : Int32)) rfl (q := 5) rfl ?_
  refine own_aconst_null X0 hx (hb hby dJ3_5) (q := 6) rfl ?_
  refine own_callN X0 hx hZ rfl hown (hw _ (List.mem_of_getElem? (i := 17) rfl)) (hw _ (List.mem_of_getElem? (i := 18) rfl)) (hw _ (List.mem_of_getElem? (i := 12) rfl)) (hw _ (List.mem_of_getElem? (i := 20) rfl)) (by decide) (own_rmI3 l Z a0 hw [] a1 a2 (0 : Int32) (3 : Int32) f G1 h0 n0 (Nat.le_trans hn0 (Nat.le_refl _)) ha E F1 F2 rfl rfl hne AC hf ST hG) (by decide) (by decide) e0 (by rw [hml]; rfl) (argsL := [(.ref a2), (.int (0 : Int32)), (.int (3 : Int32)), .null]) (rest := []) (lenOf own_pd3 rfl) rfl (W := 0) rfl (hb hby dJ3_6) (q := 9) rfl rfl (by decide) (by decide) ?_
  rintro _ T1 L1 ⟨rfl, NL1, K1⟩ X1
  have N1 := Fr.app (Fr.nil n0) NL1
  obtain ⟨h1_, e1⟩ : ∃ z, T1.heap = z := ⟨_, rfl⟩
  rw [e1] at K1 
  have E_1 := E.keep K1
  have AC_1 := AC.keep K1 (ninS hne nin0)
  have ST_1 := own_sta_keep ST K1 (nsS (Exa.nostat E) ns0)
  have KK1 := Keep.trans (Keep.refl h0 [a1]) K1 (allS (Or.inl (List.mem_of_getElem? (i := 0) rfl)) all0)
  have z1_ : h0.size ≤ h1_.size := Nat.le_trans (Nat.le_refl _) K1.1
  obtain ⟨LL1, eL1⟩ : ∃ z, [] ++ L1 = z := ⟨_, rfl⟩
  rw [eL1] at X1 N1
  show own_G p e below _ (T1.setTop (mkF m 9 #[.val (.ref a1), .val (.ref a2)] []))
  exact own_retV X1 hx hret hlk (hb hby dJ3_9) (by decide) (by decide) (by rw [e1]; unfold own_QJ3; exact ⟨rfl, N1, KK1⟩)
theorem dR_0 : decode jdk_30_method_1_code 0 = .ok (.aload_n 0, 1) := by decide +kernel
theorem dR_1 : decode jdk_30_method_1_code 1 = .ok (.invokespecial 1, 3) := by decide +kernel
theorem dR_4 : decode jdk_30_method_1_code 4 = .ok (.return_, 1) := by decide +kernel
theorem own_pnR : plainFor (⟨"java/lang/Record", "<init>", "()V"⟩ : MethodName) = true := plainFor_of_name (show plainName "java/lang/Record" = true by first | (simp [plainName, overriddenIn]; done) | decide +kernel)
theorem own_efR (m : MethodId) (a1 : Addr)  : entryFrame m #[(.ref a1)] 1 = mkF m 0 #[.val (.ref a1)] [] := by first | (simp [entryFrame, mkF, argsToLocals, Value.category, maxLocals]; done) | rfl
set_option maxRecDepth 65536 in
set_option maxHeartbeats 40000000 in
theorem own_rmR (l : Launch) (Z : State) (a0 : Array Value) (hw : ∀ d ∈ tables_1, d.before a0 Z = true) (ws : List Jvm.Cond) (a1 : Addr)  (h0 : Heap)  :
    MetFree l (⟨"java/lang/Record", "<init>", "()V"⟩ : MethodName) (head1 (Jvm.Cond.code (⟨"java/lang/Record", "<init>", "()V"⟩ : MethodName) jdk_30_method_1_code 1 none :: ws) ({ frames := 1, cells := 0, slots := 0, locals := 12 } : Room)) (fun a U => a = #[(.ref a1)] ∧ Z.Warmed39 U.vm ∧ U.heap = h0) (fun _ _ _ _ _ => True) (fun _ U o U' => ∃ v L, o = .returned v ∧ (fun v h L => v = none ∧ L = [] ∧ h = h0) v U'.heap L ∧ FrameEnd U o U' L ({ frames := 1, cells := 0, slots := 0, locals := 12 } : Room).cells ({ frames := 1, cells := 0, slots := 0, locals := 12 } : Room).slots) := by
  refine own_body (y := (⟨"java/lang/Record", "<init>", "()V"⟩ : MethodName)) (Q := fun v h L => v = none ∧ L = [] ∧ h = h0) (rm := ({ frames := 1, cells := 0, slots := 0, locals := 12 } : Room)) (as' := #[(.ref a1)]) (h0 := h0) (Z := Z) own_pnR ?_
  intro p e s m below meth c s₁ hx hby hml hown hnm hret hlk hZ X0 e0
  have hown : s.vm.findClass "java/lang/Record" = some m.cls := hown
  rw [own_efR]
  refine own_aload_n X0 hx (hb hby dR_0) rfl rfl (q := 1) rfl ?_
  refine own_initO X0 hx hZ hown (hw _ (List.mem_of_getElem? (i := 98) rfl)) (hw _ (List.mem_of_getElem? (i := 22) rfl)) (hw _ (List.mem_of_getElem? (i := 23) rfl)) e0 (by rw [hml]; rfl) (hb hby dR_1) (by decide) (W := 0) rfl (by decide) (q := 4) rfl ?_
  intro T1 X1 e1
  exact own_retV X1 hx hret hlk (hb hby dR_4) (by decide) (by decide) ⟨rfl, rfl, e1⟩
theorem da0_0 : decode jdk_22_method_1_code 0 = .ok (.aload_n 0, 1) := by decide +kernel
theorem da0_1 : decode jdk_22_method_1_code 1 = .ok (.invokespecial 1, 3) := by decide +kernel
theorem da0_4 : decode jdk_22_method_1_code 4 = .ok (.return_, 1) := by decide +kernel
theorem own_pna0 : plainFor (⟨"java/util/AbstractCollection", "<init>", "()V"⟩ : MethodName) = true := plainFor_of_name (show plainName "java/util/AbstractCollection" = true by first | (simp [plainName, overriddenIn]; done) | decide +kernel)
theorem own_efa0 (m : MethodId) (a1 : Addr)  : entryFrame m #[(.ref a1)] 1 = mkF m 0 #[.val (.ref a1)] [] := by first | (simp [entryFrame, mkF, argsToLocals, Value.category, maxLocals]; done) | rfl
set_option maxRecDepth 65536 in
set_option maxHeartbeats 40000000 in
theorem own_rma0 (l : Launch) (Z : State) (a0 : Array Value) (hw : ∀ d ∈ tables_1, d.before a0 Z = true) (ws : List Jvm.Cond) (a1 : Addr)  (h0 : Heap)  :
    MetFree l (⟨"java/util/AbstractCollection", "<init>", "()V"⟩ : MethodName) (head1 (Jvm.Cond.code (⟨"java/util/AbstractCollection", "<init>", "()V"⟩ : MethodName) jdk_22_method_1_code 1 none :: ws) ({ frames := 1, cells := 0, slots := 0, locals := 12 } : Room)) (fun a U => a = #[(.ref a1)] ∧ Z.Warmed39 U.vm ∧ U.heap = h0) (fun _ _ _ _ _ => True) (fun _ U o U' => ∃ v L, o = .returned v ∧ (fun v h L => v = none ∧ L = [] ∧ h = h0) v U'.heap L ∧ FrameEnd U o U' L ({ frames := 1, cells := 0, slots := 0, locals := 12 } : Room).cells ({ frames := 1, cells := 0, slots := 0, locals := 12 } : Room).slots) := by
  refine own_body (y := (⟨"java/util/AbstractCollection", "<init>", "()V"⟩ : MethodName)) (Q := fun v h L => v = none ∧ L = [] ∧ h = h0) (rm := ({ frames := 1, cells := 0, slots := 0, locals := 12 } : Room)) (as' := #[(.ref a1)]) (h0 := h0) (Z := Z) own_pna0 ?_
  intro p e s m below meth c s₁ hx hby hml hown hnm hret hlk hZ X0 e0
  have hown : s.vm.findClass "java/util/AbstractCollection" = some m.cls := hown
  rw [own_efa0]
  refine own_aload_n X0 hx (hb hby da0_0) rfl rfl (q := 1) rfl ?_
  refine own_initO X0 hx hZ hown (hw _ (List.mem_of_getElem? (i := 50) rfl)) (hw _ (List.mem_of_getElem? (i := 22) rfl)) (hw _ (List.mem_of_getElem? (i := 23) rfl)) e0 (by rw [hml]; rfl) (hb hby da0_1) (by decide) (W := 0) rfl (by decide) (q := 4) rfl ?_
  intro T1 X1 e1
  exact own_retV X1 hx hret hlk (hb hby da0_4) (by decide) (by decide) ⟨rfl, rfl, e1⟩
theorem da1__0 : decode jdk_39_method_1_code 0 = .ok (.aload_n 0, 1) := by decide +kernel
theorem da1__1 : decode jdk_39_method_1_code 1 = .ok (.invokespecial 1, 3) := by decide +kernel
theorem da1__4 : decode jdk_39_method_1_code 4 = .ok (.aload_n 0, 1) := by decide +kernel
theorem da1__5 : decode jdk_39_method_1_code 5 = .ok (.iconst 0, 1) := by decide +kernel
theorem da1__6 : decode jdk_39_method_1_code 6 = .ok (.putfield 7, 3) := by decide +kernel
theorem da1__9 : decode jdk_39_method_1_code 9 = .ok (.return_, 1) := by decide +kernel
def own_Qa1_ (Z : State) (a1 : Addr) (h0 : Heap) (n0 : Nat) : Option Value → Heap → List Loc → Prop := fun v h L => v = none ∧ Fr n0 L ∧ Keep h0 h [a1] ∧ Exa Z h a1 "java/util/ArrayList" ∧ Fld Z h a1 "java/util/ArrayList" "elementData" "[Ljava/lang/Object;" (.null) ∧ Fld Z h a1 "java/util/ArrayList" "size" "I" (.int 0) ∧ Fld Z h a1 "java/util/AbstractList" "modCount" "I" (.int 0)
theorem own_pna1_ : plainFor (⟨"java/util/AbstractList", "<init>", "()V"⟩ : MethodName) = true := plainFor_of_name (show plainName "java/util/AbstractList" = true by first | (simp [plainName, overriddenIn]; done) | decide +kernel)
theorem own_efa1_ (m : MethodId) (a1 : Addr)  : entryFrame m #[(.ref a1)] 1 = mkF m 0 #[.val (.ref a1)] [] := by first | (simp [entryFrame, mkF, argsToLocals, Value.category, maxLocals]; done) | rfl
set_option maxRecDepth 65536 in
set_option maxHeartbeats 40000000 in
theorem own_rma1_ (l : Launch) (Z : State) (a0 : Array Value) (hw : ∀ d ∈ tables_1, d.before a0 Z = true) (ws : List Jvm.Cond) (a1 : Addr)  (h0 : Heap) (n0 : Nat) (hn0 : n0 ≤ h0.size) (ha : n0 ≤ a1) (E : Exa Z h0 a1 "java/util/ArrayList") (F1 : Fld Z h0 a1 "java/util/ArrayList" "elementData" "[Ljava/lang/Object;" (.null)) (F2 : Fld Z h0 a1 "java/util/ArrayList" "size" "I" (.int 0)) (F3 : Fld Z h0 a1 "java/util/AbstractList" "modCount" "I" (.int 0)) :
    MetFree l (⟨"java/util/AbstractList", "<init>", "()V"⟩ : MethodName) (head1 (Jvm.Cond.code (⟨"java/util/AbstractList", "<init>", "()V"⟩ : MethodName) jdk_39_method_1_code 1 none :: ws) ({ frames := 2, cells := 0, slots := 0, locals := 24 } : Room)) (fun a U => a = #[(.ref a1)] ∧ Z.Warmed39 U.vm ∧ U.heap = h0) (fun _ _ _ _ _ => True) (fun _ U o U' => ∃ v L, o = .returned v ∧ (own_Qa1_ Z a1 h0 n0) v U'.heap L ∧ FrameEnd U o U' L ({ frames := 2, cells := 0, slots := 0, locals := 24 } : Room).cells ({ frames := 2, cells := 0, slots := 0, locals := 24 } : Room).slots) := by
  refine own_body (y := (⟨"java/util/AbstractList", "<init>", "()V"⟩ : MethodName)) (Q := own_Qa1_ Z a1 h0 n0) (rm := ({ frames := 2, cells := 0, slots := 0, locals := 24 } : Room)) (as' := #[(.ref a1)]) (h0 := h0) (Z := Z) own_pna1_ ?_
  intro p e s m below meth c s₁ hx hby hml hown hnm hret hlk hZ X0 e0
  have hown : s.vm.findClass "java/util/AbstractList" = some m.cls := hown
  rw [own_efa1_]
  refine own_aload_n X0 hx (hb hby da1__0) rfl rfl (q := 1) rfl ?_
  refine own_callNP X0 hx hZ rfl hown (hw _ (List.mem_of_getElem? (i := 44) rfl)) (hw _ (List.mem_of_getElem? (i := 45) rfl)) (hw _ (List.mem_of_getElem? (i := 48) rfl)) (hw _ (List.mem_of_getElem? (i := 49) rfl)) (by decide) (own_rma0 l Z a0 hw [] a1 h0) (by decide) (by decide) e0 (by rw [hml]; rfl) (argsL := []) (rest := []) (lenOf own_pd4 rfl) rfl (W := 0) rfl (hb hby da1__1) (q := 4) rfl rfl rfl rfl (by decide) (by decide) ?_
  intro T1 X1 e1
  refine own_aload_n X1 hx (hb hby da1__4) rfl rfl (q := 5) rfl ?_
  refine own_iconst X1 hx (hb hby da1__5) (v := (0 : Int32)) rfl (q := 6) rfl ?_
  refine own_putF X1 hx hZ hown (hw _ (List.mem_of_getElem? (i := 51) rfl)) e1 F3 E (Or.inl (hw _ (List.mem_of_getElem? (i := 52) rfl))) (hw _ (List.mem_of_getElem? (i := 33) rfl)) (ft := .int) (by decide) rfl rfl (hb hby da1__6) (Fr.nil n0) ha (q := 9) rfl ?_
  intro T2 h2_ L2 X2 N2 e2 W2
  have K2 := Keep.of_wr W2
  have E_2 := E.wr W2
  have F1_2 := F1.other W2 (Or.inr (slot_ne (Or.inl (hw _ (List.mem_of_getElem? (i := 55) rfl))) (Or.inl (hw _ (List.mem_of_getElem? (i := 52) rfl))) (by decide) (t := (.array (.object "java/lang/Object"))) (t' := .int) (by decide) (by decide)))
  have F2_2 := F2.other W2 (Or.inr (slot_ne (Or.inl (hw _ (List.mem_of_getElem? (i := 64) rfl))) (Or.inl (hw _ (List.mem_of_getElem? (i := 52) rfl))) (by decide) (t := .int) (t' := .int) (by decide) (by decide)))
  have F3_2 := F3.same W2
  have KK2 := Keep.wr (Keep.refl h0 [a1]) W2 (Or.inl (List.mem_of_getElem? (i := 0) rfl))
  have z2_ : h0.size ≤ h2_.size := Nat.le_trans (Nat.le_refl _) K2.1
  exact own_retV X2 hx hret hlk (hb hby da1__9) (by decide) (by decide) (by rw [e2]; unfold own_Qa1_; exact ⟨rfl, N2, KK2, E_2, F1_2, F2_2, F3_2⟩)
theorem da2__0 : decode jdk_38_method_2_code 0 = .ok (.aload_n 0, 1) := by decide +kernel
theorem da2__1 : decode jdk_38_method_2_code 1 = .ok (.invokespecial 1, 3) := by decide +kernel
theorem da2__4 : decode jdk_38_method_2_code 4 = .ok (.aload_n 0, 1) := by decide +kernel
theorem da2__5 : decode jdk_38_method_2_code 5 = .ok (.getstatic 39, 3) := by decide +kernel
theorem da2__8 : decode jdk_38_method_2_code 8 = .ok (.putfield 9, 3) := by decide +kernel
theorem da2__11 : decode jdk_38_method_2_code 11 = .ok (.return_, 1) := by decide +kernel
def own_Qa2_ (Z : State) (a1 : Addr) (h0 : Heap) (n0 : Nat) (dE : Addr) : Option Value → Heap → List Loc → Prop := fun v h L => v = none ∧ Fr n0 L ∧ Keep h0 h [a1] ∧ Exa Z h a1 "java/util/ArrayList" ∧ Fld Z h a1 "java/util/ArrayList" "elementData" "[Ljava/lang/Object;" (.ref dE) ∧ Fld Z h a1 "java/util/ArrayList" "size" "I" (.int 0) ∧ Fld Z h a1 "java/util/AbstractList" "modCount" "I" (.int 0)
theorem own_pna2_ : plainFor (⟨"java/util/ArrayList", "<init>", "()V"⟩ : MethodName) = true := plainFor_of_name (show plainName "java/util/ArrayList" = true by first | (simp [plainName, overriddenIn]; done) | decide +kernel)
theorem own_efa2_ (m : MethodId) (a1 : Addr)  : entryFrame m #[(.ref a1)] 1 = mkF m 0 #[.val (.ref a1)] [] := by first | (simp [entryFrame, mkF, argsToLocals, Value.category, maxLocals]; done) | rfl
set_option maxRecDepth 65536 in
set_option maxHeartbeats 40000000 in
theorem own_rma2_ (l : Launch) (Z : State) (a0 : Array Value) (hw : ∀ d ∈ tables_1, d.before a0 Z = true) (ws : List Jvm.Cond) (a1 : Addr) (dE : Addr) (h0 : Heap) (n0 : Nat) (hn0 : n0 ≤ h0.size) (ha : n0 ≤ a1) (E : Exa Z h0 a1 "java/util/ArrayList") (F1 : Fld Z h0 a1 "java/util/ArrayList" "elementData" "[Ljava/lang/Object;" (.null)) (F2 : Fld Z h0 a1 "java/util/ArrayList" "size" "I" (.int 0)) (F3 : Fld Z h0 a1 "java/util/AbstractList" "modCount" "I" (.int 0)) (SD : Sta Z h0 "java/util/ArrayList" "DEFAULTCAPACITY_EMPTY_ELEMENTDATA" "[Ljava/lang/Object;" (.ref dE)) :
    MetFree l (⟨"java/util/ArrayList", "<init>", "()V"⟩ : MethodName) (head1 (Jvm.Cond.code (⟨"java/util/ArrayList", "<init>", "()V"⟩ : MethodName) jdk_38_method_2_code 1 none :: ws) ({ frames := 3, cells := 0, slots := 0, locals := 36 } : Room)) (fun a U => a = #[(.ref a1)] ∧ Z.Warmed39 U.vm ∧ U.heap = h0) (fun _ _ _ _ _ => True) (fun _ U o U' => ∃ v L, o = .returned v ∧ (own_Qa2_ Z a1 h0 n0 dE) v U'.heap L ∧ FrameEnd U o U' L ({ frames := 3, cells := 0, slots := 0, locals := 36 } : Room).cells ({ frames := 3, cells := 0, slots := 0, locals := 36 } : Room).slots) := by
  refine own_body (y := (⟨"java/util/ArrayList", "<init>", "()V"⟩ : MethodName)) (Q := own_Qa2_ Z a1 h0 n0 dE) (rm := ({ frames := 3, cells := 0, slots := 0, locals := 36 } : Room)) (as' := #[(.ref a1)]) (h0 := h0) (Z := Z) own_pna2_ ?_
  intro p e s m below meth c s₁ hx hby hml hown hnm hret hlk hZ X0 e0
  have hown : s.vm.findClass "java/util/ArrayList" = some m.cls := hown
  rw [own_efa2_]
  refine own_aload_n X0 hx (hb hby da2__0) rfl rfl (q := 1) rfl ?_
  refine own_callN X0 hx hZ rfl hown (hw _ (List.mem_of_getElem? (i := 38) rfl)) (hw _ (List.mem_of_getElem? (i := 39) rfl)) (hw _ (List.mem_of_getElem? (i := 42) rfl)) (hw _ (List.mem_of_getElem? (i := 43) rfl)) (by decide) (own_rma1_ l Z a0 hw [] a1  h0 n0 (Nat.le_trans hn0 (Nat.le_refl _)) ha E F1 F2 F3) (by decide) (by decide) e0 (by rw [hml]; rfl) (argsL := []) (rest := []) (lenOf own_pd4 rfl) rfl (W := 0) rfl (hb hby da2__1) (q := 4) rfl rfl (by decide) (by decide) ?_
  rintro _ T1 L1 ⟨rfl, NL1, K1, RA1, R0x1, R1x1, R2x1⟩ X1
  have N1 := Fr.app (Fr.nil n0) NL1
  obtain ⟨h1_, e1⟩ : ∃ z, T1.heap = z := ⟨_, rfl⟩
  rw [e1] at K1 RA1 R0x1 R1x1 R2x1
  have E_1 := E.keep K1
  have SD_1 := own_sta_keep SD K1 (nsS (Exa.nostat E) ns0)
  have KK1 := Keep.trans (Keep.refl h0 [a1]) K1 (allS (Or.inl (List.mem_of_getElem? (i := 0) rfl)) all0)
  have z1_ : h0.size ≤ h1_.size := Nat.le_trans (Nat.le_refl _) K1.1
  obtain ⟨LL1, eL1⟩ : ∃ z, [] ++ L1 = z := ⟨_, rfl⟩
  rw [eL1] at X1 N1
  show own_G p e below _ (T1.setTop (mkF m 4 #[.val (.ref a1)] []))
  refine own_aload_n X1 hx (hb hby da2__4) rfl rfl (q := 5) rfl ?_
  refine own_getS X1 hx hZ hown (hw _ (List.mem_of_getElem? (i := 53) rfl)) e1 SD_1 (hb hby da2__5) (q := 8) rfl ?_
  intro T2 X2 e2
  refine own_putF X2 hx hZ hown (hw _ (List.mem_of_getElem? (i := 54) rfl)) e2 R0x1 RA1 (Or.inl (hw _ (List.mem_of_getElem? (i := 55) rfl))) (hw _ (List.mem_of_getElem? (i := 33) rfl)) (ft := (.array (.object "java/lang/Object"))) (by decide) rfl rfl (hb hby da2__8) N1 ha (q := 11) rfl ?_
  intro T3 h3_ L3 X3 N3 e3 W3
  have K3 := Keep.of_wr W3
  have RA1_3 := RA1.wr W3
  have SD_3 := SD_1.wr W3
  have R0x1_3 := R0x1.same W3
  have R1x1_3 := R1x1.other W3 (Or.inr (slot_ne (Or.inl (hw _ (List.mem_of_getElem? (i := 64) rfl))) (Or.inl (hw _ (List.mem_of_getElem? (i := 55) rfl))) (by decide) (t := .int) (t' := (.array (.object "java/lang/Object"))) (by decide) (by decide)))
  have R2x1_3 := R2x1.other W3 (Or.inr (slot_ne (Or.inl (hw _ (List.mem_of_getElem? (i := 52) rfl))) (Or.inl (hw _ (List.mem_of_getElem? (i := 55) rfl))) (by decide) (t := .int) (t' := (.array (.object "java/lang/Object"))) (by decide) (by decide)))
  have KK3 := Keep.wr KK1 W3 (Or.inl (List.mem_of_getElem? (i := 0) rfl))
  have z3_ : h0.size ≤ h3_.size := Nat.le_trans z1_ K3.1
  exact own_retV X3 hx hret hlk (hb hby da2__11) (by decide) (by decide) (by rw [e3]; unfold own_Qa2_; exact ⟨rfl, N3, KK3, RA1_3, R0x1_3, R1x1_3, R2x1_3⟩)
theorem dmx_0 : decode jdk_29_method_65_code 0 = .ok (.iload_n 0, 1) := by decide +kernel
theorem dmx_1 : decode jdk_29_method_65_code 1 = .ok (.iload_n 1, 1) := by decide +kernel
theorem dmx_2 : decode jdk_29_method_65_code 2 = .ok (.if_icmp .lt 7, 3) := by decide +kernel
theorem dmx_5 : decode jdk_29_method_65_code 5 = .ok (.iload_n 0, 1) := by decide +kernel
theorem dmx_6 : decode jdk_29_method_65_code 6 = .ok (.goto 4, 3) := by decide +kernel
theorem dmx_10 : decode jdk_29_method_65_code 10 = .ok (.ireturn, 1) := by decide +kernel
theorem own_pnmx : plainFor (⟨"java/lang/Math", "max", "(II)I"⟩ : MethodName) = true := by decide +kernel
theorem own_efmx (m : MethodId) (p1 : Int32) (p2 : Int32)  : entryFrame m #[(.int p1), (.int p2)] 2 = mkF m 0 #[.val (.int p1), .val (.int p2)] [] := by first | (simp [entryFrame, mkF, argsToLocals, Value.category, maxLocals]; done) | rfl
set_option maxRecDepth 65536 in
set_option maxHeartbeats 40000000 in
theorem own_rmmx (l : Launch) (Z : State) (a0 : Array Value) (hw : ∀ d ∈ tables_1, d.before a0 Z = true) (ws : List Jvm.Cond) (p1 : Int32) (p2 : Int32)  (h0 : Heap) (hp1 : p1 = 10) (hp2 : p2 = 1) :
    MetFree l (⟨"java/lang/Math", "max", "(II)I"⟩ : MethodName) (head1 (Jvm.Cond.code (⟨"java/lang/Math", "max", "(II)I"⟩ : MethodName) jdk_29_method_65_code 2 (some .int) :: ws) ({ frames := 0, cells := 0, slots := 0, locals := 0 } : Room)) (fun a U => a = #[(.int p1), (.int p2)] ∧ Z.Warmed39 U.vm ∧ U.heap = h0) (fun _ _ _ _ _ => True) (fun _ U o U' => ∃ v L, o = .returned v ∧ (fun v h L => (∃ w, v = some w ∧ (fun w => w = .int 10) w) ∧ L = [] ∧ h = h0) v U'.heap L ∧ FrameEnd U o U' L ({ frames := 0, cells := 0, slots := 0, locals := 0 } : Room).cells ({ frames := 0, cells := 0, slots := 0, locals := 0 } : Room).slots) := by
  refine own_body (y := (⟨"java/lang/Math", "max", "(II)I"⟩ : MethodName)) (Q := fun v h L => (∃ w, v = some w ∧ (fun w => w = .int 10) w) ∧ L = [] ∧ h = h0) (rm := ({ frames := 0, cells := 0, slots := 0, locals := 0 } : Room)) (as' := #[(.int p1), (.int p2)]) (h0 := h0) (Z := Z) own_pnmx ?_
  intro p e s m below meth c s₁ hx hby hml hown hnm hret hlk hZ X0 e0
  have hown : s.vm.findClass "java/lang/Math" = some m.cls := hown
  rw [own_efmx]
  subst hp1 hp2
  refine own_iload_n X0 hx (hb hby dmx_0) rfl (q := 1) rfl ?_
  refine own_iload_n X0 hx (hb hby dmx_1) rfl (q := 2) rfl ?_
  refine own_icmp X0 hx (hb hby dmx_2) (by decide) (q := 9) rfl (q' := 5) rfl (own_h_lt _ _) (fun h2 => ?_) (fun h2 => ?_)
  · replace h2 : (10 : Int) < (1 : Int) := h2
    exact absurd h2 (by decide)
  · replace h2 : ¬ ((10 : Int) < (1 : Int)) := h2
    refine own_iload_n X0 hx (hb hby dmx_5) rfl (q := 6) rfl ?_
    refine own_goto X0 hx (hb hby dmx_6) (by decide) (q := 10) rfl ?_
    exact own_retI X0 hx hret hlk (hb hby dmx_10) (by decide) (by decide) ⟨⟨_, rfl, rfl⟩, rfl, e0⟩
theorem dg1_0 : decode jdk_38_method_6_code 0 = .ok (.aload_n 0, 1) := by decide +kernel
theorem dg1_1 : decode jdk_38_method_6_code 1 = .ok (.getfield 9, 3) := by decide +kernel
theorem dg1_4 : decode jdk_38_method_6_code 4 = .ok (.arraylength, 1) := by decide +kernel
theorem dg1_5 : decode jdk_38_method_6_code 5 = .ok (.istore_n 2, 1) := by decide +kernel
theorem dg1_6 : decode jdk_38_method_6_code 6 = .ok (.iload_n 2, 1) := by decide +kernel
theorem dg1_7 : decode jdk_38_method_6_code 7 = .ok (.ifCond .gt 13, 3) := by decide +kernel
theorem dg1_10 : decode jdk_38_method_6_code 10 = .ok (.aload_n 0, 1) := by decide +kernel
theorem dg1_11 : decode jdk_38_method_6_code 11 = .ok (.getfield 9, 3) := by decide +kernel
theorem dg1_14 : decode jdk_38_method_6_code 14 = .ok (.getstatic 39, 3) := by decide +kernel
theorem dg1_17 : decode jdk_38_method_6_code 17 = .ok (.if_acmp .eq 28, 3) := by decide +kernel
theorem dg1_45 : decode jdk_38_method_6_code 45 = .ok (.aload_n 0, 1) := by decide +kernel
theorem dg1_46 : decode jdk_38_method_6_code 46 = .ok (.bipush 10, 2) := by decide +kernel
theorem dg1_48 : decode jdk_38_method_6_code 48 = .ok (.iload_n 1, 1) := by decide +kernel
theorem dg1_49 : decode jdk_38_method_6_code 49 = .ok (.invokestatic 79, 3) := by decide +kernel
theorem dg1_52 : decode jdk_38_method_6_code 52 = .ok (.anewarray 7, 3) := by decide +kernel
theorem dg1_55 : decode jdk_38_method_6_code 55 = .ok (.dup_x1, 1) := by decide +kernel
theorem dg1_56 : decode jdk_38_method_6_code 56 = .ok (.putfield 9, 3) := by decide +kernel
theorem dg1_59 : decode jdk_38_method_6_code 59 = .ok (.areturn, 1) := by decide +kernel
def own_Qg1 (Z : State) (a1 : Addr) (p1 : Int32) (h0 : Heap) (n0 : Nat) (mc : Int32) : Option Value → Heap → List Loc → Prop := fun v h L => ∃ b, v = some (.ref b) ∧ n0 ≤ b ∧ h0.size ≤ b ∧ Fr n0 L ∧ Keep h0 h [a1] ∧ Exa Z h a1 "java/util/ArrayList" ∧ Fld Z h a1 "java/util/ArrayList" "elementData" "[Ljava/lang/Object;" (.ref b) ∧ Fld Z h a1 "java/util/ArrayList" "size" "I" (.int 0) ∧ Fld Z h a1 "java/util/AbstractList" "modCount" "I" (.int mc) ∧ own_Arr Z h b (.object "java/lang/Object") 10 (fun _ => .null) ∧ (∃ cl : Cell, Arr Z h b cl (.object "java/lang/Object") ∧ Ovr Z cl.cls "java/lang/Object")
theorem own_png1 : plainFor (⟨"java/util/ArrayList", "grow", "(I)[Ljava/lang/Object;"⟩ : MethodName) = true := plainFor_of_name (show plainName "java/util/ArrayList" = true by first | (simp [plainName, overriddenIn]; done) | decide +kernel)
theorem own_efg1 (m : MethodId) (a1 : Addr) (p1 : Int32)  : entryFrame m #[(.ref a1), (.int p1)] 4 = mkF m 0 #[.val (.ref a1), .val (.int p1), .unset, .unset] [] := by first | (simp [entryFrame, mkF, argsToLocals, Value.category, maxLocals]; done) | rfl
set_option maxRecDepth 65536 in
set_option maxHeartbeats 40000000 in
theorem own_rmg1 (l : Launch) (Z : State) (a0 : Array Value) (hw : ∀ d ∈ tables_1, d.before a0 Z = true) (ws : List Jvm.Cond) (a1 : Addr) (p1 : Int32) (dE : Addr) (mc : Int32) (fE : Nat → Value) (h0 : Heap) (n0 : Nat) (hn0 : n0 ≤ h0.size) (ha : n0 ≤ a1) (E : Exa Z h0 a1 "java/util/ArrayList") (F1 : Fld Z h0 a1 "java/util/ArrayList" "elementData" "[Ljava/lang/Object;" (.ref dE)) (F2 : Fld Z h0 a1 "java/util/ArrayList" "size" "I" (.int 0)) (F3 : Fld Z h0 a1 "java/util/AbstractList" "modCount" "I" (.int mc)) (SD : Sta Z h0 "java/util/ArrayList" "DEFAULTCAPACITY_EMPTY_ELEMENTDATA" "[Ljava/lang/Object;" (.ref dE)) (AD : own_Arr Z h0 dE (.object "java/lang/Object") 0 fE) (hne : dE ≠ a1) (hp : p1 = 1) :
    MetFree l (⟨"java/util/ArrayList", "grow", "(I)[Ljava/lang/Object;"⟩ : MethodName) (head1 (Jvm.Cond.code (⟨"java/util/ArrayList", "grow", "(I)[Ljava/lang/Object;"⟩ : MethodName) jdk_38_method_6_code 4 (some (.array (.object "java/lang/Object"))) :: ws) ({ frames := 1, cells := 1, slots := 10, locals := 20 } : Room)) (fun a U => a = #[(.ref a1), (.int p1)] ∧ Z.Warmed39 U.vm ∧ U.heap = h0) (fun _ _ _ _ _ => True) (fun _ U o U' => ∃ v L, o = .returned v ∧ (own_Qg1 Z a1 p1 h0 n0 mc) v U'.heap L ∧ FrameEnd U o U' L ({ frames := 1, cells := 1, slots := 10, locals := 20 } : Room).cells ({ frames := 1, cells := 1, slots := 10, locals := 20 } : Room).slots) := by
  refine own_body (y := (⟨"java/util/ArrayList", "grow", "(I)[Ljava/lang/Object;"⟩ : MethodName)) (Q := own_Qg1 Z a1 p1 h0 n0 mc) (rm := ({ frames := 1, cells := 1, slots := 10, locals := 20 } : Room)) (as' := #[(.ref a1), (.int p1)]) (h0 := h0) (Z := Z) own_png1 ?_
  intro p e s m below meth c s₁ hx hby hml hown hnm hret hlk hZ X0 e0
  have hown : s.vm.findClass "java/util/ArrayList" = some m.cls := hown
  rw [own_efg1]
  subst hp
  refine own_aload_n X0 hx (hb hby dg1_0) rfl rfl (q := 1) rfl ?_
  refine own_getF X0 hx hZ hown (hw _ (List.mem_of_getElem? (i := 54) rfl)) e0 F1 (hb hby dg1_1) (q := 4) rfl ?_
  intro T1 X1 e1
  refine own_arraylength X1 hx hZ e1 AD (hb hby dg1_4) (v := (0 : Int32)) rfl (q := 5) rfl ?_
  refine own_istore_n X1 hx (hb hby dg1_5) (l' := #[.val (.ref a1), .val (.int (1 : Int32)), .val (.int (0 : Int32)), .unset]) rfl (q := 6) rfl ?_
  refine own_iload_n X1 hx (hb hby dg1_6) rfl (q := 7) rfl ?_
  refine own_if X1 hx (hb hby dg1_7) (by decide) (q := 20) rfl (q' := 10) rfl (own_z_gt _) (fun h7 => ?_) (fun h7 => ?_)
  · replace h7 : 0 < (0 : Int) := h7
    exact absurd h7 (by decide)
  · replace h7 : ¬ (0 < (0 : Int)) := h7
    refine own_aload_n X1 hx (hb hby dg1_10) rfl rfl (q := 11) rfl ?_
    refine own_getF X1 hx hZ hown (hw _ (List.mem_of_getElem? (i := 54) rfl)) e1 F1 (hb hby dg1_11) (q := 14) rfl ?_
    intro T2 X2 e2
    refine own_getS X2 hx hZ hown (hw _ (List.mem_of_getElem? (i := 53) rfl)) e2 SD (hb hby dg1_14) (q := 17) rfl ?_
    intro T3 X3 e3
    refine own_acmp X3 hx (hb hby dg1_17) (P := True) (by decide) (q := 45) rfl (q' := 20) rfl rfl rfl (by first | rfl | simp [XT.acmp]) (fun h17 => ?_) (fun h17 => ?_)
    · replace h17 : True := h17
      refine own_aload_n X3 hx (hb hby dg1_45) rfl rfl (q := 46) rfl ?_
      refine own_bipush X3 hx (hb hby dg1_46) (v := (10 : Int32)) rfl (q := 48) rfl ?_
      refine own_iload_n X3 hx (hb hby dg1_48) rfl (q := 49) rfl ?_
      refine own_callSP X3 hx hZ hown (hw _ (List.mem_of_getElem? (i := 80) rfl)) (hw _ (List.mem_of_getElem? (i := 81) rfl)) (hw _ (List.mem_of_getElem? (i := 82) rfl)) (hw _ (List.mem_of_getElem? (i := 83) rfl)) (by decide) (own_rmmx l Z a0 hw [] (10 : Int32) (1 : Int32)  h0 rfl rfl) (by decide) (by decide) e3 (by rw [hml]; rfl) (argsL := [(.int (10 : Int32)), (.int (1 : Int32))]) (rest := [(.ref a1)]) (lenOf own_pd5 rfl) rfl (W := 1) rfl (hb hby dg1_49) (q := 52) rfl rfl rfl rfl (by decide) (by decide) ?_
      rintro _ T4 rfl X4 e4
      refine own_newR X4 hx hZ hown (hw _ (List.mem_of_getElem? (i := 84) rfl)) (hw _ (List.mem_of_getElem? (i := 85) rfl)) e4 (hb hby dg1_52) (N := 10) rfl (cap := 10) (by decide) (by decide) (by decide) (by decide) (q := 55) rfl ?_
      intro T5 h5_ b5 g5 X5 e5 E5 A5 V5
      have ne_a1_b5 : a1 ≠ b5 := Nat.ne_of_lt (by rw [g5]; exact E.lt)
      have E_5 := E.ext E5
      have F1_5 := F1.ext E5
      have F2_5 := F2.ext E5
      have F3_5 := F3.ext E5
      have KK5 := Keep.ext (Keep.refl h0 [a1]) E5
      have o5 : h0.size ≤ b5 := by rw [g5]; exact (Nat.le_refl _)
      have p5_ : n0 ≤ b5 := Nat.le_trans hn0 o5
      have z5_ : h0.size ≤ h5_.size := Nat.le_trans (Nat.le_refl _) E5.1
      refine own_dup_x1 X5 hx (hb hby dg1_55) rfl rfl (q := 56) rfl ?_
      refine own_putF X5 hx hZ hown (hw _ (List.mem_of_getElem? (i := 54) rfl)) e5 F1_5 E_5 (Or.inl (hw _ (List.mem_of_getElem? (i := 55) rfl))) (hw _ (List.mem_of_getElem? (i := 33) rfl)) (ft := (.array (.object "java/lang/Object"))) (by decide) rfl rfl (hb hby dg1_56) (Fr.nil n0) ha (q := 59) rfl ?_
      intro T6 h6_ L6 X6 N6 e6 W6
      have K6 := Keep.of_wr W6
      have E_6 := E_5.wr W6
      have F1_6 := F1_5.same W6
      have F2_6 := F2_5.other W6 (Or.inr (slot_ne (Or.inl (hw _ (List.mem_of_getElem? (i := 64) rfl))) (Or.inl (hw _ (List.mem_of_getElem? (i := 55) rfl))) (by decide) (t := .int) (t' := (.array (.object "java/lang/Object"))) (by decide) (by decide)))
      have F3_6 := F3_5.other W6 (Or.inr (slot_ne (Or.inl (hw _ (List.mem_of_getElem? (i := 52) rfl))) (Or.inl (hw _ (List.mem_of_getElem? (i := 55) rfl))) (by decide) (t := .int) (t' := (.array (.object "java/lang/Object"))) (by decide) (by decide)))
      have A5_6 := A5.keep K6 (ninS ne_a1_b5.symm nin0)
      have V5_6 := own_ovr_kp V5 K6 (ninS ne_a1_b5.symm nin0)
      have KK6 := Keep.wr KK5 W6 (Or.inl (List.mem_of_getElem? (i := 0) rfl))
      have z6_ : h0.size ≤ h6_.size := Nat.le_trans z5_ K6.1
      exact own_retA X6 hx rfl hret rfl hlk (hb hby dg1_59) (by decide) (by decide) (by rw [e6]; unfold own_Qg1; exact ⟨_, rfl, p5_, o5, N6, KK6, E_6, F1_6, F2_6, F3_6, A5_6, V5_6⟩)
    · replace h17 : ¬ (True) := h17
      exfalso; exact h17 trivial
theorem dg0_0 : decode jdk_38_method_7_code 0 = .ok (.aload_n 0, 1) := by decide +kernel
theorem dg0_1 : decode jdk_38_method_7_code 1 = .ok (.aload_n 0, 1) := by decide +kernel
theorem dg0_2 : decode jdk_38_method_7_code 2 = .ok (.getfield 48, 3) := by decide +kernel
theorem dg0_5 : decode jdk_38_method_7_code 5 = .ok (.iconst 1, 1) := by decide +kernel
theorem dg0_6 : decode jdk_38_method_7_code 6 = .ok (.iadd, 1) := by decide +kernel
theorem dg0_7 : decode jdk_38_method_7_code 7 = .ok (.invokevirtual 69, 3) := by decide +kernel
theorem dg0_10 : decode jdk_38_method_7_code 10 = .ok (.areturn, 1) := by decide +kernel
def own_Qg0 (Z : State) (a1 : Addr) (h0 : Heap) (n0 : Nat) (mc : Int32) : Option Value → Heap → List Loc → Prop := fun v h L => ∃ b, v = some (.ref b) ∧ n0 ≤ b ∧ h0.size ≤ b ∧ Fr n0 L ∧ Keep h0 h [a1] ∧ Exa Z h a1 "java/util/ArrayList" ∧ Fld Z h a1 "java/util/ArrayList" "elementData" "[Ljava/lang/Object;" (.ref b) ∧ Fld Z h a1 "java/util/ArrayList" "size" "I" (.int 0) ∧ Fld Z h a1 "java/util/AbstractList" "modCount" "I" (.int mc) ∧ own_Arr Z h b (.object "java/lang/Object") 10 (fun _ => .null) ∧ (∃ cl : Cell, Arr Z h b cl (.object "java/lang/Object") ∧ Ovr Z cl.cls "java/lang/Object")
theorem own_png0 : plainFor (⟨"java/util/ArrayList", "grow", "()[Ljava/lang/Object;"⟩ : MethodName) = true := plainFor_of_name (show plainName "java/util/ArrayList" = true by first | (simp [plainName, overriddenIn]; done) | decide +kernel)
theorem own_efg0 (m : MethodId) (a1 : Addr)  : entryFrame m #[(.ref a1)] 1 = mkF m 0 #[.val (.ref a1)] [] := by first | (simp [entryFrame, mkF, argsToLocals, Value.category, maxLocals]; done) | rfl
set_option maxRecDepth 65536 in
set_option maxHeartbeats 40000000 in
theorem own_rmg0 (l : Launch) (Z : State) (a0 : Array Value) (hw : ∀ d ∈ tables_1, d.before a0 Z = true) (ws : List Jvm.Cond) (a1 : Addr) (dE : Addr) (mc : Int32) (fE : Nat → Value) (h0 : Heap) (n0 : Nat) (hn0 : n0 ≤ h0.size) (ha : n0 ≤ a1) (E : Exa Z h0 a1 "java/util/ArrayList") (F1 : Fld Z h0 a1 "java/util/ArrayList" "elementData" "[Ljava/lang/Object;" (.ref dE)) (F2 : Fld Z h0 a1 "java/util/ArrayList" "size" "I" (.int 0)) (F3 : Fld Z h0 a1 "java/util/AbstractList" "modCount" "I" (.int mc)) (SD : Sta Z h0 "java/util/ArrayList" "DEFAULTCAPACITY_EMPTY_ELEMENTDATA" "[Ljava/lang/Object;" (.ref dE)) (AD : own_Arr Z h0 dE (.object "java/lang/Object") 0 fE) (hne : dE ≠ a1) :
    MetFree l (⟨"java/util/ArrayList", "grow", "()[Ljava/lang/Object;"⟩ : MethodName) (head1 (Jvm.Cond.code (⟨"java/util/ArrayList", "grow", "()[Ljava/lang/Object;"⟩ : MethodName) jdk_38_method_7_code 1 (some (.array (.object "java/lang/Object"))) :: ws) ({ frames := 2, cells := 1, slots := 10, locals := 35 } : Room)) (fun a U => a = #[(.ref a1)] ∧ Z.Warmed39 U.vm ∧ U.heap = h0) (fun _ _ _ _ _ => True) (fun _ U o U' => ∃ v L, o = .returned v ∧ (own_Qg0 Z a1 h0 n0 mc) v U'.heap L ∧ FrameEnd U o U' L ({ frames := 2, cells := 1, slots := 10, locals := 35 } : Room).cells ({ frames := 2, cells := 1, slots := 10, locals := 35 } : Room).slots) := by
  refine own_body (y := (⟨"java/util/ArrayList", "grow", "()[Ljava/lang/Object;"⟩ : MethodName)) (Q := own_Qg0 Z a1 h0 n0 mc) (rm := ({ frames := 2, cells := 1, slots := 10, locals := 35 } : Room)) (as' := #[(.ref a1)]) (h0 := h0) (Z := Z) own_png0 ?_
  intro p e s m below meth c s₁ hx hby hml hown hnm hret hlk hZ X0 e0
  have hown : s.vm.findClass "java/util/ArrayList" = some m.cls := hown
  rw [own_efg0]
  refine own_aload_n X0 hx (hb hby dg0_0) rfl rfl (q := 1) rfl ?_
  refine own_aload_n X0 hx (hb hby dg0_1) rfl rfl (q := 2) rfl ?_
  refine own_getF X0 hx hZ hown (hw _ (List.mem_of_getElem? (i := 63) rfl)) e0 F2 (hb hby dg0_2) (q := 5) rfl ?_
  intro T1 X1 e1
  refine own_iconst X1 hx (hb hby dg0_5) (v := (1 : Int32)) rfl (q := 6) rfl ?_
  refine own_iadd X1 hx (hb hby dg0_6) (q := 7) rfl ?_
  rw [show ((0 : Int32) + (1 : Int32)) = (1 : Int32) by decide]
  refine own_callP X1 hx hZ hown (hw _ (List.mem_of_getElem? (i := 75) rfl)) (hw _ (List.mem_of_getElem? (i := 77) rfl)) (hw _ (List.mem_of_getElem? (i := 33) rfl)) (hw _ (List.mem_of_getElem? (i := 76) rfl)) (hw _ (List.mem_of_getElem? (i := 79) rfl)) (hw _ (List.mem_of_getElem? (i := 34) rfl)) (by decide) (own_rmg1 l Z a0 hw [] a1 (1 : Int32) dE mc fE h0 n0 (Nat.le_trans hn0 (Nat.le_refl _)) ha E F1 F2 F3 SD AD hne rfl) E (by decide) (by decide) e1 (by rw [hml]; rfl) (argsL := [(.int (1 : Int32))]) (rest := []) (lenOf own_pd6 rfl) rfl (W := 0) rfl (hb hby dg0_7) (q := 10) rfl rfl (by decide) (by decide) ?_
  rintro _ T2 L2 ⟨b2, rfl, o2, oh2, NL2, K2, RA2, R0x2, R1x2, R2x2, AR2, OV2⟩ X2
  have N2 := Fr.app (Fr.nil n0) NL2
  obtain ⟨h2_, e2⟩ : ∃ z, T2.heap = z := ⟨_, rfl⟩
  rw [e2] at K2 RA2 R0x2 R1x2 R2x2 AR2 OV2
  have E_2 := E.keep K2
  have SD_2 := own_sta_keep SD K2 (nsS (Exa.nostat E) ns0)
  have AD_2 := AD.keep K2 (ninS hne nin0)
  have KK2 := Keep.trans (Keep.refl h0 [a1]) K2 (allS (Or.inl (List.mem_of_getElem? (i := 0) rfl)) all0)
  have z2_ : h0.size ≤ h2_.size := Nat.le_trans (Nat.le_refl _) K2.1
  obtain ⟨LL2, eL2⟩ : ∃ z, [] ++ L2 = z := ⟨_, rfl⟩
  rw [eL2] at X2 N2
  show own_G p e below _ (T2.setTop (mkF m 10 #[.val (.ref a1)] [(.ref b2)]))
  have ohh2 : h0.size ≤ b2 := Nat.le_trans (Nat.le_refl _) oh2
  have nx2_a1 : a1 ≠ b2 := Nat.ne_of_lt (Nat.lt_of_lt_of_le E.lt oh2)
  exact own_retA X2 hx rfl hret rfl hlk (hb hby dg0_10) (by decide) (by decide) (by rw [e2]; unfold own_Qg0; exact ⟨_, rfl, o2, ohh2, N2, KK2, RA2, R0x2, R1x2, R2x2, AR2, OV2⟩)
theorem dd1_0 : decode jdk_38_method_24_code 0 = .ok (.iload_n 3, 1) := by decide +kernel
theorem dd1_1 : decode jdk_38_method_24_code 1 = .ok (.aload_n 2, 1) := by decide +kernel
theorem dd1_2 : decode jdk_38_method_24_code 2 = .ok (.arraylength, 1) := by decide +kernel
theorem dd1_3 : decode jdk_38_method_24_code 3 = .ok (.if_icmp .ne 8, 3) := by decide +kernel
theorem dd1_6 : decode jdk_38_method_24_code 6 = .ok (.aload_n 0, 1) := by decide +kernel
theorem dd1_7 : decode jdk_38_method_24_code 7 = .ok (.invokevirtual 129, 3) := by decide +kernel
theorem dd1_10 : decode jdk_38_method_24_code 10 = .ok (.astore_n 2, 1) := by decide +kernel
theorem dd1_11 : decode jdk_38_method_24_code 11 = .ok (.aload_n 2, 1) := by decide +kernel
theorem dd1_12 : decode jdk_38_method_24_code 12 = .ok (.iload_n 3, 1) := by decide +kernel
theorem dd1_13 : decode jdk_38_method_24_code 13 = .ok (.aload_n 1, 1) := by decide +kernel
theorem dd1_14 : decode jdk_38_method_24_code 14 = .ok (.aastore, 1) := by decide +kernel
theorem dd1_15 : decode jdk_38_method_24_code 15 = .ok (.aload_n 0, 1) := by decide +kernel
theorem dd1_16 : decode jdk_38_method_24_code 16 = .ok (.iload_n 3, 1) := by decide +kernel
theorem dd1_17 : decode jdk_38_method_24_code 17 = .ok (.iconst 1, 1) := by decide +kernel
theorem dd1_18 : decode jdk_38_method_24_code 18 = .ok (.iadd, 1) := by decide +kernel
theorem dd1_19 : decode jdk_38_method_24_code 19 = .ok (.putfield 48, 3) := by decide +kernel
theorem dd1_22 : decode jdk_38_method_24_code 22 = .ok (.return_, 1) := by decide +kernel
def own_Qd1 (Z : State) (a1 : Addr) (a2 : Addr) (dE : Addr) (p1 : Int32) (h0 : Heap) (n0 : Nat) (mc : Int32) : Option Value → Heap → List Loc → Prop := fun v h L => ∃ b, v = none ∧ n0 ≤ b ∧ h0.size ≤ b ∧ Fr n0 L ∧ Keep h0 h [a1] ∧ Exa Z h a1 "java/util/ArrayList" ∧ Fld Z h a1 "java/util/ArrayList" "elementData" "[Ljava/lang/Object;" (.ref b) ∧ Fld Z h a1 "java/util/ArrayList" "size" "I" (.int 1) ∧ Fld Z h a1 "java/util/AbstractList" "modCount" "I" (.int mc) ∧ own_Arr Z h b (.object "java/lang/Object") 10 (own_upd (fun _ => .null) 0 (.ref a2)) ∧ (∃ cl : Cell, Arr Z h b cl (.object "java/lang/Object") ∧ Ovr Z cl.cls "java/lang/Object")
theorem own_pnd1 : plainFor (⟨"java/util/ArrayList", "add", "(Ljava/lang/Object;[Ljava/lang/Object;I)V"⟩ : MethodName) = true := plainFor_of_name (show plainName "java/util/ArrayList" = true by first | (simp [plainName, overriddenIn]; done) | decide +kernel)
theorem own_efd1 (m : MethodId) (a1 : Addr) (a2 : Addr) (dE : Addr) (p1 : Int32)  : entryFrame m #[(.ref a1), (.ref a2), (.ref dE), (.int p1)] 4 = mkF m 0 #[.val (.ref a1), .val (.ref a2), .val (.ref dE), .val (.int p1)] [] := by first | (simp [entryFrame, mkF, argsToLocals, Value.category, maxLocals]; done) | rfl
set_option maxRecDepth 65536 in
set_option maxHeartbeats 40000000 in
theorem own_rmd1 (l : Launch) (Z : State) (a0 : Array Value) (hw : ∀ d ∈ tables_1, d.before a0 Z = true) (ws : List Jvm.Cond) (a1 : Addr) (a2 : Addr) (dE : Addr) (p1 : Int32) (mc : Int32) (fE : Nat → Value) (h0 : Heap) (n0 : Nat) (hn0 : n0 ≤ h0.size) (ha : n0 ≤ a1) (E : Exa Z h0 a1 "java/util/ArrayList") (F1 : Fld Z h0 a1 "java/util/ArrayList" "elementData" "[Ljava/lang/Object;" (.ref dE)) (F2 : Fld Z h0 a1 "java/util/ArrayList" "size" "I" (.int 0)) (F3 : Fld Z h0 a1 "java/util/AbstractList" "modCount" "I" (.int mc)) (SD : Sta Z h0 "java/util/ArrayList" "DEFAULTCAPACITY_EMPTY_ELEMENTDATA" "[Ljava/lang/Object;" (.ref dE)) (AD : own_Arr Z h0 dE (.object "java/lang/Object") 0 fE) (hne : dE ≠ a1) (E2 : Exa Z h0 a2 "java/lang/String") (hn2 : a2 ≠ a1) (hp : p1 = 0) :
    MetFree l (⟨"java/util/ArrayList", "add", "(Ljava/lang/Object;[Ljava/lang/Object;I)V"⟩ : MethodName) (head1 (Jvm.Cond.code (⟨"java/util/ArrayList", "add", "(Ljava/lang/Object;[Ljava/lang/Object;I)V"⟩ : MethodName) jdk_38_method_24_code 4 none :: ws) ({ frames := 3, cells := 1, slots := 10, locals := 48 } : Room)) (fun a U => a = #[(.ref a1), (.ref a2), (.ref dE), (.int p1)] ∧ Z.Warmed39 U.vm ∧ U.heap = h0) (fun _ _ _ _ _ => True) (fun _ U o U' => ∃ v L, o = .returned v ∧ (own_Qd1 Z a1 a2 dE p1 h0 n0 mc) v U'.heap L ∧ FrameEnd U o U' L ({ frames := 3, cells := 1, slots := 10, locals := 48 } : Room).cells ({ frames := 3, cells := 1, slots := 10, locals := 48 } : Room).slots) := by
  refine own_body (y := (⟨"java/util/ArrayList", "add", "(Ljava/lang/Object;[Ljava/lang/Object;I)V"⟩ : MethodName)) (Q := own_Qd1 Z a1 a2 dE p1 h0 n0 mc) (rm := ({ frames := 3, cells := 1, slots := 10, locals := 48 } : Room)) (as' := #[(.ref a1), (.ref a2), (.ref dE), (.int p1)]) (h0 := h0) (Z := Z) own_pnd1 ?_
  intro p e s m below meth c s₁ hx hby hml hown hnm hret hlk hZ X0 e0
  have hown : s.vm.findClass "java/util/ArrayList" = some m.cls := hown
  rw [own_efd1]
  subst hp
  refine own_iload_n X0 hx (hb hby dd1_0) rfl (q := 1) rfl ?_
  refine own_aload_n X0 hx (hb hby dd1_1) rfl rfl (q := 2) rfl ?_
  refine own_arraylength X0 hx hZ e0 AD (hb hby dd1_2) (v := (0 : Int32)) rfl (q := 3) rfl ?_
  refine own_icmp X0 hx (hb hby dd1_3) (by decide) (q := 11) rfl (q' := 6) rfl (own_h_ne _ _) (fun h3 => ?_) (fun h3 => ?_)
  · replace h3 : (0 : Int) ≠ (0 : Int) := h3
    exact absurd h3 (by decide)
  · replace h3 : ¬ ((0 : Int) ≠ (0 : Int)) := h3
    refine own_aload_n X0 hx (hb hby dd1_6) rfl rfl (q := 7) rfl ?_
    refine own_callP X0 hx hZ hown (hw _ (List.mem_of_getElem? (i := 70) rfl)) (hw _ (List.mem_of_getElem? (i := 72) rfl)) (hw _ (List.mem_of_getElem? (i := 33) rfl)) (hw _ (List.mem_of_getElem? (i := 71) rfl)) (hw _ (List.mem_of_getElem? (i := 74) rfl)) (hw _ (List.mem_of_getElem? (i := 34) rfl)) (by decide) (own_rmg0 l Z a0 hw [] a1 dE mc fE h0 n0 (Nat.le_trans hn0 (Nat.le_refl _)) ha E F1 F2 F3 SD AD hne) E (by decide) (by decide) e0 (by rw [hml]; rfl) (argsL := []) (rest := []) (lenOf own_pd7 rfl) rfl (W := 0) rfl (hb hby dd1_7) (q := 10) rfl rfl (by decide) (by decide) ?_
    rintro _ T1 L1 ⟨b1, rfl, o1, oh1, NL1, K1, RA1, R0x1, R1x1, R2x1, AR1, OV1⟩ X1
    have N1 := Fr.app (Fr.nil n0) NL1
    obtain ⟨h1_, e1⟩ : ∃ z, T1.heap = z := ⟨_, rfl⟩
    rw [e1] at K1 RA1 R0x1 R1x1 R2x1 AR1 OV1
    have E_1 := E.keep K1
    have SD_1 := own_sta_keep SD K1 (nsS (Exa.nostat E) ns0)
    have AD_1 := AD.keep K1 (ninS hne nin0)
    have E2_1 := E2.keep K1
    have KK1 := Keep.trans (Keep.refl h0 [a1]) K1 (allS (Or.inl (List.mem_of_getElem? (i := 0) rfl)) all0)
    have z1_ : h0.size ≤ h1_.size := Nat.le_trans (Nat.le_refl _) K1.1
    obtain ⟨LL1, eL1⟩ : ∃ z, [] ++ L1 = z := ⟨_, rfl⟩
    rw [eL1] at X1 N1
    show own_G p e below _ (T1.setTop (mkF m 10 #[.val (.ref a1), .val (.ref a2), .val (.ref dE), .val (.int (0 : Int32))] [(.ref b1)]))
    have ohh1 : h0.size ≤ b1 := Nat.le_trans (Nat.le_refl _) oh1
    have nx1_a1 : a1 ≠ b1 := Nat.ne_of_lt (Nat.lt_of_lt_of_le E.lt oh1)
    have nx1_a2 : a2 ≠ b1 := Nat.ne_of_lt (Nat.lt_of_lt_of_le E2.lt oh1)
    refine own_astore_n X1 hx (hb hby dd1_10) rfl (l' := #[.val (.ref a1), .val (.ref a2), .val (.ref b1), .val (.int (0 : Int32))]) rfl (q := 11) rfl ?_
    refine own_aload_n X1 hx (hb hby dd1_11) rfl rfl (q := 12) rfl ?_
    refine own_iload_n X1 hx (hb hby dd1_12) rfl (q := 13) rfl ?_
    refine own_aload_n X1 hx (hb hby dd1_13) rfl rfl (q := 14) rfl ?_
    refine own_stR X1 hx hZ e1 AR1 OV1 (Ins.of_exa E2_1 (hw _ (List.mem_of_getElem? (i := 86) rfl))) (hb hby dd1_14) (i := 0) rfl (by decide) N1 o1 (q := 15) rfl ?_
    intro T2 h2_ L2 X2 N2 e2 A2 V2 W2
    have K2 := Keep.of_wr W2
    have RA1_2 := RA1.keep K2
    have E2_2 := E2_1.keep K2
    have R0x1_2 := R0x1.keep K2 (ninS nx1_a1 nin0)
    have R1x1_2 := R1x1.keep K2 (ninS nx1_a1 nin0)
    have R2x1_2 := R2x1.keep K2 (ninS nx1_a1 nin0)
    have KK2 := Keep.trans KK1 K2 (allS (Or.inr ohh1) all0)
    have z2_ : h0.size ≤ h2_.size := Nat.le_trans z1_ K2.1
    refine own_aload_n X2 hx (hb hby dd1_15) rfl rfl (q := 16) rfl ?_
    refine own_iload_n X2 hx (hb hby dd1_16) rfl (q := 17) rfl ?_
    refine own_iconst X2 hx (hb hby dd1_17) (v := (1 : Int32)) rfl (q := 18) rfl ?_
    refine own_iadd X2 hx (hb hby dd1_18) (q := 19) rfl ?_
    rw [show ((0 : Int32) + (1 : Int32)) = (1 : Int32) by decide]
    refine own_putF X2 hx hZ hown (hw _ (List.mem_of_getElem? (i := 63) rfl)) e2 R1x1_2 RA1_2 (Or.inl (hw _ (List.mem_of_getElem? (i := 64) rfl))) (hw _ (List.mem_of_getElem? (i := 33) rfl)) (ft := .int) (by decide) rfl rfl (hb hby dd1_19) N2 ha (q := 22) rfl ?_
    intro T3 h3_ L3 X3 N3 e3 W3
    have K3 := Keep.of_wr W3
    have RA1_3 := RA1_2.wr W3
    have E2_3 := E2_2.wr W3
    have R0x1_3 := R0x1_2.other W3 (Or.inr (slot_ne (Or.inl (hw _ (List.mem_of_getElem? (i := 55) rfl))) (Or.inl (hw _ (List.mem_of_getElem? (i := 64) rfl))) (by decide) (t := (.array (.object "java/lang/Object"))) (t' := .int) (by decide) (by decide)))
    have R1x1_3 := R1x1_2.same W3
    have R2x1_3 := R2x1_2.other W3 (Or.inr (slot_ne (Or.inl (hw _ (List.mem_of_getElem? (i := 52) rfl))) (Or.inl (hw _ (List.mem_of_getElem? (i := 64) rfl))) (by decide) (t := .int) (t' := .int) (by decide) (by decide)))
    have A2_3 := A2.keep K3 (ninS nx1_a1.symm nin0)
    have V2_3 := own_ovr_kp V2 K3 (ninS nx1_a1.symm nin0)
    have KK3 := Keep.wr KK2 W3 (Or.inl (List.mem_of_getElem? (i := 0) rfl))
    have z3_ : h0.size ≤ h3_.size := Nat.le_trans z2_ K3.1
    exact own_retV X3 hx hret hlk (hb hby dd1_22) (by decide) (by decide) (by rw [e3]; unfold own_Qd1; exact ⟨_, rfl, o1, ohh1, N3, KK3, RA1_3, R0x1_3, R1x1_3, R2x1_3, A2_3, V2_3⟩)
theorem dd2_0 : decode jdk_38_method_24_code 0 = .ok (.iload_n 3, 1) := by decide +kernel
theorem dd2_1 : decode jdk_38_method_24_code 1 = .ok (.aload_n 2, 1) := by decide +kernel
theorem dd2_2 : decode jdk_38_method_24_code 2 = .ok (.arraylength, 1) := by decide +kernel
theorem dd2_3 : decode jdk_38_method_24_code 3 = .ok (.if_icmp .ne 8, 3) := by decide +kernel
theorem dd2_11 : decode jdk_38_method_24_code 11 = .ok (.aload_n 2, 1) := by decide +kernel
theorem dd2_12 : decode jdk_38_method_24_code 12 = .ok (.iload_n 3, 1) := by decide +kernel
theorem dd2_13 : decode jdk_38_method_24_code 13 = .ok (.aload_n 1, 1) := by decide +kernel
theorem dd2_14 : decode jdk_38_method_24_code 14 = .ok (.aastore, 1) := by decide +kernel
theorem dd2_15 : decode jdk_38_method_24_code 15 = .ok (.aload_n 0, 1) := by decide +kernel
theorem dd2_16 : decode jdk_38_method_24_code 16 = .ok (.iload_n 3, 1) := by decide +kernel
theorem dd2_17 : decode jdk_38_method_24_code 17 = .ok (.iconst 1, 1) := by decide +kernel
theorem dd2_18 : decode jdk_38_method_24_code 18 = .ok (.iadd, 1) := by decide +kernel
theorem dd2_19 : decode jdk_38_method_24_code 19 = .ok (.putfield 48, 3) := by decide +kernel
theorem dd2_22 : decode jdk_38_method_24_code 22 = .ok (.return_, 1) := by decide +kernel
def own_Qd2 (Z : State) (a1 : Addr) (a2 : Addr) (b : Addr) (p1 : Int32) (h0 : Heap) (n0 : Nat) (mc : Int32) (f0 : Nat → Value) : Option Value → Heap → List Loc → Prop := fun v h L => v = none ∧ Fr n0 L ∧ Keep h0 h [a1, b] ∧ Exa Z h a1 "java/util/ArrayList" ∧ Fld Z h a1 "java/util/ArrayList" "elementData" "[Ljava/lang/Object;" (.ref b) ∧ Fld Z h a1 "java/util/ArrayList" "size" "I" (.int 2) ∧ Fld Z h a1 "java/util/AbstractList" "modCount" "I" (.int mc) ∧ own_Arr Z h b (.object "java/lang/Object") 10 (own_upd f0 1 (.ref a2)) ∧ (∃ cl : Cell, Arr Z h b cl (.object "java/lang/Object") ∧ Ovr Z cl.cls "java/lang/Object")
theorem own_pnd2 : plainFor (⟨"java/util/ArrayList", "add", "(Ljava/lang/Object;[Ljava/lang/Object;I)V"⟩ : MethodName) = true := plainFor_of_name (show plainName "java/util/ArrayList" = true by first | (simp [plainName, overriddenIn]; done) | decide +kernel)
theorem own_efd2 (m : MethodId) (a1 : Addr) (a2 : Addr) (b : Addr) (p1 : Int32)  : entryFrame m #[(.ref a1), (.ref a2), (.ref b), (.int p1)] 4 = mkF m 0 #[.val (.ref a1), .val (.ref a2), .val (.ref b), .val (.int p1)] [] := by first | (simp [entryFrame, mkF, argsToLocals, Value.category, maxLocals]; done) | rfl
set_option maxRecDepth 65536 in
set_option maxHeartbeats 40000000 in
theorem own_rmd2 (l : Launch) (Z : State) (a0 : Array Value) (hw : ∀ d ∈ tables_1, d.before a0 Z = true) (ws : List Jvm.Cond) (a1 : Addr) (a2 : Addr) (b : Addr) (p1 : Int32) (mc : Int32) (f0 : Nat → Value) (h0 : Heap) (n0 : Nat) (hn0 : n0 ≤ h0.size) (ha : n0 ≤ a1) (hb0 : n0 ≤ b) (E : Exa Z h0 a1 "java/util/ArrayList") (F1 : Fld Z h0 a1 "java/util/ArrayList" "elementData" "[Ljava/lang/Object;" (.ref b)) (F2 : Fld Z h0 a1 "java/util/ArrayList" "size" "I" (.int 1)) (F3 : Fld Z h0 a1 "java/util/AbstractList" "modCount" "I" (.int mc)) (AR : own_Arr Z h0 b (.object "java/lang/Object") 10 f0) (OV : (∃ cl : Cell, Arr Z h0 b cl (.object "java/lang/Object") ∧ Ovr Z cl.cls "java/lang/Object")) (E2 : Exa Z h0 a2 "java/lang/String") (hn1 : b ≠ a1) (hn2 : a2 ≠ a1) (hp : p1 = 1) :
    MetFree l (⟨"java/util/ArrayList", "add", "(Ljava/lang/Object;[Ljava/lang/Object;I)V"⟩ : MethodName) (head1 (Jvm.Cond.code (⟨"java/util/ArrayList", "add", "(Ljava/lang/Object;[Ljava/lang/Object;I)V"⟩ : MethodName) jdk_38_method_24_code 4 none :: ws) ({ frames := 0, cells := 0, slots := 0, locals := 0 } : Room)) (fun a U => a = #[(.ref a1), (.ref a2), (.ref b), (.int p1)] ∧ Z.Warmed39 U.vm ∧ U.heap = h0) (fun _ _ _ _ _ => True) (fun _ U o U' => ∃ v L, o = .returned v ∧ (own_Qd2 Z a1 a2 b p1 h0 n0 mc f0) v U'.heap L ∧ FrameEnd U o U' L ({ frames := 0, cells := 0, slots := 0, locals := 0 } : Room).cells ({ frames := 0, cells := 0, slots := 0, locals := 0 } : Room).slots) := by
  refine own_body (y := (⟨"java/util/ArrayList", "add", "(Ljava/lang/Object;[Ljava/lang/Object;I)V"⟩ : MethodName)) (Q := own_Qd2 Z a1 a2 b p1 h0 n0 mc f0) (rm := ({ frames := 0, cells := 0, slots := 0, locals := 0 } : Room)) (as' := #[(.ref a1), (.ref a2), (.ref b), (.int p1)]) (h0 := h0) (Z := Z) own_pnd2 ?_
  intro p e s m below meth c s₁ hx hby hml hown hnm hret hlk hZ X0 e0
  have hown : s.vm.findClass "java/util/ArrayList" = some m.cls := hown
  rw [own_efd2]
  subst hp
  refine own_iload_n X0 hx (hb hby dd2_0) rfl (q := 1) rfl ?_
  refine own_aload_n X0 hx (hb hby dd2_1) rfl rfl (q := 2) rfl ?_
  refine own_arraylength X0 hx hZ e0 AR (hb hby dd2_2) (v := (10 : Int32)) rfl (q := 3) rfl ?_
  refine own_icmp X0 hx (hb hby dd2_3) (by decide) (q := 11) rfl (q' := 6) rfl (own_h_ne _ _) (fun h3 => ?_) (fun h3 => ?_)
  · replace h3 : (1 : Int) ≠ (10 : Int) := h3
    refine own_aload_n X0 hx (hb hby dd2_11) rfl rfl (q := 12) rfl ?_
    refine own_iload_n X0 hx (hb hby dd2_12) rfl (q := 13) rfl ?_
    refine own_aload_n X0 hx (hb hby dd2_13) rfl rfl (q := 14) rfl ?_
    refine own_stR X0 hx hZ e0 AR OV (Ins.of_exa E2 (hw _ (List.mem_of_getElem? (i := 86) rfl))) (hb hby dd2_14) (i := 1) rfl (by decide) (Fr.nil n0) hb0 (q := 15) rfl ?_
    intro T1 h1_ L1 X1 N1 e1 A1 V1 W1
    have K1 := Keep.of_wr W1
    have E_1 := E.keep K1
    have E2_1 := E2.keep K1
    have F1_1 := F1.keep K1 (ninS hn1.symm nin0)
    have F2_1 := F2.keep K1 (ninS hn1.symm nin0)
    have F3_1 := F3.keep K1 (ninS hn1.symm nin0)
    have KK1 := Keep.trans (Keep.refl h0 [a1, b]) K1 (allS (Or.inl (List.mem_of_getElem? (i := 1) rfl)) all0)
    have z1_ : h0.size ≤ h1_.size := Nat.le_trans (Nat.le_refl _) K1.1
    refine own_aload_n X1 hx (hb hby dd2_15) rfl rfl (q := 16) rfl ?_
    refine own_iload_n X1 hx (hb hby dd2_16) rfl (q := 17) rfl ?_
    refine own_iconst X1 hx (hb hby dd2_17) (v := (1 : Int32)) rfl (q := 18) rfl ?_
    refine own_iadd X1 hx (hb hby dd2_18) (q := 19) rfl ?_
    rw [show ((1 : Int32) + (1 : Int32)) = (2 : Int32) by decide]
    refine own_putF X1 hx hZ hown (hw _ (List.mem_of_getElem? (i := 63) rfl)) e1 F2_1 E_1 (Or.inl (hw _ (List.mem_of_getElem? (i := 64) rfl))) (hw _ (List.mem_of_getElem? (i := 33) rfl)) (ft := .int) (by decide) rfl rfl (hb hby dd2_19) N1 ha (q := 22) rfl ?_
    intro T2 h2_ L2 X2 N2 e2 W2
    have K2 := Keep.of_wr W2
    have E_2 := E_1.wr W2
    have E2_2 := E2_1.wr W2
    have F1_2 := F1_1.other W2 (Or.inr (slot_ne (Or.inl (hw _ (List.mem_of_getElem? (i := 55) rfl))) (Or.inl (hw _ (List.mem_of_getElem? (i := 64) rfl))) (by decide) (t := (.array (.object "java/lang/Object"))) (t' := .int) (by decide) (by decide)))
    have F2_2 := F2_1.same W2
    have F3_2 := F3_1.other W2 (Or.inr (slot_ne (Or.inl (hw _ (List.mem_of_getElem? (i := 52) rfl))) (Or.inl (hw _ (List.mem_of_getElem? (i := 64) rfl))) (by decide) (t := .int) (t' := .int) (by decide) (by decide)))
    have A1_2 := A1.keep K2 (ninS hn1 nin0)
    have V1_2 := own_ovr_kp V1 K2 (ninS hn1 nin0)
    have KK2 := Keep.wr KK1 W2 (Or.inl (List.mem_of_getElem? (i := 0) rfl))
    have z2_ : h0.size ≤ h2_.size := Nat.le_trans z1_ K2.1
    exact own_retV X2 hx hret hlk (hb hby dd2_22) (by decide) (by decide) (by rw [e2]; unfold own_Qd2; exact ⟨rfl, N2, KK2, E_2, F1_2, F2_2, F3_2, A1_2, V1_2⟩)
  · replace h3 : ¬ ((1 : Int) ≠ (10 : Int)) := h3
    exact absurd h3 (by decide)
theorem de1_0 : decode jdk_38_method_25_code 0 = .ok (.aload_n 0, 1) := by decide +kernel
theorem de1_1 : decode jdk_38_method_25_code 1 = .ok (.dup, 1) := by decide +kernel
theorem de1_2 : decode jdk_38_method_25_code 2 = .ok (.getfield 63, 3) := by decide +kernel
theorem de1_5 : decode jdk_38_method_25_code 5 = .ok (.iconst 1, 1) := by decide +kernel
theorem de1_6 : decode jdk_38_method_25_code 6 = .ok (.iadd, 1) := by decide +kernel
theorem de1_7 : decode jdk_38_method_25_code 7 = .ok (.putfield 63, 3) := by decide +kernel
theorem de1_10 : decode jdk_38_method_25_code 10 = .ok (.aload_n 0, 1) := by decide +kernel
theorem de1_11 : decode jdk_38_method_25_code 11 = .ok (.aload_n 1, 1) := by decide +kernel
theorem de1_12 : decode jdk_38_method_25_code 12 = .ok (.aload_n 0, 1) := by decide +kernel
theorem de1_13 : decode jdk_38_method_25_code 13 = .ok (.getfield 9, 3) := by decide +kernel
theorem de1_16 : decode jdk_38_method_25_code 16 = .ok (.aload_n 0, 1) := by decide +kernel
theorem de1_17 : decode jdk_38_method_25_code 17 = .ok (.getfield 48, 3) := by decide +kernel
theorem de1_20 : decode jdk_38_method_25_code 20 = .ok (.invokevirtual 131, 3) := by decide +kernel
theorem de1_23 : decode jdk_38_method_25_code 23 = .ok (.iconst 1, 1) := by decide +kernel
theorem de1_24 : decode jdk_38_method_25_code 24 = .ok (.ireturn, 1) := by decide +kernel
def own_Qe1 (Z : State) (a1 : Addr) (a2 : Addr) (h0 : Heap) (n0 : Nat) (mc : Int32) : Option Value → Heap → List Loc → Prop := fun v h L => ∃ b, v = some (.int 1) ∧ n0 ≤ b ∧ h0.size ≤ b ∧ Fr n0 L ∧ Keep h0 h [a1] ∧ Exa Z h a1 "java/util/ArrayList" ∧ Fld Z h a1 "java/util/ArrayList" "elementData" "[Ljava/lang/Object;" (.ref b) ∧ Fld Z h a1 "java/util/ArrayList" "size" "I" (.int 1) ∧ Fld Z h a1 "java/util/AbstractList" "modCount" "I" (.int (mc + 1)) ∧ own_Arr Z h b (.object "java/lang/Object") 10 (own_upd (fun _ => .null) 0 (.ref a2)) ∧ (∃ cl : Cell, Arr Z h b cl (.object "java/lang/Object") ∧ Ovr Z cl.cls "java/lang/Object")
theorem own_pne1 : plainFor (⟨"java/util/ArrayList", "add", "(Ljava/lang/Object;)Z"⟩ : MethodName) = true := plainFor_of_name (show plainName "java/util/ArrayList" = true by first | (simp [plainName, overriddenIn]; done) | decide +kernel)
theorem own_efe1 (m : MethodId) (a1 : Addr) (a2 : Addr)  : entryFrame m #[(.ref a1), (.ref a2)] 2 = mkF m 0 #[.val (.ref a1), .val (.ref a2)] [] := by first | (simp [entryFrame, mkF, argsToLocals, Value.category, maxLocals]; done) | rfl
set_option maxRecDepth 65536 in
set_option maxHeartbeats 40000000 in
theorem own_rme1 (l : Launch) (Z : State) (a0 : Array Value) (hw : ∀ d ∈ tables_1, d.before a0 Z = true) (ws : List Jvm.Cond) (a1 : Addr) (a2 : Addr) (dE : Addr) (mc : Int32) (fE : Nat → Value) (h0 : Heap) (n0 : Nat) (hn0 : n0 ≤ h0.size) (ha : n0 ≤ a1) (E : Exa Z h0 a1 "java/util/ArrayList") (F1 : Fld Z h0 a1 "java/util/ArrayList" "elementData" "[Ljava/lang/Object;" (.ref dE)) (F2 : Fld Z h0 a1 "java/util/ArrayList" "size" "I" (.int 0)) (F3 : Fld Z h0 a1 "java/util/AbstractList" "modCount" "I" (.int mc)) (SD : Sta Z h0 "java/util/ArrayList" "DEFAULTCAPACITY_EMPTY_ELEMENTDATA" "[Ljava/lang/Object;" (.ref dE)) (AD : own_Arr Z h0 dE (.object "java/lang/Object") 0 fE) (hne : dE ≠ a1) (E2 : Exa Z h0 a2 "java/lang/String") (hn2 : a2 ≠ a1) :
    MetFree l (⟨"java/util/ArrayList", "add", "(Ljava/lang/Object;)Z"⟩ : MethodName) (head1 (Jvm.Cond.code (⟨"java/util/ArrayList", "add", "(Ljava/lang/Object;)Z"⟩ : MethodName) jdk_38_method_25_code 2 (some .boolean) :: ws) ({ frames := 4, cells := 1, slots := 10, locals := 63 } : Room)) (fun a U => a = #[(.ref a1), (.ref a2)] ∧ Z.Warmed39 U.vm ∧ U.heap = h0) (fun _ _ _ _ _ => True) (fun _ U o U' => ∃ v L, o = .returned v ∧ (own_Qe1 Z a1 a2 h0 n0 mc) v U'.heap L ∧ FrameEnd U o U' L ({ frames := 4, cells := 1, slots := 10, locals := 63 } : Room).cells ({ frames := 4, cells := 1, slots := 10, locals := 63 } : Room).slots) := by
  refine own_body (y := (⟨"java/util/ArrayList", "add", "(Ljava/lang/Object;)Z"⟩ : MethodName)) (Q := own_Qe1 Z a1 a2 h0 n0 mc) (rm := ({ frames := 4, cells := 1, slots := 10, locals := 63 } : Room)) (as' := #[(.ref a1), (.ref a2)]) (h0 := h0) (Z := Z) own_pne1 ?_
  intro p e s m below meth c s₁ hx hby hml hown hnm hret hlk hZ X0 e0
  have hown : s.vm.findClass "java/util/ArrayList" = some m.cls := hown
  rw [own_efe1]
  refine own_aload_n X0 hx (hb hby de1_0) rfl rfl (q := 1) rfl ?_
  refine own_dup X0 hx (hb hby de1_1) rfl (q := 2) rfl ?_
  refine own_getFV X0 hx hZ hown (hw _ (List.mem_of_getElem? (i := 61) rfl)) (hw _ (List.mem_of_getElem? (i := 62) rfl)) e0 F3 (hb hby de1_2) (q := 5) rfl ?_
  intro T1 X1 e1
  refine own_iconst X1 hx (hb hby de1_5) (v := (1 : Int32)) rfl (q := 6) rfl ?_
  refine own_iadd X1 hx (hb hby de1_6) (q := 7) rfl ?_
  refine own_putFV X1 hx hZ hown (hw _ (List.mem_of_getElem? (i := 61) rfl)) (hw _ (List.mem_of_getElem? (i := 62) rfl)) e1 F3 E (Or.inl (hw _ (List.mem_of_getElem? (i := 52) rfl))) (hw _ (List.mem_of_getElem? (i := 33) rfl)) (ft := .int) (by decide) rfl rfl (hb hby de1_7) (Fr.nil n0) ha (q := 10) rfl ?_
  intro T2 h2_ L2 X2 N2 e2 W2
  have K2 := Keep.of_wr W2
  have E_2 := E.wr W2
  have SD_2 := SD.wr W2
  have AD_2 := AD.keep K2 (ninS hne nin0)
  have F1_2 := F1.other W2 (Or.inr (slot_ne (Or.inl (hw _ (List.mem_of_getElem? (i := 55) rfl))) (Or.inl (hw _ (List.mem_of_getElem? (i := 52) rfl))) (by decide) (t := (.array (.object "java/lang/Object"))) (t' := .int) (by decide) (by decide)))
  have F2_2 := F2.other W2 (Or.inr (slot_ne (Or.inl (hw _ (List.mem_of_getElem? (i := 64) rfl))) (Or.inl (hw _ (List.mem_of_getElem? (i := 52) rfl))) (by decide) (t := .int) (t' := .int) (by decide) (by decide)))
  have F3_2 := F3.same W2
  have E2_2 := E2.wr W2
  have KK2 := Keep.wr (Keep.refl h0 [a1]) W2 (Or.inl (List.mem_of_getElem? (i := 0) rfl))
  have z2_ : h0.size ≤ h2_.size := Nat.le_trans (Nat.le_refl _) K2.1
  refine own_aload_n X2 hx (hb hby de1_10) rfl rfl (q := 11) rfl ?_
  refine own_aload_n X2 hx (hb hby de1_11) rfl rfl (q := 12) rfl ?_
  refine own_aload_n X2 hx (hb hby de1_12) rfl rfl (q := 13) rfl ?_
  refine own_getF X2 hx hZ hown (hw _ (List.mem_of_getElem? (i := 54) rfl)) e2 F1_2 (hb hby de1_13) (q := 16) rfl ?_
  intro T3 X3 e3
  refine own_aload_n X3 hx (hb hby de1_16) rfl rfl (q := 17) rfl ?_
  refine own_getF X3 hx hZ hown (hw _ (List.mem_of_getElem? (i := 63) rfl)) e3 F2_2 (hb hby de1_17) (q := 20) rfl ?_
  intro T4 X4 e4
  refine own_callP X4 hx hZ hown (hw _ (List.mem_of_getElem? (i := 65) rfl)) (hw _ (List.mem_of_getElem? (i := 67) rfl)) (hw _ (List.mem_of_getElem? (i := 33) rfl)) (hw _ (List.mem_of_getElem? (i := 66) rfl)) (hw _ (List.mem_of_getElem? (i := 69) rfl)) (hw _ (List.mem_of_getElem? (i := 34) rfl)) (by decide) (own_rmd1 l Z a0 hw [] a1 a2 dE (0 : Int32) (mc + 1) fE h2_ n0 (Nat.le_trans hn0 z2_) ha E_2 F1_2 F2_2 F3_2 SD_2 AD_2 hne E2_2 hn2 rfl) E_2 (by decide) (by decide) e4 (by rw [hml]; rfl) (argsL := [(.ref a2), (.ref dE), (.int (0 : Int32))]) (rest := []) (lenOf own_pd8 rfl) rfl (W := 0) rfl (hb hby de1_20) (q := 23) rfl rfl (by decide) (by decide) ?_
  rintro _ T5 L5 ⟨b5, rfl, o5, oh5, NL5, K5, RA5, R0x5, R1x5, R2x5, AR5, OV5⟩ X5
  have N5 := Fr.app N2 NL5
  obtain ⟨h5_, e5⟩ : ∃ z, T5.heap = z := ⟨_, rfl⟩
  rw [e5] at K5 RA5 R0x5 R1x5 R2x5 AR5 OV5
  have E_5 := E_2.keep K5
  have SD_5 := own_sta_keep SD_2 K5 (nsS (Exa.nostat E_2) ns0)
  have AD_5 := AD_2.keep K5 (ninS hne nin0)
  have E2_5 := E2_2.keep K5
  have KK5 := Keep.trans KK2 K5 (allS (Or.inl (List.mem_of_getElem? (i := 0) rfl)) all0)
  have z5_ : h0.size ≤ h5_.size := Nat.le_trans z2_ K5.1
  obtain ⟨LL5, eL5⟩ : ∃ z, L2 ++ L5 = z := ⟨_, rfl⟩
  rw [eL5] at X5 N5
  show own_G p e below _ (T5.setTop (mkF m 23 #[.val (.ref a1), .val (.ref a2)] []))
  have ohh5 : h0.size ≤ b5 := Nat.le_trans z2_ oh5
  refine own_iconst X5 hx (hb hby de1_23) (v := (1 : Int32)) rfl (q := 24) rfl ?_
  exact own_retN X5 hx (t := .boolean) hret hlk (by simp) (hb hby de1_24) (by decide) (by decide) (w := 1) rfl (by rw [e5]; unfold own_Qe1; exact ⟨_, rfl, o5, ohh5, N5, KK5, RA5, R0x5, R1x5, R2x5, AR5, OV5⟩)
theorem de2_0 : decode jdk_38_method_25_code 0 = .ok (.aload_n 0, 1) := by decide +kernel
theorem de2_1 : decode jdk_38_method_25_code 1 = .ok (.dup, 1) := by decide +kernel
theorem de2_2 : decode jdk_38_method_25_code 2 = .ok (.getfield 63, 3) := by decide +kernel
theorem de2_5 : decode jdk_38_method_25_code 5 = .ok (.iconst 1, 1) := by decide +kernel
theorem de2_6 : decode jdk_38_method_25_code 6 = .ok (.iadd, 1) := by decide +kernel
theorem de2_7 : decode jdk_38_method_25_code 7 = .ok (.putfield 63, 3) := by decide +kernel
theorem de2_10 : decode jdk_38_method_25_code 10 = .ok (.aload_n 0, 1) := by decide +kernel
theorem de2_11 : decode jdk_38_method_25_code 11 = .ok (.aload_n 1, 1) := by decide +kernel
theorem de2_12 : decode jdk_38_method_25_code 12 = .ok (.aload_n 0, 1) := by decide +kernel
theorem de2_13 : decode jdk_38_method_25_code 13 = .ok (.getfield 9, 3) := by decide +kernel
theorem de2_16 : decode jdk_38_method_25_code 16 = .ok (.aload_n 0, 1) := by decide +kernel
theorem de2_17 : decode jdk_38_method_25_code 17 = .ok (.getfield 48, 3) := by decide +kernel
theorem de2_20 : decode jdk_38_method_25_code 20 = .ok (.invokevirtual 131, 3) := by decide +kernel
theorem de2_23 : decode jdk_38_method_25_code 23 = .ok (.iconst 1, 1) := by decide +kernel
theorem de2_24 : decode jdk_38_method_25_code 24 = .ok (.ireturn, 1) := by decide +kernel
def own_Qe2 (Z : State) (a1 : Addr) (a2 : Addr) (h0 : Heap) (n0 : Nat) (b : Addr) (mc : Int32) (f0 : Nat → Value) : Option Value → Heap → List Loc → Prop := fun v h L => v = some (.int 1) ∧ Fr n0 L ∧ Keep h0 h [a1, b] ∧ Exa Z h a1 "java/util/ArrayList" ∧ Fld Z h a1 "java/util/ArrayList" "elementData" "[Ljava/lang/Object;" (.ref b) ∧ Fld Z h a1 "java/util/ArrayList" "size" "I" (.int 2) ∧ Fld Z h a1 "java/util/AbstractList" "modCount" "I" (.int (mc + 1)) ∧ own_Arr Z h b (.object "java/lang/Object") 10 (own_upd f0 1 (.ref a2)) ∧ (∃ cl : Cell, Arr Z h b cl (.object "java/lang/Object") ∧ Ovr Z cl.cls "java/lang/Object")
theorem own_pne2 : plainFor (⟨"java/util/ArrayList", "add", "(Ljava/lang/Object;)Z"⟩ : MethodName) = true := plainFor_of_name (show plainName "java/util/ArrayList" = true by first | (simp [plainName, overriddenIn]; done) | decide +kernel)
theorem own_efe2 (m : MethodId) (a1 : Addr) (a2 : Addr)  : entryFrame m #[(.ref a1), (.ref a2)] 2 = mkF m 0 #[.val (.ref a1), .val (.ref a2)] [] := by first | (simp [entryFrame, mkF, argsToLocals, Value.category, maxLocals]; done) | rfl
set_option maxRecDepth 65536 in
set_option maxHeartbeats 40000000 in
theorem own_rme2 (l : Launch) (Z : State) (a0 : Array Value) (hw : ∀ d ∈ tables_1, d.before a0 Z = true) (ws : List Jvm.Cond) (a1 : Addr) (a2 : Addr) (b : Addr) (mc : Int32) (f0 : Nat → Value) (h0 : Heap) (n0 : Nat) (hn0 : n0 ≤ h0.size) (ha : n0 ≤ a1) (hb0 : n0 ≤ b) (E : Exa Z h0 a1 "java/util/ArrayList") (F1 : Fld Z h0 a1 "java/util/ArrayList" "elementData" "[Ljava/lang/Object;" (.ref b)) (F2 : Fld Z h0 a1 "java/util/ArrayList" "size" "I" (.int 1)) (F3 : Fld Z h0 a1 "java/util/AbstractList" "modCount" "I" (.int mc)) (AR : own_Arr Z h0 b (.object "java/lang/Object") 10 f0) (OV : (∃ cl : Cell, Arr Z h0 b cl (.object "java/lang/Object") ∧ Ovr Z cl.cls "java/lang/Object")) (E2 : Exa Z h0 a2 "java/lang/String") (hn1 : b ≠ a1) (hn2 : a2 ≠ a1) :
    MetFree l (⟨"java/util/ArrayList", "add", "(Ljava/lang/Object;)Z"⟩ : MethodName) (head1 (Jvm.Cond.code (⟨"java/util/ArrayList", "add", "(Ljava/lang/Object;)Z"⟩ : MethodName) jdk_38_method_25_code 2 (some .boolean) :: ws) ({ frames := 1, cells := 0, slots := 0, locals := 15 } : Room)) (fun a U => a = #[(.ref a1), (.ref a2)] ∧ Z.Warmed39 U.vm ∧ U.heap = h0) (fun _ _ _ _ _ => True) (fun _ U o U' => ∃ v L, o = .returned v ∧ (own_Qe2 Z a1 a2 h0 n0 b mc f0) v U'.heap L ∧ FrameEnd U o U' L ({ frames := 1, cells := 0, slots := 0, locals := 15 } : Room).cells ({ frames := 1, cells := 0, slots := 0, locals := 15 } : Room).slots) := by
  refine own_body (y := (⟨"java/util/ArrayList", "add", "(Ljava/lang/Object;)Z"⟩ : MethodName)) (Q := own_Qe2 Z a1 a2 h0 n0 b mc f0) (rm := ({ frames := 1, cells := 0, slots := 0, locals := 15 } : Room)) (as' := #[(.ref a1), (.ref a2)]) (h0 := h0) (Z := Z) own_pne2 ?_
  intro p e s m below meth c s₁ hx hby hml hown hnm hret hlk hZ X0 e0
  have hown : s.vm.findClass "java/util/ArrayList" = some m.cls := hown
  rw [own_efe2]
  refine own_aload_n X0 hx (hb hby de2_0) rfl rfl (q := 1) rfl ?_
  refine own_dup X0 hx (hb hby de2_1) rfl (q := 2) rfl ?_
  refine own_getFV X0 hx hZ hown (hw _ (List.mem_of_getElem? (i := 61) rfl)) (hw _ (List.mem_of_getElem? (i := 62) rfl)) e0 F3 (hb hby de2_2) (q := 5) rfl ?_
  intro T1 X1 e1
  refine own_iconst X1 hx (hb hby de2_5) (v := (1 : Int32)) rfl (q := 6) rfl ?_
  refine own_iadd X1 hx (hb hby de2_6) (q := 7) rfl ?_
  refine own_putFV X1 hx hZ hown (hw _ (List.mem_of_getElem? (i := 61) rfl)) (hw _ (List.mem_of_getElem? (i := 62) rfl)) e1 F3 E (Or.inl (hw _ (List.mem_of_getElem? (i := 52) rfl))) (hw _ (List.mem_of_getElem? (i := 33) rfl)) (ft := .int) (by decide) rfl rfl (hb hby de2_7) (Fr.nil n0) ha (q := 10) rfl ?_
  intro T2 h2_ L2 X2 N2 e2 W2
  have K2 := Keep.of_wr W2
  have E_2 := E.wr W2
  have E2_2 := E2.wr W2
  have AR_2 := AR.keep K2 (ninS hn1 nin0)
  have OV_2 := own_ovr_kp OV K2 (ninS hn1 nin0)
  have F1_2 := F1.other W2 (Or.inr (slot_ne (Or.inl (hw _ (List.mem_of_getElem? (i := 55) rfl))) (Or.inl (hw _ (List.mem_of_getElem? (i := 52) rfl))) (by decide) (t := (.array (.object "java/lang/Object"))) (t' := .int) (by decide) (by decide)))
  have F2_2 := F2.other W2 (Or.inr (slot_ne (Or.inl (hw _ (List.mem_of_getElem? (i := 64) rfl))) (Or.inl (hw _ (List.mem_of_getElem? (i := 52) rfl))) (by decide) (t := .int) (t' := .int) (by decide) (by decide)))
  have F3_2 := F3.same W2
  have KK2 := Keep.wr (Keep.refl h0 [a1, b]) W2 (Or.inl (List.mem_of_getElem? (i := 0) rfl))
  have z2_ : h0.size ≤ h2_.size := Nat.le_trans (Nat.le_refl _) K2.1
  refine own_aload_n X2 hx (hb hby de2_10) rfl rfl (q := 11) rfl ?_
  refine own_aload_n X2 hx (hb hby de2_11) rfl rfl (q := 12) rfl ?_
  refine own_aload_n X2 hx (hb hby de2_12) rfl rfl (q := 13) rfl ?_
  refine own_getF X2 hx hZ hown (hw _ (List.mem_of_getElem? (i := 54) rfl)) e2 F1_2 (hb hby de2_13) (q := 16) rfl ?_
  intro T3 X3 e3
  refine own_aload_n X3 hx (hb hby de2_16) rfl rfl (q := 17) rfl ?_
  refine own_getF X3 hx hZ hown (hw _ (List.mem_of_getElem? (i := 63) rfl)) e3 F2_2 (hb hby de2_17) (q := 20) rfl ?_
  intro T4 X4 e4
  refine own_callP X4 hx hZ hown (hw _ (List.mem_of_getElem? (i := 65) rfl)) (hw _ (List.mem_of_getElem? (i := 67) rfl)) (hw _ (List.mem_of_getElem? (i := 33) rfl)) (hw _ (List.mem_of_getElem? (i := 66) rfl)) (hw _ (List.mem_of_getElem? (i := 69) rfl)) (hw _ (List.mem_of_getElem? (i := 34) rfl)) (by decide) (own_rmd2 l Z a0 hw [] a1 a2 b (1 : Int32) (mc + 1) f0 h2_ n0 (Nat.le_trans hn0 z2_) ha hb0 E_2 F1_2 F2_2 F3_2 AR_2 OV_2 E2_2 hn1 hn2 rfl) E_2 (by decide) (by decide) e4 (by rw [hml]; rfl) (argsL := [(.ref a2), (.ref b), (.int (1 : Int32))]) (rest := []) (lenOf own_pd8 rfl) rfl (W := 0) rfl (hb hby de2_20) (q := 23) rfl rfl (by decide) (by decide) ?_
  rintro _ T5 L5 ⟨rfl, NL5, K5, RA5, R0x5, R1x5, R2x5, AR5, OV5⟩ X5
  have N5 := Fr.app N2 NL5
  obtain ⟨h5_, e5⟩ : ∃ z, T5.heap = z := ⟨_, rfl⟩
  rw [e5] at K5 RA5 R0x5 R1x5 R2x5 AR5 OV5
  have E_5 := E_2.keep K5
  have E2_5 := E2_2.keep K5
  have KK5 := Keep.trans KK2 K5 (allS (Or.inl (List.mem_of_getElem? (i := 0) rfl)) (allS (Or.inl (List.mem_of_getElem? (i := 1) rfl)) all0))
  have z5_ : h0.size ≤ h5_.size := Nat.le_trans z2_ K5.1
  obtain ⟨LL5, eL5⟩ : ∃ z, L2 ++ L5 = z := ⟨_, rfl⟩
  rw [eL5] at X5 N5
  show own_G p e below _ (T5.setTop (mkF m 23 #[.val (.ref a1), .val (.ref a2)] []))
  refine own_iconst X5 hx (hb hby de2_23) (v := (1 : Int32)) rfl (q := 24) rfl ?_
  exact own_retN X5 hx (t := .boolean) hret hlk (by simp) (hb hby de2_24) (by decide) (by decide) (w := 1) rfl (by rw [e5]; unfold own_Qe2; exact ⟨rfl, N5, KK5, RA5, R0x5, R1x5, R2x5, AR5, OV5⟩)
theorem do_0 : decode prog_9_method_2_code 0 = .ok (.aload_n 0, 1) := by decide +kernel
theorem do_1 : decode prog_9_method_2_code 1 = .ok (.invokespecial 1, 3) := by decide +kernel
theorem do_4 : decode prog_9_method_2_code 4 = .ok (.aload_n 0, 1) := by decide +kernel
theorem do_5 : decode prog_9_method_2_code 5 = .ok (.aload_n 1, 1) := by decide +kernel
theorem do_6 : decode prog_9_method_2_code 6 = .ok (.putfield 7, 3) := by decide +kernel
theorem do_9 : decode prog_9_method_2_code 9 = .ok (.aload_n 0, 1) := by decide +kernel
theorem do_10 : decode prog_9_method_2_code 10 = .ok (.aload_n 2, 1) := by decide +kernel
theorem do_11 : decode prog_9_method_2_code 11 = .ok (.putfield 13, 3) := by decide +kernel
theorem do_14 : decode prog_9_method_2_code 14 = .ok (.aload_n 0, 1) := by decide +kernel
theorem do_15 : decode prog_9_method_2_code 15 = .ok (.aload_n 3, 1) := by decide +kernel
theorem do_16 : decode prog_9_method_2_code 16 = .ok (.putfield 17, 3) := by decide +kernel
theorem do_19 : decode prog_9_method_2_code 19 = .ok (.return_, 1) := by decide +kernel
def own_Qo (Z : State) (a1 : Addr) (a2 : Addr) (a3 : Addr) (a4 : Addr) (h0 : Heap) (n0 : Nat) : Option Value → Heap → List Loc → Prop := fun v h L => v = none ∧ Fr n0 L ∧ Keep h0 h [a1] ∧ Exa Z h a1 "com/example/keyward/keyward/command/Outcome" ∧ Fld Z h a1 "com/example/keyward/keyward/command/Outcome" "status" "Lcom/example/keyward/keyward/command/ExitStatus;" (.ref a2) ∧ Fld Z h a1 "com/example/keyward/keyward/command/Outcome" "lines" "Ljava/util/List;" (.ref a3) ∧ Fld Z h a1 "com/example/keyward/keyward/command/Outcome" "recorded" "Ljava/lang/String;" (.ref a4)
theorem own_pno : plainFor (⟨"com/example/keyward/keyward/command/Outcome", "<init>", "(Lcom/example/keyward/keyward/command/ExitStatus;Ljava/util/List;Ljava/lang/String;)V"⟩ : MethodName) = true := plainFor_of_name (show plainName "com/example/keyward/keyward/command/Outcome" = true by first | (simp [plainName, overriddenIn]; done) | decide +kernel)
theorem own_efo (m : MethodId) (a1 : Addr) (a2 : Addr) (a3 : Addr) (a4 : Addr)  : entryFrame m #[(.ref a1), (.ref a2), (.ref a3), (.ref a4)] 4 = mkF m 0 #[.val (.ref a1), .val (.ref a2), .val (.ref a3), .val (.ref a4)] [] := by first | (simp [entryFrame, mkF, argsToLocals, Value.category, maxLocals]; done) | rfl
set_option maxRecDepth 65536 in
set_option maxHeartbeats 40000000 in
theorem own_rmo (l : Launch) (Z : State) (a0 : Array Value) (hw : ∀ d ∈ tables_1, d.before a0 Z = true) (ws : List Jvm.Cond) (a1 : Addr) (a2 : Addr) (a3 : Addr) (a4 : Addr)  (h0 : Heap) (n0 : Nat) (hn0 : n0 ≤ h0.size) (ha : n0 ≤ a1) (E : Exa Z h0 a1 "com/example/keyward/keyward/command/Outcome") (F0 : Fld Z h0 a1 "com/example/keyward/keyward/command/Outcome" "status" "Lcom/example/keyward/keyward/command/ExitStatus;" (.null)) (F1 : Fld Z h0 a1 "com/example/keyward/keyward/command/Outcome" "lines" "Ljava/util/List;" (.null)) (F2 : Fld Z h0 a1 "com/example/keyward/keyward/command/Outcome" "recorded" "Ljava/lang/String;" (.null)) :
    MetFree l (⟨"com/example/keyward/keyward/command/Outcome", "<init>", "(Lcom/example/keyward/keyward/command/ExitStatus;Ljava/util/List;Ljava/lang/String;)V"⟩ : MethodName) (head1 (Jvm.Cond.code (⟨"com/example/keyward/keyward/command/Outcome", "<init>", "(Lcom/example/keyward/keyward/command/ExitStatus;Ljava/util/List;Ljava/lang/String;)V"⟩ : MethodName) prog_9_method_2_code 4 none :: ws) ({ frames := 2, cells := 0, slots := 0, locals := 24 } : Room)) (fun a U => a = #[(.ref a1), (.ref a2), (.ref a3), (.ref a4)] ∧ Z.Warmed39 U.vm ∧ U.heap = h0) (fun _ _ _ _ _ => True) (fun _ U o U' => ∃ v L, o = .returned v ∧ (own_Qo Z a1 a2 a3 a4 h0 n0) v U'.heap L ∧ FrameEnd U o U' L ({ frames := 2, cells := 0, slots := 0, locals := 24 } : Room).cells ({ frames := 2, cells := 0, slots := 0, locals := 24 } : Room).slots) := by
  refine own_body (y := (⟨"com/example/keyward/keyward/command/Outcome", "<init>", "(Lcom/example/keyward/keyward/command/ExitStatus;Ljava/util/List;Ljava/lang/String;)V"⟩ : MethodName)) (Q := own_Qo Z a1 a2 a3 a4 h0 n0) (rm := ({ frames := 2, cells := 0, slots := 0, locals := 24 } : Room)) (as' := #[(.ref a1), (.ref a2), (.ref a3), (.ref a4)]) (h0 := h0) (Z := Z) own_pno ?_
  intro p e s m below meth c s₁ hx hby hml hown hnm hret hlk hZ X0 e0
  have hown : s.vm.findClass "com/example/keyward/keyward/command/Outcome" = some m.cls := hown
  rw [own_efo]
  refine own_aload_n X0 hx (hb hby do_0) rfl rfl (q := 1) rfl ?_
  refine own_callNP X0 hx hZ rfl hown (hw _ (List.mem_of_getElem? (i := 93) rfl)) (hw _ (List.mem_of_getElem? (i := 94) rfl)) (hw _ (List.mem_of_getElem? (i := 96) rfl)) (hw _ (List.mem_of_getElem? (i := 97) rfl)) (by decide) (own_rmR l Z a0 hw [] a1 h0) (by decide) (by decide) e0 (by rw [hml]; rfl) (argsL := []) (rest := []) (lenOf own_pd4 rfl) rfl (W := 0) rfl (hb hby do_1) (q := 4) rfl rfl rfl rfl (by decide) (by decide) ?_
  intro T1 X1 e1
  refine own_aload_n X1 hx (hb hby do_4) rfl rfl (q := 5) rfl ?_
  refine own_aload_n X1 hx (hb hby do_5) rfl rfl (q := 6) rfl ?_
  refine own_putF X1 hx hZ hown (hw _ (List.mem_of_getElem? (i := 99) rfl)) e1 F0 E (Or.inr ⟨(hw _ (List.mem_of_getElem? (i := 100) rfl)), rfl, hnm⟩) (hw _ (List.mem_of_getElem? (i := 88) rfl)) (ft := (.object "com/example/keyward/keyward/command/ExitStatus")) (by decide) rfl rfl (hb hby do_6) (Fr.nil n0) ha (q := 9) rfl ?_
  intro T2 h2_ L2 X2 N2 e2 W2
  have K2 := Keep.of_wr W2
  have E_2 := E.wr W2
  have F0_2 := F0.same W2
  have F1_2 := F1.other W2 (Or.inr (slot_ne (Or.inr (hw _ (List.mem_of_getElem? (i := 102) rfl))) (Or.inr (hw _ (List.mem_of_getElem? (i := 100) rfl))) (by decide) (t := (.object "java/util/List")) (t' := (.object "com/example/keyward/keyward/command/ExitStatus")) (by decide) (by decide)))
  have F2_2 := F2.other W2 (Or.inr (slot_ne (Or.inr (hw _ (List.mem_of_getElem? (i := 104) rfl))) (Or.inr (hw _ (List.mem_of_getElem? (i := 100) rfl))) (by decide) (t := (.object "java/lang/String")) (t' := (.object "com/example/keyward/keyward/command/ExitStatus")) (by decide) (by decide)))
  have KK2 := Keep.wr (Keep.refl h0 [a1]) W2 (Or.inl (List.mem_of_getElem? (i := 0) rfl))
  have z2_ : h0.size ≤ h2_.size := Nat.le_trans (Nat.le_refl _) K2.1
  refine own_aload_n X2 hx (hb hby do_9) rfl rfl (q := 10) rfl ?_
  refine own_aload_n X2 hx (hb hby do_10) rfl rfl (q := 11) rfl ?_
  refine own_putF X2 hx hZ hown (hw _ (List.mem_of_getElem? (i := 101) rfl)) e2 F1_2 E_2 (Or.inr ⟨(hw _ (List.mem_of_getElem? (i := 102) rfl)), rfl, hnm⟩) (hw _ (List.mem_of_getElem? (i := 88) rfl)) (ft := (.object "java/util/List")) (by decide) rfl rfl (hb hby do_11) N2 ha (q := 14) rfl ?_
  intro T3 h3_ L3 X3 N3 e3 W3
  have K3 := Keep.of_wr W3
  have E_3 := E_2.wr W3
  have F0_3 := F0_2.other W3 (Or.inr (slot_ne (Or.inr (hw _ (List.mem_of_getElem? (i := 100) rfl))) (Or.inr (hw _ (List.mem_of_getElem? (i := 102) rfl))) (by decide) (t := (.object "com/example/keyward/keyward/command/ExitStatus")) (t' := (.object "java/util/List")) (by decide) (by decide)))
  have F1_3 := F1_2.same W3
  have F2_3 := F2_2.other W3 (Or.inr (slot_ne (Or.inr (hw _ (List.mem_of_getElem? (i := 104) rfl))) (Or.inr (hw _ (List.mem_of_getElem? (i := 102) rfl))) (by decide) (t := (.object "java/lang/String")) (t' := (.object "java/util/List")) (by decide) (by decide)))
  have KK3 := Keep.wr KK2 W3 (Or.inl (List.mem_of_getElem? (i := 0) rfl))
  have z3_ : h0.size ≤ h3_.size := Nat.le_trans z2_ K3.1
  refine own_aload_n X3 hx (hb hby do_14) rfl rfl (q := 15) rfl ?_
  refine own_aload_n X3 hx (hb hby do_15) rfl rfl (q := 16) rfl ?_
  refine own_putF X3 hx hZ hown (hw _ (List.mem_of_getElem? (i := 103) rfl)) e3 F2_3 E_3 (Or.inr ⟨(hw _ (List.mem_of_getElem? (i := 104) rfl)), rfl, hnm⟩) (hw _ (List.mem_of_getElem? (i := 88) rfl)) (ft := (.object "java/lang/String")) (by decide) rfl rfl (hb hby do_16) N3 ha (q := 19) rfl ?_
  intro T4 h4_ L4 X4 N4 e4 W4
  have K4 := Keep.of_wr W4
  have E_4 := E_3.wr W4
  have F0_4 := F0_3.other W4 (Or.inr (slot_ne (Or.inr (hw _ (List.mem_of_getElem? (i := 100) rfl))) (Or.inr (hw _ (List.mem_of_getElem? (i := 104) rfl))) (by decide) (t := (.object "com/example/keyward/keyward/command/ExitStatus")) (t' := (.object "java/lang/String")) (by decide) (by decide)))
  have F1_4 := F1_3.other W4 (Or.inr (slot_ne (Or.inr (hw _ (List.mem_of_getElem? (i := 102) rfl))) (Or.inr (hw _ (List.mem_of_getElem? (i := 104) rfl))) (by decide) (t := (.object "java/util/List")) (t' := (.object "java/lang/String")) (by decide) (by decide)))
  have F2_4 := F2_3.same W4
  have KK4 := Keep.wr KK3 W4 (Or.inl (List.mem_of_getElem? (i := 0) rfl))
  have z4_ : h0.size ≤ h4_.size := Nat.le_trans z3_ K4.1
  exact own_retV X4 hx hret hlk (hb hby do_19) (by decide) (by decide) (by rw [e4]; unfold own_Qo; exact ⟨rfl, N4, KK4, E_4, F0_4, F1_4, F2_4⟩)
theorem dra_0 : decode prog_9_method_8_code 0 = .ok (.new 8, 3) := by decide +kernel
theorem dra_3 : decode prog_9_method_8_code 3 = .ok (.dup, 1) := by decide +kernel
theorem dra_4 : decode prog_9_method_8_code 4 = .ok (.aload_n 0, 1) := by decide +kernel
theorem dra_5 : decode prog_9_method_8_code 5 = .ok (.getfield 7, 3) := by decide +kernel
theorem dra_8 : decode prog_9_method_8_code 8 = .ok (.aload_n 0, 1) := by decide +kernel
theorem dra_9 : decode prog_9_method_8_code 9 = .ok (.getfield 13, 3) := by decide +kernel
theorem dra_12 : decode prog_9_method_8_code 12 = .ok (.aload_n 1, 1) := by decide +kernel
theorem dra_13 : decode prog_9_method_8_code 13 = .ok (.invokespecial 29, 3) := by decide +kernel
theorem dra_16 : decode prog_9_method_8_code 16 = .ok (.areturn, 1) := by decide +kernel
def own_Qra (Z : State) (a1 : Addr) (a2 : Addr) (h0 : Heap) (n0 : Nat) (x1 : Addr) (x2 : Addr) : Option Value → Heap → List Loc → Prop := fun v h L => ∃ r, v = some (.ref r) ∧ n0 ≤ r ∧ h0.size ≤ r ∧ Fr n0 L ∧ Keep h0 h [] ∧ Exa Z h r "com/example/keyward/keyward/command/Outcome" ∧ Fld Z h r "com/example/keyward/keyward/command/Outcome" "status" "Lcom/example/keyward/keyward/command/ExitStatus;" (.ref x1) ∧ Fld Z h r "com/example/keyward/keyward/command/Outcome" "lines" "Ljava/util/List;" (.ref x2) ∧ Fld Z h r "com/example/keyward/keyward/command/Outcome" "recorded" "Ljava/lang/String;" (.ref a2)
theorem own_pnra : plainFor (⟨"com/example/keyward/keyward/command/Outcome", "recordedAs", "(Ljava/lang/String;)Lcom/example/keyward/keyward/command/Outcome;"⟩ : MethodName) = true := plainFor_of_name (show plainName "com/example/keyward/keyward/command/Outcome" = true by first | (simp [plainName, overriddenIn]; done) | decide +kernel)
theorem own_efra (m : MethodId) (a1 : Addr) (a2 : Addr)  : entryFrame m #[(.ref a1), (.ref a2)] 2 = mkF m 0 #[.val (.ref a1), .val (.ref a2)] [] := by first | (simp [entryFrame, mkF, argsToLocals, Value.category, maxLocals]; done) | rfl
set_option maxRecDepth 65536 in
set_option maxHeartbeats 40000000 in
theorem own_rmra (l : Launch) (Z : State) (a0 : Array Value) (hw : ∀ d ∈ tables_1, d.before a0 Z = true) (ws : List Jvm.Cond) (a1 : Addr) (a2 : Addr) (x1 x2 : Addr) (h0 : Heap) (n0 : Nat) (hn0 : n0 ≤ h0.size) (F0 : Fld Z h0 a1 "com/example/keyward/keyward/command/Outcome" "status" "Lcom/example/keyward/keyward/command/ExitStatus;" (.ref x1)) (F1 : Fld Z h0 a1 "com/example/keyward/keyward/command/Outcome" "lines" "Ljava/util/List;" (.ref x2)) :
    MetFree l (⟨"com/example/keyward/keyward/command/Outcome", "recordedAs", "(Ljava/lang/String;)Lcom/example/keyward/keyward/command/Outcome;"⟩ : MethodName) (head1 (Jvm.Cond.code (⟨"com/example/keyward/keyward/command/Outcome", "recordedAs", "(Ljava/lang/String;)Lcom/example/keyward/keyward/command/Outcome;"⟩ : MethodName) prog_9_method_8_code 2 (some (.object "com/example/keyward/keyward/command/Outcome")) :: ws) ({ frames := 3, cells := 1, slots := 3, locals := 40 } : Room)) (fun a U => a = #[(.ref a1), (.ref a2)] ∧ Z.Warmed39 U.vm ∧ U.heap = h0) (fun _ _ _ _ _ => True) (fun _ U o U' => ∃ v L, o = .returned v ∧ (own_Qra Z a1 a2 h0 n0 x1 x2) v U'.heap L ∧ FrameEnd U o U' L ({ frames := 3, cells := 1, slots := 3, locals := 40 } : Room).cells ({ frames := 3, cells := 1, slots := 3, locals := 40 } : Room).slots) := by
  refine own_body (y := (⟨"com/example/keyward/keyward/command/Outcome", "recordedAs", "(Ljava/lang/String;)Lcom/example/keyward/keyward/command/Outcome;"⟩ : MethodName)) (Q := own_Qra Z a1 a2 h0 n0 x1 x2) (rm := ({ frames := 3, cells := 1, slots := 3, locals := 40 } : Room)) (as' := #[(.ref a1), (.ref a2)]) (h0 := h0) (Z := Z) own_pnra ?_
  intro p e s m below meth c s₁ hx hby hml hown hnm hret hlk hZ X0 e0
  have hown : s.vm.findClass "com/example/keyward/keyward/command/Outcome" = some m.cls := hown
  rw [own_efra]
  refine own_newO X0 hx hZ hown (hw _ (List.mem_of_getElem? (i := 110) rfl)) (hw _ (List.mem_of_getElem? (i := 88) rfl)) (hw _ (List.mem_of_getElem? (i := 89) rfl)) e0 (hb hby dra_0) (by decide) (by decide) (q := 3) rfl ?_
  intro T1 h1_ b1 g1 X1 e1 E1 A1 D1
  have ne_a1_b1 : a1 ≠ b1 := Nat.ne_of_lt (by rw [g1]; exact F0.lt)
  have F0_1 := F0.ext E1
  have F1_1 := F1.ext E1
  have KK1 := Keep.ext (Keep.refl h0 []) E1
  have o1 : h0.size ≤ b1 := by rw [g1]; exact (Nat.le_refl _)
  have p1_ : n0 ≤ b1 := Nat.le_trans hn0 o1
  have z1_ : h0.size ≤ h1_.size := Nat.le_trans (Nat.le_refl _) E1.1
  have F1status : Fld Z h1_ b1 "com/example/keyward/keyward/command/Outcome" "status" "Lcom/example/keyward/keyward/command/ExitStatus;" (.null) := D1 (Or.inr (hw _ (List.mem_of_getElem? (i := 100) rfl))) (ty := (.object "com/example/keyward/keyward/command/ExitStatus")) (by decide)
  have F1lines : Fld Z h1_ b1 "com/example/keyward/keyward/command/Outcome" "lines" "Ljava/util/List;" (.null) := D1 (Or.inr (hw _ (List.mem_of_getElem? (i := 102) rfl))) (ty := (.object "java/util/List")) (by decide)
  have F1recorded : Fld Z h1_ b1 "com/example/keyward/keyward/command/Outcome" "recorded" "Ljava/lang/String;" (.null) := D1 (Or.inr (hw _ (List.mem_of_getElem? (i := 104) rfl))) (ty := (.object "java/lang/String")) (by decide)
  refine own_dup X1 hx (hb hby dra_3) rfl (q := 4) rfl ?_
  refine own_aload_n X1 hx (hb hby dra_4) rfl rfl (q := 5) rfl ?_
  refine own_getF X1 hx hZ hown (hw _ (List.mem_of_getElem? (i := 99) rfl)) e1 F0_1 (hb hby dra_5) (q := 8) rfl ?_
  intro T2 X2 e2
  refine own_aload_n X2 hx (hb hby dra_8) rfl rfl (q := 9) rfl ?_
  refine own_getF X2 hx hZ hown (hw _ (List.mem_of_getElem? (i := 101) rfl)) e2 F1_1 (hb hby dra_9) (q := 12) rfl ?_
  intro T3 X3 e3
  refine own_aload_n X3 hx (hb hby dra_12) rfl rfl (q := 13) rfl ?_
  refine own_callN X3 hx hZ rfl hown (hw _ (List.mem_of_getElem? (i := 111) rfl)) (hw _ (List.mem_of_getElem? (i := 91) rfl)) (hw _ (List.mem_of_getElem? (i := 89) rfl)) (hw _ (List.mem_of_getElem? (i := 92) rfl)) (by decide) (own_rmo l Z a0 hw [] b1 x1 x2 a2  h1_ n0 (Nat.le_trans hn0 z1_) p1_ A1 F1status F1lines F1recorded) (by decide) (by decide) e3 (by rw [hml]; rfl) (argsL := [(.ref x1), (.ref x2), (.ref a2)]) (rest := [(.ref b1)]) (lenOf own_pd9 rfl) rfl (W := 1) rfl (hb hby dra_13) (q := 16) rfl rfl (by decide) (by decide) ?_
  rintro _ T4 L4 ⟨rfl, NL4, K4, RA4, R0x4, R1x4, R2x4⟩ X4
  have N4 := Fr.app (Fr.nil n0) NL4
  obtain ⟨h4_, e4⟩ : ∃ z, T4.heap = z := ⟨_, rfl⟩
  rw [e4] at K4 RA4 R0x4 R1x4 R2x4
  have A1_4 := A1.keep K4
  have KK4 := Keep.trans KK1 K4 (allS (Or.inr o1) all0)
  have z4_ : h0.size ≤ h4_.size := Nat.le_trans z1_ K4.1
  obtain ⟨LL4, eL4⟩ : ∃ z, [] ++ L4 = z := ⟨_, rfl⟩
  rw [eL4] at X4 N4
  show own_G p e below _ (T4.setTop (mkF m 16 #[.val (.ref a1), .val (.ref a2)] [(.ref b1)]))
  exact own_retA X4 hx rfl hret rfl hlk (hb hby dra_16) (by decide) (by decide) (by rw [e4]; unfold own_Qra; exact ⟨_, rfl, p1_, o1, N4, KK4, RA4, R0x4, R1x4, R2x4⟩)
theorem dgs_0 : decode prog_9_method_14_code 0 = .ok (.aload_n 0, 1) := by decide +kernel
theorem dgs_1 : decode prog_9_method_14_code 1 = .ok (.getfield 7, 3) := by decide +kernel
theorem dgs_4 : decode prog_9_method_14_code 4 = .ok (.areturn, 1) := by decide +kernel
theorem own_pngs : plainFor (⟨"com/example/keyward/keyward/command/Outcome", "status", "()Lcom/example/keyward/keyward/command/ExitStatus;"⟩ : MethodName) = true := plainFor_of_name (show plainName "com/example/keyward/keyward/command/Outcome" = true by first | (simp [plainName, overriddenIn]; done) | decide +kernel)
theorem own_efgs (m : MethodId) (a1 : Addr)  : entryFrame m #[(.ref a1)] 1 = mkF m 0 #[.val (.ref a1)] [] := by first | (simp [entryFrame, mkF, argsToLocals, Value.category, maxLocals]; done) | rfl
set_option maxRecDepth 65536 in
set_option maxHeartbeats 40000000 in
theorem own_rmgs (l : Launch) (Z : State) (a0 : Array Value) (hw : ∀ d ∈ tables_1, d.before a0 Z = true) (ws : List Jvm.Cond) (a1 : Addr) (a2 : Addr) (h0 : Heap) (F : Fld Z h0 a1 "com/example/keyward/keyward/command/Outcome" "status" "Lcom/example/keyward/keyward/command/ExitStatus;" (.ref a2)) :
    MetFree l (⟨"com/example/keyward/keyward/command/Outcome", "status", "()Lcom/example/keyward/keyward/command/ExitStatus;"⟩ : MethodName) (head1 (Jvm.Cond.code (⟨"com/example/keyward/keyward/command/Outcome", "status", "()Lcom/example/keyward/keyward/command/ExitStatus;"⟩ : MethodName) prog_9_method_14_code 1 (some (.object "com/example/keyward/keyward/command/ExitStatus")) :: ws) ({ frames := 0, cells := 0, slots := 0, locals := 0 } : Room)) (fun a U => a = #[(.ref a1)] ∧ Z.Warmed39 U.vm ∧ U.heap = h0) (fun _ _ _ _ _ => True) (fun _ U o U' => ∃ v L, o = .returned v ∧ (fun v h L => (∃ w, v = some w ∧ (fun w => w = (.ref a2)) w) ∧ L = [] ∧ h = h0) v U'.heap L ∧ FrameEnd U o U' L ({ frames := 0, cells := 0, slots := 0, locals := 0 } : Room).cells ({ frames := 0, cells := 0, slots := 0, locals := 0 } : Room).slots) := by
  refine own_body (y := (⟨"com/example/keyward/keyward/command/Outcome", "status", "()Lcom/example/keyward/keyward/command/ExitStatus;"⟩ : MethodName)) (Q := fun v h L => (∃ w, v = some w ∧ (fun w => w = (.ref a2)) w) ∧ L = [] ∧ h = h0) (rm := ({ frames := 0, cells := 0, slots := 0, locals := 0 } : Room)) (as' := #[(.ref a1)]) (h0 := h0) (Z := Z) own_pngs ?_
  intro p e s m below meth c s₁ hx hby hml hown hnm hret hlk hZ X0 e0
  have hown : s.vm.findClass "com/example/keyward/keyward/command/Outcome" = some m.cls := hown
  rw [own_efgs]
  refine own_aload_n X0 hx (hb hby dgs_0) rfl rfl (q := 1) rfl ?_
  refine own_getF X0 hx hZ hown (hw _ (List.mem_of_getElem? (i := 99) rfl)) e0 F (hb hby dgs_1) (q := 4) rfl ?_
  intro T1 X1 e1
  exact own_retA X1 hx rfl hret rfl hlk (hb hby dgs_4) (by decide) (by decide) ⟨⟨_, rfl, rfl⟩, rfl, e1⟩
theorem dgl_0 : decode prog_9_method_15_code 0 = .ok (.aload_n 0, 1) := by decide +kernel
theorem dgl_1 : decode prog_9_method_15_code 1 = .ok (.getfield 13, 3) := by decide +kernel
theorem dgl_4 : decode prog_9_method_15_code 4 = .ok (.areturn, 1) := by decide +kernel
theorem own_pngl : plainFor (⟨"com/example/keyward/keyward/command/Outcome", "lines", "()Ljava/util/List;"⟩ : MethodName) = true := plainFor_of_name (show plainName "com/example/keyward/keyward/command/Outcome" = true by first | (simp [plainName, overriddenIn]; done) | decide +kernel)
theorem own_efgl (m : MethodId) (a1 : Addr)  : entryFrame m #[(.ref a1)] 1 = mkF m 0 #[.val (.ref a1)] [] := by first | (simp [entryFrame, mkF, argsToLocals, Value.category, maxLocals]; done) | rfl
set_option maxRecDepth 65536 in
set_option maxHeartbeats 40000000 in
theorem own_rmgl (l : Launch) (Z : State) (a0 : Array Value) (hw : ∀ d ∈ tables_1, d.before a0 Z = true) (ws : List Jvm.Cond) (a1 : Addr) (a2 : Addr) (h0 : Heap) (F : Fld Z h0 a1 "com/example/keyward/keyward/command/Outcome" "lines" "Ljava/util/List;" (.ref a2)) :
    MetFree l (⟨"com/example/keyward/keyward/command/Outcome", "lines", "()Ljava/util/List;"⟩ : MethodName) (head1 (Jvm.Cond.code (⟨"com/example/keyward/keyward/command/Outcome", "lines", "()Ljava/util/List;"⟩ : MethodName) prog_9_method_15_code 1 (some (.object "java/util/List")) :: ws) ({ frames := 0, cells := 0, slots := 0, locals := 0 } : Room)) (fun a U => a = #[(.ref a1)] ∧ Z.Warmed39 U.vm ∧ U.heap = h0) (fun _ _ _ _ _ => True) (fun _ U o U' => ∃ v L, o = .returned v ∧ (fun v h L => (∃ w, v = some w ∧ (fun w => w = (.ref a2)) w) ∧ L = [] ∧ h = h0) v U'.heap L ∧ FrameEnd U o U' L ({ frames := 0, cells := 0, slots := 0, locals := 0 } : Room).cells ({ frames := 0, cells := 0, slots := 0, locals := 0 } : Room).slots) := by
  refine own_body (y := (⟨"com/example/keyward/keyward/command/Outcome", "lines", "()Ljava/util/List;"⟩ : MethodName)) (Q := fun v h L => (∃ w, v = some w ∧ (fun w => w = (.ref a2)) w) ∧ L = [] ∧ h = h0) (rm := ({ frames := 0, cells := 0, slots := 0, locals := 0 } : Room)) (as' := #[(.ref a1)]) (h0 := h0) (Z := Z) own_pngl ?_
  intro p e s m below meth c s₁ hx hby hml hown hnm hret hlk hZ X0 e0
  have hown : s.vm.findClass "com/example/keyward/keyward/command/Outcome" = some m.cls := hown
  rw [own_efgl]
  refine own_aload_n X0 hx (hb hby dgl_0) rfl rfl (q := 1) rfl ?_
  refine own_getF X0 hx hZ hown (hw _ (List.mem_of_getElem? (i := 101) rfl)) e0 F (hb hby dgl_1) (q := 4) rfl ?_
  intro T1 X1 e1
  exact own_retA X1 hx rfl hret rfl hlk (hb hby dgl_4) (by decide) (by decide) ⟨⟨_, rfl, rfl⟩, rfl, e1⟩
theorem dgc_0 : decode prog_9_method_16_code 0 = .ok (.aload_n 0, 1) := by decide +kernel
theorem dgc_1 : decode prog_9_method_16_code 1 = .ok (.getfield 17, 3) := by decide +kernel
theorem dgc_4 : decode prog_9_method_16_code 4 = .ok (.areturn, 1) := by decide +kernel
theorem own_pngc : plainFor (⟨"com/example/keyward/keyward/command/Outcome", "recorded", "()Ljava/lang/String;"⟩ : MethodName) = true := plainFor_of_name (show plainName "com/example/keyward/keyward/command/Outcome" = true by first | (simp [plainName, overriddenIn]; done) | decide +kernel)
theorem own_efgc (m : MethodId) (a1 : Addr)  : entryFrame m #[(.ref a1)] 1 = mkF m 0 #[.val (.ref a1)] [] := by first | (simp [entryFrame, mkF, argsToLocals, Value.category, maxLocals]; done) | rfl
set_option maxRecDepth 65536 in
set_option maxHeartbeats 40000000 in
theorem own_rmgc (l : Launch) (Z : State) (a0 : Array Value) (hw : ∀ d ∈ tables_1, d.before a0 Z = true) (ws : List Jvm.Cond) (a1 : Addr) (a2 : Addr) (h0 : Heap) (F : Fld Z h0 a1 "com/example/keyward/keyward/command/Outcome" "recorded" "Ljava/lang/String;" (.ref a2)) :
    MetFree l (⟨"com/example/keyward/keyward/command/Outcome", "recorded", "()Ljava/lang/String;"⟩ : MethodName) (head1 (Jvm.Cond.code (⟨"com/example/keyward/keyward/command/Outcome", "recorded", "()Ljava/lang/String;"⟩ : MethodName) prog_9_method_16_code 1 (some (.object "java/lang/String")) :: ws) ({ frames := 0, cells := 0, slots := 0, locals := 0 } : Room)) (fun a U => a = #[(.ref a1)] ∧ Z.Warmed39 U.vm ∧ U.heap = h0) (fun _ _ _ _ _ => True) (fun _ U o U' => ∃ v L, o = .returned v ∧ (fun v h L => (∃ w, v = some w ∧ (fun w => w = (.ref a2)) w) ∧ L = [] ∧ h = h0) v U'.heap L ∧ FrameEnd U o U' L ({ frames := 0, cells := 0, slots := 0, locals := 0 } : Room).cells ({ frames := 0, cells := 0, slots := 0, locals := 0 } : Room).slots) := by
  refine own_body (y := (⟨"com/example/keyward/keyward/command/Outcome", "recorded", "()Ljava/lang/String;"⟩ : MethodName)) (Q := fun v h L => (∃ w, v = some w ∧ (fun w => w = (.ref a2)) w) ∧ L = [] ∧ h = h0) (rm := ({ frames := 0, cells := 0, slots := 0, locals := 0 } : Room)) (as' := #[(.ref a1)]) (h0 := h0) (Z := Z) own_pngc ?_
  intro p e s m below meth c s₁ hx hby hml hown hnm hret hlk hZ X0 e0
  have hown : s.vm.findClass "com/example/keyward/keyward/command/Outcome" = some m.cls := hown
  rw [own_efgc]
  refine own_aload_n X0 hx (hb hby dgc_0) rfl rfl (q := 1) rfl ?_
  refine own_getF X0 hx hZ hown (hw _ (List.mem_of_getElem? (i := 103) rfl)) e0 F (hb hby dgc_1) (q := 4) rfl ?_
  intro T1 X1 e1
  exact own_retA X1 hx rfl hret rfl hlk (hb hby dgc_4) (by decide) (by decide) ⟨⟨_, rfl, rfl⟩, rfl, e1⟩
theorem dsz_0 : decode jdk_38_method_8_code 0 = .ok (.aload_n 0, 1) := by decide +kernel
theorem dsz_1 : decode jdk_38_method_8_code 1 = .ok (.getfield 48, 3) := by decide +kernel
theorem dsz_4 : decode jdk_38_method_8_code 4 = .ok (.ireturn, 1) := by decide +kernel
theorem own_pnsz : plainFor (⟨"java/util/ArrayList", "size", "()I"⟩ : MethodName) = true := plainFor_of_name (show plainName "java/util/ArrayList" = true by first | (simp [plainName, overriddenIn]; done) | decide +kernel)
theorem own_efsz (m : MethodId) (a1 : Addr)  : entryFrame m #[(.ref a1)] 1 = mkF m 0 #[.val (.ref a1)] [] := by first | (simp [entryFrame, mkF, argsToLocals, Value.category, maxLocals]; done) | rfl
set_option maxRecDepth 65536 in
set_option maxHeartbeats 40000000 in
theorem own_rmsz (l : Launch) (Z : State) (a0 : Array Value) (hw : ∀ d ∈ tables_1, d.before a0 Z = true) (ws : List Jvm.Cond) (a1 : Addr) (p1 : Int32) (h0 : Heap) (F : Fld Z h0 a1 "java/util/ArrayList" "size" "I" (.int p1)) :
    MetFree l (⟨"java/util/ArrayList", "size", "()I"⟩ : MethodName) (head1 (Jvm.Cond.code (⟨"java/util/ArrayList", "size", "()I"⟩ : MethodName) jdk_38_method_8_code 1 (some .int) :: ws) ({ frames := 0, cells := 0, slots := 0, locals := 0 } : Room)) (fun a U => a = #[(.ref a1)] ∧ Z.Warmed39 U.vm ∧ U.heap = h0) (fun _ _ _ _ _ => True) (fun _ U o U' => ∃ v L, o = .returned v ∧ (fun v h L => (∃ w, v = some w ∧ (fun w => w = (.int p1)) w) ∧ L = [] ∧ h = h0) v U'.heap L ∧ FrameEnd U o U' L ({ frames := 0, cells := 0, slots := 0, locals := 0 } : Room).cells ({ frames := 0, cells := 0, slots := 0, locals := 0 } : Room).slots) := by
  refine own_body (y := (⟨"java/util/ArrayList", "size", "()I"⟩ : MethodName)) (Q := fun v h L => (∃ w, v = some w ∧ (fun w => w = (.int p1)) w) ∧ L = [] ∧ h = h0) (rm := ({ frames := 0, cells := 0, slots := 0, locals := 0 } : Room)) (as' := #[(.ref a1)]) (h0 := h0) (Z := Z) own_pnsz ?_
  intro p e s m below meth c s₁ hx hby hml hown hnm hret hlk hZ X0 e0
  have hown : s.vm.findClass "java/util/ArrayList" = some m.cls := hown
  rw [own_efsz]
  refine own_aload_n X0 hx (hb hby dsz_0) rfl rfl (q := 1) rfl ?_
  refine own_getF X0 hx hZ hown (hw _ (List.mem_of_getElem? (i := 63) rfl)) e0 F (hb hby dsz_1) (q := 4) rfl ?_
  intro T1 X1 e1
  exact own_retI X1 hx hret hlk (hb hby dsz_4) (by decide) (by decide) ⟨⟨_, rfl, rfl⟩, rfl, e1⟩
theorem dpc_0 : decode jdk_41_method_11_code 0 = .ok (.iload_n 0, 1) := by decide +kernel
theorem dpc_1 : decode jdk_41_method_11_code 1 = .ok (.ifCond .lt 8, 3) := by decide +kernel
theorem dpc_4 : decode jdk_41_method_11_code 4 = .ok (.iload_n 0, 1) := by decide +kernel
theorem dpc_5 : decode jdk_41_method_11_code 5 = .ok (.iload_n 1, 1) := by decide +kernel
theorem dpc_6 : decode jdk_41_method_11_code 6 = .ok (.if_icmp .lt 10, 3) := by decide +kernel
theorem dpc_16 : decode jdk_41_method_11_code 16 = .ok (.iload_n 0, 1) := by decide +kernel
theorem dpc_17 : decode jdk_41_method_11_code 17 = .ok (.ireturn, 1) := by decide +kernel
theorem own_pnpc : plainFor (⟨"jdk/internal/util/Preconditions", "checkIndex", "(IILjava/util/function/BiFunction;)I"⟩ : MethodName) = true := plainFor_of_name (show plainName "jdk/internal/util/Preconditions" = true by first | (simp [plainName, overriddenIn]; done) | decide +kernel)
theorem own_efpc (m : MethodId) (p1 : Int32) (p2 : Int32)  : entryFrame m #[(.int p1), (.int p2), .null] 3 = mkF m 0 #[.val (.int p1), .val (.int p2), .val .null] [] := by first | (simp [entryFrame, mkF, argsToLocals, Value.category, maxLocals]; done) | rfl
set_option maxRecDepth 65536 in
set_option maxHeartbeats 40000000 in
theorem own_rmpc (l : Launch) (Z : State) (a0 : Array Value) (hw : ∀ d ∈ tables_1, d.before a0 Z = true) (ws : List Jvm.Cond) (p1 : Int32) (p2 : Int32)  (h0 : Heap) (h1 : 0 ≤ p1.toInt) (h2 : p1.toInt < p2.toInt) :
    MetFree l (⟨"jdk/internal/util/Preconditions", "checkIndex", "(IILjava/util/function/BiFunction;)I"⟩ : MethodName) (head1 (Jvm.Cond.code (⟨"jdk/internal/util/Preconditions", "checkIndex", "(IILjava/util/function/BiFunction;)I"⟩ : MethodName) jdk_41_method_11_code 3 (some .int) :: ws) ({ frames := 0, cells := 0, slots := 0, locals := 0 } : Room)) (fun a U => a = #[(.int p1), (.int p2), .null] ∧ Z.Warmed39 U.vm ∧ U.heap = h0) (fun _ _ _ _ _ => True) (fun _ U o U' => ∃ v L, o = .returned v ∧ (fun v h L => (∃ w, v = some w ∧ (fun w => w = .int p1) w) ∧ L = [] ∧ h = h0) v U'.heap L ∧ FrameEnd U o U' L ({ frames := 0, cells := 0, slots := 0, locals := 0 } : Room).cells ({ frames := 0, cells := 0, slots := 0, locals := 0 } : Room).slots) := by
  refine own_body (y := (⟨"jdk/internal/util/Preconditions", "checkIndex", "(IILjava/util/function/BiFunction;)I"⟩ : MethodName)) (Q := fun v h L => (∃ w, v = some w ∧ (fun w => w = .int p1) w) ∧ L = [] ∧ h = h0) (rm := ({ frames := 0, cells := 0, slots := 0, locals := 0 } : Room)) (as' := #[(.int p1), (.int p2), .null]) (h0 := h0) (Z := Z) own_pnpc ?_
  intro p e s m below meth c s₁ hx hby hml hown hnm hret hlk hZ X0 e0
  have hown : s.vm.findClass "jdk/internal/util/Preconditions" = some m.cls := hown
  rw [own_efpc]
  refine own_iload_n X0 hx (hb hby dpc_0) rfl (q := 1) rfl ?_
  refine own_if X0 hx (hb hby dpc_1) (by decide) (q := 9) rfl (q' := 4) rfl (own_z_lt _) (fun h1 => ?_) (fun h1 => ?_)
  · replace h1 : p1.toInt < 0 := h1
    exfalso; omega
  · replace h1 : ¬ (p1.toInt < 0) := h1
    refine own_iload_n X0 hx (hb hby dpc_4) rfl (q := 5) rfl ?_
    refine own_iload_n X0 hx (hb hby dpc_5) rfl (q := 6) rfl ?_
    refine own_icmp X0 hx (hb hby dpc_6) (by decide) (q := 16) rfl (q' := 9) rfl (own_h_lt _ _) (fun h6 => ?_) (fun h6 => ?_)
    · replace h6 : p1.toInt < p2.toInt := h6
      refine own_iload_n X0 hx (hb hby dpc_16) rfl (q := 17) rfl ?_
      exact own_retI X0 hx hret hlk (hb hby dpc_17) (by decide) (by decide) ⟨⟨_, rfl, rfl⟩, rfl, e0⟩
    · replace h6 : ¬ (p1.toInt < p2.toInt) := h6
      exfalso; omega
theorem doc_0 : decode jdk_31_method_17_code 0 = .ok (.iload_n 0, 1) := by decide +kernel
theorem doc_1 : decode jdk_31_method_17_code 1 = .ok (.iload_n 1, 1) := by decide +kernel
theorem doc_2 : decode jdk_31_method_17_code 2 = .ok (.aconst_null, 1) := by decide +kernel
theorem doc_3 : decode jdk_31_method_17_code 3 = .ok (.invokestatic 105, 3) := by decide +kernel
theorem doc_6 : decode jdk_31_method_17_code 6 = .ok (.ireturn, 1) := by decide +kernel
theorem own_pnoc : plainFor (⟨"java/util/Objects", "checkIndex", "(II)I"⟩ : MethodName) = true := plainFor_of_name (show plainName "java/util/Objects" = true by first | (simp [plainName, overriddenIn]; done) | decide +kernel)
theorem own_efoc (m : MethodId) (p1 : Int32) (p2 : Int32)  : entryFrame m #[(.int p1), (.int p2)] 2 = mkF m 0 #[.val (.int p1), .val (.int p2)] [] := by first | (simp [entryFrame, mkF, argsToLocals, Value.category, maxLocals]; done) | rfl
set_option maxRecDepth 65536 in
set_option maxHeartbeats 40000000 in
theorem own_rmoc (l : Launch) (Z : State) (a0 : Array Value) (hw : ∀ d ∈ tables_1, d.before a0 Z = true) (ws : List Jvm.Cond) (p1 : Int32) (p2 : Int32)  (h0 : Heap) (h1 : 0 ≤ p1.toInt) (h2 : p1.toInt < p2.toInt) :
    MetFree l (⟨"java/util/Objects", "checkIndex", "(II)I"⟩ : MethodName) (head1 (Jvm.Cond.code (⟨"java/util/Objects", "checkIndex", "(II)I"⟩ : MethodName) jdk_31_method_17_code 2 (some .int) :: ws) ({ frames := 1, cells := 0, slots := 0, locals := 14 } : Room)) (fun a U => a = #[(.int p1), (.int p2)] ∧ Z.Warmed39 U.vm ∧ U.heap = h0) (fun _ _ _ _ _ => True) (fun _ U o U' => ∃ v L, o = .returned v ∧ (fun v h L => (∃ w, v = some w ∧ (fun w => w = .int p1) w) ∧ L = [] ∧ h = h0) v U'.heap L ∧ FrameEnd U o U' L ({ frames := 1, cells := 0, slots := 0, locals := 14 } : Room).cells ({ frames := 1, cells := 0, slots := 0, locals := 14 } : Room).slots) := by
  refine own_body (y := (⟨"java/util/Objects", "checkIndex", "(II)I"⟩ : MethodName)) (Q := fun v h L => (∃ w, v = some w ∧ (fun w => w = .int p1) w) ∧ L = [] ∧ h = h0) (rm := ({ frames := 1, cells := 0, slots := 0, locals := 14 } : Room)) (as' := #[(.int p1), (.int p2)]) (h0 := h0) (Z := Z) own_pnoc ?_
  intro p e s m below meth c s₁ hx hby hml hown hnm hret hlk hZ X0 e0
  have hown : s.vm.findClass "java/util/Objects" = some m.cls := hown
  rw [own_efoc]
  refine own_iload_n X0 hx (hb hby doc_0) rfl (q := 1) rfl ?_
  refine own_iload_n X0 hx (hb hby doc_1) rfl (q := 2) rfl ?_
  refine own_aconst_null X0 hx (hb hby doc_2) (q := 3) rfl ?_
  refine own_callSP X0 hx hZ hown (hw _ (List.mem_of_getElem? (i := 146) rfl)) (hw _ (List.mem_of_getElem? (i := 147) rfl)) (hw _ (List.mem_of_getElem? (i := 148) rfl)) (hw _ (List.mem_of_getElem? (i := 149) rfl)) (by decide) (own_rmpc l Z a0 hw [] p1 p2  h0 h1 h2) (by decide) (by decide) e0 (by rw [hml]; rfl) (argsL := [(.int p1), (.int p2), .null]) (rest := []) (lenOf own_pd10 rfl) rfl (W := 0) rfl (hb hby doc_3) (q := 6) rfl rfl rfl rfl (by decide) (by decide) ?_
  rintro _ T1 rfl X1 e1
  exact own_retI X1 hx hret hlk (hb hby doc_6) (by decide) (by decide) ⟨⟨_, rfl, rfl⟩, rfl, e1⟩
theorem ded_0 : decode jdk_38_method_18_code 0 = .ok (.aload_n 0, 1) := by decide +kernel
theorem ded_1 : decode jdk_38_method_18_code 1 = .ok (.getfield 9, 3) := by decide +kernel
theorem ded_4 : decode jdk_38_method_18_code 4 = .ok (.iload_n 1, 1) := by decide +kernel
theorem ded_5 : decode jdk_38_method_18_code 5 = .ok (.aaload, 1) := by decide +kernel
theorem ded_6 : decode jdk_38_method_18_code 6 = .ok (.areturn, 1) := by decide +kernel
theorem own_pned : plainFor (⟨"java/util/ArrayList", "elementData", "(I)Ljava/lang/Object;"⟩ : MethodName) = true := plainFor_of_name (show plainName "java/util/ArrayList" = true by first | (simp [plainName, overriddenIn]; done) | decide +kernel)
theorem own_efed (m : MethodId) (a1 : Addr) (p1 : Int32)  : entryFrame m #[(.ref a1), (.int p1)] 2 = mkF m 0 #[.val (.ref a1), .val (.int p1)] [] := by first | (simp [entryFrame, mkF, argsToLocals, Value.category, maxLocals]; done) | rfl
set_option maxRecDepth 65536 in
set_option maxHeartbeats 40000000 in
theorem own_rmed (l : Launch) (Z : State) (a0 : Array Value) (hw : ∀ d ∈ tables_1, d.before a0 Z = true) (ws : List Jvm.Cond) (a1 : Addr) (p1 : Int32) (b x : Addr) (f : Nat → Value) (i : Nat) (h0 : Heap) (F1 : Fld Z h0 a1 "java/util/ArrayList" "elementData" "[Ljava/lang/Object;" (.ref b)) (AR : own_Arr Z h0 b (.object "java/lang/Object") 10 f) (hv : f i = .ref x) (hi : p1.toInt = (i : Int)) (hi2 : i < 10) :
    MetFree l (⟨"java/util/ArrayList", "elementData", "(I)Ljava/lang/Object;"⟩ : MethodName) (head1 (Jvm.Cond.code (⟨"java/util/ArrayList", "elementData", "(I)Ljava/lang/Object;"⟩ : MethodName) jdk_38_method_18_code 2 (some (.object "java/lang/Object")) :: ws) ({ frames := 0, cells := 0, slots := 0, locals := 0 } : Room)) (fun a U => a = #[(.ref a1), (.int p1)] ∧ Z.Warmed39 U.vm ∧ U.heap = h0) (fun _ _ _ _ _ => True) (fun _ U o U' => ∃ v L, o = .returned v ∧ (fun v h L => (∃ w, v = some w ∧ (fun w => w = .ref x) w) ∧ L = [] ∧ h = h0) v U'.heap L ∧ FrameEnd U o U' L ({ frames := 0, cells := 0, slots := 0, locals := 0 } : Room).cells ({ frames := 0, cells := 0, slots := 0, locals := 0 } : Room).slots) := by
  refine own_body (y := (⟨"java/util/ArrayList", "elementData", "(I)Ljava/lang/Object;"⟩ : MethodName)) (Q := fun v h L => (∃ w, v = some w ∧ (fun w => w = .ref x) w) ∧ L = [] ∧ h = h0) (rm := ({ frames := 0, cells := 0, slots := 0, locals := 0 } : Room)) (as' := #[(.ref a1), (.int p1)]) (h0 := h0) (Z := Z) own_pned ?_
  intro p e s m below meth c s₁ hx hby hml hown hnm hret hlk hZ X0 e0
  have hown : s.vm.findClass "java/util/ArrayList" = some m.cls := hown
  rw [own_efed]
  refine own_aload_n X0 hx (hb hby ded_0) rfl rfl (q := 1) rfl ?_
  refine own_getF X0 hx hZ hown (hw _ (List.mem_of_getElem? (i := 54) rfl)) e0 F1 (hb hby ded_1) (q := 4) rfl ?_
  intro T1 X1 e1
  refine own_iload_n X1 hx (hb hby ded_4) rfl (q := 5) rfl ?_
  refine own_aaload X1 hx hZ e1 AR (hb hby ded_5) (i := i) (hi) (by omega) (v := (.ref x)) (hv) (q := 6) rfl ?_
  exact own_retA X1 hx rfl hret rfl hlk (hb hby ded_6) (by decide) (by decide) ⟨⟨_, rfl, rfl⟩, rfl, e1⟩
theorem dgt_0 : decode jdk_38_method_20_code 0 = .ok (.iload_n 1, 1) := by decide +kernel
theorem dgt_1 : decode jdk_38_method_20_code 1 = .ok (.aload_n 0, 1) := by decide +kernel
theorem dgt_2 : decode jdk_38_method_20_code 2 = .ok (.getfield 48, 3) := by decide +kernel
theorem dgt_5 : decode jdk_38_method_20_code 5 = .ok (.invokestatic 118, 3) := by decide +kernel
theorem dgt_8 : decode jdk_38_method_20_code 8 = .ok (.pop, 1) := by decide +kernel
theorem dgt_9 : decode jdk_38_method_20_code 9 = .ok (.aload_n 0, 1) := by decide +kernel
theorem dgt_10 : decode jdk_38_method_20_code 10 = .ok (.iload_n 1, 1) := by decide +kernel
theorem dgt_11 : decode jdk_38_method_20_code 11 = .ok (.invokevirtual 123, 3) := by decide +kernel
theorem dgt_14 : decode jdk_38_method_20_code 14 = .ok (.areturn, 1) := by decide +kernel
theorem own_pngt : plainFor (⟨"java/util/ArrayList", "get", "(I)Ljava/lang/Object;"⟩ : MethodName) = true := plainFor_of_name (show plainName "java/util/ArrayList" = true by first | (simp [plainName, overriddenIn]; done) | decide +kernel)
theorem own_efgt (m : MethodId) (a1 : Addr) (p1 : Int32)  : entryFrame m #[(.ref a1), (.int p1)] 2 = mkF m 0 #[.val (.ref a1), .val (.int p1)] [] := by first | (simp [entryFrame, mkF, argsToLocals, Value.category, maxLocals]; done) | rfl
set_option maxRecDepth 65536 in
set_option maxHeartbeats 40000000 in
theorem own_rmgt (l : Launch) (Z : State) (a0 : Array Value) (hw : ∀ d ∈ tables_1, d.before a0 Z = true) (ws : List Jvm.Cond) (a1 : Addr) (p1 : Int32) (b x : Addr) (f : Nat → Value) (i : Nat) (p2 : Int32) (h0 : Heap) (F1 : Fld Z h0 a1 "java/util/ArrayList" "elementData" "[Ljava/lang/Object;" (.ref b)) (AR : own_Arr Z h0 b (.object "java/lang/Object") 10 f) (hv : f i = .ref x) (hi : p1.toInt = (i : Int)) (hi2 : i < 10) (E : Exa Z h0 a1 "java/util/ArrayList") (F2 : Fld Z h0 a1 "java/util/ArrayList" "size" "I" (.int p2)) (h2 : p1.toInt < p2.toInt) :
    MetFree l (⟨"java/util/ArrayList", "get", "(I)Ljava/lang/Object;"⟩ : MethodName) (head1 (Jvm.Cond.code (⟨"java/util/ArrayList", "get", "(I)Ljava/lang/Object;"⟩ : MethodName) jdk_38_method_20_code 2 (some (.object "java/lang/Object")) :: ws) ({ frames := 2, cells := 0, slots := 0, locals := 27 } : Room)) (fun a U => a = #[(.ref a1), (.int p1)] ∧ Z.Warmed39 U.vm ∧ U.heap = h0) (fun _ _ _ _ _ => True) (fun _ U o U' => ∃ v L, o = .returned v ∧ (fun v h L => (∃ w, v = some w ∧ (fun w => w = .ref x) w) ∧ L = [] ∧ h = h0) v U'.heap L ∧ FrameEnd U o U' L ({ frames := 2, cells := 0, slots := 0, locals := 27 } : Room).cells ({ frames := 2, cells := 0, slots := 0, locals := 27 } : Room).slots) := by
  refine own_body (y := (⟨"java/util/ArrayList", "get", "(I)Ljava/lang/Object;"⟩ : MethodName)) (Q := fun v h L => (∃ w, v = some w ∧ (fun w => w = .ref x) w) ∧ L = [] ∧ h = h0) (rm := ({ frames := 2, cells := 0, slots := 0, locals := 27 } : Room)) (as' := #[(.ref a1), (.int p1)]) (h0 := h0) (Z := Z) own_pngt ?_
  intro p e s m below meth c s₁ hx hby hml hown hnm hret hlk hZ X0 e0
  have hown : s.vm.findClass "java/util/ArrayList" = some m.cls := hown
  rw [own_efgt]
  refine own_iload_n X0 hx (hb hby dgt_0) rfl (q := 1) rfl ?_
  refine own_aload_n X0 hx (hb hby dgt_1) rfl rfl (q := 2) rfl ?_
  refine own_getF X0 hx hZ hown (hw _ (List.mem_of_getElem? (i := 63) rfl)) e0 F2 (hb hby dgt_2) (q := 5) rfl ?_
  intro T1 X1 e1
  refine own_callSP X1 hx hZ hown (hw _ (List.mem_of_getElem? (i := 142) rfl)) (hw _ (List.mem_of_getElem? (i := 143) rfl)) (hw _ (List.mem_of_getElem? (i := 144) rfl)) (hw _ (List.mem_of_getElem? (i := 145) rfl)) (by decide) (own_rmoc l Z a0 hw [] p1 p2  h0 (by omega) h2) (by decide) (by decide) e1 (by rw [hml]; rfl) (argsL := [(.int p1), (.int p2)]) (rest := []) (lenOf own_pd5 rfl) rfl (W := 0) rfl (hb hby dgt_5) (q := 8) rfl rfl rfl rfl (by decide) (by decide) ?_
  rintro _ T2 rfl X2 e2
  refine own_pop X2 hx (hb hby dgt_8) rfl (q := 9) rfl ?_
  refine own_aload_n X2 hx (hb hby dgt_9) rfl rfl (q := 10) rfl ?_
  refine own_iload_n X2 hx (hb hby dgt_10) rfl (q := 11) rfl ?_
  refine own_callVP X2 hx hZ hown (hw _ (List.mem_of_getElem? (i := 150) rfl)) (hw _ (List.mem_of_getElem? (i := 151) rfl)) (hw _ (List.mem_of_getElem? (i := 153) rfl)) (hw _ (List.mem_of_getElem? (i := 152) rfl)) (hw _ (List.mem_of_getElem? (i := 154) rfl)) (hw _ (List.mem_of_getElem? (i := 34) rfl)) (by decide) (own_rmed l Z a0 hw [] a1 p1 b x f i h0 F1 AR hv hi hi2) E (by decide) (by decide) e2 (by rw [hml]; rfl) (argsL := [(.int p1)]) (rest := []) (lenOf own_pd11 rfl) rfl (W := 0) rfl (hb hby dgt_11) (q := 14) rfl rfl rfl rfl (by decide) (by decide) ?_
  rintro _ T3 rfl X3 e3
  exact own_retA X3 hx rfl hret rfl hlk (hb hby dgt_14) (by decide) (by decide) ⟨⟨_, rfl, rfl⟩, rfl, e3⟩
theorem deq_0 : decode jdk_42_method_66_code 0 = .ok (.aload_n 0, 1) := by decide +kernel
theorem deq_1 : decode jdk_42_method_66_code 1 = .ok (.aload_n 1, 1) := by decide +kernel
theorem deq_2 : decode jdk_42_method_66_code 2 = .ok (.if_acmp .ne 5, 3) := by decide +kernel
theorem deq_5 : decode jdk_42_method_66_code 5 = .ok (.iconst 1, 1) := by decide +kernel
theorem deq_6 : decode jdk_42_method_66_code 6 = .ok (.ireturn, 1) := by decide +kernel
theorem own_pneq : plainFor (⟨"java/lang/String", "equals", "(Ljava/lang/Object;)Z"⟩ : MethodName) = true := plainFor_of_name (show plainName "java/lang/String" = true by first | (simp [plainName, overriddenIn]; done) | decide +kernel)
theorem own_efeq (m : MethodId) (a1 : Addr) (a2 : Addr)  : entryFrame m #[(.ref a1), (.ref a2)] 3 = mkF m 0 #[.val (.ref a1), .val (.ref a2), .unset] [] := by first | (simp [entryFrame, mkF, argsToLocals, Value.category, maxLocals]; done) | rfl
set_option maxRecDepth 65536 in
set_option maxHeartbeats 40000000 in
theorem own_rmeq (l : Launch) (Z : State) (a0 : Array Value) (hw : ∀ d ∈ tables_1, d.before a0 Z = true) (ws : List Jvm.Cond) (a1 : Addr) (a2 : Addr)  (h0 : Heap) (hs : a1 = a2) :
    MetFree l (⟨"java/lang/String", "equals", "(Ljava/lang/Object;)Z"⟩ : MethodName) (head1 (Jvm.Cond.code (⟨"java/lang/String", "equals", "(Ljava/lang/Object;)Z"⟩ : MethodName) jdk_42_method_66_code 3 (some .boolean) :: ws) ({ frames := 0, cells := 0, slots := 0, locals := 0 } : Room)) (fun a U => a = #[(.ref a1), (.ref a2)] ∧ Z.Warmed39 U.vm ∧ U.heap = h0) (fun _ _ _ _ _ => True) (fun _ U o U' => ∃ v L, o = .returned v ∧ (fun v h L => (∃ w, v = some w ∧ (fun w => w = .int 1) w) ∧ L = [] ∧ h = h0) v U'.heap L ∧ FrameEnd U o U' L ({ frames := 0, cells := 0, slots := 0, locals := 0 } : Room).cells ({ frames := 0, cells := 0, slots := 0, locals := 0 } : Room).slots) := by
  refine own_body (y := (⟨"java/lang/String", "equals", "(Ljava/lang/Object;)Z"⟩ : MethodName)) (Q := fun v h L => (∃ w, v = some w ∧ (fun w => w = .int 1) w) ∧ L = [] ∧ h = h0) (rm := ({ frames := 0, cells := 0, slots := 0, locals := 0 } : Room)) (as' := #[(.ref a1), (.ref a2)]) (h0 := h0) (Z := Z) own_pneq ?_
  intro p e s m below meth c s₁ hx hby hml hown hnm hret hlk hZ X0 e0
  have hown : s.vm.findClass "java/lang/String" = some m.cls := hown
  rw [own_efeq]
  subst hs
  refine own_aload_n X0 hx (hb hby deq_0) rfl rfl (q := 1) rfl ?_
  refine own_aload_n X0 hx (hb hby deq_1) rfl rfl (q := 2) rfl ?_
  refine own_acmp X0 hx (hb hby deq_2) (P := False) (by decide) (q := 7) rfl (q' := 5) rfl rfl rfl (by first | rfl | simp [XT.acmp]) (fun h2 => ?_) (fun h2 => ?_)
  · replace h2 : False := h2
    exfalso; exact h2
  · replace h2 : ¬ (False) := h2
    refine own_iconst X0 hx (hb hby deq_5) (v := (1 : Int32)) rfl (q := 6) rfl ?_
    exact own_retN X0 hx (t := .boolean) hret hlk (by simp) (hb hby deq_6) (by decide) (by decide) (w := (1 : Int32)) rfl ⟨⟨_, rfl, rfl⟩, rfl, e0⟩
theorem dst_0 : decode method_2_code 0 = .ok (.iload_n 0, 1) := by decide +kernel
theorem dst_1 : decode method_2_code 1 = .ok (.ifCond .ne 7, 3) := by decide +kernel
theorem dst_4 : decode method_2_code 4 = .ok (.getstatic 7, 3) := by decide +kernel
theorem dst_7 : decode method_2_code 7 = .ok (.areturn, 1) := by decide +kernel
theorem dst_8 : decode method_2_code 8 = .ok (.iload_n 0, 1) := by decide +kernel
theorem dst_9 : decode method_2_code 9 = .ok (.iconst 1, 1) := by decide +kernel
theorem dst_10 : decode method_2_code 10 = .ok (.if_icmp .ne 7, 3) := by decide +kernel
theorem dst_13 : decode method_2_code 13 = .ok (.getstatic 13, 3) := by decide +kernel
theorem dst_16 : decode method_2_code 16 = .ok (.areturn, 1) := by decide +kernel
theorem dst_17 : decode method_2_code 17 = .ok (.iload_n 0, 1) := by decide +kernel
theorem dst_18 : decode method_2_code 18 = .ok (.iconst 2, 1) := by decide +kernel
theorem dst_19 : decode method_2_code 19 = .ok (.if_icmp .ne 7, 3) := by decide +kernel
theorem dst_22 : decode method_2_code 22 = .ok (.getstatic 16, 3) := by decide +kernel
theorem dst_25 : decode method_2_code 25 = .ok (.areturn, 1) := by decide +kernel
theorem dst_26 : decode method_2_code 26 = .ok (.getstatic 19, 3) := by decide +kernel
theorem dst_29 : decode method_2_code 29 = .ok (.areturn, 1) := by decide +kernel
theorem own_pnst : plainFor (⟨"com/example/keyward/keyward/command/OutcomeRecordedAsPinLaw", "status", "(I)Lcom/example/keyward/keyward/command/ExitStatus;"⟩ : MethodName) = true := plainFor_of_name (show plainName "com/example/keyward/keyward/command/OutcomeRecordedAsPinLaw" = true by first | (simp [plainName, overriddenIn]; done) | decide +kernel)
theorem own_efst (m : MethodId) (p1 : Int32)  : entryFrame m #[(.int p1)] 1 = mkF m 0 #[.val (.int p1)] [] := by first | (simp [entryFrame, mkF, argsToLocals, Value.category, maxLocals]; done) | rfl
set_option maxRecDepth 65536 in
set_option maxHeartbeats 40000000 in
theorem own_rmst (l : Launch) (Z : State) (a0 : Array Value) (hw : ∀ d ∈ tables_1, d.before a0 Z = true) (ws : List Jvm.Cond) (p1 : Int32) (s1 s2 s3 s4 : Addr) (h0 : Heap) (T1 : Sta Z h0 "com/example/keyward/keyward/command/ExitStatus" "DONE" "Lcom/example/keyward/keyward/command/ExitStatus;" (.ref s1)) (T2 : Sta Z h0 "com/example/keyward/keyward/command/ExitStatus" "REFUSED" "Lcom/example/keyward/keyward/command/ExitStatus;" (.ref s2)) (T3 : Sta Z h0 "com/example/keyward/keyward/command/ExitStatus" "USAGE" "Lcom/example/keyward/keyward/command/ExitStatus;" (.ref s3)) (T4 : Sta Z h0 "com/example/keyward/keyward/command/ExitStatus" "FAILURE" "Lcom/example/keyward/keyward/command/ExitStatus;" (.ref s4)) :
    MetFree l (⟨"com/example/keyward/keyward/command/OutcomeRecordedAsPinLaw", "status", "(I)Lcom/example/keyward/keyward/command/ExitStatus;"⟩ : MethodName) (head1 (Jvm.Cond.code (⟨"com/example/keyward/keyward/command/OutcomeRecordedAsPinLaw", "status", "(I)Lcom/example/keyward/keyward/command/ExitStatus;"⟩ : MethodName) method_2_code 1 (some (.object "com/example/keyward/keyward/command/ExitStatus")) :: ws) ({ frames := 0, cells := 0, slots := 0, locals := 0 } : Room)) (fun a U => a = #[(.int p1)] ∧ Z.Warmed39 U.vm ∧ U.heap = h0) (fun _ _ _ _ _ => True) (fun _ U o U' => ∃ v L, o = .returned v ∧ (fun v h L => (∃ w, v = some w ∧ (fun w => ∃ x : Addr, w = .ref x) w) ∧ L = [] ∧ h = h0) v U'.heap L ∧ FrameEnd U o U' L ({ frames := 0, cells := 0, slots := 0, locals := 0 } : Room).cells ({ frames := 0, cells := 0, slots := 0, locals := 0 } : Room).slots) := by
  refine own_body (y := (⟨"com/example/keyward/keyward/command/OutcomeRecordedAsPinLaw", "status", "(I)Lcom/example/keyward/keyward/command/ExitStatus;"⟩ : MethodName)) (Q := fun v h L => (∃ w, v = some w ∧ (fun w => ∃ x : Addr, w = .ref x) w) ∧ L = [] ∧ h = h0) (rm := ({ frames := 0, cells := 0, slots := 0, locals := 0 } : Room)) (as' := #[(.int p1)]) (h0 := h0) (Z := Z) own_pnst ?_
  intro p e s m below meth c s₁ hx hby hml hown hnm hret hlk hZ X0 e0
  have hown : s.vm.findClass "com/example/keyward/keyward/command/OutcomeRecordedAsPinLaw" = some m.cls := hown
  rw [own_efst]
  refine own_iload_n X0 hx (hb hby dst_0) rfl (q := 1) rfl ?_
  refine own_if X0 hx (hb hby dst_1) (by decide) (q := 8) rfl (q' := 4) rfl (own_z_ne _) (fun h1 => ?_) (fun h1 => ?_)
  · replace h1 : p1.toInt ≠ 0 := h1
    refine own_iload_n X0 hx (hb hby dst_8) rfl (q := 9) rfl ?_
    refine own_iconst X0 hx (hb hby dst_9) (v := (1 : Int32)) rfl (q := 10) rfl ?_
    refine own_icmp X0 hx (hb hby dst_10) (by decide) (q := 17) rfl (q' := 13) rfl (own_h_ne _ _) (fun h10 => ?_) (fun h10 => ?_)
    · replace h10 : p1.toInt ≠ (1 : Int) := h10
      refine own_iload_n X0 hx (hb hby dst_17) rfl (q := 18) rfl ?_
      refine own_iconst X0 hx (hb hby dst_18) (v := (2 : Int32)) rfl (q := 19) rfl ?_
      refine own_icmp X0 hx (hb hby dst_19) (by decide) (q := 26) rfl (q' := 22) rfl (own_h_ne _ _) (fun h19 => ?_) (fun h19 => ?_)
      · replace h19 : p1.toInt ≠ (2 : Int) := h19
        refine own_getS X0 hx hZ hown (hw _ (List.mem_of_getElem? (i := 165) rfl)) e0 T4 (hb hby dst_26) (q := 29) rfl ?_
        intro T1 X1 e1
        exact own_retA X1 hx rfl hret rfl hlk (hb hby dst_29) (by decide) (by decide) ⟨⟨_, rfl, ⟨_, rfl⟩⟩, rfl, e1⟩
      · replace h19 : ¬ (p1.toInt ≠ (2 : Int)) := h19
        refine own_getS X0 hx hZ hown (hw _ (List.mem_of_getElem? (i := 178) rfl)) e0 T3 (hb hby dst_22) (q := 25) rfl ?_
        intro T2 X2 e2
        exact own_retA X2 hx rfl hret rfl hlk (hb hby dst_25) (by decide) (by decide) ⟨⟨_, rfl, ⟨_, rfl⟩⟩, rfl, e2⟩
    · replace h10 : ¬ (p1.toInt ≠ (1 : Int)) := h10
      refine own_getS X0 hx hZ hown (hw _ (List.mem_of_getElem? (i := 180) rfl)) e0 T2 (hb hby dst_13) (q := 16) rfl ?_
      intro T3 X3 e3
      exact own_retA X3 hx rfl hret rfl hlk (hb hby dst_16) (by decide) (by decide) ⟨⟨_, rfl, ⟨_, rfl⟩⟩, rfl, e3⟩
  · replace h1 : ¬ (p1.toInt ≠ 0) := h1
    refine own_getS X0 hx hZ hown (hw _ (List.mem_of_getElem? (i := 4) rfl)) e0 T1 (hb hby dst_4) (q := 7) rfl ?_
    intro T4 X4 e4
    exact own_retA X4 hx rfl hret rfl hlk (hb hby dst_7) (by decide) (by decide) ⟨⟨_, rfl, ⟨_, rfl⟩⟩, rfl, e4⟩
theorem dsr_0 : decode method_3_code 0 = .ok (.iload_n 0, 1) := by decide +kernel
theorem dsr_1 : decode method_3_code 1 = .ok (.bipush 16, 2) := by decide +kernel
theorem dsr_3 : decode method_3_code 3 = .ok (.iushr, 1) := by decide +kernel
theorem dsr_4 : decode method_3_code 4 = .ok (.iconst 3, 1) := by decide +kernel
theorem dsr_5 : decode method_3_code 5 = .ok (.iand, 1) := by decide +kernel
theorem dsr_6 : decode method_3_code 6 = .ok (.istore_n 1, 1) := by decide +kernel
theorem dsr_7 : decode method_3_code 7 = .ok (.iload_n 0, 1) := by decide +kernel
theorem dsr_8 : decode method_3_code 8 = .ok (.sipush 255, 3) := by decide +kernel
theorem dsr_11 : decode method_3_code 11 = .ok (.iand, 1) := by decide +kernel
theorem dsr_12 : decode method_3_code 12 = .ok (.i2c, 1) := by decide +kernel
theorem dsr_13 : decode method_3_code 13 = .ok (.istore_n 2, 1) := by decide +kernel
theorem dsr_14 : decode method_3_code 14 = .ok (.iload_n 0, 1) := by decide +kernel
theorem dsr_15 : decode method_3_code 15 = .ok (.bipush 8, 2) := by decide +kernel
theorem dsr_17 : decode method_3_code 17 = .ok (.iushr, 1) := by decide +kernel
theorem dsr_18 : decode method_3_code 18 = .ok (.sipush 255, 3) := by decide +kernel
theorem dsr_21 : decode method_3_code 21 = .ok (.iand, 1) := by decide +kernel
theorem dsr_22 : decode method_3_code 22 = .ok (.i2c, 1) := by decide +kernel
theorem dsr_23 : decode method_3_code 23 = .ok (.istore_n 3, 1) := by decide +kernel
theorem dsr_24 : decode method_3_code 24 = .ok (.iload_n 0, 1) := by decide +kernel
theorem dsr_25 : decode method_3_code 25 = .ok (.bipush 24, 2) := by decide +kernel
theorem dsr_27 : decode method_3_code 27 = .ok (.iushr, 1) := by decide +kernel
theorem dsr_28 : decode method_3_code 28 = .ok (.sipush 255, 3) := by decide +kernel
theorem dsr_31 : decode method_3_code 31 = .ok (.iand, 1) := by decide +kernel
theorem dsr_32 : decode method_3_code 32 = .ok (.i2c, 1) := by decide +kernel
theorem dsr_33 : decode method_3_code 33 = .ok (.istore 4, 2) := by decide +kernel
theorem dsr_35 : decode method_3_code 35 = .ok (.iload_n 1, 1) := by decide +kernel
theorem dsr_36 : decode method_3_code 36 = .ok (.ifCond .ne 14, 3) := by decide +kernel
theorem dsr_39 : decode method_3_code 39 = .ok (.new 22, 3) := by decide +kernel
theorem dsr_42 : decode method_3_code 42 = .ok (.dup, 1) := by decide +kernel
theorem dsr_43 : decode method_3_code 43 = .ok (.iconst 0, 1) := by decide +kernel
theorem dsr_44 : decode method_3_code 44 = .ok (.newarray .char, 2) := by decide +kernel
theorem dsr_46 : decode method_3_code 46 = .ok (.invokespecial 24, 3) := by decide +kernel
theorem dsr_49 : decode method_3_code 49 = .ok (.areturn, 1) := by decide +kernel
theorem dsr_50 : decode method_3_code 50 = .ok (.iload_n 1, 1) := by decide +kernel
theorem dsr_51 : decode method_3_code 51 = .ok (.iconst 1, 1) := by decide +kernel
theorem dsr_52 : decode method_3_code 52 = .ok (.if_icmp .ne 18, 3) := by decide +kernel
theorem dsr_55 : decode method_3_code 55 = .ok (.new 22, 3) := by decide +kernel
theorem dsr_58 : decode method_3_code 58 = .ok (.dup, 1) := by decide +kernel
theorem dsr_59 : decode method_3_code 59 = .ok (.iconst 1, 1) := by decide +kernel
theorem dsr_60 : decode method_3_code 60 = .ok (.newarray .char, 2) := by decide +kernel
theorem dsr_62 : decode method_3_code 62 = .ok (.dup, 1) := by decide +kernel
theorem dsr_63 : decode method_3_code 63 = .ok (.iconst 0, 1) := by decide +kernel
theorem dsr_64 : decode method_3_code 64 = .ok (.iload_n 2, 1) := by decide +kernel
theorem dsr_65 : decode method_3_code 65 = .ok (.castore, 1) := by decide +kernel
theorem dsr_66 : decode method_3_code 66 = .ok (.invokespecial 24, 3) := by decide +kernel
theorem dsr_69 : decode method_3_code 69 = .ok (.areturn, 1) := by decide +kernel
theorem dsr_70 : decode method_3_code 70 = .ok (.iload_n 1, 1) := by decide +kernel
theorem dsr_71 : decode method_3_code 71 = .ok (.iconst 2, 1) := by decide +kernel
theorem dsr_72 : decode method_3_code 72 = .ok (.if_icmp .ne 22, 3) := by decide +kernel
theorem dsr_75 : decode method_3_code 75 = .ok (.new 22, 3) := by decide +kernel
theorem dsr_78 : decode method_3_code 78 = .ok (.dup, 1) := by decide +kernel
theorem dsr_79 : decode method_3_code 79 = .ok (.iconst 2, 1) := by decide +kernel
theorem dsr_80 : decode method_3_code 80 = .ok (.newarray .char, 2) := by decide +kernel
theorem dsr_82 : decode method_3_code 82 = .ok (.dup, 1) := by decide +kernel
theorem dsr_83 : decode method_3_code 83 = .ok (.iconst 0, 1) := by decide +kernel
theorem dsr_84 : decode method_3_code 84 = .ok (.iload_n 2, 1) := by decide +kernel
theorem dsr_85 : decode method_3_code 85 = .ok (.castore, 1) := by decide +kernel
theorem dsr_86 : decode method_3_code 86 = .ok (.dup, 1) := by decide +kernel
theorem dsr_87 : decode method_3_code 87 = .ok (.iconst 1, 1) := by decide +kernel
theorem dsr_88 : decode method_3_code 88 = .ok (.iload_n 3, 1) := by decide +kernel
theorem dsr_89 : decode method_3_code 89 = .ok (.castore, 1) := by decide +kernel
theorem dsr_90 : decode method_3_code 90 = .ok (.invokespecial 24, 3) := by decide +kernel
theorem dsr_93 : decode method_3_code 93 = .ok (.areturn, 1) := by decide +kernel
theorem dsr_94 : decode method_3_code 94 = .ok (.new 22, 3) := by decide +kernel
theorem dsr_97 : decode method_3_code 97 = .ok (.dup, 1) := by decide +kernel
theorem dsr_98 : decode method_3_code 98 = .ok (.iconst 3, 1) := by decide +kernel
theorem dsr_99 : decode method_3_code 99 = .ok (.newarray .char, 2) := by decide +kernel
theorem dsr_101 : decode method_3_code 101 = .ok (.dup, 1) := by decide +kernel
theorem dsr_102 : decode method_3_code 102 = .ok (.iconst 0, 1) := by decide +kernel
theorem dsr_103 : decode method_3_code 103 = .ok (.iload_n 2, 1) := by decide +kernel
theorem dsr_104 : decode method_3_code 104 = .ok (.castore, 1) := by decide +kernel
theorem dsr_105 : decode method_3_code 105 = .ok (.dup, 1) := by decide +kernel
theorem dsr_106 : decode method_3_code 106 = .ok (.iconst 1, 1) := by decide +kernel
theorem dsr_107 : decode method_3_code 107 = .ok (.iload_n 3, 1) := by decide +kernel
theorem dsr_108 : decode method_3_code 108 = .ok (.castore, 1) := by decide +kernel
theorem dsr_109 : decode method_3_code 109 = .ok (.dup, 1) := by decide +kernel
theorem dsr_110 : decode method_3_code 110 = .ok (.iconst 2, 1) := by decide +kernel
theorem dsr_111 : decode method_3_code 111 = .ok (.iload 4, 2) := by decide +kernel
theorem dsr_113 : decode method_3_code 113 = .ok (.castore, 1) := by decide +kernel
theorem dsr_114 : decode method_3_code 114 = .ok (.invokespecial 24, 3) := by decide +kernel
theorem dsr_117 : decode method_3_code 117 = .ok (.areturn, 1) := by decide +kernel
def own_Qsr (Z : State) (p1 : Int32) (h0 : Heap) (n0 : Nat) : Option Value → Heap → List Loc → Prop := fun v h L => ∃ b, v = some (.ref b) ∧ h0.size ≤ b ∧ Fr n0 L ∧ Keep h0 h [] ∧ Exa Z h b "java/lang/String"
theorem own_pnsr : plainFor (⟨"com/example/keyward/keyward/command/OutcomeRecordedAsPinLaw", "str", "(I)Ljava/lang/String;"⟩ : MethodName) = true := plainFor_of_name (show plainName "com/example/keyward/keyward/command/OutcomeRecordedAsPinLaw" = true by first | (simp [plainName, overriddenIn]; done) | decide +kernel)
theorem own_efsr (m : MethodId) (p1 : Int32)  : entryFrame m #[(.int p1)] 5 = mkF m 0 #[.val (.int p1), .unset, .unset, .unset, .unset] [] := by first | (simp [entryFrame, mkF, argsToLocals, Value.category, maxLocals]; done) | rfl
set_option maxRecDepth 65536 in
set_option maxHeartbeats 40000000 in
theorem own_rmsr (l : Launch) (Z : State) (a0 : Array Value) (hw : ∀ d ∈ tables_1, d.before a0 Z = true) (ws : List Jvm.Cond) (p1 : Int32) (G1 : Int32) (h0 : Heap) (n0 : Nat) (hn0 : n0 ≤ h0.size) (ST : Sta Z h0 "java/lang/String" "COMPACT_STRINGS" "Z" (.int G1)) (hG : G1.toInt ≠ 0) :
    MetFree l (⟨"com/example/keyward/keyward/command/OutcomeRecordedAsPinLaw", "str", "(I)Ljava/lang/String;"⟩ : MethodName) (head1 (Jvm.Cond.code (⟨"com/example/keyward/keyward/command/OutcomeRecordedAsPinLaw", "str", "(I)Ljava/lang/String;"⟩ : MethodName) method_3_code 5 (some (.object "java/lang/String")) :: ws) ({ frames := 4, cells := 6, slots := 12, locals := 66 } : Room)) (fun a U => a = #[(.int p1)] ∧ Z.Warmed39 U.vm ∧ U.heap = h0 ∧ CHv Z consts_1 U.vm h0 ∧ ∀ x ∈ ([] : List Addr), Safe Z consts_1 U.vm h0 x) (fun _ _ _ _ _ => True) (fun _ U o U' => ∃ v L, o = .returned v ∧ (own_Qsr Z p1 h0 n0) v U'.heap L ∧ CHr Z consts_1 U.vm U.heap U'.vm U'.heap ∧ ReturnedEndW U o U' L ({ frames := 4, cells := 6, slots := 12, locals := 66 } : Room).cells ({ frames := 4, cells := 6, slots := 12, locals := 66 } : Room).slots) := by
  refine own_Wbody (EL := consts_1) (y := (⟨"com/example/keyward/keyward/command/OutcomeRecordedAsPinLaw", "str", "(I)Ljava/lang/String;"⟩ : MethodName)) (Q := own_Qsr Z p1 h0 n0) (rm := ({ frames := 4, cells := 6, slots := 12, locals := 66 } : Room)) (as' := #[(.int p1)]) (h0 := h0) (Z := Z) (sf := []) own_pnsr ?_
  intro p e s m below meth c s₁ hx hby hml hown hnm hret hlk hZ X0 e0 hS hk HC0 hsf0
  have hown : s.vm.findClass "com/example/keyward/keyward/command/OutcomeRecordedAsPinLaw" = some m.cls := hown
  rw [own_efsr]
  refine own_iload_n X0 hx (hb hby dsr_0) rfl (q := 1) rfl ?_
  refine own_bipush X0 hx (hb hby dsr_1) (v := (16 : Int32)) rfl (q := 3) rfl ?_
  refine own_iushr X0 hx (hb hby dsr_3) (q := 4) rfl ?_
  refine own_iconst X0 hx (hb hby dsr_4) (v := (3 : Int32)) rfl (q := 5) rfl ?_
  refine own_iand X0 hx (hb hby dsr_5) (q := 6) rfl ?_
  refine own_istore_n X0 hx (hb hby dsr_6) (l' := #[.val (.int p1), .val (.int ((XT.ushr p1 (16 : Int32)) &&& (3 : Int32))), .unset, .unset, .unset]) rfl (q := 7) rfl ?_
  refine own_iload_n X0 hx (hb hby dsr_7) rfl (q := 8) rfl ?_
  refine own_sipush X0 hx (hb hby dsr_8) (v := (255 : Int32)) rfl (q := 11) rfl ?_
  refine own_iand X0 hx (hb hby dsr_11) (q := 12) rfl ?_
  refine own_i2c X0 hx (hb hby dsr_12) (q := 13) rfl ?_
  refine own_istore_n X0 hx (hb hby dsr_13) (l' := #[.val (.int p1), .val (.int ((XT.ushr p1 (16 : Int32)) &&& (3 : Int32))), .val (.int ((p1 &&& (255 : Int32)).toUInt32.toUInt16.toUInt32.toInt32)), .unset, .unset]) rfl (q := 14) rfl ?_
  refine own_iload_n X0 hx (hb hby dsr_14) rfl (q := 15) rfl ?_
  refine own_bipush X0 hx (hb hby dsr_15) (v := (8 : Int32)) rfl (q := 17) rfl ?_
  refine own_iushr X0 hx (hb hby dsr_17) (q := 18) rfl ?_
  refine own_sipush X0 hx (hb hby dsr_18) (v := (255 : Int32)) rfl (q := 21) rfl ?_
  refine own_iand X0 hx (hb hby dsr_21) (q := 22) rfl ?_
  refine own_i2c X0 hx (hb hby dsr_22) (q := 23) rfl ?_
  refine own_istore_n X0 hx (hb hby dsr_23) (l' := #[.val (.int p1), .val (.int ((XT.ushr p1 (16 : Int32)) &&& (3 : Int32))), .val (.int ((p1 &&& (255 : Int32)).toUInt32.toUInt16.toUInt32.toInt32)), .val (.int (((XT.ushr p1 (8 : Int32)) &&& (255 : Int32)).toUInt32.toUInt16.toUInt32.toInt32)), .unset]) rfl (q := 24) rfl ?_
  refine own_iload_n X0 hx (hb hby dsr_24) rfl (q := 25) rfl ?_
  refine own_bipush X0 hx (hb hby dsr_25) (v := (24 : Int32)) rfl (q := 27) rfl ?_
  refine own_iushr X0 hx (hb hby dsr_27) (q := 28) rfl ?_
  refine own_sipush X0 hx (hb hby dsr_28) (v := (255 : Int32)) rfl (q := 31) rfl ?_
  refine own_iand X0 hx (hb hby dsr_31) (q := 32) rfl ?_
  refine own_i2c X0 hx (hb hby dsr_32) (q := 33) rfl ?_
  refine own_istore X0 hx (hb hby dsr_33) (l' := #[.val (.int p1), .val (.int ((XT.ushr p1 (16 : Int32)) &&& (3 : Int32))), .val (.int ((p1 &&& (255 : Int32)).toUInt32.toUInt16.toUInt32.toInt32)), .val (.int (((XT.ushr p1 (8 : Int32)) &&& (255 : Int32)).toUInt32.toUInt16.toUInt32.toInt32)), .val (.int (((XT.ushr p1 (24 : Int32)) &&& (255 : Int32)).toUInt32.toUInt16.toUInt32.toInt32))]) rfl (q := 35) rfl ?_
  refine own_iload_n X0 hx (hb hby dsr_35) rfl (q := 36) rfl ?_
  refine own_if X0 hx (hb hby dsr_36) (by decide) (q := 50) rfl (q' := 39) rfl (own_z_ne _) (fun h36 => ?_) (fun h36 => ?_)
  · replace h36 : ((XT.ushr p1 (16 : Int32)) &&& (3 : Int32)).toInt ≠ 0 := h36
    refine own_iload_n X0 hx (hb hby dsr_50) rfl (q := 51) rfl ?_
    refine own_iconst X0 hx (hb hby dsr_51) (v := (1 : Int32)) rfl (q := 52) rfl ?_
    refine own_icmp X0 hx (hb hby dsr_52) (by decide) (q := 70) rfl (q' := 55) rfl (own_h_ne _ _) (fun h52 => ?_) (fun h52 => ?_)
    · replace h52 : ((XT.ushr p1 (16 : Int32)) &&& (3 : Int32)).toInt ≠ (1 : Int) := h52
      refine own_iload_n X0 hx (hb hby dsr_70) rfl (q := 71) rfl ?_
      refine own_iconst X0 hx (hb hby dsr_71) (v := (2 : Int32)) rfl (q := 72) rfl ?_
      refine own_icmp X0 hx (hb hby dsr_72) (by decide) (q := 94) rfl (q' := 75) rfl (own_h_ne _ _) (fun h72 => ?_) (fun h72 => ?_)
      · replace h72 : ((XT.ushr p1 (16 : Int32)) &&& (3 : Int32)).toInt ≠ (2 : Int) := h72
        refine own_newO X0 hx hZ hown (hw _ (List.mem_of_getElem? (i := 10) rfl)) (hw _ (List.mem_of_getElem? (i := 11) rfl)) (hw _ (List.mem_of_getElem? (i := 12) rfl)) e0 (hb hby dsr_94) (by decide) (by decide) (q := 97) rfl ?_
        intro T1 h1_ b1 g1 X1 e1 E1 A1 D1
        have ST_1 := ST.ext E1
        have S1 : Safe Z consts_1 s.vm h1_ b1 := Safe.ext E1 HC0.1 (Safe.new (by rw [g1]; exact Nat.le_refl _))
        have KK1 := Keep.ext (Keep.refl h0 []) E1
        have HC1 := CHr.trans HC0 (CHr.ext E1 HC0.1)
        have hk : _ ≤ h1_.size := Nat.le_trans hk E1.1
        have o1 : h0.size ≤ b1 := by rw [g1]; exact (Nat.le_refl _)
        have p1_ : n0 ≤ b1 := Nat.le_trans hn0 o1
        have z1_ : h0.size ≤ h1_.size := Nat.le_trans (Nat.le_refl _) E1.1
        have F1value : Fld Z h1_ b1 "java/lang/String" "value" "[B" (.null) := D1 (Or.inr (hw _ (List.mem_of_getElem? (i := 26) rfl))) (ty := (.array .byte)) (by decide)
        have F1coder : Fld Z h1_ b1 "java/lang/String" "coder" "B" (.int 0) := D1 (Or.inr (hw _ (List.mem_of_getElem? (i := 27) rfl))) (ty := .byte) (by decide)
        refine own_dup X1 hx (hb hby dsr_97) rfl (q := 98) rfl ?_
        refine own_iconst X1 hx (hb hby dsr_98) (v := (3 : Int32)) rfl (q := 99) rfl ?_
        refine own_newP X1 hx hZ (hw _ (List.mem_of_getElem? (i := 13) rfl)) e1 (hb hby dsr_99) (N := 3) (rfl) (cap := 3) (by decide) (by decide) (by decide) (by decide) (q := 101) rfl ?_
        intro T2 h2_ b2 g2 X2 e2 E2 A2
        have ne_b1_b2 : b1 ≠ b2 := Nat.ne_of_lt (by rw [g2]; exact A1.lt)
        have ST_2 := ST_1.ext E2
        have S1_2 := Safe.ext E2 HC1.1 S1
        have A1_2 := A1.ext E2
        have F1value_2 := F1value.ext E2
        have F1coder_2 := F1coder.ext E2
        have S2 : Safe Z consts_1 s.vm h2_ b2 := Safe.ext E2 HC1.1 (Safe.new (by rw [g2]; exact Nat.le_refl _))
        have KK2 := Keep.ext KK1 E2
        have HC2 := CHr.trans HC1 (CHr.ext E2 HC1.1)
        have hk : _ ≤ h2_.size := Nat.le_trans hk E2.1
        have o2 : h0.size ≤ b2 := by rw [g2]; exact z1_
        have p2_ : n0 ≤ b2 := Nat.le_trans hn0 o2
        have z2_ : h0.size ≤ h2_.size := Nat.le_trans z1_ E2.1
        have A2 : own_Arr Z h2_ b2 .char 3 (fun i => .int (own_zero i)) := A2
        refine own_dup X2 hx (hb hby dsr_101) rfl (q := 102) rfl ?_
        refine own_iconst X2 hx (hb hby dsr_102) (v := (0 : Int32)) rfl (q := 103) rfl ?_
        refine own_iload_n X2 hx (hb hby dsr_103) rfl (q := 104) rfl ?_
        refine own_stC X2 hx hZ e2 A2 (hb hby dsr_104) (i := 0) (rfl) (by decide) (Fr.nil n0) p2_ (q := 105) rfl ?_
        intro T3 h3_ L3 X3 N3 e3 A3 W3
        have K3 := Keep.of_wr W3
        have ST_3 := ST_2.wr W3
        have S1_3 := Safe.keep K3 (sfS S2 sf0) HC2.1 S1_2
        have A1_3 := A1_2.keep K3
        have F1value_3 := F1value_2.keep K3 (ninS ne_b1_b2 nin0)
        have F1coder_3 := F1coder_2.keep K3 (ninS ne_b1_b2 nin0)
        have S2_3 := Safe.keep K3 (sfS S2 sf0) HC2.1 S2
        have KK3 := Keep.trans KK2 K3 (allS (Or.inr o2) all0)
        have HC3 := CHr.trans HC2 (CHr.keep K3 (sfS S2 sf0) HC2.1)
        have hk : _ ≤ h3_.size := Nat.le_trans hk K3.1
        have z3_ : h0.size ≤ h3_.size := Nat.le_trans z2_ K3.1
        refine own_dup X3 hx (hb hby dsr_105) rfl (q := 106) rfl ?_
        refine own_iconst X3 hx (hb hby dsr_106) (v := (1 : Int32)) rfl (q := 107) rfl ?_
        refine own_iload_n X3 hx (hb hby dsr_107) rfl (q := 108) rfl ?_
        refine own_stC X3 hx hZ e3 A3 (hb hby dsr_108) (i := 1) (rfl) (by decide) N3 p2_ (q := 109) rfl ?_
        intro T4 h4_ L4 X4 N4 e4 A4 W4
        have K4 := Keep.of_wr W4
        have ST_4 := ST_3.wr W4
        have S1_4 := Safe.keep K4 (sfS S2_3 sf0) HC3.1 S1_3
        have A1_4 := A1_3.keep K4
        have F1value_4 := F1value_3.keep K4 (ninS ne_b1_b2 nin0)
        have F1coder_4 := F1coder_3.keep K4 (ninS ne_b1_b2 nin0)
        have S2_4 := Safe.keep K4 (sfS S2_3 sf0) HC3.1 S2_3
        have KK4 := Keep.trans KK3 K4 (allS (Or.inr o2) all0)
        have HC4 := CHr.trans HC3 (CHr.keep K4 (sfS S2_3 sf0) HC3.1)
        have hk : _ ≤ h4_.size := Nat.le_trans hk K4.1
        have z4_ : h0.size ≤ h4_.size := Nat.le_trans z3_ K4.1
        refine own_dup X4 hx (hb hby dsr_109) rfl (q := 110) rfl ?_
        refine own_iconst X4 hx (hb hby dsr_110) (v := (2 : Int32)) rfl (q := 111) rfl ?_
        refine own_iload X4 hx (hb hby dsr_111) rfl (q := 113) rfl ?_
        refine own_stC X4 hx hZ e4 A4 (hb hby dsr_113) (i := 2) (rfl) (by decide) N4 p2_ (q := 114) rfl ?_
        intro T5 h5_ L5 X5 N5 e5 A5 W5
        have K5 := Keep.of_wr W5
        have ST_5 := ST_4.wr W5
        have S1_5 := Safe.keep K5 (sfS S2_4 sf0) HC4.1 S1_4
        have A1_5 := A1_4.keep K5
        have F1value_5 := F1value_4.keep K5 (ninS ne_b1_b2 nin0)
        have F1coder_5 := F1coder_4.keep K5 (ninS ne_b1_b2 nin0)
        have S2_5 := Safe.keep K5 (sfS S2_4 sf0) HC4.1 S2_4
        have KK5 := Keep.trans KK4 K5 (allS (Or.inr o2) all0)
        have HC5 := CHr.trans HC4 (CHr.keep K5 (sfS S2_4 sf0) HC4.1)
        have hk : _ ≤ h5_.size := Nat.le_trans hk K5.1
        have z5_ : h0.size ≤ h5_.size := Nat.le_trans z4_ K5.1
        refine own_callN X5 hx hZ rfl hown (hw _ (List.mem_of_getElem? (i := 14) rfl)) (hw _ (List.mem_of_getElem? (i := 15) rfl)) (hw _ (List.mem_of_getElem? (i := 12) rfl)) (hw _ (List.mem_of_getElem? (i := 16) rfl)) (by decide) (own_rmJ3 l Z a0 hw [] b1 b2 (own_updI (own_updI (own_updI own_zero 0 (nar .char ((p1 &&& (255 : Int32)).toUInt32.toUInt16.toUInt32.toInt32))) 1 (nar .char (((XT.ushr p1 (8 : Int32)) &&& (255 : Int32)).toUInt32.toUInt16.toUInt32.toInt32))) 2 (nar .char (((XT.ushr p1 (24 : Int32)) &&& (255 : Int32)).toUInt32.toUInt16.toUInt32.toInt32))) G1 h5_ n0 (Nat.le_trans hn0 z5_) p1_ A1_5 F1value_5 F1coder_5 ne_b1_b2.symm A5 (own_rngC (own_rngC (own_rngC own_rngC0 _ _) _ _) _ _) ST_5 hG) (by decide) (by decide) e5 (by rw [hml]; rfl) (argsL := [(.ref b2)]) (rest := [(.ref b1)]) (lenOf own_pd12 rfl) rfl (W := 1) rfl (hb hby dsr_114) (q := 117) rfl rfl (by decide) (by decide) ?_
        rintro _ T6 L6 ⟨rfl, NL6, K6⟩ X6
        have N6 := Fr.app N5 NL6
        obtain ⟨h6_, e6⟩ : ∃ z, T6.heap = z := ⟨_, rfl⟩
        rw [e6] at K6 
        have ST_6 := own_sta_keep ST_5 K6 (nsS (Exa.nostat A1_5) ns0)
        have S1_6 := Safe.keep K6 (sfS S1_5 sf0) HC5.1 S1_5
        have A1_6 := A1_5.keep K6
        have S2_6 := Safe.keep K6 (sfS S1_5 sf0) HC5.1 S2_5
        have A5_6 := A5.keep K6 (ninS ne_b1_b2.symm nin0)
        have KK6 := Keep.trans KK5 K6 (allS (Or.inr o1) all0)
        have HC6 := CHr.trans HC5 (CHr.keep K6 (sfS S1_5 sf0) HC5.1)
        have hk : _ ≤ h6_.size := Nat.le_trans hk K6.1
        have z6_ : h0.size ≤ h6_.size := Nat.le_trans z5_ K6.1
        obtain ⟨LL6, eL6⟩ : ∃ z, L5 ++ L6 = z := ⟨_, rfl⟩
        rw [eL6] at X6 N6
        show own_G p e below _ (T6.setTop (mkF m 117 #[.val (.int p1), .val (.int ((XT.ushr p1 (16 : Int32)) &&& (3 : Int32))), .val (.int ((p1 &&& (255 : Int32)).toUInt32.toUInt16.toUInt32.toInt32)), .val (.int (((XT.ushr p1 (8 : Int32)) &&& (255 : Int32)).toUInt32.toUInt16.toUInt32.toInt32)), .val (.int (((XT.ushr p1 (24 : Int32)) &&& (255 : Int32)).toUInt32.toUInt16.toUInt32.toInt32))] [(.ref b1)]))
        exact own_WretA X6 hx hZ (own_EW hw) hS hk HC6 e6 rfl hret rfl hlk (hb hby dsr_117) (by decide) (by decide) (by rw [e6]; unfold own_Qsr; exact ⟨_, rfl, o1, N6, KK6, A1_6⟩)
      · replace h72 : ¬ (((XT.ushr p1 (16 : Int32)) &&& (3 : Int32)).toInt ≠ (2 : Int)) := h72
        refine own_newO X0 hx hZ hown (hw _ (List.mem_of_getElem? (i := 10) rfl)) (hw _ (List.mem_of_getElem? (i := 11) rfl)) (hw _ (List.mem_of_getElem? (i := 12) rfl)) e0 (hb hby dsr_75) (by decide) (by decide) (q := 78) rfl ?_
        intro T7 h7_ b7 g7 X7 e7 E7 A7 D7
        have ST_7 := ST.ext E7
        have S7 : Safe Z consts_1 s.vm h7_ b7 := Safe.ext E7 HC0.1 (Safe.new (by rw [g7]; exact Nat.le_refl _))
        have KK7 := Keep.ext (Keep.refl h0 []) E7
        have HC7 := CHr.trans HC0 (CHr.ext E7 HC0.1)
        have hk : _ ≤ h7_.size := Nat.le_trans hk E7.1
        have o7 : h0.size ≤ b7 := by rw [g7]; exact (Nat.le_refl _)
        have p7_ : n0 ≤ b7 := Nat.le_trans hn0 o7
        have z7_ : h0.size ≤ h7_.size := Nat.le_trans (Nat.le_refl _) E7.1
        have F7value : Fld Z h7_ b7 "java/lang/String" "value" "[B" (.null) := D7 (Or.inr (hw _ (List.mem_of_getElem? (i := 26) rfl))) (ty := (.array .byte)) (by decide)
        have F7coder : Fld Z h7_ b7 "java/lang/String" "coder" "B" (.int 0) := D7 (Or.inr (hw _ (List.mem_of_getElem? (i := 27) rfl))) (ty := .byte) (by decide)
        refine own_dup X7 hx (hb hby dsr_78) rfl (q := 79) rfl ?_
        refine own_iconst X7 hx (hb hby dsr_79) (v := (2 : Int32)) rfl (q := 80) rfl ?_
        refine own_newP X7 hx hZ (hw _ (List.mem_of_getElem? (i := 13) rfl)) e7 (hb hby dsr_80) (N := 2) (rfl) (cap := 2) (by decide) (by decide) (by decide) (by decide) (q := 82) rfl ?_
        intro T8 h8_ b8 g8 X8 e8 E8 A8
        have ne_b7_b8 : b7 ≠ b8 := Nat.ne_of_lt (by rw [g8]; exact A7.lt)
        have ST_8 := ST_7.ext E8
        have S7_8 := Safe.ext E8 HC7.1 S7
        have A7_8 := A7.ext E8
        have F7value_8 := F7value.ext E8
        have F7coder_8 := F7coder.ext E8
        have S8 : Safe Z consts_1 s.vm h8_ b8 := Safe.ext E8 HC7.1 (Safe.new (by rw [g8]; exact Nat.le_refl _))
        have KK8 := Keep.ext KK7 E8
        have HC8 := CHr.trans HC7 (CHr.ext E8 HC7.1)
        have hk : _ ≤ h8_.size := Nat.le_trans hk E8.1
        have o8 : h0.size ≤ b8 := by rw [g8]; exact z7_
        have p8_ : n0 ≤ b8 := Nat.le_trans hn0 o8
        have z8_ : h0.size ≤ h8_.size := Nat.le_trans z7_ E8.1
        have A8 : own_Arr Z h8_ b8 .char 2 (fun i => .int (own_zero i)) := A8
        refine own_dup X8 hx (hb hby dsr_82) rfl (q := 83) rfl ?_
        refine own_iconst X8 hx (hb hby dsr_83) (v := (0 : Int32)) rfl (q := 84) rfl ?_
        refine own_iload_n X8 hx (hb hby dsr_84) rfl (q := 85) rfl ?_
        refine own_stC X8 hx hZ e8 A8 (hb hby dsr_85) (i := 0) (rfl) (by decide) (Fr.nil n0) p8_ (q := 86) rfl ?_
        intro T9 h9_ L9 X9 N9 e9 A9 W9
        have K9 := Keep.of_wr W9
        have ST_9 := ST_8.wr W9
        have S7_9 := Safe.keep K9 (sfS S8 sf0) HC8.1 S7_8
        have A7_9 := A7_8.keep K9
        have F7value_9 := F7value_8.keep K9 (ninS ne_b7_b8 nin0)
        have F7coder_9 := F7coder_8.keep K9 (ninS ne_b7_b8 nin0)
        have S8_9 := Safe.keep K9 (sfS S8 sf0) HC8.1 S8
        have KK9 := Keep.trans KK8 K9 (allS (Or.inr o8) all0)
        have HC9 := CHr.trans HC8 (CHr.keep K9 (sfS S8 sf0) HC8.1)
        have hk : _ ≤ h9_.size := Nat.le_trans hk K9.1
        have z9_ : h0.size ≤ h9_.size := Nat.le_trans z8_ K9.1
        refine own_dup X9 hx (hb hby dsr_86) rfl (q := 87) rfl ?_
        refine own_iconst X9 hx (hb hby dsr_87) (v := (1 : Int32)) rfl (q := 88) rfl ?_
        refine own_iload_n X9 hx (hb hby dsr_88) rfl (q := 89) rfl ?_
        refine own_stC X9 hx hZ e9 A9 (hb hby dsr_89) (i := 1) (rfl) (by decide) N9 p8_ (q := 90) rfl ?_
        intro T10 h10_ L10 X10 N10 e10 A10 W10
        have K10 := Keep.of_wr W10
        have ST_10 := ST_9.wr W10
        have S7_10 := Safe.keep K10 (sfS S8_9 sf0) HC9.1 S7_9
        have A7_10 := A7_9.keep K10
        have F7value_10 := F7value_9.keep K10 (ninS ne_b7_b8 nin0)
        have F7coder_10 := F7coder_9.keep K10 (ninS ne_b7_b8 nin0)
        have S8_10 := Safe.keep K10 (sfS S8_9 sf0) HC9.1 S8_9
        have KK10 := Keep.trans KK9 K10 (allS (Or.inr o8) all0)
        have HC10 := CHr.trans HC9 (CHr.keep K10 (sfS S8_9 sf0) HC9.1)
        have hk : _ ≤ h10_.size := Nat.le_trans hk K10.1
        have z10_ : h0.size ≤ h10_.size := Nat.le_trans z9_ K10.1
        refine own_callN X10 hx hZ rfl hown (hw _ (List.mem_of_getElem? (i := 14) rfl)) (hw _ (List.mem_of_getElem? (i := 15) rfl)) (hw _ (List.mem_of_getElem? (i := 12) rfl)) (hw _ (List.mem_of_getElem? (i := 16) rfl)) (by decide) (own_rmJ2 l Z a0 hw [] b7 b8 (own_updI (own_updI own_zero 0 (nar .char ((p1 &&& (255 : Int32)).toUInt32.toUInt16.toUInt32.toInt32))) 1 (nar .char (((XT.ushr p1 (8 : Int32)) &&& (255 : Int32)).toUInt32.toUInt16.toUInt32.toInt32))) G1 h10_ n0 (Nat.le_trans hn0 z10_) p7_ A7_10 F7value_10 F7coder_10 ne_b7_b8.symm A10 (own_rngC (own_rngC own_rngC0 _ _) _ _) ST_10 hG) (by decide) (by decide) e10 (by rw [hml]; rfl) (argsL := [(.ref b8)]) (rest := [(.ref b7)]) (lenOf own_pd12 rfl) rfl (W := 1) rfl (hb hby dsr_90) (q := 93) rfl rfl (by decide) (by decide) ?_
        rintro _ T11 L11 ⟨rfl, NL11, K11⟩ X11
        have N11 := Fr.app N10 NL11
        obtain ⟨h11_, e11⟩ : ∃ z, T11.heap = z := ⟨_, rfl⟩
        rw [e11] at K11 
        have ST_11 := own_sta_keep ST_10 K11 (nsS (Exa.nostat A7_10) ns0)
        have S7_11 := Safe.keep K11 (sfS S7_10 sf0) HC10.1 S7_10
        have A7_11 := A7_10.keep K11
        have S8_11 := Safe.keep K11 (sfS S7_10 sf0) HC10.1 S8_10
        have A10_11 := A10.keep K11 (ninS ne_b7_b8.symm nin0)
        have KK11 := Keep.trans KK10 K11 (allS (Or.inr o7) all0)
        have HC11 := CHr.trans HC10 (CHr.keep K11 (sfS S7_10 sf0) HC10.1)
        have hk : _ ≤ h11_.size := Nat.le_trans hk K11.1
        have z11_ : h0.size ≤ h11_.size := Nat.le_trans z10_ K11.1
        obtain ⟨LL11, eL11⟩ : ∃ z, L10 ++ L11 = z := ⟨_, rfl⟩
        rw [eL11] at X11 N11
        show own_G p e below _ (T11.setTop (mkF m 93 #[.val (.int p1), .val (.int ((XT.ushr p1 (16 : Int32)) &&& (3 : Int32))), .val (.int ((p1 &&& (255 : Int32)).toUInt32.toUInt16.toUInt32.toInt32)), .val (.int (((XT.ushr p1 (8 : Int32)) &&& (255 : Int32)).toUInt32.toUInt16.toUInt32.toInt32)), .val (.int (((XT.ushr p1 (24 : Int32)) &&& (255 : Int32)).toUInt32.toUInt16.toUInt32.toInt32))] [(.ref b7)]))
        exact own_WretA X11 hx hZ (own_EW hw) hS hk HC11 e11 rfl hret rfl hlk (hb hby dsr_93) (by decide) (by decide) (by rw [e11]; unfold own_Qsr; exact ⟨_, rfl, o7, N11, KK11, A7_11⟩)
    · replace h52 : ¬ (((XT.ushr p1 (16 : Int32)) &&& (3 : Int32)).toInt ≠ (1 : Int)) := h52
      refine own_newO X0 hx hZ hown (hw _ (List.mem_of_getElem? (i := 10) rfl)) (hw _ (List.mem_of_getElem? (i := 11) rfl)) (hw _ (List.mem_of_getElem? (i := 12) rfl)) e0 (hb hby dsr_55) (by decide) (by decide) (q := 58) rfl ?_
      intro T12 h12_ b12 g12 X12 e12 E12 A12 D12
      have ST_12 := ST.ext E12
      have S12 : Safe Z consts_1 s.vm h12_ b12 := Safe.ext E12 HC0.1 (Safe.new (by rw [g12]; exact Nat.le_refl _))
      have KK12 := Keep.ext (Keep.refl h0 []) E12
      have HC12 := CHr.trans HC0 (CHr.ext E12 HC0.1)
      have hk : _ ≤ h12_.size := Nat.le_trans hk E12.1
      have o12 : h0.size ≤ b12 := by rw [g12]; exact (Nat.le_refl _)
      have p12_ : n0 ≤ b12 := Nat.le_trans hn0 o12
      have z12_ : h0.size ≤ h12_.size := Nat.le_trans (Nat.le_refl _) E12.1
      have F12value : Fld Z h12_ b12 "java/lang/String" "value" "[B" (.null) := D12 (Or.inr (hw _ (List.mem_of_getElem? (i := 26) rfl))) (ty := (.array .byte)) (by decide)
      have F12coder : Fld Z h12_ b12 "java/lang/String" "coder" "B" (.int 0) := D12 (Or.inr (hw _ (List.mem_of_getElem? (i := 27) rfl))) (ty := .byte) (by decide)
      refine own_dup X12 hx (hb hby dsr_58) rfl (q := 59) rfl ?_
      refine own_iconst X12 hx (hb hby dsr_59) (v := (1 : Int32)) rfl (q := 60) rfl ?_
      refine own_newP X12 hx hZ (hw _ (List.mem_of_getElem? (i := 13) rfl)) e12 (hb hby dsr_60) (N := 1) (rfl) (cap := 1) (by decide) (by decide) (by decide) (by decide) (q := 62) rfl ?_
      intro T13 h13_ b13 g13 X13 e13 E13 A13
      have ne_b12_b13 : b12 ≠ b13 := Nat.ne_of_lt (by rw [g13]; exact A12.lt)
      have ST_13 := ST_12.ext E13
      have S12_13 := Safe.ext E13 HC12.1 S12
      have A12_13 := A12.ext E13
      have F12value_13 := F12value.ext E13
      have F12coder_13 := F12coder.ext E13
      have S13 : Safe Z consts_1 s.vm h13_ b13 := Safe.ext E13 HC12.1 (Safe.new (by rw [g13]; exact Nat.le_refl _))
      have KK13 := Keep.ext KK12 E13
      have HC13 := CHr.trans HC12 (CHr.ext E13 HC12.1)
      have hk : _ ≤ h13_.size := Nat.le_trans hk E13.1
      have o13 : h0.size ≤ b13 := by rw [g13]; exact z12_
      have p13_ : n0 ≤ b13 := Nat.le_trans hn0 o13
      have z13_ : h0.size ≤ h13_.size := Nat.le_trans z12_ E13.1
      have A13 : own_Arr Z h13_ b13 .char 1 (fun i => .int (own_zero i)) := A13
      refine own_dup X13 hx (hb hby dsr_62) rfl (q := 63) rfl ?_
      refine own_iconst X13 hx (hb hby dsr_63) (v := (0 : Int32)) rfl (q := 64) rfl ?_
      refine own_iload_n X13 hx (hb hby dsr_64) rfl (q := 65) rfl ?_
      refine own_stC X13 hx hZ e13 A13 (hb hby dsr_65) (i := 0) (rfl) (by decide) (Fr.nil n0) p13_ (q := 66) rfl ?_
      intro T14 h14_ L14 X14 N14 e14 A14 W14
      have K14 := Keep.of_wr W14
      have ST_14 := ST_13.wr W14
      have S12_14 := Safe.keep K14 (sfS S13 sf0) HC13.1 S12_13
      have A12_14 := A12_13.keep K14
      have F12value_14 := F12value_13.keep K14 (ninS ne_b12_b13 nin0)
      have F12coder_14 := F12coder_13.keep K14 (ninS ne_b12_b13 nin0)
      have S13_14 := Safe.keep K14 (sfS S13 sf0) HC13.1 S13
      have KK14 := Keep.trans KK13 K14 (allS (Or.inr o13) all0)
      have HC14 := CHr.trans HC13 (CHr.keep K14 (sfS S13 sf0) HC13.1)
      have hk : _ ≤ h14_.size := Nat.le_trans hk K14.1
      have z14_ : h0.size ≤ h14_.size := Nat.le_trans z13_ K14.1
      refine own_callN X14 hx hZ rfl hown (hw _ (List.mem_of_getElem? (i := 14) rfl)) (hw _ (List.mem_of_getElem? (i := 15) rfl)) (hw _ (List.mem_of_getElem? (i := 12) rfl)) (hw _ (List.mem_of_getElem? (i := 16) rfl)) (by decide) (own_rmJ1 l Z a0 hw [] b12 b13 (own_updI own_zero 0 (nar .char ((p1 &&& (255 : Int32)).toUInt32.toUInt16.toUInt32.toInt32))) G1 h14_ n0 (Nat.le_trans hn0 z14_) p12_ A12_14 F12value_14 F12coder_14 ne_b12_b13.symm A14 (own_rngC own_rngC0 _ _) ST_14 hG) (by decide) (by decide) e14 (by rw [hml]; rfl) (argsL := [(.ref b13)]) (rest := [(.ref b12)]) (lenOf own_pd12 rfl) rfl (W := 1) rfl (hb hby dsr_66) (q := 69) rfl rfl (by decide) (by decide) ?_
      rintro _ T15 L15 ⟨rfl, NL15, K15⟩ X15
      have N15 := Fr.app N14 NL15
      obtain ⟨h15_, e15⟩ : ∃ z, T15.heap = z := ⟨_, rfl⟩
      rw [e15] at K15 
      have ST_15 := own_sta_keep ST_14 K15 (nsS (Exa.nostat A12_14) ns0)
      have S12_15 := Safe.keep K15 (sfS S12_14 sf0) HC14.1 S12_14
      have A12_15 := A12_14.keep K15
      have S13_15 := Safe.keep K15 (sfS S12_14 sf0) HC14.1 S13_14
      have A14_15 := A14.keep K15 (ninS ne_b12_b13.symm nin0)
      have KK15 := Keep.trans KK14 K15 (allS (Or.inr o12) all0)
      have HC15 := CHr.trans HC14 (CHr.keep K15 (sfS S12_14 sf0) HC14.1)
      have hk : _ ≤ h15_.size := Nat.le_trans hk K15.1
      have z15_ : h0.size ≤ h15_.size := Nat.le_trans z14_ K15.1
      obtain ⟨LL15, eL15⟩ : ∃ z, L14 ++ L15 = z := ⟨_, rfl⟩
      rw [eL15] at X15 N15
      show own_G p e below _ (T15.setTop (mkF m 69 #[.val (.int p1), .val (.int ((XT.ushr p1 (16 : Int32)) &&& (3 : Int32))), .val (.int ((p1 &&& (255 : Int32)).toUInt32.toUInt16.toUInt32.toInt32)), .val (.int (((XT.ushr p1 (8 : Int32)) &&& (255 : Int32)).toUInt32.toUInt16.toUInt32.toInt32)), .val (.int (((XT.ushr p1 (24 : Int32)) &&& (255 : Int32)).toUInt32.toUInt16.toUInt32.toInt32))] [(.ref b12)]))
      exact own_WretA X15 hx hZ (own_EW hw) hS hk HC15 e15 rfl hret rfl hlk (hb hby dsr_69) (by decide) (by decide) (by rw [e15]; unfold own_Qsr; exact ⟨_, rfl, o12, N15, KK15, A12_15⟩)
  · replace h36 : ¬ (((XT.ushr p1 (16 : Int32)) &&& (3 : Int32)).toInt ≠ 0) := h36
    refine own_newO X0 hx hZ hown (hw _ (List.mem_of_getElem? (i := 10) rfl)) (hw _ (List.mem_of_getElem? (i := 11) rfl)) (hw _ (List.mem_of_getElem? (i := 12) rfl)) e0 (hb hby dsr_39) (by decide) (by decide) (q := 42) rfl ?_
    intro T16 h16_ b16 g16 X16 e16 E16 A16 D16
    have ST_16 := ST.ext E16
    have S16 : Safe Z consts_1 s.vm h16_ b16 := Safe.ext E16 HC0.1 (Safe.new (by rw [g16]; exact Nat.le_refl _))
    have KK16 := Keep.ext (Keep.refl h0 []) E16
    have HC16 := CHr.trans HC0 (CHr.ext E16 HC0.1)
    have hk : _ ≤ h16_.size := Nat.le_trans hk E16.1
    have o16 : h0.size ≤ b16 := by rw [g16]; exact (Nat.le_refl _)
    have p16_ : n0 ≤ b16 := Nat.le_trans hn0 o16
    have z16_ : h0.size ≤ h16_.size := Nat.le_trans (Nat.le_refl _) E16.1
    have F16value : Fld Z h16_ b16 "java/lang/String" "value" "[B" (.null) := D16 (Or.inr (hw _ (List.mem_of_getElem? (i := 26) rfl))) (ty := (.array .byte)) (by decide)
    have F16coder : Fld Z h16_ b16 "java/lang/String" "coder" "B" (.int 0) := D16 (Or.inr (hw _ (List.mem_of_getElem? (i := 27) rfl))) (ty := .byte) (by decide)
    refine own_dup X16 hx (hb hby dsr_42) rfl (q := 43) rfl ?_
    refine own_iconst X16 hx (hb hby dsr_43) (v := (0 : Int32)) rfl (q := 44) rfl ?_
    refine own_newP X16 hx hZ (hw _ (List.mem_of_getElem? (i := 13) rfl)) e16 (hb hby dsr_44) (N := 0) (rfl) (cap := 0) (by decide) (by decide) (by decide) (by decide) (q := 46) rfl ?_
    intro T17 h17_ b17 g17 X17 e17 E17 A17
    have ne_b16_b17 : b16 ≠ b17 := Nat.ne_of_lt (by rw [g17]; exact A16.lt)
    have ST_17 := ST_16.ext E17
    have S16_17 := Safe.ext E17 HC16.1 S16
    have A16_17 := A16.ext E17
    have F16value_17 := F16value.ext E17
    have F16coder_17 := F16coder.ext E17
    have S17 : Safe Z consts_1 s.vm h17_ b17 := Safe.ext E17 HC16.1 (Safe.new (by rw [g17]; exact Nat.le_refl _))
    have KK17 := Keep.ext KK16 E17
    have HC17 := CHr.trans HC16 (CHr.ext E17 HC16.1)
    have hk : _ ≤ h17_.size := Nat.le_trans hk E17.1
    have o17 : h0.size ≤ b17 := by rw [g17]; exact z16_
    have p17_ : n0 ≤ b17 := Nat.le_trans hn0 o17
    have z17_ : h0.size ≤ h17_.size := Nat.le_trans z16_ E17.1
    have A17 : own_Arr Z h17_ b17 .char 0 (fun i => .int (own_zero i)) := A17
    refine own_WcallN X17 hx hZ rfl hown (hw _ (List.mem_of_getElem? (i := 14) rfl)) (hw _ (List.mem_of_getElem? (i := 15) rfl)) (hw _ (List.mem_of_getElem? (i := 12) rfl)) (hw _ (List.mem_of_getElem? (i := 16) rfl)) (by decide) (own_rmJ0 l Z a0 hw [] b16 b17 own_zero h17_ n0 (Nat.le_trans hn0 z17_) p16_ A16_17 F16value_17 F16coder_17 ne_b16_b17.symm A17 own_rngC0) (by decide) (by decide) hS hk (own_EW hw) HC17 (fun y q => by cases List.mem_singleton.mp q; exact ⟨A16_17.lt, S16_17⟩) e17 (by rw [hml]; rfl) (argsL := [(.ref b17)]) (rest := [(.ref b16)]) (lenOf own_pd12 rfl) rfl (W := 1) rfl (hb hby dsr_46) (q := 49) rfl rfl (by decide) (by decide) ?_
    rintro _ T18 L18 h18_ kk18 ⟨rfl, NL18, K18⟩ X18 e18 hS hk hZ hown HC18 SF18
    have N18 := Fr.app (Fr.nil n0) NL18
    have ST_18 := own_sta_keep ST_17 K18 (nsS (Exa.nostat A16_17) ns0)
    have S16_18 := SF18 b16 A16_17.lt S16_17
    have A16_18 := A16_17.keep K18
    have S17_18 := SF18 b17 A17.lt S17
    have A17_18 := A17.keep K18 (ninS ne_b16_b17.symm nin0)
    have KK18 := Keep.trans KK17 K18 (allS (Or.inr o16) all0)
    have z18_ : h0.size ≤ h18_.size := Nat.le_trans z17_ K18.1
    obtain ⟨LL18, eL18⟩ : ∃ z, [] ++ L18 = z := ⟨_, rfl⟩
    rw [eL18] at X18 N18
    show own_G p e below _ (T18.setTop (mkF m 49 #[.val (.int p1), .val (.int ((XT.ushr p1 (16 : Int32)) &&& (3 : Int32))), .val (.int ((p1 &&& (255 : Int32)).toUInt32.toUInt16.toUInt32.toInt32)), .val (.int (((XT.ushr p1 (8 : Int32)) &&& (255 : Int32)).toUInt32.toUInt16.toUInt32.toInt32)), .val (.int (((XT.ushr p1 (24 : Int32)) &&& (255 : Int32)).toUInt32.toUInt16.toUInt32.toInt32))] [(.ref b16)]))
    exact own_WretA X18 hx hZ (own_EW hw) hS hk HC18 e18 rfl hret rfl hlk (hb hby dsr_49) (by decide) (by decide) (by rw [e18]; unfold own_Qsr; exact ⟨_, rfl, o16, N18, KK18, A16_18⟩)
theorem own_pn0 : plainFor x = true := plainFor_of_name (show plainName "com/example/keyward/keyward/command/OutcomeRecordedAsPinLaw" = true by first | (simp [plainName, overriddenIn]; done) | decide +kernel)
theorem own_ef0 (m : MethodId) (p1 : Int32) (p2 : Int32) (p3 : Int32) (p4 : Int32) (p5 : Int32)  : entryFrame m #[(.int p1), (.int p2), (.int p3), (.int p4), (.int p5)] maxLocals = mkF m 0 #[.val (.int p1), .val (.int p2), .val (.int p3), .val (.int p4), .val (.int p5), .unset, .unset, .unset, .unset, .unset, .unset, .unset, .unset, .unset, .unset] [] := by first | (simp [entryFrame, mkF, argsToLocals, Value.category, maxLocals]; done) | rfl
set_option maxRecDepth 65536 in
set_option maxHeartbeats 40000000 in
theorem own_rm0 (l : Launch) (Z : State) (a0 : Array Value) (hw : ∀ d ∈ tables_1, d.before a0 Z = true) (ws : List Jvm.Cond) (p1 : Int32) (p2 : Int32) (p3 : Int32) (p4 : Int32) (p5 : Int32) (G1 : Int32) (s1 s2 s3 s4 dE : Addr) (fE : Nat → Value) (h0 : Heap) (ST : Sta Z h0 "java/lang/String" "COMPACT_STRINGS" "Z" (.int G1)) (hG : G1.toInt ≠ 0) (T1 : Sta Z h0 "com/example/keyward/keyward/command/ExitStatus" "DONE" "Lcom/example/keyward/keyward/command/ExitStatus;" (.ref s1)) (T2 : Sta Z h0 "com/example/keyward/keyward/command/ExitStatus" "REFUSED" "Lcom/example/keyward/keyward/command/ExitStatus;" (.ref s2)) (T3 : Sta Z h0 "com/example/keyward/keyward/command/ExitStatus" "USAGE" "Lcom/example/keyward/keyward/command/ExitStatus;" (.ref s3)) (T4 : Sta Z h0 "com/example/keyward/keyward/command/ExitStatus" "FAILURE" "Lcom/example/keyward/keyward/command/ExitStatus;" (.ref s4)) (SD : Sta Z h0 "java/util/ArrayList" "DEFAULTCAPACITY_EMPTY_ELEMENTDATA" "[Ljava/lang/Object;" (.ref dE)) (AD : own_Arr Z h0 dE (.object "java/lang/Object") 0 fE) :
    MetFree l x (head1 (Jvm.Cond.code x code maxLocals ret :: ws) room_1) (fun a U => a = #[(.int p1), (.int p2), (.int p3), (.int p4), (.int p5)] ∧ Z.Warmed39 U.vm ∧ U.heap = h0 ∧ CHv Z consts_1 U.vm h0 ∧ ∀ x ∈ ([] : List Addr), Safe Z consts_1 U.vm h0 x) (fun _ _ _ _ _ => True) (fun _ U o U' => ∃ v L, o = .returned v ∧ (fun v h L => v = some (.int 1) ∧ Fr h0.size L) v U'.heap L ∧ ReturnedEndW U o U' L room_1.cells room_1.slots) := by
  refine own_Vbody (EL := consts_1) (y := x) (Q := fun v h L => v = some (.int 1) ∧ Fr h0.size L) (rm := room_1) (as' := #[(.int p1), (.int p2), (.int p3), (.int p4), (.int p5)]) (h0 := h0) (Z := Z) (sf := []) own_pn0 ?_
  intro p e s m below meth c s₁ hx hby hml hown hnm hret hlk hZ X0 e0 hS hk HC0 hsf0
  have hown : s.vm.findClass "com/example/keyward/keyward/command/OutcomeRecordedAsPinLaw" = some m.cls := hown
  rw [own_ef0]
  refine own_iload_n X0 hx (hb hby at_0) rfl (q := 1) rfl ?_
  refine own_iconst X0 hx (hb hby at_1) (v := (3 : Int32)) rfl (q := 2) rfl ?_
  refine own_iand X0 hx (hb hby at_2) (q := 3) rfl ?_
  refine own_callSP X0 hx hZ hown (hw _ (List.mem_of_getElem? (i := 0) rfl)) (hw _ (List.mem_of_getElem? (i := 1) rfl)) (hw _ (List.mem_of_getElem? (i := 2) rfl)) (hw _ (List.mem_of_getElem? (i := 3) rfl)) (by decide) (own_rmst l Z a0 hw [] (p1 &&& (3 : Int32)) s1 s2 s3 s4 h0 T1 T2 T3 T4) (by decide) (by decide) e0 (by rw [hml]; rfl) (argsL := [(.int (p1 &&& (3 : Int32)))]) (rest := []) (lenOf own_pd13 rfl) rfl (W := 0) rfl (hb hby at_3) (q := 6) rfl rfl rfl rfl (by decide) (by decide) ?_
  rintro _ T1 ⟨x1, rfl⟩ X1 e1
  refine own_astore X1 hx (hb hby at_6) rfl (l' := #[.val (.int p1), .val (.int p2), .val (.int p3), .val (.int p4), .val (.int p5), .val (.ref x1), .unset, .unset, .unset, .unset, .unset, .unset, .unset, .unset, .unset]) rfl (q := 8) rfl ?_
  refine own_iload_n X1 hx (hb hby at_8) rfl (q := 9) rfl ?_
  refine own_iconst X1 hx (hb hby at_9) (v := (4 : Int32)) rfl (q := 10) rfl ?_
  refine own_iand X1 hx (hb hby at_10) (q := 11) rfl ?_
  have J19_2 : ∀ (tw : Int32) (g19_0 : tw.toInt = 0 ∨ tw.toInt = 1), own_G p e below (own_FV s room_1.cells room_1.slots (fun v h L => v = some (.int 1) ∧ Fr h0.size L)) (T1.setTop (mkF m 19 #[.val (.int p1), .val (.int p2), .val (.int p3), .val (.int p4), .val (.int p5), .val (.ref x1), .unset, .unset, .unset, .unset, .unset, .unset, .unset, .unset, .unset] [(.int tw)])) := by
    intro tw g19_0
    refine own_istore X1 hx (hb hby at_19) (l' := #[.val (.int p1), .val (.int p2), .val (.int p3), .val (.int p4), .val (.int p5), .val (.ref x1), .val (.int tw), .unset, .unset, .unset, .unset, .unset, .unset, .unset, .unset]) rfl (q := 21) rfl ?_
    refine own_iload_n X1 hx (hb hby at_21) rfl (q := 22) rfl ?_
    refine own_WcallS X1 hx hZ hown (hw _ (List.mem_of_getElem? (i := 7) rfl)) (hw _ (List.mem_of_getElem? (i := 8) rfl)) (hw _ (List.mem_of_getElem? (i := 2) rfl)) (hw _ (List.mem_of_getElem? (i := 9) rfl)) (by decide) (own_rmsr l Z a0 hw [] p2 G1 h0 h0.size (Nat.le_refl _) ST hG) (by decide) (by decide) hS hk (own_EW hw) HC0 (fun _ q => nomatch q) e1 (by rw [hml]; rfl) (argsL := [(.int p2)]) (rest := []) (lenOf own_pd14 rfl) rfl (W := 0) rfl (hb hby at_22) (q := 25) rfl rfl (by decide) (by decide) ?_
    rintro _ T3 L3 h3_ kk3 ⟨b3, rfl, oh3, NL3, K3, EX3⟩ X3 e3 hS hk hZ hown HC3 SF3
    have N3 := Fr.app (Fr.nil _) NL3
    have ST_3 := own_sta_keep ST K3 ns0
    have SD_3 := own_sta_keep SD K3 ns0
    have AD_3 := AD.keep K3 nin0
    have KK3 := Keep.trans (Keep.refl h0 []) K3 all0
    have z3_ : h0.size ≤ h3_.size := Nat.le_trans (Nat.le_refl _) K3.1
    obtain ⟨LL3, eL3⟩ : ∃ z, [] ++ L3 = z := ⟨_, rfl⟩
    rw [eL3] at X3 N3
    show own_G p e below _ (T3.setTop (mkF m 25 #[.val (.int p1), .val (.int p2), .val (.int p3), .val (.int p4), .val (.int p5), .val (.ref x1), .val (.int tw), .unset, .unset, .unset, .unset, .unset, .unset, .unset, .unset] [(.ref b3)]))
    refine own_astore X3 hx (hb hby at_25) rfl (l' := #[.val (.int p1), .val (.int p2), .val (.int p3), .val (.int p4), .val (.int p5), .val (.ref x1), .val (.int tw), .val (.ref b3), .unset, .unset, .unset, .unset, .unset, .unset, .unset]) rfl (q := 27) rfl ?_
    refine own_iload_n X3 hx (hb hby at_27) rfl (q := 28) rfl ?_
    refine own_WcallS X3 hx hZ hown (hw _ (List.mem_of_getElem? (i := 7) rfl)) (hw _ (List.mem_of_getElem? (i := 8) rfl)) (hw _ (List.mem_of_getElem? (i := 2) rfl)) (hw _ (List.mem_of_getElem? (i := 9) rfl)) (by decide) (own_rmsr l Z a0 hw [] p3 G1 h3_ h0.size z3_ ST_3 hG) (by decide) (by decide) hS hk (own_EW hw) HC3 (fun _ q => nomatch q) e3 (by rw [hml]; rfl) (argsL := [(.int p3)]) (rest := []) (lenOf own_pd14 rfl) rfl (W := 0) rfl (hb hby at_28) (q := 31) rfl rfl (by decide) (by decide) ?_
    rintro _ T4 L4 h4_ kk4 ⟨b4, rfl, oh4, NL4, K4, EX4⟩ X4 e4 hS hk hZ hown HC4 SF4
    have N4 := Fr.app N3 NL4
    have ST_4 := own_sta_keep ST_3 K4 ns0
    have SD_4 := own_sta_keep SD_3 K4 ns0
    have AD_4 := AD_3.keep K4 nin0
    have EX3_4 := EX3.keep K4
    have KK4 := Keep.trans KK3 K4 all0
    have z4_ : h0.size ≤ h4_.size := Nat.le_trans z3_ K4.1
    obtain ⟨LL4, eL4⟩ : ∃ z, LL3 ++ L4 = z := ⟨_, rfl⟩
    rw [eL4] at X4 N4
    show own_G p e below _ (T4.setTop (mkF m 31 #[.val (.int p1), .val (.int p2), .val (.int p3), .val (.int p4), .val (.int p5), .val (.ref x1), .val (.int tw), .val (.ref b3), .unset, .unset, .unset, .unset, .unset, .unset, .unset] [(.ref b4)]))
    refine own_astore X4 hx (hb hby at_31) rfl (l' := #[.val (.int p1), .val (.int p2), .val (.int p3), .val (.int p4), .val (.int p5), .val (.ref x1), .val (.int tw), .val (.ref b3), .val (.ref b4), .unset, .unset, .unset, .unset, .unset, .unset]) rfl (q := 33) rfl ?_
    refine own_iload_n X4 hx (hb hby at_33) rfl (q := 34) rfl ?_
    refine own_WcallS X4 hx hZ hown (hw _ (List.mem_of_getElem? (i := 7) rfl)) (hw _ (List.mem_of_getElem? (i := 8) rfl)) (hw _ (List.mem_of_getElem? (i := 2) rfl)) (hw _ (List.mem_of_getElem? (i := 9) rfl)) (by decide) (own_rmsr l Z a0 hw [] p4 G1 h4_ h0.size z4_ ST_4 hG) (by decide) (by decide) hS hk (own_EW hw) HC4 (fun _ q => nomatch q) e4 (by rw [hml]; rfl) (argsL := [(.int p4)]) (rest := []) (lenOf own_pd14 rfl) rfl (W := 0) rfl (hb hby at_34) (q := 37) rfl rfl (by decide) (by decide) ?_
    rintro _ T5 L5 h5_ kk5 ⟨b5, rfl, oh5, NL5, K5, EX5⟩ X5 e5 hS hk hZ hown HC5 SF5
    have N5 := Fr.app N4 NL5
    have ST_5 := own_sta_keep ST_4 K5 ns0
    have SD_5 := own_sta_keep SD_4 K5 ns0
    have AD_5 := AD_4.keep K5 nin0
    have EX3_5 := EX3_4.keep K5
    have EX4_5 := EX4.keep K5
    have KK5 := Keep.trans KK4 K5 all0
    have z5_ : h0.size ≤ h5_.size := Nat.le_trans z4_ K5.1
    obtain ⟨LL5, eL5⟩ : ∃ z, LL4 ++ L5 = z := ⟨_, rfl⟩
    rw [eL5] at X5 N5
    show own_G p e below _ (T5.setTop (mkF m 37 #[.val (.int p1), .val (.int p2), .val (.int p3), .val (.int p4), .val (.int p5), .val (.ref x1), .val (.int tw), .val (.ref b3), .val (.ref b4), .unset, .unset, .unset, .unset, .unset, .unset] [(.ref b5)]))
    refine own_astore X5 hx (hb hby at_37) rfl (l' := #[.val (.int p1), .val (.int p2), .val (.int p3), .val (.int p4), .val (.int p5), .val (.ref x1), .val (.int tw), .val (.ref b3), .val (.ref b4), .val (.ref b5), .unset, .unset, .unset, .unset, .unset]) rfl (q := 39) rfl ?_
    refine own_iload X5 hx (hb hby at_39) rfl (q := 41) rfl ?_
    refine own_WcallS X5 hx hZ hown (hw _ (List.mem_of_getElem? (i := 7) rfl)) (hw _ (List.mem_of_getElem? (i := 8) rfl)) (hw _ (List.mem_of_getElem? (i := 2) rfl)) (hw _ (List.mem_of_getElem? (i := 9) rfl)) (by decide) (own_rmsr l Z a0 hw [] p5 G1 h5_ h0.size z5_ ST_5 hG) (by decide) (by decide) hS hk (own_EW hw) HC5 (fun _ q => nomatch q) e5 (by rw [hml]; rfl) (argsL := [(.int p5)]) (rest := []) (lenOf own_pd14 rfl) rfl (W := 0) rfl (hb hby at_41) (q := 44) rfl rfl (by decide) (by decide) ?_
    rintro _ T6 L6 h6_ kk6 ⟨b6, rfl, oh6, NL6, K6, EX6⟩ X6 e6 hS hk hZ hown HC6 SF6
    have N6 := Fr.app N5 NL6
    have ST_6 := own_sta_keep ST_5 K6 ns0
    have SD_6 := own_sta_keep SD_5 K6 ns0
    have AD_6 := AD_5.keep K6 nin0
    have EX3_6 := EX3_5.keep K6
    have EX4_6 := EX4_5.keep K6
    have EX5_6 := EX5.keep K6
    have KK6 := Keep.trans KK5 K6 all0
    have z6_ : h0.size ≤ h6_.size := Nat.le_trans z5_ K6.1
    obtain ⟨LL6, eL6⟩ : ∃ z, LL5 ++ L6 = z := ⟨_, rfl⟩
    rw [eL6] at X6 N6
    show own_G p e below _ (T6.setTop (mkF m 44 #[.val (.int p1), .val (.int p2), .val (.int p3), .val (.int p4), .val (.int p5), .val (.ref x1), .val (.int tw), .val (.ref b3), .val (.ref b4), .val (.ref b5), .unset, .unset, .unset, .unset, .unset] [(.ref b6)]))
    refine own_astore X6 hx (hb hby at_44) rfl (l' := #[.val (.int p1), .val (.int p2), .val (.int p3), .val (.int p4), .val (.int p5), .val (.ref x1), .val (.int tw), .val (.ref b3), .val (.ref b4), .val (.ref b5), .val (.ref b6), .unset, .unset, .unset, .unset]) rfl (q := 46) rfl ?_
    refine own_newO X6 hx hZ hown (hw _ (List.mem_of_getElem? (i := 32) rfl)) (hw _ (List.mem_of_getElem? (i := 33) rfl)) (hw _ (List.mem_of_getElem? (i := 34) rfl)) e6 (hb hby at_46) (by decide) (by decide) (q := 49) rfl ?_
    intro T7 h7_ b7 g7 X7 e7 E7 A7 D7
    have ne_dE_b7 : dE ≠ b7 := Nat.ne_of_lt (by rw [g7]; exact AD_6.lt)
    have ne_b3_b7 : b3 ≠ b7 := Nat.ne_of_lt (by rw [g7]; exact EX3_6.lt)
    have ne_b4_b7 : b4 ≠ b7 := Nat.ne_of_lt (by rw [g7]; exact EX4_6.lt)
    have ne_b5_b7 : b5 ≠ b7 := Nat.ne_of_lt (by rw [g7]; exact EX5_6.lt)
    have ne_b6_b7 : b6 ≠ b7 := Nat.ne_of_lt (by rw [g7]; exact EX6.lt)
    have SD_7 := SD_6.ext E7
    have AD_7 := AD_6.ext E7
    have EX3_7 := EX3_6.ext E7
    have EX4_7 := EX4_6.ext E7
    have EX5_7 := EX5_6.ext E7
    have EX6_7 := EX6.ext E7
    have KK7 := Keep.ext KK6 E7
    have hk : _ ≤ h7_.size := Nat.le_trans hk E7.1
    have o7 : h0.size ≤ b7 := by rw [g7]; exact z6_
    have z7_ : h0.size ≤ h7_.size := Nat.le_trans z6_ E7.1
    have F7modCount : Fld Z h7_ b7 "java/util/AbstractList" "modCount" "I" (.int 0) := D7 (Or.inl (hw _ (List.mem_of_getElem? (i := 52) rfl))) (ty := .int) (by decide)
    have F7elementData : Fld Z h7_ b7 "java/util/ArrayList" "elementData" "[Ljava/lang/Object;" (.null) := D7 (Or.inl (hw _ (List.mem_of_getElem? (i := 55) rfl))) (ty := (.array (.object "java/lang/Object"))) (by decide)
    have F7size : Fld Z h7_ b7 "java/util/ArrayList" "size" "I" (.int 0) := D7 (Or.inl (hw _ (List.mem_of_getElem? (i := 64) rfl))) (ty := .int) (by decide)
    refine own_dup X7 hx (hb hby at_49) rfl (q := 50) rfl ?_
    refine own_callN X7 hx hZ rfl hown (hw _ (List.mem_of_getElem? (i := 35) rfl)) (hw _ (List.mem_of_getElem? (i := 36) rfl)) (hw _ (List.mem_of_getElem? (i := 34) rfl)) (hw _ (List.mem_of_getElem? (i := 37) rfl)) (by decide) (own_rma2_ l Z a0 hw [] b7 dE h7_ h0.size z7_ o7 A7 F7elementData F7size F7modCount SD_7) (by decide) (by decide) e7 (by rw [hml]; rfl) (argsL := []) (rest := [(.ref b7)]) (lenOf own_pd4 rfl) rfl (W := 1) rfl (hb hby at_50) (q := 53) rfl rfl (by decide) (by decide) ?_
    rintro _ T8 L8 ⟨rfl, NL8, K8, RA8, R0x8, R1x8, R2x8⟩ X8
    have N8 := Fr.app N6 NL8
    obtain ⟨h8_, e8⟩ : ∃ z, T8.heap = z := ⟨_, rfl⟩
    rw [e8] at K8 RA8 R0x8 R1x8 R2x8
    have SD_8 := own_sta_keep SD_7 K8 (nsS (Exa.nostat A7) ns0)
    have AD_8 := AD_7.keep K8 (ninS ne_dE_b7 nin0)
    have EX3_8 := EX3_7.keep K8
    have EX4_8 := EX4_7.keep K8
    have EX5_8 := EX5_7.keep K8
    have EX6_8 := EX6_7.keep K8
    have A7_8 := A7.keep K8
    have KK8 := Keep.trans KK7 K8 (allS (Or.inr o7) all0)
    have hk : _ ≤ h8_.size := Nat.le_trans hk K8.1
    have z8_ : h0.size ≤ h8_.size := Nat.le_trans z7_ K8.1
    obtain ⟨LL8, eL8⟩ : ∃ z, LL6 ++ L8 = z := ⟨_, rfl⟩
    rw [eL8] at X8 N8
    show own_G p e below _ (T8.setTop (mkF m 53 #[.val (.int p1), .val (.int p2), .val (.int p3), .val (.int p4), .val (.int p5), .val (.ref x1), .val (.int tw), .val (.ref b3), .val (.ref b4), .val (.ref b5), .val (.ref b6), .unset, .unset, .unset, .unset] [(.ref b7)]))
    refine own_astore X8 hx (hb hby at_53) rfl (l' := #[.val (.int p1), .val (.int p2), .val (.int p3), .val (.int p4), .val (.int p5), .val (.ref x1), .val (.int tw), .val (.ref b3), .val (.ref b4), .val (.ref b5), .val (.ref b6), .val (.ref b7), .unset, .unset, .unset]) rfl (q := 55) rfl ?_
    refine own_aload X8 hx (hb hby at_55) rfl rfl (q := 57) rfl ?_
    refine own_aload X8 hx (hb hby at_57) rfl rfl (q := 59) rfl ?_
    refine own_callV X8 hx hZ hown (hw _ (List.mem_of_getElem? (i := 56) rfl)) (hw _ (List.mem_of_getElem? (i := 57) rfl)) (hw _ (List.mem_of_getElem? (i := 59) rfl)) (hw _ (List.mem_of_getElem? (i := 58) rfl)) (hw _ (List.mem_of_getElem? (i := 60) rfl)) (hw _ (List.mem_of_getElem? (i := 34) rfl)) (by decide) (own_rme1 l Z a0 hw [] b7 b3 dE 0 fE h8_ h0.size z8_ o7 RA8 R0x8 R1x8 R2x8 SD_8 AD_8 ne_dE_b7 EX3_8 ne_b3_b7) RA8 (by decide) (by decide) e8 (by rw [hml]; rfl) (argsL := [(.ref b3)]) (rest := []) (lenOf own_pd15 rfl) rfl (W := 0) rfl (hb hby at_59) (q := 62) rfl rfl (by decide) (by decide) ?_
    rintro _ T9 L9 ⟨b9, rfl, o9, oh9, NL9, K9, RA9, R0x9, R1x9, R2x9, AR9, OV9⟩ X9
    have N9 := Fr.app N8 NL9
    obtain ⟨h9_, e9⟩ : ∃ z, T9.heap = z := ⟨_, rfl⟩
    rw [e9] at K9 RA9 R0x9 R1x9 R2x9 AR9 OV9
    have SD_9 := own_sta_keep SD_8 K9 (nsS (Exa.nostat RA8) ns0)
    have AD_9 := AD_8.keep K9 (ninS ne_dE_b7 nin0)
    have EX3_9 := EX3_8.keep K9
    have EX4_9 := EX4_8.keep K9
    have EX5_9 := EX5_8.keep K9
    have EX6_9 := EX6_8.keep K9
    have RA8_9 := RA8.keep K9
    have KK9 := Keep.trans KK8 K9 (allS (Or.inr o7) all0)
    have hk : _ ≤ h9_.size := Nat.le_trans hk K9.1
    have z9_ : h0.size ≤ h9_.size := Nat.le_trans z8_ K9.1
    obtain ⟨LL9, eL9⟩ : ∃ z, LL8 ++ L9 = z := ⟨_, rfl⟩
    rw [eL9] at X9 N9
    show own_G p e below _ (T9.setTop (mkF m 62 #[.val (.int p1), .val (.int p2), .val (.int p3), .val (.int p4), .val (.int p5), .val (.ref x1), .val (.int tw), .val (.ref b3), .val (.ref b4), .val (.ref b5), .val (.ref b6), .val (.ref b7), .unset, .unset, .unset] [(.int (1 : Int32))]))
    have nx9_b3 : b3 ≠ b9 := Nat.ne_of_lt (Nat.lt_of_lt_of_le EX3_8.lt oh9)
    have nx9_b4 : b4 ≠ b9 := Nat.ne_of_lt (Nat.lt_of_lt_of_le EX4_8.lt oh9)
    have nx9_b5 : b5 ≠ b9 := Nat.ne_of_lt (Nat.lt_of_lt_of_le EX5_8.lt oh9)
    have nx9_b6 : b6 ≠ b9 := Nat.ne_of_lt (Nat.lt_of_lt_of_le EX6_8.lt oh9)
    have nx9_b7 : b7 ≠ b9 := Nat.ne_of_lt (Nat.lt_of_lt_of_le RA8.lt oh9)
    refine own_pop X9 hx (hb hby at_62) rfl (q := 63) rfl ?_
    refine own_iload X9 hx (hb hby at_63) rfl (q := 65) rfl ?_
    refine own_if X9 hx (hb hby at_65) (by decide) (q := 76) rfl (q' := 68) rfl (own_z_eq _) (fun h65 => ?_) (fun h65 => ?_)
    · replace h65 : tw.toInt = 0 := h65
      refine own_newO X9 hx hZ hown (hw _ (List.mem_of_getElem? (i := 87) rfl)) (hw _ (List.mem_of_getElem? (i := 88) rfl)) (hw _ (List.mem_of_getElem? (i := 89) rfl)) e9 (hb hby at_76) (by decide) (by decide) (q := 79) rfl ?_
      intro T10 h10_ b10 g10 X10 e10 E10 A10 D10
      have ne_b3_b10 : b3 ≠ b10 := Nat.ne_of_lt (by rw [g10]; exact EX3_9.lt)
      have ne_b4_b10 : b4 ≠ b10 := Nat.ne_of_lt (by rw [g10]; exact EX4_9.lt)
      have ne_b5_b10 : b5 ≠ b10 := Nat.ne_of_lt (by rw [g10]; exact EX5_9.lt)
      have ne_b6_b10 : b6 ≠ b10 := Nat.ne_of_lt (by rw [g10]; exact EX6_9.lt)
      have ne_b7_b10 : b7 ≠ b10 := Nat.ne_of_lt (by rw [g10]; exact RA9.lt)
      have ne_b9_b10 : b9 ≠ b10 := Nat.ne_of_lt (by rw [g10]; exact AR9.lt)
      have EX3_10 := EX3_9.ext E10
      have EX4_10 := EX4_9.ext E10
      have EX5_10 := EX5_9.ext E10
      have EX6_10 := EX6_9.ext E10
      have RA9_10 := RA9.ext E10
      have R0x9_10 := R0x9.ext E10
      have R1x9_10 := R1x9.ext E10
      have R2x9_10 := R2x9.ext E10
      have AR9_10 := AR9.ext E10
      have KK10 := Keep.ext KK9 E10
      have hk : _ ≤ h10_.size := Nat.le_trans hk E10.1
      have o10 : h0.size ≤ b10 := by rw [g10]; exact z9_
      have z10_ : h0.size ≤ h10_.size := Nat.le_trans z9_ E10.1
      have F10status : Fld Z h10_ b10 "com/example/keyward/keyward/command/Outcome" "status" "Lcom/example/keyward/keyward/command/ExitStatus;" (.null) := D10 (Or.inr (hw _ (List.mem_of_getElem? (i := 100) rfl))) (ty := (.object "com/example/keyward/keyward/command/ExitStatus")) (by decide)
      have F10lines : Fld Z h10_ b10 "com/example/keyward/keyward/command/Outcome" "lines" "Ljava/util/List;" (.null) := D10 (Or.inr (hw _ (List.mem_of_getElem? (i := 102) rfl))) (ty := (.object "java/util/List")) (by decide)
      have F10recorded : Fld Z h10_ b10 "com/example/keyward/keyward/command/Outcome" "recorded" "Ljava/lang/String;" (.null) := D10 (Or.inr (hw _ (List.mem_of_getElem? (i := 104) rfl))) (ty := (.object "java/lang/String")) (by decide)
      refine own_dup X10 hx (hb hby at_79) rfl (q := 80) rfl ?_
      refine own_aload X10 hx (hb hby at_80) rfl rfl (q := 82) rfl ?_
      refine own_aload X10 hx (hb hby at_82) rfl rfl (q := 84) rfl ?_
      refine own_aload X10 hx (hb hby at_84) rfl rfl (q := 86) rfl ?_
      refine own_callN X10 hx hZ rfl hown (hw _ (List.mem_of_getElem? (i := 90) rfl)) (hw _ (List.mem_of_getElem? (i := 91) rfl)) (hw _ (List.mem_of_getElem? (i := 89) rfl)) (hw _ (List.mem_of_getElem? (i := 92) rfl)) (by decide) (own_rmo l Z a0 hw [] b10 x1 b7 b5  h10_ h0.size z10_ o10 A10 F10status F10lines F10recorded) (by decide) (by decide) e10 (by rw [hml]; rfl) (argsL := [(.ref x1), (.ref b7), (.ref b5)]) (rest := [(.ref b10)]) (lenOf own_pd9 rfl) rfl (W := 1) rfl (hb hby at_86) (q := 89) rfl rfl (by decide) (by decide) ?_
      rintro _ T11 L11 ⟨rfl, NL11, K11, RA11, R0x11, R1x11, R2x11⟩ X11
      have N11 := Fr.app N9 NL11
      obtain ⟨h11_, e11⟩ : ∃ z, T11.heap = z := ⟨_, rfl⟩
      rw [e11] at K11 RA11 R0x11 R1x11 R2x11
      have EX3_11 := EX3_10.keep K11
      have EX4_11 := EX4_10.keep K11
      have EX5_11 := EX5_10.keep K11
      have EX6_11 := EX6_10.keep K11
      have RA9_11 := RA9_10.keep K11
      have R0x9_11 := R0x9_10.keep K11 (ninS ne_b7_b10 nin0)
      have R1x9_11 := R1x9_10.keep K11 (ninS ne_b7_b10 nin0)
      have R2x9_11 := R2x9_10.keep K11 (ninS ne_b7_b10 nin0)
      have AR9_11 := AR9_10.keep K11 (ninS ne_b9_b10 nin0)
      have A10_11 := A10.keep K11
      have KK11 := Keep.trans KK10 K11 (allS (Or.inr o10) all0)
      have hk : _ ≤ h11_.size := Nat.le_trans hk K11.1
      have z11_ : h0.size ≤ h11_.size := Nat.le_trans z10_ K11.1
      obtain ⟨LL11, eL11⟩ : ∃ z, LL9 ++ L11 = z := ⟨_, rfl⟩
      rw [eL11] at X11 N11
      show own_G p e below _ (T11.setTop (mkF m 89 #[.val (.int p1), .val (.int p2), .val (.int p3), .val (.int p4), .val (.int p5), .val (.ref x1), .val (.int tw), .val (.ref b3), .val (.ref b4), .val (.ref b5), .val (.ref b6), .val (.ref b7), .unset, .unset, .unset] [(.ref b10)]))
      refine own_astore X11 hx (hb hby at_89) rfl (l' := #[.val (.int p1), .val (.int p2), .val (.int p3), .val (.int p4), .val (.int p5), .val (.ref x1), .val (.int tw), .val (.ref b3), .val (.ref b4), .val (.ref b5), .val (.ref b6), .val (.ref b7), .val (.ref b10), .unset, .unset]) rfl (q := 91) rfl ?_
      refine own_aload X11 hx (hb hby at_91) rfl rfl (q := 93) rfl ?_
      refine own_aload X11 hx (hb hby at_93) rfl rfl (q := 95) rfl ?_
      refine own_callV X11 hx hZ hown (hw _ (List.mem_of_getElem? (i := 105) rfl)) (hw _ (List.mem_of_getElem? (i := 106) rfl)) (hw _ (List.mem_of_getElem? (i := 108) rfl)) (hw _ (List.mem_of_getElem? (i := 107) rfl)) (hw _ (List.mem_of_getElem? (i := 109) rfl)) (hw _ (List.mem_of_getElem? (i := 89) rfl)) (by decide) (own_rmra l Z a0 hw [] b10 b6 x1 b7 h11_ h0.size z11_ R0x11 R1x11) RA11 (by decide) (by decide) e11 (by rw [hml]; rfl) (argsL := [(.ref b6)]) (rest := []) (lenOf own_pd16 rfl) rfl (W := 0) rfl (hb hby at_95) (q := 98) rfl rfl (by decide) (by decide) ?_
      rintro _ T12 L12 ⟨r12, rfl, o12, oh12, NL12, K12, RA12, R0x12, R1x12, R2x12⟩ X12
      have N12 := Fr.app N11 NL12
      obtain ⟨h12_, e12⟩ : ∃ z, T12.heap = z := ⟨_, rfl⟩
      rw [e12] at K12 RA12 R0x12 R1x12 R2x12
      have EX3_12 := EX3_11.keep K12
      have EX4_12 := EX4_11.keep K12
      have EX5_12 := EX5_11.keep K12
      have EX6_12 := EX6_11.keep K12
      have RA9_12 := RA9_11.keep K12
      have R0x9_12 := R0x9_11.keep K12 nin0
      have R1x9_12 := R1x9_11.keep K12 nin0
      have R2x9_12 := R2x9_11.keep K12 nin0
      have AR9_12 := AR9_11.keep K12 nin0
      have RA11_12 := RA11.keep K12
      have R0x11_12 := R0x11.keep K12 nin0
      have R1x11_12 := R1x11.keep K12 nin0
      have R2x11_12 := R2x11.keep K12 nin0
      have KK12 := Keep.trans KK11 K12 all0
      have hk : _ ≤ h12_.size := Nat.le_trans hk K12.1
      have z12_ : h0.size ≤ h12_.size := Nat.le_trans z11_ K12.1
      obtain ⟨LL12, eL12⟩ : ∃ z, LL11 ++ L12 = z := ⟨_, rfl⟩
      rw [eL12] at X12 N12
      show own_G p e below _ (T12.setTop (mkF m 98 #[.val (.int p1), .val (.int p2), .val (.int p3), .val (.int p4), .val (.int p5), .val (.ref x1), .val (.int tw), .val (.ref b3), .val (.ref b4), .val (.ref b5), .val (.ref b6), .val (.ref b7), .val (.ref b10), .unset, .unset] [(.ref r12)]))
      refine own_astore X12 hx (hb hby at_98) rfl (l' := #[.val (.int p1), .val (.int p2), .val (.int p3), .val (.int p4), .val (.int p5), .val (.ref x1), .val (.int tw), .val (.ref b3), .val (.ref b4), .val (.ref b5), .val (.ref b6), .val (.ref b7), .val (.ref b10), .val (.ref r12), .unset]) rfl (q := 100) rfl ?_
      refine own_aload X12 hx (hb hby at_100) rfl rfl (q := 102) rfl ?_
      refine own_ifnonnullY X12 hx (hb hby at_102) (by decide) (q := 107) rfl ?_
      refine own_aload X12 hx (hb hby at_107) rfl rfl (q := 109) rfl ?_
      refine own_callVP X12 hx hZ hown (hw _ (List.mem_of_getElem? (i := 112) rfl)) (hw _ (List.mem_of_getElem? (i := 113) rfl)) (hw _ (List.mem_of_getElem? (i := 115) rfl)) (hw _ (List.mem_of_getElem? (i := 114) rfl)) (hw _ (List.mem_of_getElem? (i := 116) rfl)) (hw _ (List.mem_of_getElem? (i := 89) rfl)) (by decide) (own_rmgs l Z a0 hw [] r12 x1 h12_ R0x12) RA12 (by decide) (by decide) e12 (by rw [hml]; rfl) (argsL := []) (rest := []) (lenOf own_pd17 rfl) rfl (W := 0) rfl (hb hby at_109) (q := 112) rfl rfl rfl rfl (by decide) (by decide) ?_
      rintro _ T13 rfl X13 e13
      refine own_aload X13 hx (hb hby at_112) rfl rfl (q := 114) rfl ?_
      refine own_acmp X13 hx (hb hby at_114) (P := True) (by decide) (q := 119) rfl (q' := 117) rfl rfl rfl (by first | rfl | simp [XT.acmp]) (fun h114 => ?_) (fun h114 => ?_)
      · replace h114 : True := h114
        refine own_aload X13 hx (hb hby at_119) rfl rfl (q := 121) rfl ?_
        refine own_callVP X13 hx hZ hown (hw _ (List.mem_of_getElem? (i := 117) rfl)) (hw _ (List.mem_of_getElem? (i := 118) rfl)) (hw _ (List.mem_of_getElem? (i := 120) rfl)) (hw _ (List.mem_of_getElem? (i := 119) rfl)) (hw _ (List.mem_of_getElem? (i := 121) rfl)) (hw _ (List.mem_of_getElem? (i := 89) rfl)) (by decide) (own_rmgl l Z a0 hw [] r12 b7 h12_ R1x12) RA12 (by decide) (by decide) e13 (by rw [hml]; rfl) (argsL := []) (rest := []) (lenOf own_pd18 rfl) rfl (W := 0) rfl (hb hby at_121) (q := 124) rfl rfl rfl rfl (by decide) (by decide) ?_
        rintro _ T14 rfl X14 e14
        refine own_astore X14 hx (hb hby at_124) rfl (l' := #[.val (.int p1), .val (.int p2), .val (.int p3), .val (.int p4), .val (.int p5), .val (.ref x1), .val (.int tw), .val (.ref b3), .val (.ref b4), .val (.ref b5), .val (.ref b6), .val (.ref b7), .val (.ref b10), .val (.ref r12), .val (.ref b7)]) rfl (q := 126) rfl ?_
        refine own_aload X14 hx (hb hby at_126) rfl rfl (q := 128) rfl ?_
        refine own_ifnullN X14 hx (hb hby at_128) (q := 131) rfl ?_
        refine own_aload X14 hx (hb hby at_131) rfl rfl (q := 133) rfl ?_
        refine own_callIP X14 hx hZ hown (hw _ (List.mem_of_getElem? (i := 122) rfl)) (hw _ (List.mem_of_getElem? (i := 123) rfl)) (hw _ (List.mem_of_getElem? (i := 124) rfl)) (by first | rfl | simp [Cond.onTables, Cond.keepsFace, Cond.keeps, Cond.steady, Cond.faceAtom]) (hw _ (List.mem_of_getElem? (i := 125) rfl)) (hw _ (List.mem_of_getElem? (i := 126) rfl)) (hw _ (List.mem_of_getElem? (i := 127) rfl)) (hw _ (List.mem_of_getElem? (i := 128) rfl)) (hw _ (List.mem_of_getElem? (i := 129) rfl)) (hw _ (List.mem_of_getElem? (i := 130) rfl)) (hw _ (List.mem_of_getElem? (i := 34) rfl)) (by decide) (own_rmsz l Z a0 hw [] b7 (1 : Int32) h12_ R1x9_12) RA9_12 (by decide) (by decide) e14 (by rw [hml]; rfl) (argsL := []) (rest := []) (lenOf own_pd19 rfl) rfl (W := 0) rfl (hb hby at_133) (q := 138) rfl rfl rfl rfl (by decide) (by decide) ?_
        rintro _ T15 rfl X15 e15
        refine own_aload X15 hx (hb hby at_138) rfl rfl (q := 140) rfl ?_
        refine own_callVP X15 hx hZ hown (hw _ (List.mem_of_getElem? (i := 131) rfl)) (hw _ (List.mem_of_getElem? (i := 132) rfl)) (hw _ (List.mem_of_getElem? (i := 133) rfl)) (hw _ (List.mem_of_getElem? (i := 126) rfl)) (hw _ (List.mem_of_getElem? (i := 130) rfl)) (hw _ (List.mem_of_getElem? (i := 34) rfl)) (by decide) (own_rmsz l Z a0 hw [] b7 (1 : Int32) h12_ R1x9_12) RA9_12 (by decide) (by decide) e15 (by rw [hml]; rfl) (argsL := []) (rest := [(.int (1 : Int32))]) (lenOf own_pd19 rfl) rfl (W := 1) rfl (hb hby at_140) (q := 143) rfl rfl rfl rfl (by decide) (by decide) ?_
        rintro _ T16 rfl X16 e16
        refine own_icmp X16 hx (hb hby at_143) (by decide) (q := 148) rfl (q' := 146) rfl (own_h_eq _ _) (fun h143 => ?_) (fun h143 => ?_)
        · replace h143 : (1 : Int) = (1 : Int) := h143
          refine own_aload X16 hx (hb hby at_148) rfl rfl (q := 150) rfl ?_
          refine own_aload X16 hx (hb hby at_150) rfl rfl (q := 152) rfl ?_
          refine own_iconst X16 hx (hb hby at_152) (v := (0 : Int32)) rfl (q := 153) rfl ?_
          refine own_callIP X16 hx hZ hown (hw _ (List.mem_of_getElem? (i := 134) rfl)) (hw _ (List.mem_of_getElem? (i := 135) rfl)) (hw _ (List.mem_of_getElem? (i := 136) rfl)) (by first | rfl | simp [Cond.onTables, Cond.keepsFace, Cond.keeps, Cond.steady, Cond.faceAtom]) (hw _ (List.mem_of_getElem? (i := 137) rfl)) (hw _ (List.mem_of_getElem? (i := 138) rfl)) (hw _ (List.mem_of_getElem? (i := 139) rfl)) (hw _ (List.mem_of_getElem? (i := 140) rfl)) (hw _ (List.mem_of_getElem? (i := 129) rfl)) (hw _ (List.mem_of_getElem? (i := 141) rfl)) (hw _ (List.mem_of_getElem? (i := 34) rfl)) (by decide) (own_rmgt l Z a0 hw [] b7 (0 : Int32) b9 b3 (own_upd (fun _ => .null) 0 (.ref b3)) 0 (1 : Int32) h12_ R0x9_12 AR9_12 (by simp [own_upd]) rfl (by decide) RA9_12 R1x9_12 (by decide)) RA9_12 (by decide) (by decide) e16 (by rw [hml]; rfl) (argsL := [(.int (0 : Int32))]) (rest := [(.ref b3)]) (lenOf own_pd11 rfl) rfl (W := 1) rfl (hb hby at_153) (q := 158) rfl rfl rfl rfl (by decide) (by decide) ?_
          rintro _ T17 rfl X17 e17
          refine own_callVP X17 hx hZ hown (hw _ (List.mem_of_getElem? (i := 155) rfl)) (hw _ (List.mem_of_getElem? (i := 156) rfl)) (hw _ (List.mem_of_getElem? (i := 158) rfl)) (hw _ (List.mem_of_getElem? (i := 157) rfl)) (hw _ (List.mem_of_getElem? (i := 159) rfl)) (hw _ (List.mem_of_getElem? (i := 12) rfl)) (by decide) (own_rmeq l Z a0 hw [] b3 b3  h12_ rfl) EX3_12 (by decide) (by decide) e17 (by rw [hml]; rfl) (argsL := [(.ref b3)]) (rest := []) (lenOf own_pd15 rfl) rfl (W := 0) rfl (hb hby at_158) (q := 161) rfl rfl rfl rfl (by decide) (by decide) ?_
          rintro _ T18 rfl X18 e18
          refine own_if X18 hx (hb hby at_161) (by decide) (q := 166) rfl (q' := 164) rfl (own_z_ne _) (fun h161 => ?_) (fun h161 => ?_)
          · replace h161 : (1 : Int) ≠ 0 := h161
            refine own_iload X18 hx (hb hby at_166) rfl (q := 168) rfl ?_
            refine own_if X18 hx (hb hby at_168) (by decide) (q := 189) rfl (q' := 171) rfl (own_z_eq _) (fun h168 => ?_) (fun h168 => ?_)
            · replace h168 : tw.toInt = 0 := h168
              refine own_aload X18 hx (hb hby at_189) rfl rfl (q := 191) rfl ?_
              refine own_aload X18 hx (hb hby at_191) rfl rfl (q := 193) rfl ?_
              refine own_callVP X18 hx hZ hown (hw _ (List.mem_of_getElem? (i := 160) rfl)) (hw _ (List.mem_of_getElem? (i := 161) rfl)) (hw _ (List.mem_of_getElem? (i := 163) rfl)) (hw _ (List.mem_of_getElem? (i := 162) rfl)) (hw _ (List.mem_of_getElem? (i := 164) rfl)) (hw _ (List.mem_of_getElem? (i := 89) rfl)) (by decide) (own_rmgc l Z a0 hw [] r12 b6 h12_ R2x12) RA12 (by decide) (by decide) e18 (by rw [hml]; rfl) (argsL := []) (rest := [(.ref b6)]) (lenOf own_pd20 rfl) rfl (W := 1) rfl (hb hby at_193) (q := 196) rfl rfl rfl rfl (by decide) (by decide) ?_
              rintro _ T19 rfl X19 e19
              refine own_callVP X19 hx hZ hown (hw _ (List.mem_of_getElem? (i := 155) rfl)) (hw _ (List.mem_of_getElem? (i := 156) rfl)) (hw _ (List.mem_of_getElem? (i := 158) rfl)) (hw _ (List.mem_of_getElem? (i := 157) rfl)) (hw _ (List.mem_of_getElem? (i := 159) rfl)) (hw _ (List.mem_of_getElem? (i := 12) rfl)) (by decide) (own_rmeq l Z a0 hw [] b6 b6  h12_ rfl) EX6_12 (by decide) (by decide) e19 (by rw [hml]; rfl) (argsL := [(.ref b6)]) (rest := []) (lenOf own_pd15 rfl) rfl (W := 0) rfl (hb hby at_196) (q := 199) rfl rfl rfl rfl (by decide) (by decide) ?_
              rintro _ T20 rfl X20 e20
              refine own_if X20 hx (hb hby at_199) (by decide) (q := 204) rfl (q' := 202) rfl (own_z_ne _) (fun h199 => ?_) (fun h199 => ?_)
              · replace h199 : (1 : Int) ≠ 0 := h199
                refine own_aload X20 hx (hb hby at_204) rfl rfl (q := 206) rfl ?_
                refine own_callVP X20 hx hZ hown (hw _ (List.mem_of_getElem? (i := 112) rfl)) (hw _ (List.mem_of_getElem? (i := 113) rfl)) (hw _ (List.mem_of_getElem? (i := 115) rfl)) (hw _ (List.mem_of_getElem? (i := 114) rfl)) (hw _ (List.mem_of_getElem? (i := 116) rfl)) (hw _ (List.mem_of_getElem? (i := 89) rfl)) (by decide) (own_rmgs l Z a0 hw [] b10 x1 h12_ R0x11_12) RA11_12 (by decide) (by decide) e20 (by rw [hml]; rfl) (argsL := []) (rest := []) (lenOf own_pd17 rfl) rfl (W := 0) rfl (hb hby at_206) (q := 209) rfl rfl rfl rfl (by decide) (by decide) ?_
                rintro _ T21 rfl X21 e21
                refine own_aload X21 hx (hb hby at_209) rfl rfl (q := 211) rfl ?_
                refine own_acmp X21 hx (hb hby at_211) (P := False) (by decide) (q := 224) rfl (q' := 214) rfl rfl rfl (by first | rfl | simp [XT.acmp]) (fun h211 => ?_) (fun h211 => ?_)
                · replace h211 : False := h211
                  exfalso; exact h211
                · replace h211 : ¬ (False) := h211
                  refine own_aload X21 hx (hb hby at_214) rfl rfl (q := 216) rfl ?_
                  refine own_callVP X21 hx hZ hown (hw _ (List.mem_of_getElem? (i := 160) rfl)) (hw _ (List.mem_of_getElem? (i := 161) rfl)) (hw _ (List.mem_of_getElem? (i := 163) rfl)) (hw _ (List.mem_of_getElem? (i := 162) rfl)) (hw _ (List.mem_of_getElem? (i := 164) rfl)) (hw _ (List.mem_of_getElem? (i := 89) rfl)) (by decide) (own_rmgc l Z a0 hw [] b10 b5 h12_ R2x11_12) RA11_12 (by decide) (by decide) e21 (by rw [hml]; rfl) (argsL := []) (rest := []) (lenOf own_pd20 rfl) rfl (W := 0) rfl (hb hby at_216) (q := 219) rfl rfl rfl rfl (by decide) (by decide) ?_
                  rintro _ T22 rfl X22 e22
                  refine own_aload X22 hx (hb hby at_219) rfl rfl (q := 221) rfl ?_
                  refine own_acmp X22 hx (hb hby at_221) (P := True) (by decide) (q := 226) rfl (q' := 224) rfl rfl rfl (by first | rfl | simp [XT.acmp]) (fun h221 => ?_) (fun h221 => ?_)
                  · replace h221 : True := h221
                    refine own_iconst X22 hx (hb hby at_226) (v := (1 : Int32)) rfl (q := 227) rfl ?_
                    exact own_VretN X22 hx hS hk e22 (t := .boolean) hret hlk (by simp) (hb hby at_227) (by decide) (by decide) (w := 1) rfl ⟨rfl, N12⟩
                  · replace h221 : ¬ (True) := h221
                    exfalso; exact h221 trivial
              · replace h199 : ¬ ((1 : Int) ≠ 0) := h199
                exact absurd h199 (by decide)
            · replace h168 : ¬ (tw.toInt = 0) := h168
              exfalso; omega
          · replace h161 : ¬ ((1 : Int) ≠ 0) := h161
            exact absurd h161 (by decide)
        · replace h143 : ¬ ((1 : Int) = (1 : Int)) := h143
          exact absurd h143 (by decide)
      · replace h114 : ¬ (True) := h114
        exfalso; exact h114 trivial
    · replace h65 : ¬ (tw.toInt = 0) := h65
      refine own_aload X9 hx (hb hby at_68) rfl rfl (q := 70) rfl ?_
      refine own_aload X9 hx (hb hby at_70) rfl rfl (q := 72) rfl ?_
      refine own_callV X9 hx hZ hown (hw _ (List.mem_of_getElem? (i := 56) rfl)) (hw _ (List.mem_of_getElem? (i := 57) rfl)) (hw _ (List.mem_of_getElem? (i := 59) rfl)) (hw _ (List.mem_of_getElem? (i := 58) rfl)) (hw _ (List.mem_of_getElem? (i := 60) rfl)) (hw _ (List.mem_of_getElem? (i := 34) rfl)) (by decide) (own_rme2 l Z a0 hw [] b7 b4 b9 (0 + 1) (own_upd (fun _ => .null) 0 (.ref b3)) h9_ h0.size z9_ o7 o9 RA9 R0x9 R1x9 R2x9 AR9 OV9 EX4_9 nx9_b7.symm ne_b4_b7) RA9 (by decide) (by decide) e9 (by rw [hml]; rfl) (argsL := [(.ref b4)]) (rest := []) (lenOf own_pd15 rfl) rfl (W := 0) rfl (hb hby at_72) (q := 75) rfl rfl (by decide) (by decide) ?_
      rintro _ T23 L23 ⟨rfl, NL23, K23, RA23, R0x23, R1x23, R2x23, AR23, OV23⟩ X23
      have N23 := Fr.app N9 NL23
      obtain ⟨h23_, e23⟩ : ∃ z, T23.heap = z := ⟨_, rfl⟩
      rw [e23] at K23 RA23 R0x23 R1x23 R2x23 AR23 OV23
      have EX3_23 := EX3_9.keep K23
      have EX4_23 := EX4_9.keep K23
      have EX5_23 := EX5_9.keep K23
      have EX6_23 := EX6_9.keep K23
      have RA9_23 := RA9.keep K23
      have KK23 := Keep.trans KK9 K23 (allS (Or.inr o7) (allS (Or.inr o9) all0))
      have hk : _ ≤ h23_.size := Nat.le_trans hk K23.1
      have z23_ : h0.size ≤ h23_.size := Nat.le_trans z9_ K23.1
      obtain ⟨LL23, eL23⟩ : ∃ z, LL9 ++ L23 = z := ⟨_, rfl⟩
      rw [eL23] at X23 N23
      show own_G p e below _ (T23.setTop (mkF m 75 #[.val (.int p1), .val (.int p2), .val (.int p3), .val (.int p4), .val (.int p5), .val (.ref x1), .val (.int tw), .val (.ref b3), .val (.ref b4), .val (.ref b5), .val (.ref b6), .val (.ref b7), .unset, .unset, .unset] [(.int (1 : Int32))]))
      refine own_pop X23 hx (hb hby at_75) rfl (q := 76) rfl ?_
      refine own_newO X23 hx hZ hown (hw _ (List.mem_of_getElem? (i := 87) rfl)) (hw _ (List.mem_of_getElem? (i := 88) rfl)) (hw _ (List.mem_of_getElem? (i := 89) rfl)) e23 (hb hby at_76) (by decide) (by decide) (q := 79) rfl ?_
      intro T24 h24_ b24 g24 X24 e24 E24 A24 D24
      have ne_b3_b24 : b3 ≠ b24 := Nat.ne_of_lt (by rw [g24]; exact EX3_23.lt)
      have ne_b4_b24 : b4 ≠ b24 := Nat.ne_of_lt (by rw [g24]; exact EX4_23.lt)
      have ne_b5_b24 : b5 ≠ b24 := Nat.ne_of_lt (by rw [g24]; exact EX5_23.lt)
      have ne_b6_b24 : b6 ≠ b24 := Nat.ne_of_lt (by rw [g24]; exact EX6_23.lt)
      have ne_b7_b24 : b7 ≠ b24 := Nat.ne_of_lt (by rw [g24]; exact RA23.lt)
      have ne_b9_b24 : b9 ≠ b24 := Nat.ne_of_lt (by rw [g24]; exact AR23.lt)
      have EX3_24 := EX3_23.ext E24
      have EX4_24 := EX4_23.ext E24
      have EX5_24 := EX5_23.ext E24
      have EX6_24 := EX6_23.ext E24
      have RA23_24 := RA23.ext E24
      have R0x23_24 := R0x23.ext E24
      have R1x23_24 := R1x23.ext E24
      have R2x23_24 := R2x23.ext E24
      have AR23_24 := AR23.ext E24
      have KK24 := Keep.ext KK23 E24
      have hk : _ ≤ h24_.size := Nat.le_trans hk E24.1
      have o24 : h0.size ≤ b24 := by rw [g24]; exact z23_
      have z24_ : h0.size ≤ h24_.size := Nat.le_trans z23_ E24.1
      have F24status : Fld Z h24_ b24 "com/example/keyward/keyward/command/Outcome" "status" "Lcom/example/keyward/keyward/command/ExitStatus;" (.null) := D24 (Or.inr (hw _ (List.mem_of_getElem? (i := 100) rfl))) (ty := (.object "com/example/keyward/keyward/command/ExitStatus")) (by decide)
      have F24lines : Fld Z h24_ b24 "com/example/keyward/keyward/command/Outcome" "lines" "Ljava/util/List;" (.null) := D24 (Or.inr (hw _ (List.mem_of_getElem? (i := 102) rfl))) (ty := (.object "java/util/List")) (by decide)
      have F24recorded : Fld Z h24_ b24 "com/example/keyward/keyward/command/Outcome" "recorded" "Ljava/lang/String;" (.null) := D24 (Or.inr (hw _ (List.mem_of_getElem? (i := 104) rfl))) (ty := (.object "java/lang/String")) (by decide)
      refine own_dup X24 hx (hb hby at_79) rfl (q := 80) rfl ?_
      refine own_aload X24 hx (hb hby at_80) rfl rfl (q := 82) rfl ?_
      refine own_aload X24 hx (hb hby at_82) rfl rfl (q := 84) rfl ?_
      refine own_aload X24 hx (hb hby at_84) rfl rfl (q := 86) rfl ?_
      refine own_callN X24 hx hZ rfl hown (hw _ (List.mem_of_getElem? (i := 90) rfl)) (hw _ (List.mem_of_getElem? (i := 91) rfl)) (hw _ (List.mem_of_getElem? (i := 89) rfl)) (hw _ (List.mem_of_getElem? (i := 92) rfl)) (by decide) (own_rmo l Z a0 hw [] b24 x1 b7 b5  h24_ h0.size z24_ o24 A24 F24status F24lines F24recorded) (by decide) (by decide) e24 (by rw [hml]; rfl) (argsL := [(.ref x1), (.ref b7), (.ref b5)]) (rest := [(.ref b24)]) (lenOf own_pd9 rfl) rfl (W := 1) rfl (hb hby at_86) (q := 89) rfl rfl (by decide) (by decide) ?_
      rintro _ T25 L25 ⟨rfl, NL25, K25, RA25, R0x25, R1x25, R2x25⟩ X25
      have N25 := Fr.app N23 NL25
      obtain ⟨h25_, e25⟩ : ∃ z, T25.heap = z := ⟨_, rfl⟩
      rw [e25] at K25 RA25 R0x25 R1x25 R2x25
      have EX3_25 := EX3_24.keep K25
      have EX4_25 := EX4_24.keep K25
      have EX5_25 := EX5_24.keep K25
      have EX6_25 := EX6_24.keep K25
      have RA23_25 := RA23_24.keep K25
      have R0x23_25 := R0x23_24.keep K25 (ninS ne_b7_b24 nin0)
      have R1x23_25 := R1x23_24.keep K25 (ninS ne_b7_b24 nin0)
      have R2x23_25 := R2x23_24.keep K25 (ninS ne_b7_b24 nin0)
      have AR23_25 := AR23_24.keep K25 (ninS ne_b9_b24 nin0)
      have A24_25 := A24.keep K25
      have KK25 := Keep.trans KK24 K25 (allS (Or.inr o24) all0)
      have hk : _ ≤ h25_.size := Nat.le_trans hk K25.1
      have z25_ : h0.size ≤ h25_.size := Nat.le_trans z24_ K25.1
      obtain ⟨LL25, eL25⟩ : ∃ z, LL23 ++ L25 = z := ⟨_, rfl⟩
      rw [eL25] at X25 N25
      show own_G p e below _ (T25.setTop (mkF m 89 #[.val (.int p1), .val (.int p2), .val (.int p3), .val (.int p4), .val (.int p5), .val (.ref x1), .val (.int tw), .val (.ref b3), .val (.ref b4), .val (.ref b5), .val (.ref b6), .val (.ref b7), .unset, .unset, .unset] [(.ref b24)]))
      refine own_astore X25 hx (hb hby at_89) rfl (l' := #[.val (.int p1), .val (.int p2), .val (.int p3), .val (.int p4), .val (.int p5), .val (.ref x1), .val (.int tw), .val (.ref b3), .val (.ref b4), .val (.ref b5), .val (.ref b6), .val (.ref b7), .val (.ref b24), .unset, .unset]) rfl (q := 91) rfl ?_
      refine own_aload X25 hx (hb hby at_91) rfl rfl (q := 93) rfl ?_
      refine own_aload X25 hx (hb hby at_93) rfl rfl (q := 95) rfl ?_
      refine own_callV X25 hx hZ hown (hw _ (List.mem_of_getElem? (i := 105) rfl)) (hw _ (List.mem_of_getElem? (i := 106) rfl)) (hw _ (List.mem_of_getElem? (i := 108) rfl)) (hw _ (List.mem_of_getElem? (i := 107) rfl)) (hw _ (List.mem_of_getElem? (i := 109) rfl)) (hw _ (List.mem_of_getElem? (i := 89) rfl)) (by decide) (own_rmra l Z a0 hw [] b24 b6 x1 b7 h25_ h0.size z25_ R0x25 R1x25) RA25 (by decide) (by decide) e25 (by rw [hml]; rfl) (argsL := [(.ref b6)]) (rest := []) (lenOf own_pd16 rfl) rfl (W := 0) rfl (hb hby at_95) (q := 98) rfl rfl (by decide) (by decide) ?_
      rintro _ T26 L26 ⟨r26, rfl, o26, oh26, NL26, K26, RA26, R0x26, R1x26, R2x26⟩ X26
      have N26 := Fr.app N25 NL26
      obtain ⟨h26_, e26⟩ : ∃ z, T26.heap = z := ⟨_, rfl⟩
      rw [e26] at K26 RA26 R0x26 R1x26 R2x26
      have EX3_26 := EX3_25.keep K26
      have EX4_26 := EX4_25.keep K26
      have EX5_26 := EX5_25.keep K26
      have EX6_26 := EX6_25.keep K26
      have RA23_26 := RA23_25.keep K26
      have R0x23_26 := R0x23_25.keep K26 nin0
      have R1x23_26 := R1x23_25.keep K26 nin0
      have R2x23_26 := R2x23_25.keep K26 nin0
      have AR23_26 := AR23_25.keep K26 nin0
      have RA25_26 := RA25.keep K26
      have R0x25_26 := R0x25.keep K26 nin0
      have R1x25_26 := R1x25.keep K26 nin0
      have R2x25_26 := R2x25.keep K26 nin0
      have KK26 := Keep.trans KK25 K26 all0
      have hk : _ ≤ h26_.size := Nat.le_trans hk K26.1
      have z26_ : h0.size ≤ h26_.size := Nat.le_trans z25_ K26.1
      obtain ⟨LL26, eL26⟩ : ∃ z, LL25 ++ L26 = z := ⟨_, rfl⟩
      rw [eL26] at X26 N26
      show own_G p e below _ (T26.setTop (mkF m 98 #[.val (.int p1), .val (.int p2), .val (.int p3), .val (.int p4), .val (.int p5), .val (.ref x1), .val (.int tw), .val (.ref b3), .val (.ref b4), .val (.ref b5), .val (.ref b6), .val (.ref b7), .val (.ref b24), .unset, .unset] [(.ref r26)]))
      refine own_astore X26 hx (hb hby at_98) rfl (l' := #[.val (.int p1), .val (.int p2), .val (.int p3), .val (.int p4), .val (.int p5), .val (.ref x1), .val (.int tw), .val (.ref b3), .val (.ref b4), .val (.ref b5), .val (.ref b6), .val (.ref b7), .val (.ref b24), .val (.ref r26), .unset]) rfl (q := 100) rfl ?_
      refine own_aload X26 hx (hb hby at_100) rfl rfl (q := 102) rfl ?_
      refine own_ifnonnullY X26 hx (hb hby at_102) (by decide) (q := 107) rfl ?_
      refine own_aload X26 hx (hb hby at_107) rfl rfl (q := 109) rfl ?_
      refine own_callVP X26 hx hZ hown (hw _ (List.mem_of_getElem? (i := 112) rfl)) (hw _ (List.mem_of_getElem? (i := 113) rfl)) (hw _ (List.mem_of_getElem? (i := 115) rfl)) (hw _ (List.mem_of_getElem? (i := 114) rfl)) (hw _ (List.mem_of_getElem? (i := 116) rfl)) (hw _ (List.mem_of_getElem? (i := 89) rfl)) (by decide) (own_rmgs l Z a0 hw [] r26 x1 h26_ R0x26) RA26 (by decide) (by decide) e26 (by rw [hml]; rfl) (argsL := []) (rest := []) (lenOf own_pd17 rfl) rfl (W := 0) rfl (hb hby at_109) (q := 112) rfl rfl rfl rfl (by decide) (by decide) ?_
      rintro _ T27 rfl X27 e27
      refine own_aload X27 hx (hb hby at_112) rfl rfl (q := 114) rfl ?_
      refine own_acmp X27 hx (hb hby at_114) (P := True) (by decide) (q := 119) rfl (q' := 117) rfl rfl rfl (by first | rfl | simp [XT.acmp]) (fun h114 => ?_) (fun h114 => ?_)
      · replace h114 : True := h114
        refine own_aload X27 hx (hb hby at_119) rfl rfl (q := 121) rfl ?_
        refine own_callVP X27 hx hZ hown (hw _ (List.mem_of_getElem? (i := 117) rfl)) (hw _ (List.mem_of_getElem? (i := 118) rfl)) (hw _ (List.mem_of_getElem? (i := 120) rfl)) (hw _ (List.mem_of_getElem? (i := 119) rfl)) (hw _ (List.mem_of_getElem? (i := 121) rfl)) (hw _ (List.mem_of_getElem? (i := 89) rfl)) (by decide) (own_rmgl l Z a0 hw [] r26 b7 h26_ R1x26) RA26 (by decide) (by decide) e27 (by rw [hml]; rfl) (argsL := []) (rest := []) (lenOf own_pd18 rfl) rfl (W := 0) rfl (hb hby at_121) (q := 124) rfl rfl rfl rfl (by decide) (by decide) ?_
        rintro _ T28 rfl X28 e28
        refine own_astore X28 hx (hb hby at_124) rfl (l' := #[.val (.int p1), .val (.int p2), .val (.int p3), .val (.int p4), .val (.int p5), .val (.ref x1), .val (.int tw), .val (.ref b3), .val (.ref b4), .val (.ref b5), .val (.ref b6), .val (.ref b7), .val (.ref b24), .val (.ref r26), .val (.ref b7)]) rfl (q := 126) rfl ?_
        refine own_aload X28 hx (hb hby at_126) rfl rfl (q := 128) rfl ?_
        refine own_ifnullN X28 hx (hb hby at_128) (q := 131) rfl ?_
        refine own_aload X28 hx (hb hby at_131) rfl rfl (q := 133) rfl ?_
        refine own_callIP X28 hx hZ hown (hw _ (List.mem_of_getElem? (i := 122) rfl)) (hw _ (List.mem_of_getElem? (i := 123) rfl)) (hw _ (List.mem_of_getElem? (i := 124) rfl)) (by first | rfl | simp [Cond.onTables, Cond.keepsFace, Cond.keeps, Cond.steady, Cond.faceAtom]) (hw _ (List.mem_of_getElem? (i := 125) rfl)) (hw _ (List.mem_of_getElem? (i := 126) rfl)) (hw _ (List.mem_of_getElem? (i := 127) rfl)) (hw _ (List.mem_of_getElem? (i := 128) rfl)) (hw _ (List.mem_of_getElem? (i := 129) rfl)) (hw _ (List.mem_of_getElem? (i := 130) rfl)) (hw _ (List.mem_of_getElem? (i := 34) rfl)) (by decide) (own_rmsz l Z a0 hw [] b7 (2 : Int32) h26_ R1x23_26) RA23_26 (by decide) (by decide) e28 (by rw [hml]; rfl) (argsL := []) (rest := []) (lenOf own_pd19 rfl) rfl (W := 0) rfl (hb hby at_133) (q := 138) rfl rfl rfl rfl (by decide) (by decide) ?_
        rintro _ T29 rfl X29 e29
        refine own_aload X29 hx (hb hby at_138) rfl rfl (q := 140) rfl ?_
        refine own_callVP X29 hx hZ hown (hw _ (List.mem_of_getElem? (i := 131) rfl)) (hw _ (List.mem_of_getElem? (i := 132) rfl)) (hw _ (List.mem_of_getElem? (i := 133) rfl)) (hw _ (List.mem_of_getElem? (i := 126) rfl)) (hw _ (List.mem_of_getElem? (i := 130) rfl)) (hw _ (List.mem_of_getElem? (i := 34) rfl)) (by decide) (own_rmsz l Z a0 hw [] b7 (2 : Int32) h26_ R1x23_26) RA23_26 (by decide) (by decide) e29 (by rw [hml]; rfl) (argsL := []) (rest := [(.int (2 : Int32))]) (lenOf own_pd19 rfl) rfl (W := 1) rfl (hb hby at_140) (q := 143) rfl rfl rfl rfl (by decide) (by decide) ?_
        rintro _ T30 rfl X30 e30
        refine own_icmp X30 hx (hb hby at_143) (by decide) (q := 148) rfl (q' := 146) rfl (own_h_eq _ _) (fun h143 => ?_) (fun h143 => ?_)
        · replace h143 : (2 : Int) = (2 : Int) := h143
          refine own_aload X30 hx (hb hby at_148) rfl rfl (q := 150) rfl ?_
          refine own_aload X30 hx (hb hby at_150) rfl rfl (q := 152) rfl ?_
          refine own_iconst X30 hx (hb hby at_152) (v := (0 : Int32)) rfl (q := 153) rfl ?_
          refine own_callIP X30 hx hZ hown (hw _ (List.mem_of_getElem? (i := 134) rfl)) (hw _ (List.mem_of_getElem? (i := 135) rfl)) (hw _ (List.mem_of_getElem? (i := 136) rfl)) (by first | rfl | simp [Cond.onTables, Cond.keepsFace, Cond.keeps, Cond.steady, Cond.faceAtom]) (hw _ (List.mem_of_getElem? (i := 137) rfl)) (hw _ (List.mem_of_getElem? (i := 138) rfl)) (hw _ (List.mem_of_getElem? (i := 139) rfl)) (hw _ (List.mem_of_getElem? (i := 140) rfl)) (hw _ (List.mem_of_getElem? (i := 129) rfl)) (hw _ (List.mem_of_getElem? (i := 141) rfl)) (hw _ (List.mem_of_getElem? (i := 34) rfl)) (by decide) (own_rmgt l Z a0 hw [] b7 (0 : Int32) b9 b3 (own_upd (own_upd (fun _ => .null) 0 (.ref b3)) 1 (.ref b4)) 0 (2 : Int32) h26_ R0x23_26 AR23_26 (by simp [own_upd]) rfl (by decide) RA23_26 R1x23_26 (by decide)) RA23_26 (by decide) (by decide) e30 (by rw [hml]; rfl) (argsL := [(.int (0 : Int32))]) (rest := [(.ref b3)]) (lenOf own_pd11 rfl) rfl (W := 1) rfl (hb hby at_153) (q := 158) rfl rfl rfl rfl (by decide) (by decide) ?_
          rintro _ T31 rfl X31 e31
          refine own_callVP X31 hx hZ hown (hw _ (List.mem_of_getElem? (i := 155) rfl)) (hw _ (List.mem_of_getElem? (i := 156) rfl)) (hw _ (List.mem_of_getElem? (i := 158) rfl)) (hw _ (List.mem_of_getElem? (i := 157) rfl)) (hw _ (List.mem_of_getElem? (i := 159) rfl)) (hw _ (List.mem_of_getElem? (i := 12) rfl)) (by decide) (own_rmeq l Z a0 hw [] b3 b3  h26_ rfl) EX3_26 (by decide) (by decide) e31 (by rw [hml]; rfl) (argsL := [(.ref b3)]) (rest := []) (lenOf own_pd15 rfl) rfl (W := 0) rfl (hb hby at_158) (q := 161) rfl rfl rfl rfl (by decide) (by decide) ?_
          rintro _ T32 rfl X32 e32
          refine own_if X32 hx (hb hby at_161) (by decide) (q := 166) rfl (q' := 164) rfl (own_z_ne _) (fun h161 => ?_) (fun h161 => ?_)
          · replace h161 : (1 : Int) ≠ 0 := h161
            refine own_iload X32 hx (hb hby at_166) rfl (q := 168) rfl ?_
            refine own_if X32 hx (hb hby at_168) (by decide) (q := 189) rfl (q' := 171) rfl (own_z_eq _) (fun h168 => ?_) (fun h168 => ?_)
            · replace h168 : tw.toInt = 0 := h168
              exfalso; omega
            · replace h168 : ¬ (tw.toInt = 0) := h168
              refine own_aload X32 hx (hb hby at_171) rfl rfl (q := 173) rfl ?_
              refine own_aload X32 hx (hb hby at_173) rfl rfl (q := 175) rfl ?_
              refine own_iconst X32 hx (hb hby at_175) (v := (1 : Int32)) rfl (q := 176) rfl ?_
              refine own_callIP X32 hx hZ hown (hw _ (List.mem_of_getElem? (i := 134) rfl)) (hw _ (List.mem_of_getElem? (i := 135) rfl)) (hw _ (List.mem_of_getElem? (i := 136) rfl)) (by first | rfl | simp [Cond.onTables, Cond.keepsFace, Cond.keeps, Cond.steady, Cond.faceAtom]) (hw _ (List.mem_of_getElem? (i := 137) rfl)) (hw _ (List.mem_of_getElem? (i := 138) rfl)) (hw _ (List.mem_of_getElem? (i := 139) rfl)) (hw _ (List.mem_of_getElem? (i := 140) rfl)) (hw _ (List.mem_of_getElem? (i := 129) rfl)) (hw _ (List.mem_of_getElem? (i := 141) rfl)) (hw _ (List.mem_of_getElem? (i := 34) rfl)) (by decide) (own_rmgt l Z a0 hw [] b7 (1 : Int32) b9 b4 (own_upd (own_upd (fun _ => .null) 0 (.ref b3)) 1 (.ref b4)) 1 (2 : Int32) h26_ R0x23_26 AR23_26 (by simp [own_upd]) rfl (by decide) RA23_26 R1x23_26 (by decide)) RA23_26 (by decide) (by decide) e32 (by rw [hml]; rfl) (argsL := [(.int (1 : Int32))]) (rest := [(.ref b4)]) (lenOf own_pd11 rfl) rfl (W := 1) rfl (hb hby at_176) (q := 181) rfl rfl rfl rfl (by decide) (by decide) ?_
              rintro _ T33 rfl X33 e33
              refine own_callVP X33 hx hZ hown (hw _ (List.mem_of_getElem? (i := 155) rfl)) (hw _ (List.mem_of_getElem? (i := 156) rfl)) (hw _ (List.mem_of_getElem? (i := 158) rfl)) (hw _ (List.mem_of_getElem? (i := 157) rfl)) (hw _ (List.mem_of_getElem? (i := 159) rfl)) (hw _ (List.mem_of_getElem? (i := 12) rfl)) (by decide) (own_rmeq l Z a0 hw [] b4 b4  h26_ rfl) EX4_26 (by decide) (by decide) e33 (by rw [hml]; rfl) (argsL := [(.ref b4)]) (rest := []) (lenOf own_pd15 rfl) rfl (W := 0) rfl (hb hby at_181) (q := 184) rfl rfl rfl rfl (by decide) (by decide) ?_
              rintro _ T34 rfl X34 e34
              refine own_if X34 hx (hb hby at_184) (by decide) (q := 189) rfl (q' := 187) rfl (own_z_ne _) (fun h184 => ?_) (fun h184 => ?_)
              · replace h184 : (1 : Int) ≠ 0 := h184
                refine own_aload X34 hx (hb hby at_189) rfl rfl (q := 191) rfl ?_
                refine own_aload X34 hx (hb hby at_191) rfl rfl (q := 193) rfl ?_
                refine own_callVP X34 hx hZ hown (hw _ (List.mem_of_getElem? (i := 160) rfl)) (hw _ (List.mem_of_getElem? (i := 161) rfl)) (hw _ (List.mem_of_getElem? (i := 163) rfl)) (hw _ (List.mem_of_getElem? (i := 162) rfl)) (hw _ (List.mem_of_getElem? (i := 164) rfl)) (hw _ (List.mem_of_getElem? (i := 89) rfl)) (by decide) (own_rmgc l Z a0 hw [] r26 b6 h26_ R2x26) RA26 (by decide) (by decide) e34 (by rw [hml]; rfl) (argsL := []) (rest := [(.ref b6)]) (lenOf own_pd20 rfl) rfl (W := 1) rfl (hb hby at_193) (q := 196) rfl rfl rfl rfl (by decide) (by decide) ?_
                rintro _ T35 rfl X35 e35
                refine own_callVP X35 hx hZ hown (hw _ (List.mem_of_getElem? (i := 155) rfl)) (hw _ (List.mem_of_getElem? (i := 156) rfl)) (hw _ (List.mem_of_getElem? (i := 158) rfl)) (hw _ (List.mem_of_getElem? (i := 157) rfl)) (hw _ (List.mem_of_getElem? (i := 159) rfl)) (hw _ (List.mem_of_getElem? (i := 12) rfl)) (by decide) (own_rmeq l Z a0 hw [] b6 b6  h26_ rfl) EX6_26 (by decide) (by decide) e35 (by rw [hml]; rfl) (argsL := [(.ref b6)]) (rest := []) (lenOf own_pd15 rfl) rfl (W := 0) rfl (hb hby at_196) (q := 199) rfl rfl rfl rfl (by decide) (by decide) ?_
                rintro _ T36 rfl X36 e36
                refine own_if X36 hx (hb hby at_199) (by decide) (q := 204) rfl (q' := 202) rfl (own_z_ne _) (fun h199 => ?_) (fun h199 => ?_)
                · replace h199 : (1 : Int) ≠ 0 := h199
                  refine own_aload X36 hx (hb hby at_204) rfl rfl (q := 206) rfl ?_
                  refine own_callVP X36 hx hZ hown (hw _ (List.mem_of_getElem? (i := 112) rfl)) (hw _ (List.mem_of_getElem? (i := 113) rfl)) (hw _ (List.mem_of_getElem? (i := 115) rfl)) (hw _ (List.mem_of_getElem? (i := 114) rfl)) (hw _ (List.mem_of_getElem? (i := 116) rfl)) (hw _ (List.mem_of_getElem? (i := 89) rfl)) (by decide) (own_rmgs l Z a0 hw [] b24 x1 h26_ R0x25_26) RA25_26 (by decide) (by decide) e36 (by rw [hml]; rfl) (argsL := []) (rest := []) (lenOf own_pd17 rfl) rfl (W := 0) rfl (hb hby at_206) (q := 209) rfl rfl rfl rfl (by decide) (by decide) ?_
                  rintro _ T37 rfl X37 e37
                  refine own_aload X37 hx (hb hby at_209) rfl rfl (q := 211) rfl ?_
                  refine own_acmp X37 hx (hb hby at_211) (P := False) (by decide) (q := 224) rfl (q' := 214) rfl rfl rfl (by first | rfl | simp [XT.acmp]) (fun h211 => ?_) (fun h211 => ?_)
                  · replace h211 : False := h211
                    exfalso; exact h211
                  · replace h211 : ¬ (False) := h211
                    refine own_aload X37 hx (hb hby at_214) rfl rfl (q := 216) rfl ?_
                    refine own_callVP X37 hx hZ hown (hw _ (List.mem_of_getElem? (i := 160) rfl)) (hw _ (List.mem_of_getElem? (i := 161) rfl)) (hw _ (List.mem_of_getElem? (i := 163) rfl)) (hw _ (List.mem_of_getElem? (i := 162) rfl)) (hw _ (List.mem_of_getElem? (i := 164) rfl)) (hw _ (List.mem_of_getElem? (i := 89) rfl)) (by decide) (own_rmgc l Z a0 hw [] b24 b5 h26_ R2x25_26) RA25_26 (by decide) (by decide) e37 (by rw [hml]; rfl) (argsL := []) (rest := []) (lenOf own_pd20 rfl) rfl (W := 0) rfl (hb hby at_216) (q := 219) rfl rfl rfl rfl (by decide) (by decide) ?_
                    rintro _ T38 rfl X38 e38
                    refine own_aload X38 hx (hb hby at_219) rfl rfl (q := 221) rfl ?_
                    refine own_acmp X38 hx (hb hby at_221) (P := True) (by decide) (q := 226) rfl (q' := 224) rfl rfl rfl (by first | rfl | simp [XT.acmp]) (fun h221 => ?_) (fun h221 => ?_)
                    · replace h221 : True := h221
                      refine own_iconst X38 hx (hb hby at_226) (v := (1 : Int32)) rfl (q := 227) rfl ?_
                      exact own_VretN X38 hx hS hk e38 (t := .boolean) hret hlk (by simp) (hb hby at_227) (by decide) (by decide) (w := 1) rfl ⟨rfl, N26⟩
                    · replace h221 : ¬ (True) := h221
                      exfalso; exact h221 trivial
                · replace h199 : ¬ ((1 : Int) ≠ 0) := h199
                  exact absurd h199 (by decide)
              · replace h184 : ¬ ((1 : Int) ≠ 0) := h184
                exact absurd h184 (by decide)
          · replace h161 : ¬ ((1 : Int) ≠ 0) := h161
            exact absurd h161 (by decide)
        · replace h143 : ¬ ((2 : Int) = (2 : Int)) := h143
          exact absurd h143 (by decide)
      · replace h114 : ¬ (True) := h114
        exfalso; exact h114 trivial
  refine own_if X1 hx (hb hby at_11) (by decide) (q := 18) rfl (q' := 14) rfl (own_z_eq _) (fun h11 => ?_) (fun h11 => ?_)
  · replace h11 : (p1 &&& (4 : Int32)).toInt = 0 := h11
    refine own_iconst X1 hx (hb hby at_18) (v := (0 : Int32)) rfl (q := 19) rfl ?_
    exact J19_2 (0 : Int32) (by have hc_0 : (0 : Int32).toInt = (0 : Int) := rfl; omega)
  · replace h11 : ¬ ((p1 &&& (4 : Int32)).toInt = 0) := h11
    refine own_iconst X1 hx (hb hby at_14) (v := (1 : Int32)) rfl (q := 15) rfl ?_
    refine own_goto X1 hx (hb hby at_15) (by decide) (q := 19) rfl ?_
    exact J19_2 (1 : Int32) (by have hc_0 : (1 : Int32).toInt = (1 : Int) := rfl; omega)
set_option maxRecDepth 65536 in
set_option maxHeartbeats 40000000 in
theorem own_comes {Post : Tables → Env → Array Value → State → Outcome → State → Prop} (hpost : ∀ tb e args s v u, (limb_1_1.after args s (.returned v) u = true ∧ limb_1_2.after args s (.returned v) u = true ∧ True) → ReturnedEndW s (.returned v) u (Jvm.fieldLocs frame_1_writes args s ++ Jvm.arrayLocs frame_1_arrays args s ++ Jvm.staticLocs frame_1_statics s) 48 1216 → Post tb e args s (.returned v) u) :
    ArmFor flags0 classFile x code maxLocals ret World_1 tables_1 room_1 Calls_1 rest_1 Pre_1 Post := by
  intro l hfl _ _ p e ha hc hk s m args below hf hA hF happ hP
  obtain ⟨hcalls, hrest, hpre⟩ := hP
  obtain ⟨-, -, -, hnamed, -, -, -, hat⟩ := (Spec.applies_iff hf).mp happ
  obtain ⟨hg, hn⟩ := and_e (Cond.before_iff.mp (show (Jvm.Cond.and given_1 narrow_1).before args s = true from hpre))
  obtain ⟨hcount, k0⟩ := and_e hg
  obtain ⟨w0, w1, w2, w3, w4, rfl⟩ : ∃ w0 w1 w2 w3 w4 : Value, args = #[w0, w1, w2, w3, w4] := by
    have hs : args.size = 5 := by simpa [Cond.value, given_1] using hcount
    obtain ⟨L⟩ := args
    match L, hs with
    | [w0, w1, w2, w3, w4], _ => exact ⟨w0, w1, w2, w3, w4, rfl⟩
  have hw := fun d (hd : d ∈ tables_1) => atoms_spec (ws := Jvm.Cond.code x code maxLocals ret :: tables_1) hat d (List.mem_cons_of_mem _ hd)
  have hfit : Fit s := fun {y c} hc i hi => by
    obtain ⟨ha, rfl⟩ := Array.getElem?_eq_some_iff.mp hc
    have q := List.all_eq_true.mp ((Array.all_eq_true_iff_forall_mem.mp hF) _ (Array.getElem_mem ha)) i (List.mem_range.mpr hi)
    simpa [Array.getElem?_eq_getElem hi] using q
  obtain ⟨j0, k1⟩ := and_e k0
  obtain ⟨i0, e0⟩ := is_v j0
  obtain rfl : w0 = (.int i0) := Option.some.inj e0
  obtain ⟨j1, k2⟩ := and_e k1
  obtain ⟨i1, e1⟩ := is_v j1
  obtain rfl : w1 = (.int i1) := Option.some.inj e1
  obtain ⟨j2, k3⟩ := and_e k2
  obtain ⟨i2, e2⟩ := is_v j2
  obtain rfl : w2 = (.int i2) := Option.some.inj e2
  obtain ⟨j3, k4⟩ := and_e k3
  obtain ⟨i3, e3⟩ := is_v j3
  obtain rfl : w3 = (.int i3) := Option.some.inj e3
  have j4 := k4
  obtain ⟨i4, e4⟩ := is_v j4
  obtain rfl : w4 = (.int i4) := Option.some.inj e4
  obtain ⟨hsets, hown0⟩ := atoms_of _ (rest_1_c_eq ▸ (show rest_1_c.before _ s = true from hrest))
  have n5 := not_v (Cond.before_iff.mp (hsets _ (List.mem_of_getElem? (i := 11) rfl)))
  obtain ⟨G1, eG⟩ := is_v (Cond.before_iff.mp (hsets _ (List.mem_of_getElem? (i := 10) rfl)))
  have ST : Sta s s.heap "java/lang/String" "COMPACT_STRINGS" "Z" (.int G1) := Sta.start eG (Or.inl (hsets _ (List.mem_of_getElem? (i := 9) rfl)))
  have hG0 : ¬ (G1 = (0 : Int32)) := gotF (Cond.eq_ints eG (Term.int_eval (0))) n5
  have hG : G1.toInt ≠ 0 := fun q => hG0 (Int32.toInt_inj.mp q)
  obtain ⟨y0_, u0_⟩ := and_e hn
  obtain ⟨y1_, u1_⟩ := and_e u0_
  obtain ⟨y2_, y3_⟩ := and_e u1_
  obtain ⟨s1, ev0⟩ := exa_v y0_
  have T1 := Sta.start ev0 (Or.inr ⟨(hw _ (List.mem_of_getElem? (i := 5) rfl)), (hw _ (List.mem_of_getElem? (i := 6) rfl))⟩)
  obtain ⟨s4, ev1⟩ := exa_v y1_
  have T4 := Sta.start ev1 (Or.inr ⟨(hw _ (List.mem_of_getElem? (i := 5) rfl)), (hw _ (List.mem_of_getElem? (i := 166) rfl))⟩)
  obtain ⟨s3, ev2⟩ := exa_v y2_
  have T3 := Sta.start ev2 (Or.inr ⟨(hw _ (List.mem_of_getElem? (i := 5) rfl)), (hw _ (List.mem_of_getElem? (i := 179) rfl))⟩)
  obtain ⟨s2, ev3⟩ := exa_v y3_
  have T2 := Sta.start ev3 (Or.inr ⟨(hw _ (List.mem_of_getElem? (i := 5) rfl)), (hw _ (List.mem_of_getElem? (i := 181) rfl))⟩)
  have d6_ := Cond.before_iff.mp (hsets _ (List.mem_of_getElem? (i := 6) rfl))
  obtain ⟨dE, evD⟩ := arr_v d6_
  obtain ⟨clD, ArD⟩ := Arr.start evD d6_
  have haD := Arr.fin (Vm.Alike.refl _) ArD
  obtain ⟨szD, ltD⟩ := own_t_len evD haD (Cond.before_iff.mp (hsets _ (List.mem_of_getElem? (i := 8) rfl))) (n := 0) rfl
  have SD := Sta.start evD (Or.inr ⟨(hw _ (List.mem_of_getElem? (i := 34) rfl)), hsets _ (List.mem_of_getElem? (i := 2) rfl)⟩)
  have AD : own_Arr s s.heap dE (.object "java/lang/Object") 0 (fun _ => .null) := ⟨clD, ArD, szD, by decide, fun i hi => absurd hi (by omega)⟩
  have hcs : ∀ p ∈ consts_1, Jvm.Lit.constHeld s p.1 p.2 := (show call_1_1 _ _ _ _ ∧ True from hcalls).1
  have HCV : CHv s consts_1 s.vm s.heap := CHv.start (own_EW hw) hcs (hsets _ (List.mem_of_getElem? (i := 11) rfl)) (own_wS hw _ (by simp [Bundle.stringAtoms])) (own_wS hw _ (by simp [Bundle.stringAtoms, Bundle.sN]))
  obtain ⟨n, o, h1, h2, h3, _, L, rfl, ⟨rfl, N⟩, hq⟩ := own_rm0 l s _ hw tables_1 i0 i1 i2 i3 i4 G1 s1 s2 s3 s4 dE (fun _ => .null) s.heap ST hG T1 T2 T3 T4 SD AD p e ha hc hk s m _ below hf ((Spec.applies_iff_loose hf).mp happ).1 ⟨rfl, State.Warmed39.refl s, rfl, HCV, fun _ q => nomatch q⟩ trivial
  refine ⟨n, _, h1, h2, h3, hpost _ _ _ _ _ _ ⟨Cond.after_iff.mpr rfl, Cond.after_iff.mpr (eq_i res_at (Term.int_eval (1)) rfl), trivial⟩ ⟨hq.1, hq.2.1, hq.2.2.1, (hq.2.2.2.sift fun y hy => Or.inr (N y hy)).mono (by decide) (by decide)⟩⟩
theorem main_1_1 : Claimed_1_1 := own_comes fun _ _ _ _ _ _ h hF => ⟨h.1, hF⟩
theorem main_1_2 : Claimed_1_2 := own_comes fun _ _ _ _ _ _ h hF => ⟨h.2.1, hF⟩
end Jvm.Pilot.@@N@@
namespace Jvm.Pilot.@@N@@
open Jvm Jvm.ClassFile Sem Op Lib Jvm.Free Jvm.Stand Jvm.Pilot.@@N@@.Jvm.D
/-! MADE BY PROGRAM (witnessworld.py) out of the Statement's table words and the real class files: 34 classes; the members and pool entries that the words name. The judged class is class 1, her method 3. -/
namespace start1
open Jvm.ClassFile
def u (s : String) : CpInfo := .utf8 (stringToUtf16 s)
/-- a pool by its gaps: so many unusable entries, then the entry; so many at the end -/
def gap : Nat → List CpInfo → List CpInfo
  | 0, r => r
  | n + 1, r => .unusable :: gap n r
def poolList (es : List (Nat × CpInfo)) (last : Nat) : List CpInfo := es.foldr (fun e r => gap e.1 (e.2 :: r)) (gap last [])
def pool (es : List (Nat × CpInfo)) (last : Nat) : Array CpInfo := ⟨poolList es last⟩
def fileOf (pool : Array CpInfo) (this : Nat) (attrs : Array Attribute := #[]) (ms : Array MethodInfo := #[]) (fl : Nat := 33) (sup : Nat := 0) (ifs : Array Nat := #[]) (fds : Array FieldInfo := #[]) : ClassFile where
  minorVersion := 0
  majorVersion := 65
  constantPool := pool
  accessFlags := fl
  thisClass := this
  superClass := sup
  interfaces := ifs
  fields := fds
  methods := ms
  attributes := attrs
def plain (name : String) (sup : Option ClassId) : Class where
  name := name
  kind := .ordinary
  loader := none
  accessFlags := 33
  super := sup
  interfaces := #[]
  cf := none
  fields := #[]
  methods := #[]
  instanceTypes := #[]
  staticTypes := #[]
  resolved := #[]
  callSites := []
  init := .initialized
  statics := none
  mirror := none

def pool0 : Array CpInfo := pool [(5, u "<init>"), (0, u "()V"), (1, .class_ 10), (1, u "java/lang/Object")] 113

def k0c0 : Code := { maxStack := 0, maxLocals := 1, code := object_method_1_code, exceptionTable := #[], attributes := #[] }
def k0m0 : Method := { name := "<init>", desc := "()V", sig := { parameters := [], returnType := none }, accessFlags := 1, code := some k0c0 }
/-- java/lang/Object -/
def k0 : Class := { plain "java/lang/Object" none with
  accessFlags := 33
  interfaces := #[]
  cf := some (fileOf pool0 8 #[] #[{ accessFlags := 1, nameIndex := 5, descriptorIndex := 6, attributes := #[] }] 33 0 #[] #[])
  fields := #[]
  methods := #[k0m0]
  instanceTypes := #[]
  staticTypes := #[]
  resolved := Array.replicate 124 none
  statics := none }

def pool1 : Array CpInfo := pool [(2, .class_ 4), (0, .nameAndType 5 6), (0, u "java/lang/Object"), (0, u "<init>"), (0, u "()V"), (0, .fieldref 8 9), (0, .class_ 10), (0, .nameAndType 11 12), (0, u "com/example/keyward/keyward/command/ExitStatus"), (0, u "DONE"), (0, u "Lcom/example/keyward/keyward/command/ExitStatus;"), (0, .fieldref 8 14), (0, .nameAndType 15 12), (0, u "REFUSED"), (0, .fieldref 8 17), (0, .nameAndType 18 12), (0, u "USAGE"), (0, .fieldref 8 20), (0, .nameAndType 21 12), (0, u "FAILURE"), (0, .class_ 23), (0, u "java/lang/String"), (0, .methodref 22 25), (0, .nameAndType 5 26), (0, u "([C)V"), (0, .methodref 28 29), (0, .class_ 30), (0, .nameAndType 31 32), (0, u "com/example/keyward/keyward/command/OutcomeRecordedAsPinLaw"), (0, u "status"), (0, u "(I)Lcom/example/keyward/keyward/command/ExitStatus;"), (0, .methodref 28 34), (0, .nameAndType 35 36), (0, u "str"), (0, u "(I)Ljava/lang/String;"), (0, .class_ 38), (0, u "java/util/ArrayList"), (0, .methodref 37 3), (0, .methodref 37 41), (0, .nameAndType 42 43), (0, u "add"), (0, u "(Ljava/lang/Object;)Z"), (0, .class_ 45), (0, u "com/example/keyward/keyward/command/Outcome"), (0, .methodref 44 47), (0, .nameAndType 5 48), (0, u "(Lcom/example/keyward/keyward/command/ExitStatus;Ljava/util/List;Ljava/lang/String;)V"), (0, .methodref 44 50), (0, .nameAndType 51 52), (0, u "recordedAs"), (0, u "(Ljava/lang/String;)Lcom/example/keyward/keyward/command/Outcome;"), (0, .methodref 44 54), (0, .nameAndType 31 55), (0, u "()Lcom/example/keyward/keyward/command/ExitStatus;"), (0, .methodref 44 57), (0, .nameAndType 58 59), (0, u "lines"), (0, u "()Ljava/util/List;"), (0, .interfaceMethodref 61 62), (0, .class_ 63), (0, .nameAndType 64 65), (0, u "java/util/List"), (0, u "size"), (0, u "()I"), (0, .methodref 37 62), (0, .interfaceMethodref 61 68), (0, .nameAndType 69 70), (0, u "get"), (0, u "(I)Ljava/lang/Object;"), (0, .methodref 22 72), (0, .nameAndType 73 43), (0, u "equals"), (0, .methodref 44 75), (0, .nameAndType 76 77), (0, u "recorded"), (0, u "()Ljava/lang/String;"), (3, u "law"), (0, u "(IIIII)Z")] 2

def k1m0 : Method := { name := "<init>", desc := "()V", sig := { parameters := [], returnType := none }, accessFlags := 1, code := none }
def k1c1 : Code := { maxStack := 2, maxLocals := 1, code := method_2_code, exceptionTable := #[], attributes := #[] }
def k1m1 : Method := { name := "status", desc := "(I)Lcom/example/keyward/keyward/command/ExitStatus;", sig := { parameters := [.int], returnType := some (.object "com/example/keyward/keyward/command/ExitStatus") }, accessFlags := 10, code := some k1c1 }
def k1c2 : Code := { maxStack := 6, maxLocals := 5, code := method_3_code, exceptionTable := #[], attributes := #[] }
def k1m2 : Method := { name := "str", desc := "(I)Ljava/lang/String;", sig := { parameters := [.int], returnType := some (.object "java/lang/String") }, accessFlags := 10, code := some k1c2 }
def k1c3 : Code := { maxStack := 5, maxLocals := 15, code := code, exceptionTable := #[], attributes := #[] }
def k1m3 : Method := { name := "law", desc := "(IIIII)Z", sig := { parameters := [.int, .int, .int, .int, .int], returnType := some .boolean }, accessFlags := 9, code := some k1c3 }
/-- com/example/keyward/keyward/command/OutcomeRecordedAsPinLaw -/
def k1 : Class := { plain "com/example/keyward/keyward/command/OutcomeRecordedAsPinLaw" (some 0) with
  accessFlags := 49
  interfaces := #[]
  cf := some (fileOf pool1 28 #[] #[{ accessFlags := 1, nameIndex := 5, descriptorIndex := 6, attributes := #[] }, { accessFlags := 10, nameIndex := 31, descriptorIndex := 32, attributes := #[] }, { accessFlags := 10, nameIndex := 35, descriptorIndex := 36, attributes := #[] }, { accessFlags := 9, nameIndex := 81, descriptorIndex := 82, attributes := #[] }] 49 2 #[] #[])
  fields := #[]
  methods := #[k1m0, k1m1, k1m2, k1m3]
  instanceTypes := #[]
  staticTypes := #[]
  resolved := Array.replicate 85 none
  statics := none }

def pool2 : Array CpInfo := pool [(1, .class_ 2), (0, u "java/lang/constant/Constable"), (0, .class_ 4), (0, u "java/lang/Object")] 6

/-- java/lang/constant/Constable -/
def k2 : Class := { plain "java/lang/constant/Constable" (some 0) with
  accessFlags := 1537
  interfaces := #[]
  cf := some (fileOf pool2 1 #[] #[] 1537 3 #[] #[])
  fields := #[]
  methods := #[]
  instanceTypes := #[]
  staticTypes := #[]
  resolved := Array.replicate 11 none
  statics := none }

def pool3 : Array CpInfo := pool [(1, .class_ 2), (0, u "java/lang/Comparable"), (0, .class_ 4), (0, u "java/lang/Object")] 7

/-- java/lang/Comparable -/
def k3 : Class := { plain "java/lang/Comparable" (some 0) with
  accessFlags := 1537
  interfaces := #[]
  cf := some (fileOf pool3 1 #[] #[] 1537 3 #[] #[])
  fields := #[]
  methods := #[]
  instanceTypes := #[]
  staticTypes := #[]
  resolved := Array.replicate 12 none
  statics := none }

def pool4 : Array CpInfo := pool [(1, .class_ 2), (0, u "java/io/Serializable"), (0, .class_ 4), (0, u "java/lang/Object")] 2

/-- java/io/Serializable -/
def k4 : Class := { plain "java/io/Serializable" (some 0) with
  accessFlags := 1537
  interfaces := #[]
  cf := some (fileOf pool4 1 #[] #[] 1537 3 #[] #[])
  fields := #[]
  methods := #[]
  instanceTypes := #[]
  staticTypes := #[]
  resolved := Array.replicate 7 none
  statics := none }

def pool5 : Array CpInfo := pool [(2, .class_ 4), (1, u "java/lang/Enum"), (0, u "name"), (0, u "Ljava/lang/String;"), (2, u "ordinal"), (0, u "I"), (1, .class_ 14), (1, u "java/lang/Object"), (4, u "hash"), (86, .class_ 108), (1, u "java/lang/Enum$EnumDesc"), (2, .class_ 112), (0, u "java/lang/constant/Constable"), (0, .class_ 114), (0, u "java/lang/Comparable"), (0, .class_ 116), (0, u "java/io/Serializable")] 87

/-- java/lang/Enum -/
def k5 : Class := { plain "java/lang/Enum" (some 0) with
  accessFlags := 1057
  interfaces := #[2, 3, 4]
  cf := some (fileOf pool5 2 #[.nestMembers #[106]] #[] 1057 12 #[111, 113, 115] #[{ accessFlags := 18, nameIndex := 5, descriptorIndex := 6, attributes := #[] }, { accessFlags := 18, nameIndex := 9, descriptorIndex := 10, attributes := #[] }, { accessFlags := 2, nameIndex := 19, descriptorIndex := 10, attributes := #[] }])
  fields := #[{ name := "name", type := (.object "java/lang/String"), accessFlags := 18, slot := 0, constantValue := 0 }, { name := "ordinal", type := .int, accessFlags := 18, slot := 1, constantValue := 0 }, { name := "hash", type := .int, accessFlags := 2, slot := 2, constantValue := 0 }]
  methods := #[]
  instanceTypes := #[(.object "java/lang/String"), .int, .int]
  staticTypes := #[]
  resolved := Array.replicate 204 none
  statics := none }

def pool6 : Array CpInfo := pool [(1, .class_ 2), (0, u "com/example/keyward/keyward/command/ExitStatus"), (2, u "DONE"), (0, u "Lcom/example/keyward/keyward/command/ExitStatus;"), (2, u "REFUSED"), (2, u "USAGE"), (2, u "FAILURE"), (2, u "$VALUES"), (0, u "[Lcom/example/keyward/keyward/command/ExitStatus;"), (6, .class_ 28), (1, u "java/lang/Enum"), (8, u "code"), (0, u "I")] 24

/-- com/example/keyward/keyward/command/ExitStatus -/
def k6 : Class := { plain "com/example/keyward/keyward/command/ExitStatus" (some 5) with
  accessFlags := 16433
  interfaces := #[]
  cf := some (fileOf pool6 1 #[] #[] 16433 26 #[] #[{ accessFlags := 16409, nameIndex := 5, descriptorIndex := 6, attributes := #[] }, { accessFlags := 16409, nameIndex := 9, descriptorIndex := 6, attributes := #[] }, { accessFlags := 16409, nameIndex := 12, descriptorIndex := 6, attributes := #[] }, { accessFlags := 16409, nameIndex := 15, descriptorIndex := 6, attributes := #[] }, { accessFlags := 18, nameIndex := 37, descriptorIndex := 38, attributes := #[] }, { accessFlags := 4122, nameIndex := 18, descriptorIndex := 19, attributes := #[] }])
  fields := #[{ name := "DONE", type := (.object "com/example/keyward/keyward/command/ExitStatus"), accessFlags := 16409, slot := 0, constantValue := 0 }, { name := "REFUSED", type := (.object "com/example/keyward/keyward/command/ExitStatus"), accessFlags := 16409, slot := 1, constantValue := 0 }, { name := "USAGE", type := (.object "com/example/keyward/keyward/command/ExitStatus"), accessFlags := 16409, slot := 2, constantValue := 0 }, { name := "FAILURE", type := (.object "com/example/keyward/keyward/command/ExitStatus"), accessFlags := 16409, slot := 3, constantValue := 0 }, { name := "code", type := .int, accessFlags := 18, slot := 3, constantValue := 0 }, { name := "$VALUES", type := (.array (.object "com/example/keyward/keyward/command/ExitStatus")), accessFlags := 4122, slot := 4, constantValue := 0 }]
  methods := #[]
  instanceTypes := #[(.object "java/lang/String"), .int, .int, .int]
  staticTypes := #[(.object "com/example/keyward/keyward/command/ExitStatus"), (.object "com/example/keyward/keyward/command/ExitStatus"), (.object "com/example/keyward/keyward/command/ExitStatus"), (.object "com/example/keyward/keyward/command/ExitStatus"), (.array (.object "com/example/keyward/keyward/command/ExitStatus"))]
  resolved := Array.replicate 63 none
  statics := some 0 }

def pool7 : Array CpInfo := pool [(2, .class_ 4), (1, u "java/lang/CharSequence"), (42, .class_ 48), (0, u "java/lang/CharSequence$1CodePointIterator"), (10, .class_ 60), (0, u "java/lang/CharSequence$1CharIterator"), (5, .class_ 67), (0, u "java/lang/Object")] 63

/-- java/lang/CharSequence -/
def k7 : Class := { plain "java/lang/CharSequence" (some 0) with
  accessFlags := 1537
  interfaces := #[]
  cf := some (fileOf pool7 2 #[.nestMembers #[47, 59]] #[] 1537 66 #[] #[])
  fields := #[]
  methods := #[]
  instanceTypes := #[]
  staticTypes := #[]
  resolved := Array.replicate 131 none
  statics := none }

def pool8 : Array CpInfo := pool [(1, .class_ 2), (0, u "java/lang/constant/ConstantDesc"), (0, .class_ 4), (0, u "java/lang/Object")] 32

/-- java/lang/constant/ConstantDesc -/
def k8 : Class := { plain "java/lang/constant/ConstantDesc" (some 0) with
  accessFlags := 1537
  interfaces := #[]
  cf := some (fileOf pool8 1 #[] #[] 1537 3 #[] #[])
  fields := #[]
  methods := #[]
  instanceTypes := #[]
  staticTypes := #[]
  resolved := Array.replicate 37 none
  statics := none }

def pool9 : Array CpInfo := pool [(1, .methodref 2 3), (0, .class_ 4), (0, .nameAndType 5 6), (0, u "java/lang/Object"), (0, u "<init>"), (0, u "()V"), (0, .string 8), (0, u ""), (0, .fieldref 10 11), (0, .class_ 12), (0, .nameAndType 13 14), (0, u "java/lang/String"), (0, u "value"), (0, u "[B"), (0, .fieldref 10 16), (0, .nameAndType 17 18), (0, u "coder"), (0, u "B"), (2, u "hash"), (0, u "I"), (2, u "hashIsZero"), (0, u "Z"), (0, .methodref 10 28), (0, .nameAndType 5 29), (0, u "([CIILjava/lang/Void;)V"), (8, .fieldref 10 39), (0, .nameAndType 40 26), (0, u "COMPACT_STRINGS"), (1, .class_ 44), (1, u "java/lang/StringUTF16"), (0, u "compress"), (1, .methodref 42 48), (0, .nameAndType 49 50), (0, u "coderFromArrayLen"), (0, u "([BI)B"), (126, .methodref 42 178), (0, .nameAndType 45 179), (0, u "([CII)[B"), (363, u "equals"), (29, u "(Ljava/lang/Object;)Z"), (1, .class_ 576), (0, u "java/lang/CharSequence"), (22, u "CASE_INSENSITIVE_ORDER"), (0, u "Ljava/util/Comparator;"), (409, u "([C)V"), (90, u "serialPersistentFields"), (0, u "[Ljava/io/ObjectStreamField;"), (0, .class_ 1104), (0, u "java/lang/String$CaseInsensitiveComparator"), (1, .class_ 1107), (0, u "java/io/Serializable"), (0, .class_ 1109), (0, u "java/lang/Comparable"), (0, .class_ 1111), (0, u "java/lang/constant/Constable"), (0, .class_ 1113), (0, u "java/lang/constant/ConstantDesc"), (2, u "serialVersionUID"), (0, u "J"), (3, u "REPL"), (0, u "C"), (2, u "LATIN1"), (1, u "UTF16")] 323

def k9m0 : Method := { name := "<init>", desc := "()V", sig := { parameters := [], returnType := none }, accessFlags := 1, code := none }
def k9c1 : Code := { maxStack := 5, maxLocals := 2, code := jdk_42_method_3_code, exceptionTable := #[], attributes := #[] }
def k9m1 : Method := { name := "<init>", desc := "([C)V", sig := { parameters := [(.array .char)], returnType := none }, accessFlags := 1, code := some k9c1 }
def k9c2 : Code := { maxStack := 2, maxLocals := 3, code := jdk_42_method_66_code, exceptionTable := #[], attributes := #[] }
def k9m2 : Method := { name := "equals", desc := "(Ljava/lang/Object;)Z", sig := { parameters := [(.object "java/lang/Object")], returnType := some .boolean }, accessFlags := 1, code := some k9c2 }
def k9c3 : Code := { maxStack := 4, maxLocals := 6, code := jdk_42_method_149_code, exceptionTable := #[], attributes := #[] }
def k9m3 : Method := { name := "<init>", desc := "([CIILjava/lang/Void;)V", sig := { parameters := [(.array .char), .int, .int, (.object "java/lang/Void")], returnType := none }, accessFlags := 2, code := some k9c3 }
/-- java/lang/String -/
def k9 : Class := { plain "java/lang/String" (some 0) with
  accessFlags := 49
  interfaces := #[4, 3, 7, 2, 8]
  cf := some (fileOf pool9 10 #[.nestMembers #[1103]] #[{ accessFlags := 1, nameIndex := 5, descriptorIndex := 6, attributes := #[] }, { accessFlags := 1, nameIndex := 5, descriptorIndex := 1010, attributes := #[] }, { accessFlags := 1, nameIndex := 543, descriptorIndex := 573, attributes := #[] }, { accessFlags := 2, nameIndex := 5, descriptorIndex := 29, attributes := #[] }] 49 2 #[1106, 1108, 575, 1110, 1112] #[{ accessFlags := 18, nameIndex := 13, descriptorIndex := 14, attributes := #[] }, { accessFlags := 18, nameIndex := 17, descriptorIndex := 18, attributes := #[] }, { accessFlags := 2, nameIndex := 21, descriptorIndex := 22, attributes := #[] }, { accessFlags := 2, nameIndex := 25, descriptorIndex := 26, attributes := #[] }, { accessFlags := 26, nameIndex := 1116, descriptorIndex := 1117, attributes := #[] }, { accessFlags := 24, nameIndex := 40, descriptorIndex := 26, attributes := #[] }, { accessFlags := 26, nameIndex := 1101, descriptorIndex := 1102, attributes := #[] }, { accessFlags := 26, nameIndex := 1121, descriptorIndex := 1122, attributes := #[] }, { accessFlags := 25, nameIndex := 599, descriptorIndex := 600, attributes := #[] }, { accessFlags := 24, nameIndex := 1125, descriptorIndex := 18, attributes := #[] }, { accessFlags := 24, nameIndex := 1127, descriptorIndex := 18, attributes := #[] }])
  fields := #[{ name := "value", type := (.array .byte), accessFlags := 18, slot := 0, constantValue := 0 }, { name := "coder", type := .byte, accessFlags := 18, slot := 1, constantValue := 0 }, { name := "hash", type := .int, accessFlags := 2, slot := 2, constantValue := 0 }, { name := "hashIsZero", type := .boolean, accessFlags := 2, slot := 3, constantValue := 0 }, { name := "serialVersionUID", type := .long, accessFlags := 26, slot := 0, constantValue := 0 }, { name := "COMPACT_STRINGS", type := .boolean, accessFlags := 24, slot := 1, constantValue := 0 }, { name := "serialPersistentFields", type := (.array (.object "java/io/ObjectStreamField")), accessFlags := 26, slot := 2, constantValue := 0 }, { name := "REPL", type := .char, accessFlags := 26, slot := 3, constantValue := 0 }, { name := "CASE_INSENSITIVE_ORDER", type := (.object "java/util/Comparator"), accessFlags := 25, slot := 4, constantValue := 0 }, { name := "LATIN1", type := .byte, accessFlags := 24, slot := 5, constantValue := 0 }, { name := "UTF16", type := .byte, accessFlags := 24, slot := 6, constantValue := 0 }]
  methods := #[k9m0, k9m1, k9m2, k9m3]
  instanceTypes := #[(.array .byte), .byte, .int, .boolean]
  staticTypes := #[.long, .boolean, (.array (.object "java/io/ObjectStreamField")), .char, (.object "java/util/Comparator"), .byte, .byte]
  resolved := Array.replicate 1451 none
  statics := some 1 }

def pool10 : Array CpInfo := pool [(8, .class_ 10), (1, u "java/lang/Iterable"), (24, .class_ 36), (0, u "java/lang/Object")] 25

/-- java/lang/Iterable -/
def k10 : Class := { plain "java/lang/Iterable" (some 0) with
  accessFlags := 1537
  interfaces := #[]
  cf := some (fileOf pool10 8 #[] #[] 1537 35 #[] #[])
  fields := #[]
  methods := #[]
  instanceTypes := #[]
  staticTypes := #[]
  resolved := Array.replicate 62 none
  statics := none }

def pool11 : Array CpInfo := pool [(10, .class_ 12), (1, u "java/util/Collection"), (47, .class_ 61), (0, u "java/lang/Object"), (0, .class_ 63), (0, u "java/lang/Iterable")] 51

/-- java/util/Collection -/
def k11 : Class := { plain "java/util/Collection" (some 0) with
  accessFlags := 1537
  interfaces := #[10]
  cf := some (fileOf pool11 10 #[] #[] 1537 60 #[62] #[])
  fields := #[]
  methods := #[]
  instanceTypes := #[]
  staticTypes := #[]
  resolved := Array.replicate 115 none
  statics := none }

def pool12 : Array CpInfo := pool [(1, .methodref 2 3), (0, .class_ 4), (0, .nameAndType 5 6), (0, u "java/lang/Object"), (0, u "<init>"), (0, u "()V"), (1, .class_ 10), (1, u "java/util/AbstractCollection"), (66, .class_ 78), (0, u "java/util/Collection")] 81

def k12c0 : Code := { maxStack := 1, maxLocals := 1, code := jdk_22_method_1_code, exceptionTable := #[], attributes := #[] }
def k12m0 : Method := { name := "<init>", desc := "()V", sig := { parameters := [], returnType := none }, accessFlags := 4, code := some k12c0 }
/-- java/util/AbstractCollection -/
def k12 : Class := { plain "java/util/AbstractCollection" (some 0) with
  accessFlags := 1057
  interfaces := #[11]
  cf := some (fileOf pool12 8 #[] #[{ accessFlags := 4, nameIndex := 5, descriptorIndex := 6, attributes := #[] }] 1057 2 #[77] #[])
  fields := #[]
  methods := #[k12m0]
  instanceTypes := #[]
  staticTypes := #[]
  resolved := Array.replicate 160 none
  statics := none }

def pool13 : Array CpInfo := pool [(8, .class_ 10), (1, u "java/util/SequencedCollection"), (15, .class_ 27), (0, u "java/lang/Object"), (0, .class_ 29), (0, u "java/util/Collection")] 27

/-- java/util/SequencedCollection -/
def k13 : Class := { plain "java/util/SequencedCollection" (some 0) with
  accessFlags := 1537
  interfaces := #[11]
  cf := some (fileOf pool13 8 #[] #[] 1537 26 #[28] #[])
  fields := #[]
  methods := #[]
  instanceTypes := #[]
  staticTypes := #[]
  resolved := Array.replicate 57 none
  statics := none }

def pool14 : Array CpInfo := pool [(8, .class_ 10), (1, u "java/util/List"), (64, u "get"), (0, u "(I)Ljava/lang/Object;"), (2, u "size"), (0, u "()I"), (22, .class_ 104), (0, u "java/lang/Object"), (15, .class_ 121), (0, u "java/util/SequencedCollection")] 129

def k14m0 : Method := { name := "size", desc := "()I", sig := { parameters := [], returnType := some .int }, accessFlags := 1025, code := none }
def k14m1 : Method := { name := "get", desc := "(I)Ljava/lang/Object;", sig := { parameters := [.int], returnType := some (.object "java/lang/Object") }, accessFlags := 1025, code := none }
/-- java/util/List -/
def k14 : Class := { plain "java/util/List" (some 0) with
  accessFlags := 1537
  interfaces := #[13]
  cf := some (fileOf pool14 8 #[] #[{ accessFlags := 1025, nameIndex := 79, descriptorIndex := 80, attributes := #[] }, { accessFlags := 1025, nameIndex := 75, descriptorIndex := 76, attributes := #[] }] 1537 103 #[120] #[])
  fields := #[]
  methods := #[k14m0, k14m1]
  instanceTypes := #[]
  staticTypes := #[]
  resolved := Array.replicate 251 none
  statics := none }

def pool15 : Array CpInfo := pool [(1, .methodref 2 3), (0, .class_ 4), (0, .nameAndType 5 6), (0, u "java/util/AbstractCollection"), (0, u "<init>"), (0, u "()V"), (0, .fieldref 8 9), (0, .class_ 10), (0, .nameAndType 11 12), (0, u "java/util/AbstractList"), (0, u "modCount"), (0, u "I"), (64, .class_ 78), (0, u "java/util/AbstractList$Itr"), (3, .class_ 83), (0, u "java/util/AbstractList$ListItr"), (9, .class_ 94), (0, u "java/util/AbstractList$RandomAccessSubList"), (3, .class_ 99), (0, u "java/util/AbstractList$SubList"), (33, .class_ 134), (0, u "java/util/List"), (73, .class_ 209), (0, u "java/util/AbstractList$SubList$1"), (0, .class_ 211), (0, u "java/util/AbstractList$RandomAccessSpliterator")] 6

def k15c0 : Code := { maxStack := 2, maxLocals := 1, code := jdk_39_method_1_code, exceptionTable := #[], attributes := #[] }
def k15m0 : Method := { name := "<init>", desc := "()V", sig := { parameters := [], returnType := none }, accessFlags := 4, code := some k15c0 }
/-- java/util/AbstractList -/
def k15 : Class := { plain "java/util/AbstractList" (some 12) with
  accessFlags := 1057
  interfaces := #[14]
  cf := some (fileOf pool15 8 #[.nestMembers #[93, 98, 208, 210, 82, 77]] #[{ accessFlags := 4, nameIndex := 5, descriptorIndex := 6, attributes := #[] }] 1057 2 #[133] #[{ accessFlags := 132, nameIndex := 11, descriptorIndex := 12, attributes := #[] }])
  fields := #[{ name := "modCount", type := .int, accessFlags := 132, slot := 0, constantValue := 0 }]
  methods := #[k15m0]
  instanceTypes := #[.int]
  staticTypes := #[]
  resolved := Array.replicate 218 none
  statics := none }

def pool16 : Array CpInfo := pool [(1, .class_ 2), (0, u "java/util/RandomAccess"), (0, .class_ 4), (0, u "java/lang/Object")] 2

/-- java/util/RandomAccess -/
def k16 : Class := { plain "java/util/RandomAccess" (some 0) with
  accessFlags := 1537
  interfaces := #[]
  cf := some (fileOf pool16 1 #[] #[] 1537 3 #[] #[])
  fields := #[]
  methods := #[]
  instanceTypes := #[]
  staticTypes := #[]
  resolved := Array.replicate 7 none
  statics := none }

def pool17 : Array CpInfo := pool [(1, .class_ 2), (0, u "java/lang/Cloneable"), (0, .class_ 4), (0, u "java/lang/Object")] 2

/-- java/lang/Cloneable -/
def k17 : Class := { plain "java/lang/Cloneable" (some 0) with
  accessFlags := 1537
  interfaces := #[]
  cf := some (fileOf pool17 1 #[] #[] 1537 3 #[] #[])
  fields := #[]
  methods := #[]
  instanceTypes := #[]
  staticTypes := #[]
  resolved := Array.replicate 7 none
  statics := none }

def pool18 : Array CpInfo := pool [(1, .methodref 2 3), (0, .class_ 4), (0, .nameAndType 5 6), (0, u "java/util/AbstractList"), (0, u "<init>"), (0, u "()V"), (0, .class_ 8), (0, u "java/lang/Object"), (0, .fieldref 10 11), (0, .class_ 12), (0, .nameAndType 13 14), (0, u "java/util/ArrayList"), (0, u "elementData"), (0, u "[Ljava/lang/Object;"), (2, u "EMPTY_ELEMENTDATA"), (21, .fieldref 10 40), (0, .nameAndType 41 14), (0, u "DEFAULTCAPACITY_EMPTY_ELEMENTDATA"), (5, u "()[Ljava/lang/Object;"), (0, .fieldref 10 49), (0, .nameAndType 50 51), (0, u "size"), (0, u "I"), (11, .fieldref 10 64), (0, .nameAndType 65 51), (0, u "modCount"), (3, .methodref 10 70), (0, .nameAndType 71 72), (0, u "grow"), (0, u "(I)[Ljava/lang/Object;"), (6, .methodref 80 81), (0, .class_ 82), (0, .nameAndType 83 84), (0, u "java/lang/Math"), (0, u "max"), (0, u "(II)I"), (11, u "(Ljava/lang/Object;)Z"), (21, .methodref 119 120), (0, .class_ 121), (0, .nameAndType 122 84), (0, u "java/util/Objects"), (0, u "checkIndex"), (0, .methodref 10 124), (0, .nameAndType 13 125), (0, u "(I)Ljava/lang/Object;"), (3, .methodref 10 130), (0, .nameAndType 71 47), (0, .methodref 10 132), (0, .nameAndType 133 134), (0, u "add"), (0, u "(Ljava/lang/Object;[Ljava/lang/Object;I)V"), (13, .class_ 149), (0, u "java/util/List"), (36, u "()I"), (75, .class_ 263), (0, u "java/util/ArrayList$ListItr"), (3, .class_ 268), (0, u "java/util/ArrayList$Itr"), (7, .class_ 277), (0, u "java/util/ArrayList$SubList"), (12, .class_ 291), (0, u "java/util/ArrayList$ArrayListSpliterator"), (37, .class_ 330), (0, u "java/util/RandomAccess"), (0, .class_ 332), (0, u "java/lang/Cloneable"), (0, .class_ 334), (0, u "java/io/Serializable"), (0, u "serialVersionUID"), (0, u "J"), (3, u "DEFAULT_CAPACITY"), (40, u "get"), (118, .class_ 501), (0, u "java/util/ArrayList$SubList$2"), (0, .class_ 503), (0, u "java/util/ArrayList$SubList$1")] 5

def k18c0 : Code := { maxStack := 2, maxLocals := 1, code := jdk_38_method_2_code, exceptionTable := #[], attributes := #[] }
def k18m0 : Method := { name := "<init>", desc := "()V", sig := { parameters := [], returnType := none }, accessFlags := 1, code := some k18c0 }
def k18c1 : Code := { maxStack := 4, maxLocals := 4, code := jdk_38_method_6_code, exceptionTable := #[], attributes := #[] }
def k18m1 : Method := { name := "grow", desc := "(I)[Ljava/lang/Object;", sig := { parameters := [.int], returnType := some (.array (.object "java/lang/Object")) }, accessFlags := 2, code := some k18c1 }
def k18c2 : Code := { maxStack := 3, maxLocals := 1, code := jdk_38_method_7_code, exceptionTable := #[], attributes := #[] }
def k18m2 : Method := { name := "grow", desc := "()[Ljava/lang/Object;", sig := { parameters := [], returnType := some (.array (.object "java/lang/Object")) }, accessFlags := 2, code := some k18c2 }
def k18c3 : Code := { maxStack := 1, maxLocals := 1, code := jdk_38_method_8_code, exceptionTable := #[], attributes := #[] }
def k18m3 : Method := { name := "size", desc := "()I", sig := { parameters := [], returnType := some .int }, accessFlags := 1, code := some k18c3 }
def k18c4 : Code := { maxStack := 2, maxLocals := 2, code := jdk_38_method_18_code, exceptionTable := #[], attributes := #[] }
def k18m4 : Method := { name := "elementData", desc := "(I)Ljava/lang/Object;", sig := { parameters := [.int], returnType := some (.object "java/lang/Object") }, accessFlags := 0, code := some k18c4 }
def k18c5 : Code := { maxStack := 2, maxLocals := 2, code := jdk_38_method_20_code, exceptionTable := #[], attributes := #[] }
def k18m5 : Method := { name := "get", desc := "(I)Ljava/lang/Object;", sig := { parameters := [.int], returnType := some (.object "java/lang/Object") }, accessFlags := 1, code := some k18c5 }
def k18c6 : Code := { maxStack := 3, maxLocals := 4, code := jdk_38_method_24_code, exceptionTable := #[], attributes := #[] }
def k18m6 : Method := { name := "add", desc := "(Ljava/lang/Object;[Ljava/lang/Object;I)V", sig := { parameters := [(.object "java/lang/Object"), (.array (.object "java/lang/Object")), .int], returnType := none }, accessFlags := 2, code := some k18c6 }
def k18c7 : Code := { maxStack := 4, maxLocals := 2, code := jdk_38_method_25_code, exceptionTable := #[], attributes := #[] }
def k18m7 : Method := { name := "add", desc := "(Ljava/lang/Object;)Z", sig := { parameters := [(.object "java/lang/Object")], returnType := some .boolean }, accessFlags := 1, code := some k18c7 }
/-- java/util/ArrayList -/
def k18 : Class := { plain "java/util/ArrayList" (some 15) with
  accessFlags := 33
  interfaces := #[14, 16, 17, 4]
  cf := some (fileOf pool18 10 #[.nestMembers #[290, 276, 500, 502, 262, 267]] #[{ accessFlags := 1, nameIndex := 5, descriptorIndex := 6, attributes := #[] }, { accessFlags := 2, nameIndex := 71, descriptorIndex := 72, attributes := #[] }, { accessFlags := 2, nameIndex := 71, descriptorIndex := 47, attributes := #[] }, { accessFlags := 1, nameIndex := 50, descriptorIndex := 186, attributes := #[] }, { accessFlags := 0, nameIndex := 13, descriptorIndex := 125, attributes := #[] }, { accessFlags := 1, nameIndex := 381, descriptorIndex := 125, attributes := #[] }, { accessFlags := 2, nameIndex := 133, descriptorIndex := 134, attributes := #[] }, { accessFlags := 1, nameIndex := 133, descriptorIndex := 96, attributes := #[] }] 33 2 #[148, 329, 331, 333] #[{ accessFlags := 26, nameIndex := 335, descriptorIndex := 336, attributes := #[] }, { accessFlags := 26, nameIndex := 340, descriptorIndex := 51, attributes := #[] }, { accessFlags := 26, nameIndex := 17, descriptorIndex := 14, attributes := #[] }, { accessFlags := 26, nameIndex := 41, descriptorIndex := 14, attributes := #[] }, { accessFlags := 128, nameIndex := 13, descriptorIndex := 14, attributes := #[] }, { accessFlags := 2, nameIndex := 50, descriptorIndex := 51, attributes := #[] }])
  fields := #[{ name := "serialVersionUID", type := .long, accessFlags := 26, slot := 0, constantValue := 0 }, { name := "DEFAULT_CAPACITY", type := .int, accessFlags := 26, slot := 1, constantValue := 0 }, { name := "EMPTY_ELEMENTDATA", type := (.array (.object "java/lang/Object")), accessFlags := 26, slot := 2, constantValue := 0 }, { name := "DEFAULTCAPACITY_EMPTY_ELEMENTDATA", type := (.array (.object "java/lang/Object")), accessFlags := 26, slot := 3, constantValue := 0 }, { name := "elementData", type := (.array (.object "java/lang/Object")), accessFlags := 128, slot := 1, constantValue := 0 }, { name := "size", type := .int, accessFlags := 2, slot := 2, constantValue := 0 }]
  methods := #[k18m0, k18m1, k18m2, k18m3, k18m4, k18m5, k18m6, k18m7]
  instanceTypes := #[.int, (.array (.object "java/lang/Object")), .int]
  staticTypes := #[.long, .int, (.array (.object "java/lang/Object")), (.array (.object "java/lang/Object"))]
  resolved := Array.replicate 509 none
  statics := some 2 }

def pool19 : Array CpInfo := pool [(1, .class_ 2), (0, u "java/lang/Math"), (1, .class_ 6), (1, u "java/lang/Object"), (0, u "<init>"), (0, u "()V"), (89, .class_ 100), (1, u "java/lang/Math$RandomNumberGeneratorHolder"), (71, u "negativeZeroFloatBits"), (0, u "J"), (2, u "negativeZeroDoubleBits"), (21, u "max"), (46, u "$assertionsDisabled"), (0, u "Z"), (88, u "(II)I"), (2, u "twoToTheDoubleScaleDown"), (0, u "D"), (4, u "twoToTheDoubleScaleUp"), (9, u "E"), (3, u "PI"), (2, u "TAU"), (2, u "DEGREES_TO_RADIANS"), (0, u "RADIANS_TO_DEGREES")] 94

def k19m0 : Method := { name := "<init>", desc := "()V", sig := { parameters := [], returnType := none }, accessFlags := 2, code := none }
def k19c1 : Code := { maxStack := 2, maxLocals := 2, code := jdk_29_method_65_code, exceptionTable := #[], attributes := #[] }
def k19m1 : Method := { name := "max", desc := "(II)I", sig := { parameters := [.int, .int], returnType := some .int }, accessFlags := 9, code := some k19c1 }
/-- java/lang/Math -/
def k19 : Class := { plain "java/lang/Math" (some 0) with
  accessFlags := 49
  interfaces := #[]
  cf := some (fileOf pool19 1 #[.nestMembers #[98]] #[{ accessFlags := 2, nameIndex := 7, descriptorIndex := 8, attributes := #[] }, { accessFlags := 9, nameIndex := 198, descriptorIndex := 335, attributes := #[] }] 49 4 #[] #[{ accessFlags := 25, nameIndex := 354, descriptorIndex := 339, attributes := #[] }, { accessFlags := 25, nameIndex := 358, descriptorIndex := 339, attributes := #[] }, { accessFlags := 25, nameIndex := 361, descriptorIndex := 339, attributes := #[] }, { accessFlags := 26, nameIndex := 364, descriptorIndex := 339, attributes := #[] }, { accessFlags := 26, nameIndex := 365, descriptorIndex := 339, attributes := #[] }, { accessFlags := 26, nameIndex := 172, descriptorIndex := 173, attributes := #[] }, { accessFlags := 26, nameIndex := 176, descriptorIndex := 173, attributes := #[] }, { accessFlags := 8, nameIndex := 344, descriptorIndex := 339, attributes := #[] }, { accessFlags := 8, nameIndex := 338, descriptorIndex := 339, attributes := #[] }, { accessFlags := 4120, nameIndex := 245, descriptorIndex := 246, attributes := #[] }])
  fields := #[{ name := "E", type := .double, accessFlags := 25, slot := 0, constantValue := 0 }, { name := "PI", type := .double, accessFlags := 25, slot := 1, constantValue := 0 }, { name := "TAU", type := .double, accessFlags := 25, slot := 2, constantValue := 0 }, { name := "DEGREES_TO_RADIANS", type := .double, accessFlags := 26, slot := 3, constantValue := 0 }, { name := "RADIANS_TO_DEGREES", type := .double, accessFlags := 26, slot := 4, constantValue := 0 }, { name := "negativeZeroFloatBits", type := .long, accessFlags := 26, slot := 5, constantValue := 0 }, { name := "negativeZeroDoubleBits", type := .long, accessFlags := 26, slot := 6, constantValue := 0 }, { name := "twoToTheDoubleScaleUp", type := .double, accessFlags := 8, slot := 7, constantValue := 0 }, { name := "twoToTheDoubleScaleDown", type := .double, accessFlags := 8, slot := 8, constantValue := 0 }, { name := "$assertionsDisabled", type := .boolean, accessFlags := 4120, slot := 9, constantValue := 0 }]
  methods := #[k19m0, k19m1]
  instanceTypes := #[]
  staticTypes := #[.double, .double, .double, .double, .double, .long, .long, .double, .double, .boolean]
  resolved := Array.replicate 460 none
  statics := none }

def pool20 : Array CpInfo := pool [(1, .methodref 2 3), (0, .class_ 4), (0, .nameAndType 5 6), (0, u "java/lang/Object"), (0, u "<init>"), (0, u "()V"), (0, .class_ 8), (0, u "java/lang/Record")] 13

def k20c0 : Code := { maxStack := 1, maxLocals := 1, code := jdk_30_method_1_code, exceptionTable := #[], attributes := #[] }
def k20m0 : Method := { name := "<init>", desc := "()V", sig := { parameters := [], returnType := none }, accessFlags := 4, code := some k20c0 }
/-- java/lang/Record -/
def k20 : Class := { plain "java/lang/Record" (some 0) with
  accessFlags := 1057
  interfaces := #[]
  cf := some (fileOf pool20 7 #[] #[{ accessFlags := 4, nameIndex := 5, descriptorIndex := 6, attributes := #[] }] 1057 2 #[] #[])
  fields := #[]
  methods := #[k20m0]
  instanceTypes := #[]
  staticTypes := #[]
  resolved := Array.replicate 22 none
  statics := none }

def pool21 : Array CpInfo := pool [(1, .methodref 2 3), (0, .class_ 4), (0, .nameAndType 5 6), (0, u "java/lang/Record"), (0, u "<init>"), (0, u "()V"), (0, .fieldref 8 9), (0, .class_ 10), (0, .nameAndType 11 12), (0, u "com/example/keyward/keyward/command/Outcome"), (0, u "status"), (0, u "Lcom/example/keyward/keyward/command/ExitStatus;"), (0, .fieldref 8 14), (0, .nameAndType 15 16), (0, u "lines"), (0, u "Ljava/util/List;"), (0, .fieldref 8 18), (0, .nameAndType 19 20), (0, u "recorded"), (0, u "Ljava/lang/String;"), (8, .methodref 8 30), (0, .nameAndType 5 31), (0, u "(Lcom/example/keyward/keyward/command/ExitStatus;Ljava/util/List;Ljava/lang/String;)V"), (72, u "REJECTED"), (9, u "(Ljava/lang/String;)Lcom/example/keyward/keyward/command/Outcome;"), (3, u "recordedAs"), (1, u "()Ljava/lang/String;"), (5, u "()Lcom/example/keyward/keyward/command/ExitStatus;"), (0, u "()Ljava/util/List;")] 50

def k21c0 : Code := { maxStack := 2, maxLocals := 4, code := prog_9_method_2_code, exceptionTable := #[], attributes := #[] }
def k21m0 : Method := { name := "<init>", desc := "(Lcom/example/keyward/keyward/command/ExitStatus;Ljava/util/List;Ljava/lang/String;)V", sig := { parameters := [(.object "com/example/keyward/keyward/command/ExitStatus"), (.object "java/util/List"), (.object "java/lang/String")], returnType := none }, accessFlags := 1, code := some k21c0 }
def k21c1 : Code := { maxStack := 5, maxLocals := 2, code := prog_9_method_8_code, exceptionTable := #[], attributes := #[] }
def k21m1 : Method := { name := "recordedAs", desc := "(Ljava/lang/String;)Lcom/example/keyward/keyward/command/Outcome;", sig := { parameters := [(.object "java/lang/String")], returnType := some (.object "com/example/keyward/keyward/command/Outcome") }, accessFlags := 1, code := some k21c1 }
def k21c2 : Code := { maxStack := 1, maxLocals := 1, code := prog_9_method_14_code, exceptionTable := #[], attributes := #[] }
def k21m2 : Method := { name := "status", desc := "()Lcom/example/keyward/keyward/command/ExitStatus;", sig := { parameters := [], returnType := some (.object "com/example/keyward/keyward/command/ExitStatus") }, accessFlags := 1, code := some k21c2 }
def k21c3 : Code := { maxStack := 1, maxLocals := 1, code := prog_9_method_15_code, exceptionTable := #[], attributes := #[] }
def k21m3 : Method := { name := "lines", desc := "()Ljava/util/List;", sig := { parameters := [], returnType := some (.object "java/util/List") }, accessFlags := 1, code := some k21c3 }
def k21c4 : Code := { maxStack := 1, maxLocals := 1, code := prog_9_method_16_code, exceptionTable := #[], attributes := #[] }
def k21m4 : Method := { name := "recorded", desc := "()Ljava/lang/String;", sig := { parameters := [], returnType := some (.object "java/lang/String") }, accessFlags := 1, code := some k21c4 }
/-- com/example/keyward/keyward/command/Outcome -/
def k21 : Class := { plain "com/example/keyward/keyward/command/Outcome" (some 20) with
  accessFlags := 49
  interfaces := #[]
  cf := some (fileOf pool21 8 #[] #[{ accessFlags := 1, nameIndex := 5, descriptorIndex := 31, attributes := #[] }, { accessFlags := 1, nameIndex := 118, descriptorIndex := 114, attributes := #[] }, { accessFlags := 1, nameIndex := 11, descriptorIndex := 126, attributes := #[] }, { accessFlags := 1, nameIndex := 15, descriptorIndex := 127, attributes := #[] }, { accessFlags := 1, nameIndex := 19, descriptorIndex := 120, attributes := #[] }] 49 2 #[] #[{ accessFlags := 18, nameIndex := 11, descriptorIndex := 12, attributes := #[] }, { accessFlags := 18, nameIndex := 15, descriptorIndex := 16, attributes := #[] }, { accessFlags := 18, nameIndex := 19, descriptorIndex := 20, attributes := #[] }, { accessFlags := 26, nameIndex := 104, descriptorIndex := 20, attributes := #[] }])
  fields := #[{ name := "status", type := (.object "com/example/keyward/keyward/command/ExitStatus"), accessFlags := 18, slot := 0, constantValue := 0 }, { name := "lines", type := (.object "java/util/List"), accessFlags := 18, slot := 1, constantValue := 0 }, { name := "recorded", type := (.object "java/lang/String"), accessFlags := 18, slot := 2, constantValue := 0 }, { name := "REJECTED", type := (.object "java/lang/String"), accessFlags := 26, slot := 0, constantValue := 0 }]
  methods := #[k21m0, k21m1, k21m2, k21m3, k21m4]
  instanceTypes := #[(.object "com/example/keyward/keyward/command/ExitStatus"), (.object "java/util/List"), (.object "java/lang/String")]
  staticTypes := #[(.object "java/lang/String")]
  resolved := Array.replicate 178 none
  statics := none }

def pool22 : Array CpInfo := pool [(2, .class_ 4), (1, u "java/lang/Object"), (0, u "<init>"), (0, u "()V"), (35, .class_ 44), (1, u "java/util/Objects"), (60, .methodref 106 107), (0, .class_ 108), (0, .nameAndType 109 110), (0, u "jdk/internal/util/Preconditions"), (0, u "checkIndex"), (0, u "(IILjava/util/function/BiFunction;)I"), (60, u "(II)I")] 12

def k22m0 : Method := { name := "<init>", desc := "()V", sig := { parameters := [], returnType := none }, accessFlags := 2, code := none }
def k22c1 : Code := { maxStack := 3, maxLocals := 2, code := jdk_31_method_17_code, exceptionTable := #[], attributes := #[] }
def k22m1 : Method := { name := "checkIndex", desc := "(II)I", sig := { parameters := [.int, .int], returnType := some .int }, accessFlags := 9, code := some k22c1 }
/-- java/util/Objects -/
def k22 : Class := { plain "java/util/Objects" (some 0) with
  accessFlags := 49
  interfaces := #[]
  cf := some (fileOf pool22 42 #[] #[{ accessFlags := 2, nameIndex := 5, descriptorIndex := 6, attributes := #[] }, { accessFlags := 9, nameIndex := 109, descriptorIndex := 171, attributes := #[] }] 49 2 #[] #[])
  fields := #[]
  methods := #[k22m0, k22m1]
  instanceTypes := #[]
  staticTypes := #[]
  resolved := Array.replicate 184 none
  statics := none }

def pool23 : Array CpInfo := pool [(2, .class_ 4), (1, u "java/lang/Object"), (0, u "<init>"), (0, u "()V"), (17, .class_ 26), (1, u "jdk/internal/util/Preconditions"), (6, u "checkIndex"), (21, .class_ 56), (0, u "jdk/internal/util/Preconditions$4"), (57, .class_ 115), (0, u "jdk/internal/util/Preconditions$1"), (7, u "SIOOBE_FORMATTER"), (0, u "Ljava/util/function/BiFunction;"), (0, .class_ 126), (0, u "jdk/internal/util/Preconditions$2"), (3, u "AIOOBE_FORMATTER"), (0, .class_ 132), (0, u "jdk/internal/util/Preconditions$3"), (3, u "IOOBE_FORMATTER"), (41, u "(IILjava/util/function/BiFunction;)I")] 15

def k23m0 : Method := { name := "<init>", desc := "()V", sig := { parameters := [], returnType := none }, accessFlags := 1, code := none }
def k23c1 : Code := { maxStack := 3, maxLocals := 3, code := jdk_41_method_11_code, exceptionTable := #[], attributes := #[] }
def k23m1 : Method := { name := "checkIndex", desc := "(IILjava/util/function/BiFunction;)I", sig := { parameters := [.int, .int, (.object "java/util/function/BiFunction")], returnType := some .int }, accessFlags := 9, code := some k23c1 }
/-- jdk/internal/util/Preconditions -/
def k23 : Class := { plain "jdk/internal/util/Preconditions" (some 0) with
  accessFlags := 33
  interfaces := #[]
  cf := some (fileOf pool23 24 #[.nestMembers #[55, 131, 125, 114]] #[{ accessFlags := 1, nameIndex := 5, descriptorIndex := 6, attributes := #[] }, { accessFlags := 9, nameIndex := 33, descriptorIndex := 178, attributes := #[] }] 33 2 #[] #[{ accessFlags := 25, nameIndex := 123, descriptorIndex := 124, attributes := #[] }, { accessFlags := 25, nameIndex := 130, descriptorIndex := 124, attributes := #[] }, { accessFlags := 25, nameIndex := 136, descriptorIndex := 124, attributes := #[] }])
  fields := #[{ name := "SIOOBE_FORMATTER", type := (.object "java/util/function/BiFunction"), accessFlags := 25, slot := 0, constantValue := 0 }, { name := "AIOOBE_FORMATTER", type := (.object "java/util/function/BiFunction"), accessFlags := 25, slot := 1, constantValue := 0 }, { name := "IOOBE_FORMATTER", type := (.object "java/util/function/BiFunction"), accessFlags := 25, slot := 2, constantValue := 0 }]
  methods := #[k23m0, k23m1]
  instanceTypes := #[]
  staticTypes := #[(.object "java/util/function/BiFunction"), (.object "java/util/function/BiFunction"), (.object "java/util/function/BiFunction")]
  resolved := Array.replicate 194 none
  statics := some 3 }

def pool24 : Array CpInfo := pool [(6, .class_ 8), (1, u "java/lang/Object"), (0, u "<init>"), (0, u "()V"), (1, .class_ 14), (1, u "java/lang/StringUTF16"), (31, u "$assertionsDisabled"), (0, u "Z"), (13, u "HI_BYTE_SHIFT"), (0, u "I"), (2, u "LO_BYTE_SHIFT"), (49, .methodref 12 116), (0, .nameAndType 117 118), (0, u "compress"), (0, u "([CI[BII)I"), (3, u "([CII)[B"), (138, u "coderFromArrayLen"), (0, u "([BI)B"), (106, .class_ 371), (1, u "java/lang/StringUTF16$LinesSpliterator"), (58, u "MAX_LENGTH"), (196, .class_ 628), (0, u "java/lang/StringUTF16$CodePointsSpliterator"), (0, .class_ 630), (0, u "java/lang/StringUTF16$CharsSpliterator")] 4

def k24m0 : Method := { name := "<init>", desc := "()V", sig := { parameters := [], returnType := none }, accessFlags := 0, code := none }
def k24c1 : Code := { maxStack := 2, maxLocals := 2, code := jdk_52_method_15_code, exceptionTable := #[], attributes := #[] }
def k24m1 : Method := { name := "coderFromArrayLen", desc := "([BI)B", sig := { parameters := [(.array .byte), .int], returnType := some .byte }, accessFlags := 8, code := some k24c1 }
def k24c2 : Code := { maxStack := 5, maxLocals := 6, code := jdk_52_method_16_code, exceptionTable := #[], attributes := #[] }
def k24m2 : Method := { name := "compress", desc := "([CII)[B", sig := { parameters := [(.array .char), .int, .int], returnType := some (.array .byte) }, accessFlags := 9, code := some k24c2 }
def k24c3 : Code := { maxStack := 3, maxLocals := 7, code := jdk_52_method_21_code, exceptionTable := #[], attributes := #[] }
def k24m3 : Method := { name := "compress", desc := "([CI[BII)I", sig := { parameters := [(.array .char), .int, (.array .byte), .int, .int], returnType := some .int }, accessFlags := 9, code := some k24c3 }
/-- java/lang/StringUTF16 -/
def k24 : Class := { plain "java/lang/StringUTF16" (some 0) with
  accessFlags := 48
  interfaces := #[]
  cf := some (fileOf pool24 12 #[.nestMembers #[627, 629, 369]] #[{ accessFlags := 0, nameIndex := 9, descriptorIndex := 10, attributes := #[] }, { accessFlags := 8, nameIndex := 261, descriptorIndex := 262, attributes := #[] }, { accessFlags := 9, nameIndex := 117, descriptorIndex := 122, attributes := #[] }, { accessFlags := 9, nameIndex := 117, descriptorIndex := 118, attributes := #[] }] 48 6 #[] #[{ accessFlags := 26, nameIndex := 61, descriptorIndex := 62, attributes := #[] }, { accessFlags := 26, nameIndex := 65, descriptorIndex := 62, attributes := #[] }, { accessFlags := 24, nameIndex := 430, descriptorIndex := 62, attributes := #[] }, { accessFlags := 4120, nameIndex := 46, descriptorIndex := 47, attributes := #[] }])
  fields := #[{ name := "HI_BYTE_SHIFT", type := .int, accessFlags := 26, slot := 0, constantValue := 0 }, { name := "LO_BYTE_SHIFT", type := .int, accessFlags := 26, slot := 1, constantValue := 0 }, { name := "MAX_LENGTH", type := .int, accessFlags := 24, slot := 2, constantValue := 0 }, { name := "$assertionsDisabled", type := .boolean, accessFlags := 4120, slot := 3, constantValue := 0 }]
  methods := #[k24m0, k24m1, k24m2, k24m3]
  instanceTypes := #[]
  staticTypes := #[.int, .int, .int, .boolean]
  resolved := Array.replicate 635 none
  statics := none }

def pool25 : Array CpInfo := pool [(4, .class_ 6), (1, u "java/lang/Object"), (0, u "<init>"), (0, u "()V"), (5, .class_ 16), (1, u "java/lang/StringLatin1"), (104, u "$assertionsDisabled"), (0, u "Z"), (98, .class_ 223), (1, u "java/lang/StringLatin1$LinesSpliterator"), (166, .class_ 391), (0, u "java/lang/StringLatin1$CharsSpliterator")] 3

def k25m0 : Method := { name := "<init>", desc := "()V", sig := { parameters := [], returnType := none }, accessFlags := 0, code := none }
/-- java/lang/StringLatin1 -/
def k25 : Class := { plain "java/lang/StringLatin1" (some 0) with
  accessFlags := 48
  interfaces := #[]
  cf := some (fileOf pool25 14 #[.nestMembers #[390, 221]] #[{ accessFlags := 0, nameIndex := 7, descriptorIndex := 8, attributes := #[] }] 48 4 #[] #[{ accessFlags := 4120, nameIndex := 121, descriptorIndex := 122, attributes := #[] }])
  fields := #[{ name := "$assertionsDisabled", type := .boolean, accessFlags := 4120, slot := 0, constantValue := 0 }]
  methods := #[k25m0]
  instanceTypes := #[]
  staticTypes := #[.boolean]
  resolved := Array.replicate 395 none
  statics := none }

def pool26 : Array CpInfo := pool [(9, u "<init>"), (6, .class_ 18), (1, u "java/lang/Object"), (0, u "()V"), (1, .class_ 23), (1, u "jdk/internal/util/ArraysSupport"), (0, u "LOG2_ARRAY_LONG_INDEX_SCALE"), (0, u "I"), (2, u "U"), (0, u "Ljdk/internal/misc/Unsafe;"), (8, u "BIG_ENDIAN"), (0, u "Z"), (8, u "LOG2_BYTE_BIT_SIZE"), (4, u "LOG2_ARRAY_INT_INDEX_SCALE"), (54, u "JLA"), (0, u "Ljdk/internal/access/JavaLangAccess;"), (11, u "LOG2_ARRAY_BOOLEAN_INDEX_SCALE"), (9, u "LOG2_ARRAY_BYTE_INDEX_SCALE"), (5, u "LOG2_ARRAY_CHAR_INDEX_SCALE"), (5, u "LOG2_ARRAY_SHORT_INDEX_SCALE"), (18, u "LOG2_ARRAY_FLOAT_INDEX_SCALE"), (24, u "LOG2_ARRAY_DOUBLE_INDEX_SCALE"), (89, u "T_BOOLEAN"), (2, u "T_CHAR"), (1, u "T_FLOAT"), (1, u "T_DOUBLE"), (1, u "T_BYTE"), (1, u "T_SHORT"), (1, u "T_INT"), (1, u "T_LONG"), (1, u "SOFT_MAX_ARRAY_LENGTH")] 83

def k26m0 : Method := { name := "<init>", desc := "()V", sig := { parameters := [], returnType := none }, accessFlags := 2, code := none }
/-- jdk/internal/util/ArraysSupport -/
def k26 : Class := { plain "jdk/internal/util/ArraysSupport" (some 0) with
  accessFlags := 33
  interfaces := #[]
  cf := some (fileOf pool26 21 #[] #[{ accessFlags := 2, nameIndex := 9, descriptorIndex := 19, attributes := #[] }] 33 16 #[] #[{ accessFlags := 24, nameIndex := 28, descriptorIndex := 29, attributes := #[] }, { accessFlags := 26, nameIndex := 38, descriptorIndex := 39, attributes := #[] }, { accessFlags := 25, nameIndex := 121, descriptorIndex := 25, attributes := #[] }, { accessFlags := 25, nameIndex := 131, descriptorIndex := 25, attributes := #[] }, { accessFlags := 25, nameIndex := 137, descriptorIndex := 25, attributes := #[] }, { accessFlags := 25, nameIndex := 143, descriptorIndex := 25, attributes := #[] }, { accessFlags := 25, nameIndex := 53, descriptorIndex := 25, attributes := #[] }, { accessFlags := 25, nameIndex := 24, descriptorIndex := 25, attributes := #[] }, { accessFlags := 25, nameIndex := 162, descriptorIndex := 25, attributes := #[] }, { accessFlags := 25, nameIndex := 187, descriptorIndex := 25, attributes := #[] }, { accessFlags := 26, nameIndex := 48, descriptorIndex := 25, attributes := #[] }, { accessFlags := 25, nameIndex := 277, descriptorIndex := 25, attributes := #[] }, { accessFlags := 25, nameIndex := 280, descriptorIndex := 25, attributes := #[] }, { accessFlags := 25, nameIndex := 282, descriptorIndex := 25, attributes := #[] }, { accessFlags := 25, nameIndex := 284, descriptorIndex := 25, attributes := #[] }, { accessFlags := 25, nameIndex := 286, descriptorIndex := 25, attributes := #[] }, { accessFlags := 25, nameIndex := 288, descriptorIndex := 25, attributes := #[] }, { accessFlags := 25, nameIndex := 290, descriptorIndex := 25, attributes := #[] }, { accessFlags := 25, nameIndex := 292, descriptorIndex := 25, attributes := #[] }, { accessFlags := 26, nameIndex := 108, descriptorIndex := 109, attributes := #[] }, { accessFlags := 25, nameIndex := 294, descriptorIndex := 25, attributes := #[] }])
  fields := #[{ name := "U", type := (.object "jdk/internal/misc/Unsafe"), accessFlags := 24, slot := 0, constantValue := 0 }, { name := "BIG_ENDIAN", type := .boolean, accessFlags := 26, slot := 1, constantValue := 0 }, { name := "LOG2_ARRAY_BOOLEAN_INDEX_SCALE", type := .int, accessFlags := 25, slot := 2, constantValue := 0 }, { name := "LOG2_ARRAY_BYTE_INDEX_SCALE", type := .int, accessFlags := 25, slot := 3, constantValue := 0 }, { name := "LOG2_ARRAY_CHAR_INDEX_SCALE", type := .int, accessFlags := 25, slot := 4, constantValue := 0 }, { name := "LOG2_ARRAY_SHORT_INDEX_SCALE", type := .int, accessFlags := 25, slot := 5, constantValue := 0 }, { name := "LOG2_ARRAY_INT_INDEX_SCALE", type := .int, accessFlags := 25, slot := 6, constantValue := 0 }, { name := "LOG2_ARRAY_LONG_INDEX_SCALE", type := .int, accessFlags := 25, slot := 7, constantValue := 0 }, { name := "LOG2_ARRAY_FLOAT_INDEX_SCALE", type := .int, accessFlags := 25, slot := 8, constantValue := 0 }, { name := "LOG2_ARRAY_DOUBLE_INDEX_SCALE", type := .int, accessFlags := 25, slot := 9, constantValue := 0 }, { name := "LOG2_BYTE_BIT_SIZE", type := .int, accessFlags := 26, slot := 10, constantValue := 0 }, { name := "T_BOOLEAN", type := .int, accessFlags := 25, slot := 11, constantValue := 0 }, { name := "T_CHAR", type := .int, accessFlags := 25, slot := 12, constantValue := 0 }, { name := "T_FLOAT", type := .int, accessFlags := 25, slot := 13, constantValue := 0 }, { name := "T_DOUBLE", type := .int, accessFlags := 25, slot := 14, constantValue := 0 }, { name := "T_BYTE", type := .int, accessFlags := 25, slot := 15, constantValue := 0 }, { name := "T_SHORT", type := .int, accessFlags := 25, slot := 16, constantValue := 0 }, { name := "T_INT", type := .int, accessFlags := 25, slot := 17, constantValue := 0 }, { name := "T_LONG", type := .int, accessFlags := 25, slot := 18, constantValue := 0 }, { name := "JLA", type := (.object "jdk/internal/access/JavaLangAccess"), accessFlags := 26, slot := 19, constantValue := 0 }, { name := "SOFT_MAX_ARRAY_LENGTH", type := .int, accessFlags := 25, slot := 20, constantValue := 0 }]
  methods := #[k26m0]
  instanceTypes := #[]
  staticTypes := #[(.object "jdk/internal/misc/Unsafe"), .boolean, .int, .int, .int, .int, .int, .int, .int, .int, .int, .int, .int, .int, .int, .int, .int, .int, .int, (.object "jdk/internal/access/JavaLangAccess"), .int]
  resolved := Array.replicate 378 none
  statics := none }

/-- the primitive byte -/
def k27 : Class := { plain "byte" none with kind := .primitive 'B', accessFlags := 0x411 }
/-- [B -/
def k28 : Class := { plain "[B" (some 0) with kind := .array 27 .byte, interfaces := #[17, 4], accessFlags := 1041 }

/-- the primitive char -/
def k29 : Class := { plain "char" none with kind := .primitive 'C', accessFlags := 0x411 }
/-- [C -/
def k30 : Class := { plain "[C" (some 0) with kind := .array 29 .char, interfaces := #[17, 4], accessFlags := 1041 }

/-- the primitive int -/
def k31 : Class := { plain "int" none with kind := .primitive 'I', accessFlags := 0x411 }
/-- [I -/
def k32 : Class := { plain "[I" (some 0) with kind := .array 31 .int, interfaces := #[17, 4], accessFlags := 1041 }

/-- [Ljava/lang/Object; -/
def k33 : Class := { plain "[Ljava/lang/Object;" (some 0) with kind := .array 0 (.object "java/lang/Object"), interfaces := #[17, 4], accessFlags := 1041 }

def heap : Heap := #[{ cls := 6, slots := #[.ref 4, .ref 5, .ref 6, .ref 7, .null], vm := .statics 6 },
  { cls := 9, slots := #[.long 0, .int 1, .null, .int 0, .null, .int 0, .int 0], vm := .statics 9 },
  { cls := 18, slots := #[.long 0, .int 0, .ref 8, .ref 9], vm := .statics 18 },
  { cls := 23, slots := #[.null, .null, .null], vm := .statics 23 },
  { cls := 6, slots := #[.null, .int 0, .int 0, .int 0], vm := .none },
  { cls := 6, slots := #[.null, .int 1, .int 0, .int 1], vm := .none },
  { cls := 6, slots := #[.null, .int 2, .int 0, .int 2], vm := .none },
  { cls := 6, slots := #[.null, .int 3, .int 0, .int 3], vm := .none },
  { cls := 33, slots := #[], vm := .none },
  { cls := 33, slots := #[], vm := .none }]
def classes : Array Class := #[k0, k1, k2, k3, k4, k5, k6, k7, k8, k9, k10, k11, k12, k13, k14, k15, k16, k17, k18, k19, k20, k21, k22, k23, k24, k25, k26, k27, k28, k29, k30, k31, k32, k33]
def interned : List (Array UInt16 × Addr) := []
def slotsUsed : Nat := 35
def theMethod : MethodId := ⟨1, 3⟩
def args0 : Array Value := #[.int 5, .int 7, .int 1, .int 3, .int 9]
def aboutOver (below : List Frame) : State where
  vm := { classes := classes, interned := interned.toArray }
  heap := heap
  slotsUsed := slotsUsed
  threads := #[{ frames := .invoking theMethod args0 :: below }]
def below0 : List Frame := [.native { method := ⟨0, 0⟩, args := #[] }]
def about1 : State := aboutOver below0
def p0 : Program := .bare "" "" ""
def e0 : Env := launch0.env 0 0 0
theorem w_frames : about1.frames = Frame.invoking theMethod args0 :: below0 := rfl
set_option maxRecDepth 65536 in
theorem w_args : argsFit about1.vm theMethod args0 = true := by decide +kernel
set_option maxRecDepth 65536 in
theorem w_heap : heapFits about1 = true := by decide +kernel
set_option maxRecDepth 65536 in
theorem w_runnable : about1.curStatus? = some .runnable := by decide +kernel
set_option maxRecDepth 65536 in
theorem w_alone : about1.alone = true := by decide +kernel
set_option maxRecDepth 65536 in
theorem w_named : about1.methodNamed? x = some theMethod := by decide +kernel
set_option maxRecDepth 65536 in
theorem w_hears : about1.hears theMethod below0 = true := by decide +kernel
set_option maxRecDepth 65536 in
theorem w_ripe : about1.ripe theMethod args0 below0 = true := by decide +kernel
theorem w_running : about1.status = .running := rfl
set_option maxRecDepth 65536 in
theorem w_room : about1.hasRoom e0.platform room_1 = true :=
  launch0.hasRoom_least _ room_1 (by decide +kernel) (by decide +kernel) (by decide +kernel) (by decide +kernel) (by decide +kernel) (by decide +kernel)
theorem allAtoms_all (ts : List Jvm.Cond) (a : Array Jvm.Value) (st : Jvm.State) : (allAtoms ts).before a st = ts.all (fun c => c.before a st) := by
  induction ts with
  | nil => rfl
  | cons c t ih =>
    show (Jvm.Cond.and c (allAtoms t)).before a st = _
    rw [Jvm.Cond.before_and, ih, List.all_cons]
def words1 : List Jvm.Cond := Jvm.Cond.code x code maxLocals ret :: tables_1
/-- a 'code' word, met by the world's own term for the bytes: nothing is compared byte by byte -/
theorem code_word {y : MethodName} {bytes : ByteArray} {mx : Nat} {rt : Option FieldType} {a : Array Value} {s : State} {m : MethodId} {meth : Method} {c : Code} (h1 : s.methodNamed? y = some m) (h2 : s.vm.method? m = some meth) (h3 : meth.code = some c) (h4 : c.code = bytes)
    (h5 : (c.maxLocals == mx && c.exceptionTable.isEmpty && decide (c.maxStack ≤ mostOperands) && decide (meth.sig.returnType = rt) && !meth.locks && decide (parseMethodDescriptor y.desc = some meth.sig)) = true) : (Jvm.Cond.code y bytes mx rt).before a s = true := by
  simp only [Bool.and_eq_true, beq_iff_eq, Bool.not_eq_true', decide_eq_true_eq] at h5
  obtain ⟨⟨⟨⟨⟨g1, g2⟩, g3⟩, g4⟩, g5⟩, g6⟩ := h5
  simp [Cond.before, Cond.holds, Cond.value, h1, h2, h3, h4, g1, g2, g3, g4, g5, g6]
def isCode : Jvm.Cond → Bool
  | .code _ _ _ _ => true
  | _ => false
theorem all_split {L : List Jvm.Cond} {P : Jvm.Cond → Bool} (h1 : L.all (fun c => isCode c || P c) = true) (h2 : ∀ c ∈ L.filter isCode, P c = true) : L.all P = true := by
  refine List.all_eq_true.mpr fun c hc => ?_
  have h := List.all_eq_true.mp h1 c hc
  rcases Bool.eq_false_or_eq_true (isCode c) with hi | hi
  · exact h2 c (List.mem_filter.mpr ⟨hc, hi⟩)
  · simpa [hi] using h
set_option maxRecDepth 65536 in
theorem w_c0 : (Jvm.Cond.code x code maxLocals ret).before args0 about1 = true := code_word (m := ⟨1, 3⟩) (meth := k1m3) (c := k1c3) (by decide +kernel) rfl rfl rfl (by decide +kernel)
set_option maxRecDepth 65536 in
theorem w_c1 : (Jvm.Cond.code ({ cls := "com/example/keyward/keyward/command/OutcomeRecordedAsPinLaw", name := "status", desc := "(I)Lcom/example/keyward/keyward/command/ExitStatus;" } : Jvm.MethodName) method_2_code (1 : Nat) (Option.some (Jvm.ClassFile.FieldType.object "com/example/keyward/keyward/command/ExitStatus"))).before args0 about1 = true := code_word (m := ⟨1, 1⟩) (meth := k1m1) (c := k1c1) (by decide +kernel) rfl rfl rfl (by decide +kernel)
set_option maxRecDepth 65536 in
theorem w_c2 : (Jvm.Cond.code ({ cls := "com/example/keyward/keyward/command/OutcomeRecordedAsPinLaw", name := "str", desc := "(I)Ljava/lang/String;" } : Jvm.MethodName) method_3_code (5 : Nat) (Option.some (Jvm.ClassFile.FieldType.object "java/lang/String"))).before args0 about1 = true := code_word (m := ⟨1, 2⟩) (meth := k1m2) (c := k1c2) (by decide +kernel) rfl rfl rfl (by decide +kernel)
set_option maxRecDepth 65536 in
theorem w_c3 : (Jvm.Cond.code ({ cls := "java/lang/String", name := "<init>", desc := "([C)V" } : Jvm.MethodName) jdk_42_method_3_code (2 : Nat) (Option.none : Option Jvm.ClassFile.FieldType)).before args0 about1 = true := code_word (m := ⟨9, 1⟩) (meth := k9m1) (c := k9c1) (by decide +kernel) rfl rfl rfl (by decide +kernel)
set_option maxRecDepth 65536 in
theorem w_c4 : (Jvm.Cond.code ({ cls := "java/lang/String", name := "<init>", desc := "([CIILjava/lang/Void;)V" } : Jvm.MethodName) jdk_42_method_149_code (6 : Nat) (Option.none : Option Jvm.ClassFile.FieldType)).before args0 about1 = true := code_word (m := ⟨9, 3⟩) (meth := k9m3) (c := k9c3) (by decide +kernel) rfl rfl rfl (by decide +kernel)
set_option maxRecDepth 65536 in
theorem w_c5 : (Jvm.Cond.code ({ cls := "java/lang/Object", name := "<init>", desc := "()V" } : Jvm.MethodName) object_method_1_code (1 : Nat) (Option.none : Option Jvm.ClassFile.FieldType)).before args0 about1 = true := code_word (m := ⟨0, 0⟩) (meth := k0m0) (c := k0c0) (by decide +kernel) rfl rfl rfl (by decide +kernel)
set_option maxRecDepth 65536 in
theorem w_c6 : (Jvm.Cond.code ({ cls := "java/util/ArrayList", name := "<init>", desc := "()V" } : Jvm.MethodName) jdk_38_method_2_code (1 : Nat) (Option.none : Option Jvm.ClassFile.FieldType)).before args0 about1 = true := code_word (m := ⟨18, 0⟩) (meth := k18m0) (c := k18c0) (by decide +kernel) rfl rfl rfl (by decide +kernel)
set_option maxRecDepth 65536 in
theorem w_c7 : (Jvm.Cond.code ({ cls := "java/util/AbstractList", name := "<init>", desc := "()V" } : Jvm.MethodName) jdk_39_method_1_code (1 : Nat) (Option.none : Option Jvm.ClassFile.FieldType)).before args0 about1 = true := code_word (m := ⟨15, 0⟩) (meth := k15m0) (c := k15c0) (by decide +kernel) rfl rfl rfl (by decide +kernel)
set_option maxRecDepth 65536 in
theorem w_c8 : (Jvm.Cond.code ({ cls := "java/util/AbstractCollection", name := "<init>", desc := "()V" } : Jvm.MethodName) jdk_22_method_1_code (1 : Nat) (Option.none : Option Jvm.ClassFile.FieldType)).before args0 about1 = true := code_word (m := ⟨12, 0⟩) (meth := k12m0) (c := k12c0) (by decide +kernel) rfl rfl rfl (by decide +kernel)
set_option maxRecDepth 65536 in
theorem w_c9 : (Jvm.Cond.code ({ cls := "java/util/ArrayList", name := "add", desc := "(Ljava/lang/Object;)Z" } : Jvm.MethodName) jdk_38_method_25_code (2 : Nat) (Option.some Jvm.ClassFile.FieldType.boolean)).before args0 about1 = true := code_word (m := ⟨18, 7⟩) (meth := k18m7) (c := k18c7) (by decide +kernel) rfl rfl rfl (by decide +kernel)
set_option maxRecDepth 65536 in
theorem w_c10 : (Jvm.Cond.code ({ cls := "java/util/ArrayList", name := "add", desc := "(Ljava/lang/Object;[Ljava/lang/Object;I)V" } : Jvm.MethodName) jdk_38_method_24_code (4 : Nat) (Option.none : Option Jvm.ClassFile.FieldType)).before args0 about1 = true := code_word (m := ⟨18, 6⟩) (meth := k18m6) (c := k18c6) (by decide +kernel) rfl rfl rfl (by decide +kernel)
set_option maxRecDepth 65536 in
theorem w_c11 : (Jvm.Cond.code ({ cls := "java/util/ArrayList", name := "grow", desc := "()[Ljava/lang/Object;" } : Jvm.MethodName) jdk_38_method_7_code (1 : Nat) (Option.some (Jvm.ClassFile.FieldType.array (Jvm.ClassFile.FieldType.object "java/lang/Object")))).before args0 about1 = true := code_word (m := ⟨18, 2⟩) (meth := k18m2) (c := k18c2) (by decide +kernel) rfl rfl rfl (by decide +kernel)
set_option maxRecDepth 65536 in
theorem w_c12 : (Jvm.Cond.code ({ cls := "java/util/ArrayList", name := "grow", desc := "(I)[Ljava/lang/Object;" } : Jvm.MethodName) jdk_38_method_6_code (4 : Nat) (Option.some (Jvm.ClassFile.FieldType.array (Jvm.ClassFile.FieldType.object "java/lang/Object")))).before args0 about1 = true := code_word (m := ⟨18, 1⟩) (meth := k18m1) (c := k18c1) (by decide +kernel) rfl rfl rfl (by decide +kernel)
set_option maxRecDepth 65536 in
theorem w_c13 : (Jvm.Cond.code ({ cls := "java/lang/Math", name := "max", desc := "(II)I" } : Jvm.MethodName) jdk_29_method_65_code (2 : Nat) (Option.some Jvm.ClassFile.FieldType.int)).before args0 about1 = true := code_word (m := ⟨19, 1⟩) (meth := k19m1) (c := k19c1) (by decide +kernel) rfl rfl rfl (by decide +kernel)
set_option maxRecDepth 65536 in
theorem w_c14 : (Jvm.Cond.code ({ cls := "com/example/keyward/keyward/command/Outcome", name := "<init>", desc := "(Lcom/example/keyward/keyward/command/ExitStatus;Ljava/util/List;Ljava/lang/String;)V" } : Jvm.MethodName) prog_9_method_2_code (4 : Nat) (Option.none : Option Jvm.ClassFile.FieldType)).before args0 about1 = true := code_word (m := ⟨21, 0⟩) (meth := k21m0) (c := k21c0) (by decide +kernel) rfl rfl rfl (by decide +kernel)
set_option maxRecDepth 65536 in
theorem w_c15 : (Jvm.Cond.code ({ cls := "java/lang/Record", name := "<init>", desc := "()V" } : Jvm.MethodName) jdk_30_method_1_code (1 : Nat) (Option.none : Option Jvm.ClassFile.FieldType)).before args0 about1 = true := code_word (m := ⟨20, 0⟩) (meth := k20m0) (c := k20c0) (by decide +kernel) rfl rfl rfl (by decide +kernel)
set_option maxRecDepth 65536 in
theorem w_c16 : (Jvm.Cond.code ({ cls := "com/example/keyward/keyward/command/Outcome", name := "recordedAs", desc := "(Ljava/lang/String;)Lcom/example/keyward/keyward/command/Outcome;" } : Jvm.MethodName) prog_9_method_8_code (2 : Nat) (Option.some (Jvm.ClassFile.FieldType.object "com/example/keyward/keyward/command/Outcome"))).before args0 about1 = true := code_word (m := ⟨21, 1⟩) (meth := k21m1) (c := k21c1) (by decide +kernel) rfl rfl rfl (by decide +kernel)
set_option maxRecDepth 65536 in
theorem w_c17 : (Jvm.Cond.code ({ cls := "com/example/keyward/keyward/command/Outcome", name := "status", desc := "()Lcom/example/keyward/keyward/command/ExitStatus;" } : Jvm.MethodName) prog_9_method_14_code (1 : Nat) (Option.some (Jvm.ClassFile.FieldType.object "com/example/keyward/keyward/command/ExitStatus"))).before args0 about1 = true := code_word (m := ⟨21, 2⟩) (meth := k21m2) (c := k21c2) (by decide +kernel) rfl rfl rfl (by decide +kernel)
set_option maxRecDepth 65536 in
theorem w_c18 : (Jvm.Cond.code ({ cls := "com/example/keyward/keyward/command/Outcome", name := "lines", desc := "()Ljava/util/List;" } : Jvm.MethodName) prog_9_method_15_code (1 : Nat) (Option.some (Jvm.ClassFile.FieldType.object "java/util/List"))).before args0 about1 = true := code_word (m := ⟨21, 3⟩) (meth := k21m3) (c := k21c3) (by decide +kernel) rfl rfl rfl (by decide +kernel)
set_option maxRecDepth 65536 in
theorem w_c19 : (Jvm.Cond.code ({ cls := "java/util/ArrayList", name := "size", desc := "()I" } : Jvm.MethodName) jdk_38_method_8_code (1 : Nat) (Option.some Jvm.ClassFile.FieldType.int)).before args0 about1 = true := code_word (m := ⟨18, 3⟩) (meth := k18m3) (c := k18c3) (by decide +kernel) rfl rfl rfl (by decide +kernel)
set_option maxRecDepth 65536 in
theorem w_c20 : (Jvm.Cond.code ({ cls := "java/util/ArrayList", name := "get", desc := "(I)Ljava/lang/Object;" } : Jvm.MethodName) jdk_38_method_20_code (2 : Nat) (Option.some (Jvm.ClassFile.FieldType.object "java/lang/Object"))).before args0 about1 = true := code_word (m := ⟨18, 5⟩) (meth := k18m5) (c := k18c5) (by decide +kernel) rfl rfl rfl (by decide +kernel)
set_option maxRecDepth 65536 in
theorem w_c21 : (Jvm.Cond.code ({ cls := "java/util/Objects", name := "checkIndex", desc := "(II)I" } : Jvm.MethodName) jdk_31_method_17_code (2 : Nat) (Option.some Jvm.ClassFile.FieldType.int)).before args0 about1 = true := code_word (m := ⟨22, 1⟩) (meth := k22m1) (c := k22c1) (by decide +kernel) rfl rfl rfl (by decide +kernel)
set_option maxRecDepth 65536 in
theorem w_c22 : (Jvm.Cond.code ({ cls := "jdk/internal/util/Preconditions", name := "checkIndex", desc := "(IILjava/util/function/BiFunction;)I" } : Jvm.MethodName) jdk_41_method_11_code (3 : Nat) (Option.some Jvm.ClassFile.FieldType.int)).before args0 about1 = true := code_word (m := ⟨23, 1⟩) (meth := k23m1) (c := k23c1) (by decide +kernel) rfl rfl rfl (by decide +kernel)
set_option maxRecDepth 65536 in
theorem w_c23 : (Jvm.Cond.code ({ cls := "java/util/ArrayList", name := "elementData", desc := "(I)Ljava/lang/Object;" } : Jvm.MethodName) jdk_38_method_18_code (2 : Nat) (Option.some (Jvm.ClassFile.FieldType.object "java/lang/Object"))).before args0 about1 = true := code_word (m := ⟨18, 4⟩) (meth := k18m4) (c := k18c4) (by decide +kernel) rfl rfl rfl (by decide +kernel)
set_option maxRecDepth 65536 in
theorem w_c24 : (Jvm.Cond.code ({ cls := "java/lang/String", name := "equals", desc := "(Ljava/lang/Object;)Z" } : Jvm.MethodName) jdk_42_method_66_code (3 : Nat) (Option.some Jvm.ClassFile.FieldType.boolean)).before args0 about1 = true := code_word (m := ⟨9, 2⟩) (meth := k9m2) (c := k9c2) (by decide +kernel) rfl rfl rfl (by decide +kernel)
set_option maxRecDepth 65536 in
theorem w_c25 : (Jvm.Cond.code ({ cls := "com/example/keyward/keyward/command/Outcome", name := "recorded", desc := "()Ljava/lang/String;" } : Jvm.MethodName) prog_9_method_16_code (1 : Nat) (Option.some (Jvm.ClassFile.FieldType.object "java/lang/String"))).before args0 about1 = true := code_word (m := ⟨21, 4⟩) (meth := k21m4) (c := k21c4) (by decide +kernel) rfl rfl rfl (by decide +kernel)
set_option maxRecDepth 65536 in
theorem w_c26 : (Jvm.Cond.code ({ cls := "java/lang/StringUTF16", name := "compress", desc := "([CII)[B" } : Jvm.MethodName) jdk_52_method_16_code (6 : Nat) (Option.some (Jvm.ClassFile.FieldType.array Jvm.ClassFile.FieldType.byte))).before args0 about1 = true := code_word (m := ⟨24, 2⟩) (meth := k24m2) (c := k24c2) (by decide +kernel) rfl rfl rfl (by decide +kernel)
set_option maxRecDepth 65536 in
theorem w_c27 : (Jvm.Cond.code ({ cls := "java/lang/StringUTF16", name := "compress", desc := "([CI[BII)I" } : Jvm.MethodName) jdk_52_method_21_code (7 : Nat) (Option.some Jvm.ClassFile.FieldType.int)).before args0 about1 = true := code_word (m := ⟨24, 3⟩) (meth := k24m3) (c := k24c3) (by decide +kernel) rfl rfl rfl (by decide +kernel)
set_option maxRecDepth 65536 in
theorem w_c28 : (Jvm.Cond.code ({ cls := "java/lang/StringUTF16", name := "coderFromArrayLen", desc := "([BI)B" } : Jvm.MethodName) jdk_52_method_15_code (2 : Nat) (Option.some Jvm.ClassFile.FieldType.byte)).before args0 about1 = true := code_word (m := ⟨24, 1⟩) (meth := k24m1) (c := k24c1) (by decide +kernel) rfl rfl rfl (by decide +kernel)
def codes1 : List Jvm.Cond := [Jvm.Cond.code x code maxLocals ret, Jvm.Cond.code ({ cls := "com/example/keyward/keyward/command/OutcomeRecordedAsPinLaw", name := "status", desc := "(I)Lcom/example/keyward/keyward/command/ExitStatus;" } : Jvm.MethodName) method_2_code (1 : Nat) (Option.some (Jvm.ClassFile.FieldType.object "com/example/keyward/keyward/command/ExitStatus")), Jvm.Cond.code ({ cls := "com/example/keyward/keyward/command/OutcomeRecordedAsPinLaw", name := "str", desc := "(I)Ljava/lang/String;" } : Jvm.MethodName) method_3_code (5 : Nat) (Option.some (Jvm.ClassFile.FieldType.object "java/lang/String")), Jvm.Cond.code ({ cls := "java/lang/String", name := "<init>", desc := "([C)V" } : Jvm.MethodName) jdk_42_method_3_code (2 : Nat) (Option.none : Option Jvm.ClassFile.FieldType), Jvm.Cond.code ({ cls := "java/lang/String", name := "<init>", desc := "([CIILjava/lang/Void;)V" } : Jvm.MethodName) jdk_42_method_149_code (6 : Nat) (Option.none : Option Jvm.ClassFile.FieldType), Jvm.Cond.code ({ cls := "java/lang/Object", name := "<init>", desc := "()V" } : Jvm.MethodName) object_method_1_code (1 : Nat) (Option.none : Option Jvm.ClassFile.FieldType), Jvm.Cond.code ({ cls := "java/util/ArrayList", name := "<init>", desc := "()V" } : Jvm.MethodName) jdk_38_method_2_code (1 : Nat) (Option.none : Option Jvm.ClassFile.FieldType), Jvm.Cond.code ({ cls := "java/util/AbstractList", name := "<init>", desc := "()V" } : Jvm.MethodName) jdk_39_method_1_code (1 : Nat) (Option.none : Option Jvm.ClassFile.FieldType), Jvm.Cond.code ({ cls := "java/util/AbstractCollection", name := "<init>", desc := "()V" } : Jvm.MethodName) jdk_22_method_1_code (1 : Nat) (Option.none : Option Jvm.ClassFile.FieldType), Jvm.Cond.code ({ cls := "java/util/ArrayList", name := "add", desc := "(Ljava/lang/Object;)Z" } : Jvm.MethodName) jdk_38_method_25_code (2 : Nat) (Option.some Jvm.ClassFile.FieldType.boolean), Jvm.Cond.code ({ cls := "java/util/ArrayList", name := "add", desc := "(Ljava/lang/Object;[Ljava/lang/Object;I)V" } : Jvm.MethodName) jdk_38_method_24_code (4 : Nat) (Option.none : Option Jvm.ClassFile.FieldType), Jvm.Cond.code ({ cls := "java/util/ArrayList", name := "grow", desc := "()[Ljava/lang/Object;" } : Jvm.MethodName) jdk_38_method_7_code (1 : Nat) (Option.some (Jvm.ClassFile.FieldType.array (Jvm.ClassFile.FieldType.object "java/lang/Object"))), Jvm.Cond.code ({ cls := "java/util/ArrayList", name := "grow", desc := "(I)[Ljava/lang/Object;" } : Jvm.MethodName) jdk_38_method_6_code (4 : Nat) (Option.some (Jvm.ClassFile.FieldType.array (Jvm.ClassFile.FieldType.object "java/lang/Object"))), Jvm.Cond.code ({ cls := "java/lang/Math", name := "max", desc := "(II)I" } : Jvm.MethodName) jdk_29_method_65_code (2 : Nat) (Option.some Jvm.ClassFile.FieldType.int), Jvm.Cond.code ({ cls := "com/example/keyward/keyward/command/Outcome", name := "<init>", desc := "(Lcom/example/keyward/keyward/command/ExitStatus;Ljava/util/List;Ljava/lang/String;)V" } : Jvm.MethodName) prog_9_method_2_code (4 : Nat) (Option.none : Option Jvm.ClassFile.FieldType), Jvm.Cond.code ({ cls := "java/lang/Record", name := "<init>", desc := "()V" } : Jvm.MethodName) jdk_30_method_1_code (1 : Nat) (Option.none : Option Jvm.ClassFile.FieldType), Jvm.Cond.code ({ cls := "com/example/keyward/keyward/command/Outcome", name := "recordedAs", desc := "(Ljava/lang/String;)Lcom/example/keyward/keyward/command/Outcome;" } : Jvm.MethodName) prog_9_method_8_code (2 : Nat) (Option.some (Jvm.ClassFile.FieldType.object "com/example/keyward/keyward/command/Outcome")), Jvm.Cond.code ({ cls := "com/example/keyward/keyward/command/Outcome", name := "status", desc := "()Lcom/example/keyward/keyward/command/ExitStatus;" } : Jvm.MethodName) prog_9_method_14_code (1 : Nat) (Option.some (Jvm.ClassFile.FieldType.object "com/example/keyward/keyward/command/ExitStatus")), Jvm.Cond.code ({ cls := "com/example/keyward/keyward/command/Outcome", name := "lines", desc := "()Ljava/util/List;" } : Jvm.MethodName) prog_9_method_15_code (1 : Nat) (Option.some (Jvm.ClassFile.FieldType.object "java/util/List")), Jvm.Cond.code ({ cls := "java/util/ArrayList", name := "size", desc := "()I" } : Jvm.MethodName) jdk_38_method_8_code (1 : Nat) (Option.some Jvm.ClassFile.FieldType.int), Jvm.Cond.code ({ cls := "java/util/ArrayList", name := "get", desc := "(I)Ljava/lang/Object;" } : Jvm.MethodName) jdk_38_method_20_code (2 : Nat) (Option.some (Jvm.ClassFile.FieldType.object "java/lang/Object")), Jvm.Cond.code ({ cls := "java/util/Objects", name := "checkIndex", desc := "(II)I" } : Jvm.MethodName) jdk_31_method_17_code (2 : Nat) (Option.some Jvm.ClassFile.FieldType.int), Jvm.Cond.code ({ cls := "jdk/internal/util/Preconditions", name := "checkIndex", desc := "(IILjava/util/function/BiFunction;)I" } : Jvm.MethodName) jdk_41_method_11_code (3 : Nat) (Option.some Jvm.ClassFile.FieldType.int), Jvm.Cond.code ({ cls := "java/util/ArrayList", name := "elementData", desc := "(I)Ljava/lang/Object;" } : Jvm.MethodName) jdk_38_method_18_code (2 : Nat) (Option.some (Jvm.ClassFile.FieldType.object "java/lang/Object")), Jvm.Cond.code ({ cls := "java/lang/String", name := "equals", desc := "(Ljava/lang/Object;)Z" } : Jvm.MethodName) jdk_42_method_66_code (3 : Nat) (Option.some Jvm.ClassFile.FieldType.boolean), Jvm.Cond.code ({ cls := "com/example/keyward/keyward/command/Outcome", name := "recorded", desc := "()Ljava/lang/String;" } : Jvm.MethodName) prog_9_method_16_code (1 : Nat) (Option.some (Jvm.ClassFile.FieldType.object "java/lang/String")), Jvm.Cond.code ({ cls := "java/lang/StringUTF16", name := "compress", desc := "([CII)[B" } : Jvm.MethodName) jdk_52_method_16_code (6 : Nat) (Option.some (Jvm.ClassFile.FieldType.array Jvm.ClassFile.FieldType.byte)), Jvm.Cond.code ({ cls := "java/lang/StringUTF16", name := "compress", desc := "([CI[BII)I" } : Jvm.MethodName) jdk_52_method_21_code (7 : Nat) (Option.some Jvm.ClassFile.FieldType.int), Jvm.Cond.code ({ cls := "java/lang/StringUTF16", name := "coderFromArrayLen", desc := "([BI)B" } : Jvm.MethodName) jdk_52_method_15_code (2 : Nat) (Option.some Jvm.ClassFile.FieldType.byte)]
set_option maxRecDepth 65536 in
theorem codes_eq : words1.filter isCode = codes1 := rfl
theorem w_codes : ∀ c ∈ words1.filter isCode, c.before args0 about1 = true := by
  rw [codes_eq]
  intro c hc
  simp only [codes1, List.mem_cons, List.not_mem_nil, or_false] at hc
  rcases hc with rfl | rfl | rfl | rfl | rfl | rfl | rfl | rfl | rfl | rfl | rfl | rfl | rfl | rfl | rfl | rfl | rfl | rfl | rfl | rfl | rfl | rfl | rfl | rfl | rfl | rfl | rfl | rfl | rfl
  · exact w_c0
  · exact w_c1
  · exact w_c2
  · exact w_c3
  · exact w_c4
  · exact w_c5
  · exact w_c6
  · exact w_c7
  · exact w_c8
  · exact w_c9
  · exact w_c10
  · exact w_c11
  · exact w_c12
  · exact w_c13
  · exact w_c14
  · exact w_c15
  · exact w_c16
  · exact w_c17
  · exact w_c18
  · exact w_c19
  · exact w_c20
  · exact w_c21
  · exact w_c22
  · exact w_c23
  · exact w_c24
  · exact w_c25
  · exact w_c26
  · exact w_c27
  · exact w_c28
set_option maxRecDepth 65536 in
theorem w_t1 : (words1.take 24).all (fun c => isCode c || c.before args0 about1) = true := by decide +kernel
set_option maxRecDepth 65536 in
theorem w_t2 : ((words1.drop 24).take 24).all (fun c => isCode c || c.before args0 about1) = true := by decide +kernel
set_option maxRecDepth 65536 in
theorem w_t3 : (((words1.drop 24).drop 24).take 24).all (fun c => isCode c || c.before args0 about1) = true := by decide +kernel
set_option maxRecDepth 65536 in
theorem w_t4 : ((((words1.drop 24).drop 24).drop 24).take 24).all (fun c => isCode c || c.before args0 about1) = true := by decide +kernel
set_option maxRecDepth 65536 in
theorem w_t5 : (((((words1.drop 24).drop 24).drop 24).drop 24).take 24).all (fun c => isCode c || c.before args0 about1) = true := by decide +kernel
set_option maxRecDepth 65536 in
theorem w_t6 : ((((((words1.drop 24).drop 24).drop 24).drop 24).drop 24).take 24).all (fun c => isCode c || c.before args0 about1) = true := by decide +kernel
set_option maxRecDepth 65536 in
theorem w_t7 : (((((((words1.drop 24).drop 24).drop 24).drop 24).drop 24).drop 24).take 24).all (fun c => isCode c || c.before args0 about1) = true := by decide +kernel
set_option maxRecDepth 65536 in
theorem w_t8 : (((((((words1.drop 24).drop 24).drop 24).drop 24).drop 24).drop 24).drop 24).all (fun c => isCode c || c.before args0 about1) = true := by decide +kernel
theorem w_tables : (allAtoms (Jvm.Cond.code x code maxLocals ret :: tables_1)).before args0 about1 = true := by
  rw [allAtoms_all]
  show words1.all (fun c => c.before args0 about1) = true
  refine all_split ?_ w_codes
  rw [← List.take_append_drop 24 words1, List.all_append, w_t1, ← List.take_append_drop 24 (words1.drop 24), List.all_append, w_t2, ← List.take_append_drop 24 ((words1.drop 24).drop 24), List.all_append, w_t3, ← List.take_append_drop 24 (((words1.drop 24).drop 24).drop 24), List.all_append, w_t4, ← List.take_append_drop 24 ((((words1.drop 24).drop 24).drop 24).drop 24), List.all_append, w_t5, ← List.take_append_drop 24 (((((words1.drop 24).drop 24).drop 24).drop 24).drop 24), List.all_append, w_t6, ← List.take_append_drop 24 ((((((words1.drop 24).drop 24).drop 24).drop 24).drop 24).drop 24), List.all_append, w_t7, w_t8]
  rfl
set_option maxRecDepth 65536 in
theorem w_rest : rest_1_c.before args0 about1 = true := by decide +kernel
set_option maxRecDepth 65536 in
theorem w_case : (Jvm.Cond.and given_1 narrow_1).before args0 about1 = true := by decide +kernel
set_option maxRecDepth 65536 in
theorem w_consts : constsHeld consts_1 about1 := Jvm.Lit.constsHeldB_iff.mp (by decide +kernel)
theorem w_applies : (headSpec (Jvm.Cond.code x code maxLocals ret :: tables_1) room_1).applies x e0.platform about1 = true :=
  (Spec.applies_iff w_frames).mpr ⟨w_running, w_runnable, w_alone, w_named, w_hears, w_ripe, w_room, w_tables⟩
theorem atStart : AtStart classFile x code maxLocals ret World_1 tables_1 room_1 Calls_1 rest_1 Pre_1 launch0 p0 e0 about1 theMethod args0 below0 :=
  ⟨lists_1, trivial, launch0.admits_env _ _ _, launch0.least_env, fairChoices_fair.cas, fairChoices_fair.clock, w_frames, w_args, w_heap, w_applies, ⟨w_consts, trivial⟩, w_rest, w_case⟩
end start1
theorem witness_1 : WitnessClaimed_1 := ⟨start1.p0, start1.e0, start1.about1, start1.theMethod, start1.args0, start1.below0, start1.atStart⟩
end Jvm.Pilot.@@N@@
