import JvmDerived
import JvmDerived.Pilot.@@N@@Statement
import JvmDerived.Pilot.@@N@@Code
set_option linter.unusedVariables false
set_option linter.unusedSimpArgs false
namespace Jvm.Pilot.@@N@@
open Jvm Jvm.ClassFile Sem Op Lib Jvm.Free Jvm.Stand Jvm.LawKit Jvm.RoadKit Bundle Jvm.Pilot.@@N@@.Jvm.D
section Own
variable {p : Program} {l : Launch} {e : Env} {R : Room} {s : State} {m : MethodId} {args : Array Value} {below : List Frame} {meth : Method} {c : Code} {T : State} {locs : List Loc} {cells slots : Nat} {k n : Nat} {Q : Option Value → Heap → List Loc → Prop} {FF : State → Option Value → Prop} {pc q q' : Nat} {Ls l' : Array Slot} {st rest : List Value}
/-- from U the run comes to a return that FF allows -/
def own_G (p : Program) (e : Env) (below : List Frame) (FF : State → Option Value → Prop) (U : State) : Prop :=
  ∃ s₂ v, Steps p.tables e below U s₂ ∧ s₂.status = .running ∧ Ended s₂ below (.returned v) ∧ FF s₂ v
/-- .. that Q allows, with at most k cells and n slots made since s -/
def own_En (s : State) (k n : Nat) (Q : Option Value → Heap → List Loc → Prop) : State → Option Value → Prop := fun s₂ v => ∃ L, Q v s₂.heap L ∧ FrameEnd s (.returned v) s₂ L k n
theorem own_G.via {U U' : State} (g : own_G p e below FF U') (h : ∀ t, Steps p.tables e below U' t → Steps p.tables e below U t) : own_G p e below FF U := by
  obtain ⟨s₂, o, h1, h2⟩ := g
  exact ⟨s₂, o, h _ h1, h2⟩
theorem own_retI (X : Stand p l e R s m args below meth c T locs cells slots) (hx : p.tables.exec = Jvm.exec) {z : Int32} (hret : meth.sig.returnType = some .int) (hlk : meth.locks = false) (hd : decode c.code pc = .ok (.ireturn, 1)) (hk : cells ≤ k) (hn : slots ≤ n) (hq : Q (some (.int z)) T.heap locs) :
    own_G p e below (own_En s k n Q) (T.setTop (mkF m pc Ls [.int z])) := by
  obtain ⟨fs, hr, hrun, hended, hW, hsame⟩ := X.leave (v := some (.int z)) (fun h => by rw [hret] at h; cases h) hlk
  exact ⟨_, _, X.ireturnOut hx hret rfl (Or.inl rfl) hd hr, hrun, hended, _, hq, ⟨_, rfl⟩, hW, hsame.mono hk hn⟩
theorem own_retN (X : Stand p l e R s m args below meth c T locs cells slots) (hx : p.tables.exec = Jvm.exec) {z w : Int32} {t : FieldType} (hret : meth.sig.returnType = some t) (hlk : meth.locks = false) (ht : t = .boolean ∨ t = .byte ∨ t = .char ∨ t = .short) (hd : decode c.code pc = .ok (.ireturn, 1)) (hk : cells ≤ k) (hn : slots ≤ n) (hz : nar t z = w) (hq : Q (some (.int w)) T.heap locs) :
    own_G p e below (own_En s k n Q) (T.setTop (mkF m pc Ls [.int z])) := by
  subst hz
  obtain ⟨fs, hr, hrun, hended, hW, hsame⟩ := X.leave (v := some (.int (nar t z))) (fun h => by rw [hret] at h; cases h) hlk
  exact ⟨_, _, retN X hx hret ht hd hr, hrun, hended, _, hq, ⟨_, rfl⟩, hW, hsame.mono hk hn⟩
theorem own_retL (X : Stand p l e R s m args below meth c T locs cells slots) (hx : p.tables.exec = Jvm.exec) {z : Int64} (hret : meth.sig.returnType = some .long) (hlk : meth.locks = false) (hd : decode c.code pc = .ok (.lreturn, 1)) (hk : cells ≤ k) (hn : slots ≤ n) (hq : Q (some (.long z)) T.heap locs) :
    own_G p e below (own_En s k n Q) (T.setTop (mkF m pc Ls [.long z])) := by
  obtain ⟨fs, hr, hrun, hended, hW, hsame⟩ := X.leave (v := some (.long z)) (fun h => by rw [hret] at h; cases h) hlk
  exact ⟨_, _, X.lreturnOut hx hret hd hr, hrun, hended, _, hq, ⟨_, rfl⟩, hW, hsame.mono hk hn⟩
theorem own_retV (X : Stand p l e R s m args below meth c T locs cells slots) (hx : p.tables.exec = Jvm.exec) (hret : meth.sig.returnType = none) (hlk : meth.locks = false) (hd : decode c.code pc = .ok (.return_, 1)) (hk : cells ≤ k) (hn : slots ≤ n) (hq : Q none T.heap locs) :
    own_G p e below (own_En s k n Q) (T.setTop (mkF m pc Ls [])) := by
  obtain ⟨fs, hr, hrun, hended, hW, hsame⟩ := X.leave (v := none) (fun _ => rfl) hlk
  exact ⟨_, _, X.returnOut hx hret hd hr, hrun, hended, _, hq, ⟨_, rfl⟩, hW, hsame.mono hk hn⟩
theorem own_body {y : MethodName} {bytes : ByteArray} {maxL : Nat} {ret : Option FieldType} {ws : List Jvm.Cond} {rm : Room} {as' : Array Value} {h0 : Heap} {Z : State} (hpn : plainFor y = true)
    (body : ∀ (p : Program) (e : Env) (s : State) (m : MethodId) (below : List Frame) (meth : Method) (c : Code) (s₁ : State), p.tables.exec = Jvm.exec → c.code = bytes → c.maxLocals = maxL → s.vm.findClass y.cls = some m.cls → meth.name = y.name → meth.sig.returnType = ret → meth.locks = false → Z.Warmed39 s.vm →
      Stand p l e rm s m as' below meth c s₁ [] 0 0 → s₁.heap = h0 → own_G p e below (own_En s rm.cells rm.slots Q) (s₁.setTop (entryFrame m as' maxL))) :
    MetFree l y (head1 (Jvm.Cond.code y bytes maxL ret :: ws) rm) (fun a U => a = as' ∧ Z.Warmed39 U.vm ∧ U.heap = h0) (fun _ _ _ _ _ => True) (fun _ U o U' => ∃ v L, o = .returned v ∧ Q v U'.heap L ∧ FrameEnd U o U' L rm.cells rm.slots) := by
  refine MetFree.of_bodySF hpn hisR ?_
  intro p e s m args below meth c s₁ Bd hml0 hP hK
  obtain ⟨rfl, hZ, hh⟩ := hP
  obtain ⟨s₂, v, h1, h2, h3, L, hq, hf⟩ := body p e s m below meth c s₁ Bd.exec Bd.bytes hml0 (findClass_of_methodNamed Bd.named) (name_of_methodNamed Bd.named Bd.method).1 Bd.returns Bd.notSynchronized hZ (Stand.of_body Bd) (by rw [← hh, Bd.state]; rfl)
  exact ⟨s₂, _, h1, h2, h3, v, L, rfl, hq, hf⟩
/-- a static call by the callee's contract -/
theorem own_callS {Z : State} {a0 : Array Value} {h : Heap} (X : Stand p l e R s m args below meth c T locs cells slots) (hx : p.tables.exec = Jvm.exec) (hZ : Z.Warmed39 s.vm) {own : String} {index : Nat} {y : MethodName} {bytes : ByteArray} {maxL : Nat} {ret : Option FieldType}
    (hown : s.vm.findClass own = some m.cls) (w1 : (Jvm.Cond.methodLink own index y).before a0 Z = true) (w2 : (Jvm.Cond.static y).before a0 Z = true) (w3 : (Jvm.Cond.initialized y.cls).before a0 Z = true) (w4 : (Jvm.Cond.code y bytes maxL ret).before a0 Z = true)
    (hy : y.cls ≠ "java/lang/invoke/MethodHandle" ∧ y.cls ≠ "java/lang/invoke/VarHandle") {rm : Room} {as' : Array Value} {Q' : Option Value → Heap → List Loc → Prop} {W : Nat}
    (hM : MetFree l y (head1 [Jvm.Cond.code y bytes maxL ret] rm) (fun a U => a = as' ∧ Z.Warmed39 U.vm ∧ U.heap = h) (fun _ _ _ _ _ => True) (fun _ U o U' => ∃ v L, o = .returned v ∧ Q' v U'.heap L ∧ FrameEnd U o U' L rm.cells rm.slots))
    (hf : rm.frames + 1 ≤ R.frames) (hl : W + (maxL + 11) + rm.locals ≤ R.locals) (eT : T.heap = h) (hsize : Ls.size = c.maxLocals) {argsL : List Value}
    (hlen : ∀ sig, parseMethodDescriptor y.desc = some sig → argsL.length = sig.parameters.length) (hst : st = argsL.reverse ++ rest) (hW : (rest.map fun v => v.category).sum = W) (hd : decode c.code pc = .ok (.invokestatic index, 3)) (hq : pc + 3 = q) (has : argsL.toArray = as') (hc : cells + rm.cells ≤ R.cells) (hs : slots + rm.slots ≤ R.slots)
    (g : ∀ v T' L, Q' v T'.heap L → Stand p l e R s m args below meth c T' (locs ++ L) (cells + rm.cells) (slots + rm.slots) → own_G p e below FF (T'.setTop (mkF m q Ls (v.toList ++ rest)))) :
    own_G p e below FF (T.setTop (mkF m pc Ls st)) := by
  subst hq hst
  obtain ⟨v, _, ⟨T7, L7, k7, n7⟩, -, X7, ⟨Lc7, hQ7, l7, y7, z7⟩, st7⟩ := Jvm.LawKit.callS X hx hown (mvT hZ w1) (mvT hZ w2) (mvT hZ w3) (mvT hZ w4) hy (backOf (W := W) hM hZ w4 w3 hf hl) (g := mkF m pc Ls (argsL.reverse ++ rest)) rfl hsize hlen rfl (by show 2 * 0 + _ ≤ _; rw [hW]; omega) hd (fun _ _ => ⟨has, eT, hc, hs⟩)
  dsimp only [Pt.U, Pt.locs, Pt.cells, Pt.slots] at X7 l7 y7 z7 st7 hQ7
  subst l7 y7 z7
  exact (g v T7 Lc7 hQ7 X7).via fun t => st7 t
/-- a static call that leaves the heap as it was -/
theorem own_callSP {Z : State} {a0 : Array Value} {h : Heap} (X : Stand p l e R s m args below meth c T locs cells slots) (hx : p.tables.exec = Jvm.exec) (hZ : Z.Warmed39 s.vm) {own : String} {index : Nat} {y : MethodName} {bytes : ByteArray} {maxL : Nat} {ret : Option FieldType}
    (hown : s.vm.findClass own = some m.cls) (w1 : (Jvm.Cond.methodLink own index y).before a0 Z = true) (w2 : (Jvm.Cond.static y).before a0 Z = true) (w3 : (Jvm.Cond.initialized y.cls).before a0 Z = true) (w4 : (Jvm.Cond.code y bytes maxL ret).before a0 Z = true)
    (hy : y.cls ≠ "java/lang/invoke/MethodHandle" ∧ y.cls ≠ "java/lang/invoke/VarHandle") {rm : Room} {as' : Array Value} {P : Value → Prop} {W : Nat}
    (hM : MetFree l y (head1 [Jvm.Cond.code y bytes maxL ret] rm) (fun a U => a = as' ∧ Z.Warmed39 U.vm ∧ U.heap = h) (fun _ _ _ _ _ => True) (fun _ U o U' => ∃ v L, o = .returned v ∧ ((∃ w, v = some w ∧ P w) ∧ L = [] ∧ U'.heap = h) ∧ FrameEnd U o U' L rm.cells rm.slots))
    (hf : rm.frames + 1 ≤ R.frames) (hl : W + (maxL + 11) + rm.locals ≤ R.locals) (eT : T.heap = h) (hsize : Ls.size = c.maxLocals) {argsL : List Value}
    (hlen : ∀ sig, parseMethodDescriptor y.desc = some sig → argsL.length = sig.parameters.length) (hst : st = argsL.reverse ++ rest) (hW : (rest.map fun v => v.category).sum = W) (hd : decode c.code pc = .ok (.invokestatic index, 3)) (hq : pc + 3 = q) (has : argsL.toArray = as') (hc : rm.cells = 0) (hs : rm.slots = 0) (hcc : cells ≤ R.cells) (hss : slots ≤ R.slots)
    (g : ∀ w T', P w → Stand p l e R s m args below meth c T' locs cells slots → T'.heap = h → own_G p e below FF (T'.setTop (mkF m q Ls (w :: rest)))) :
    own_G p e below FF (T.setTop (mkF m pc Ls st)) := by
  refine own_callS (Q' := fun v U L => (∃ w, v = some w ∧ P w) ∧ L = [] ∧ U = h) X hx hZ hown w1 w2 w3 w4 hy hM hf hl eT hsize hlen hst hW hd hq has (by rw [hc]; exact hcc) (by rw [hs]; exact hss) ?_
  rintro v T' L ⟨⟨w, rfl, hP⟩, rfl, e'⟩ X'
  rw [List.append_nil, hc, hs] at X'
  exact g w T' hP X' e'
/-- a virtual call by the callee's contract; the receiver is exactly of class C -/
theorem own_callV {Z : State} {a0 : Array Value} {h : Heap} (X : Stand p l e R s m args below meth c T locs cells slots) (hx : p.tables.exec = Jvm.exec) (hZ : Z.Warmed39 s.vm) {own C : String} {index : Nat} {y : MethodName} {bytes : ByteArray} {maxL : Nat} {ret : Option FieldType}
    (hown : s.vm.findClass own = some m.cls) (w1 : (Jvm.Cond.methodLink own index y).before a0 Z = true) (w2 : (Jvm.Cond.declares y).before a0 Z = true) (w3 : (Jvm.Cond.selects C y y).before a0 Z = true) (w4 : (Jvm.Cond.instanceMethod y).before a0 Z = true) (w5 : (Jvm.Cond.code y bytes maxL ret).before a0 Z = true) (w6 : (Jvm.Cond.initialized y.cls).before a0 Z = true)
    (hy : y.cls ≠ "java/lang/invoke/MethodHandle" ∧ y.cls ≠ "java/lang/invoke/VarHandle") {rm : Room} {as' : Array Value} {Q' : Option Value → Heap → List Loc → Prop} {W : Nat}
    (hM : MetFree l y (head1 [Jvm.Cond.code y bytes maxL ret] rm) (fun a U => a = as' ∧ Z.Warmed39 U.vm ∧ U.heap = h) (fun _ _ _ _ _ => True) (fun _ U o U' => ∃ v L, o = .returned v ∧ Q' v U'.heap L ∧ FrameEnd U o U' L rm.cells rm.slots))
    {b : Addr} (E : Exa Z h b C)
    (hf : rm.frames + 1 ≤ R.frames) (hl : W + (maxL + 11) + rm.locals ≤ R.locals) (eT : T.heap = h) (hsize : Ls.size = c.maxLocals) {argsL : List Value}
    (hlen : ∀ sig, parseMethodDescriptor y.desc = some sig → argsL.length = sig.parameters.length) (hst : st = argsL.reverse ++ .ref b :: rest) (hW : (rest.map fun v => v.category).sum = W) (hd : decode c.code pc = .ok (.invokevirtual index, 3)) (hq : pc + 3 = q) (has : (.ref b :: argsL).toArray = as') (hc : cells + rm.cells ≤ R.cells) (hs : slots + rm.slots ≤ R.slots)
    (g : ∀ v T' L, Q' v T'.heap L → Stand p l e R s m args below meth c T' (locs ++ L) (cells + rm.cells) (slots + rm.slots) → own_G p e below FF (T'.setTop (mkF m q Ls (v.toList ++ rest)))) :
    own_G p e below FF (T.setTop (mkF m pc Ls st)) := by
  subst hq hst
  obtain ⟨cq, kq, qa, qb, qc⟩ := isOf hZ eT E
  obtain ⟨v, _, ⟨T7, L7, k7, n7⟩, -, X7, ⟨Lc7, hQ7, l7, y7, z7⟩, st7⟩ := X.virtualBack hx hown (mvT hZ w1) (mvT hZ w2) (notFace_of_selects (args := #[]) (mvT hZ w3)) (mvT hZ w3) (mvT hZ w4) hy (backOf (W := W) hM hZ w5 w6 hf hl) qa qc (g := mkF m pc Ls (argsL.reverse ++ .ref b :: rest)) rfl hsize (Steps.refl _) (argsL := argsL) (rest := rest) hlen rfl (by show 2 * 0 + _ ≤ _; rw [hW]; omega) hd (fun _ _ => ⟨has, eT, hc, hs⟩)
  dsimp only [Pt.U, Pt.locs, Pt.cells, Pt.slots] at X7 l7 y7 z7 st7 hQ7
  subst l7 y7 z7
  exact (g v T7 Lc7 hQ7 X7).via fun t hh => st7.trans hh
/-- a constructor's call by its contract -/
theorem own_callN {Z : State} {a0 : Array Value} {h : Heap} (X : Stand p l e R s m args below meth c T locs cells slots) (hx : p.tables.exec = Jvm.exec) (hZ : Z.Warmed39 s.vm) {own : String} {index : Nat} {y : MethodName} {bytes : ByteArray} {maxL : Nat}
    (hyn : y.name = "<init>") (hown : s.vm.findClass own = some m.cls) (w1 : (Jvm.Cond.methodLink own index y).before a0 Z = true) (w2 : (Jvm.Cond.instanceMethod y).before a0 Z = true) (w3 : (Jvm.Cond.initialized y.cls).before a0 Z = true) (w4 : (Jvm.Cond.code y bytes maxL none).before a0 Z = true)
    (hy : y.cls ≠ "java/lang/invoke/MethodHandle" ∧ y.cls ≠ "java/lang/invoke/VarHandle") {rm : Room} {as' : Array Value} {Q' : Option Value → Heap → List Loc → Prop} {W : Nat}
    (hM : MetFree l y (head1 [Jvm.Cond.code y bytes maxL none] rm) (fun a U => a = as' ∧ Z.Warmed39 U.vm ∧ U.heap = h) (fun _ _ _ _ _ => True) (fun _ U o U' => ∃ v L, o = .returned v ∧ Q' v U'.heap L ∧ FrameEnd U o U' L rm.cells rm.slots))
    {b : Addr} (hf : rm.frames + 1 ≤ R.frames) (hl : W + (maxL + 11) + rm.locals ≤ R.locals) (eT : T.heap = h) (hsize : Ls.size = c.maxLocals) {argsL : List Value}
    (hlen : ∀ sig, parseMethodDescriptor y.desc = some sig → argsL.length = sig.parameters.length) (hst : st = argsL.reverse ++ .ref b :: rest) (hW : (rest.map fun v => v.category).sum = W) (hd : decode c.code pc = .ok (.invokespecial index, 3)) (hq : pc + 3 = q) (has : (.ref b :: argsL).toArray = as') (hc : cells + rm.cells ≤ R.cells) (hs : slots + rm.slots ≤ R.slots)
    (g : ∀ v T' L, Q' v T'.heap L → Stand p l e R s m args below meth c T' (locs ++ L) (cells + rm.cells) (slots + rm.slots) → own_G p e below FF (T'.setTop (mkF m q Ls (v.toList ++ rest)))) :
    own_G p e below FF (T.setTop (mkF m pc Ls st)) := by
  subst hq hst
  obtain ⟨v, _, ⟨T7, L7, k7, n7⟩, -, X7, ⟨Lc7, hQ7, l7, y7, z7⟩, st7⟩ := X.specialBack hx hyn hown (mvT hZ w1) (mvT hZ w2) (mvT hZ w4) hy (backOf (W := W) hM hZ w4 w3 hf hl) (g := mkF m pc Ls (argsL.reverse ++ .ref b :: rest)) rfl hsize (Steps.refl _) (a := b) (argsL := argsL) (rest := rest) hlen rfl (by show 2 * 0 + _ ≤ _; rw [hW]; omega) hd (fun _ _ => ⟨has, eT, hc, hs⟩)
  dsimp only [Pt.U, Pt.locs, Pt.cells, Pt.slots] at X7 l7 y7 z7 st7 hQ7
  subst l7 y7 z7
  exact (g v T7 Lc7 hQ7 X7).via fun t hh => st7.trans hh
theorem own_ldcI {Z : State} {a0 : Array Value} (X : Stand p l e R s m args below meth c T locs cells slots) (hx : p.tables.exec = Jvm.exec) (hZ : Z.Warmed39 s.vm) {own : String} {index : Nat} {v : Int32} (hown : s.vm.findClass own = some m.cls) (w : (Jvm.Cond.constant own index v).before a0 Z = true) (hd : decode c.code pc = .ok (.ldc index, 2)) (hq : pc + 2 = q)
    (g : own_G p e below FF (T.setTop (mkF m q Ls (.int v :: st)))) : own_G p e below FF (T.setTop (mkF m pc Ls st)) := by
  subst hq; exact g.via fun t => X.ldcInt hx hown (mvT hZ w) (g := mkF m pc Ls st) rfl hd t
theorem own_ldcL {Z : State} {a0 : Array Value} (X : Stand p l e R s m args below meth c T locs cells slots) (hx : p.tables.exec = Jvm.exec) (hZ : Z.Warmed39 s.vm) {own : String} {index : Nat} {v : Int64} (hown : s.vm.findClass own = some m.cls) (w : (Jvm.Cond.constantLong own index v).before a0 Z = true) (hd : decode c.code pc = .ok (.ldc2_w index, 3)) (hq : pc + 3 = q)
    (g : own_G p e below FF (T.setTop (mkF m q Ls (.long v :: st)))) : own_G p e below FF (T.setTop (mkF m pc Ls st)) := by
  subst hq; exact g.via fun t => X.ldc2Long hx hown (mvT hZ w) (g := mkF m pc Ls st) rfl hd t
theorem own_iadd (X : Stand p l e R s m args below meth c T locs cells slots) (hx : p.tables.exec = Jvm.exec) {x y : Int32} (hd : decode c.code pc = .ok (.iadd, 1))  (hq : pc + 1 = q) (g : own_G p e below FF (T.setTop (mkF m q Ls (.int (x + y) :: rest)))) : own_G p e below FF (T.setTop (mkF m pc Ls (.int y :: .int x :: rest))) := by
  subst hq; exact g.via fun _ hr_ => XS.iadd (g := mkF m pc Ls (.int y :: .int x :: rest)) X.here hx rfl hd rfl hr_
theorem own_isub (X : Stand p l e R s m args below meth c T locs cells slots) (hx : p.tables.exec = Jvm.exec) {x y : Int32} (hd : decode c.code pc = .ok (.isub, 1))  (hq : pc + 1 = q) (g : own_G p e below FF (T.setTop (mkF m q Ls (.int (x - y) :: rest)))) : own_G p e below FF (T.setTop (mkF m pc Ls (.int y :: .int x :: rest))) := by
  subst hq; exact g.via fun _ hr_ => XS.isub (g := mkF m pc Ls (.int y :: .int x :: rest)) X.here hx rfl hd rfl hr_
theorem own_imul (X : Stand p l e R s m args below meth c T locs cells slots) (hx : p.tables.exec = Jvm.exec) {x y : Int32} (hd : decode c.code pc = .ok (.imul, 1))  (hq : pc + 1 = q) (g : own_G p e below FF (T.setTop (mkF m q Ls (.int (x * y) :: rest)))) : own_G p e below FF (T.setTop (mkF m pc Ls (.int y :: .int x :: rest))) := by
  subst hq; exact g.via fun _ hr_ => XS.imul (g := mkF m pc Ls (.int y :: .int x :: rest)) X.here hx rfl hd rfl hr_
theorem own_iand (X : Stand p l e R s m args below meth c T locs cells slots) (hx : p.tables.exec = Jvm.exec) {x y : Int32} (hd : decode c.code pc = .ok (.iand, 1))  (hq : pc + 1 = q) (g : own_G p e below FF (T.setTop (mkF m q Ls (.int (x &&& y) :: rest)))) : own_G p e below FF (T.setTop (mkF m pc Ls (.int y :: .int x :: rest))) := by
  subst hq; exact g.via fun _ hr_ => XS.iand (g := mkF m pc Ls (.int y :: .int x :: rest)) X.here hx rfl hd rfl hr_
theorem own_ixor (X : Stand p l e R s m args below meth c T locs cells slots) (hx : p.tables.exec = Jvm.exec) {x y : Int32} (hd : decode c.code pc = .ok (.ixor, 1))  (hq : pc + 1 = q) (g : own_G p e below FF (T.setTop (mkF m q Ls (.int (x ^^^ y) :: rest)))) : own_G p e below FF (T.setTop (mkF m pc Ls (.int y :: .int x :: rest))) := by
  subst hq; exact g.via fun _ hr_ => XT.ixor (g := mkF m pc Ls (.int y :: .int x :: rest)) X.here hx rfl hd rfl hr_
theorem own_ior (X : Stand p l e R s m args below meth c T locs cells slots) (hx : p.tables.exec = Jvm.exec) {x y : Int32} (hd : decode c.code pc = .ok (.ior, 1))  (hq : pc + 1 = q) (g : own_G p e below FF (T.setTop (mkF m q Ls (.int (x ||| y) :: rest)))) : own_G p e below FF (T.setTop (mkF m pc Ls (.int y :: .int x :: rest))) := by
  subst hq; exact g.via fun _ hr_ => XT.ior (g := mkF m pc Ls (.int y :: .int x :: rest)) X.here hx rfl hd rfl hr_
theorem own_ishl (X : Stand p l e R s m args below meth c T locs cells slots) (hx : p.tables.exec = Jvm.exec) {x y : Int32} (hd : decode c.code pc = .ok (.ishl, 1))  (hq : pc + 1 = q) (g : own_G p e below FF (T.setTop (mkF m q Ls (.int (x <<< (y &&& 31)) :: rest)))) : own_G p e below FF (T.setTop (mkF m pc Ls (.int y :: .int x :: rest))) := by
  subst hq; exact g.via fun _ hr_ => XT.ishl (g := mkF m pc Ls (.int y :: .int x :: rest)) X.here hx rfl hd rfl hr_
theorem own_ishr (X : Stand p l e R s m args below meth c T locs cells slots) (hx : p.tables.exec = Jvm.exec) {x y : Int32} (hd : decode c.code pc = .ok (.ishr, 1))  (hq : pc + 1 = q) (g : own_G p e below FF (T.setTop (mkF m q Ls (.int (x >>> (y &&& 31)) :: rest)))) : own_G p e below FF (T.setTop (mkF m pc Ls (.int y :: .int x :: rest))) := by
  subst hq; exact g.via fun _ hr_ => XT.ishr (g := mkF m pc Ls (.int y :: .int x :: rest)) X.here hx rfl hd rfl hr_
theorem own_iushr (X : Stand p l e R s m args below meth c T locs cells slots) (hx : p.tables.exec = Jvm.exec) {x y : Int32} (hd : decode c.code pc = .ok (.iushr, 1))  (hq : pc + 1 = q) (g : own_G p e below FF (T.setTop (mkF m q Ls (.int (XT.ushr x y) :: rest)))) : own_G p e below FF (T.setTop (mkF m pc Ls (.int y :: .int x :: rest))) := by
  subst hq; exact g.via fun _ hr_ => XT.iushr (g := mkF m pc Ls (.int y :: .int x :: rest)) X.here hx rfl hd rfl hr_
theorem own_idiv (X : Stand p l e R s m args below meth c T locs cells slots) (hx : p.tables.exec = Jvm.exec) {x y : Int32} (hd : decode c.code pc = .ok (.idiv, 1)) (hy : y ≠ 0) (hq : pc + 1 = q) (g : own_G p e below FF (T.setTop (mkF m q Ls (.int (x / y) :: rest)))) : own_G p e below FF (T.setTop (mkF m pc Ls (.int y :: .int x :: rest))) := by
  subst hq; exact g.via fun _ hr_ => XS.idiv (g := mkF m pc Ls (.int y :: .int x :: rest)) X.here hx rfl hd rfl hy hr_
theorem own_irem (X : Stand p l e R s m args below meth c T locs cells slots) (hx : p.tables.exec = Jvm.exec) {x y : Int32} (hd : decode c.code pc = .ok (.irem, 1)) (hy : y ≠ 0) (hq : pc + 1 = q) (g : own_G p e below FF (T.setTop (mkF m q Ls (.int (x - (x / y) * y) :: rest)))) : own_G p e below FF (T.setTop (mkF m pc Ls (.int y :: .int x :: rest))) := by
  subst hq; exact g.via fun _ hr_ => XS.irem (g := mkF m pc Ls (.int y :: .int x :: rest)) X.here hx rfl hd rfl hy hr_
theorem own_ladd (X : Stand p l e R s m args below meth c T locs cells slots) (hx : p.tables.exec = Jvm.exec) {x y : Int64} (hd : decode c.code pc = .ok (.ladd, 1))  (hq : pc + 1 = q) (g : own_G p e below FF (T.setTop (mkF m q Ls (.long (x + y) :: rest)))) : own_G p e below FF (T.setTop (mkF m pc Ls (.long y :: .long x :: rest))) := by
  subst hq; exact g.via fun _ hr_ => XT.ladd (g := mkF m pc Ls (.long y :: .long x :: rest)) X.here hx rfl hd rfl hr_
theorem own_lsub (X : Stand p l e R s m args below meth c T locs cells slots) (hx : p.tables.exec = Jvm.exec) {x y : Int64} (hd : decode c.code pc = .ok (.lsub, 1))  (hq : pc + 1 = q) (g : own_G p e below FF (T.setTop (mkF m q Ls (.long (x - y) :: rest)))) : own_G p e below FF (T.setTop (mkF m pc Ls (.long y :: .long x :: rest))) := by
  subst hq; exact g.via fun _ hr_ => XT.lsub (g := mkF m pc Ls (.long y :: .long x :: rest)) X.here hx rfl hd rfl hr_
theorem own_lmul (X : Stand p l e R s m args below meth c T locs cells slots) (hx : p.tables.exec = Jvm.exec) {x y : Int64} (hd : decode c.code pc = .ok (.lmul, 1))  (hq : pc + 1 = q) (g : own_G p e below FF (T.setTop (mkF m q Ls (.long (x * y) :: rest)))) : own_G p e below FF (T.setTop (mkF m pc Ls (.long y :: .long x :: rest))) := by
  subst hq; exact g.via fun _ hr_ => XT.lmul (g := mkF m pc Ls (.long y :: .long x :: rest)) X.here hx rfl hd rfl hr_
theorem own_land (X : Stand p l e R s m args below meth c T locs cells slots) (hx : p.tables.exec = Jvm.exec) {x y : Int64} (hd : decode c.code pc = .ok (.land, 1))  (hq : pc + 1 = q) (g : own_G p e below FF (T.setTop (mkF m q Ls (.long (x &&& y) :: rest)))) : own_G p e below FF (T.setTop (mkF m pc Ls (.long y :: .long x :: rest))) := by
  subst hq; exact g.via fun _ hr_ => XT.land (g := mkF m pc Ls (.long y :: .long x :: rest)) X.here hx rfl hd rfl hr_
theorem own_lor (X : Stand p l e R s m args below meth c T locs cells slots) (hx : p.tables.exec = Jvm.exec) {x y : Int64} (hd : decode c.code pc = .ok (.lor, 1))  (hq : pc + 1 = q) (g : own_G p e below FF (T.setTop (mkF m q Ls (.long (x ||| y) :: rest)))) : own_G p e below FF (T.setTop (mkF m pc Ls (.long y :: .long x :: rest))) := by
  subst hq; exact g.via fun _ hr_ => XT.lor (g := mkF m pc Ls (.long y :: .long x :: rest)) X.here hx rfl hd rfl hr_
theorem own_lxor (X : Stand p l e R s m args below meth c T locs cells slots) (hx : p.tables.exec = Jvm.exec) {x y : Int64} (hd : decode c.code pc = .ok (.lxor, 1))  (hq : pc + 1 = q) (g : own_G p e below FF (T.setTop (mkF m q Ls (.long (x ^^^ y) :: rest)))) : own_G p e below FF (T.setTop (mkF m pc Ls (.long y :: .long x :: rest))) := by
  subst hq; exact g.via fun _ hr_ => XT.lxor (g := mkF m pc Ls (.long y :: .long x :: rest)) X.here hx rfl hd rfl hr_
theorem own_ldiv (X : Stand p l e R s m args below meth c T locs cells slots) (hx : p.tables.exec = Jvm.exec) {x y : Int64} (hd : decode c.code pc = .ok (.ldiv, 1)) (hy : y ≠ 0) (hq : pc + 1 = q) (g : own_G p e below FF (T.setTop (mkF m q Ls (.long (x / y) :: rest)))) : own_G p e below FF (T.setTop (mkF m pc Ls (.long y :: .long x :: rest))) := by
  subst hq; exact g.via fun _ hr_ => XT.ldiv (g := mkF m pc Ls (.long y :: .long x :: rest)) X.here hx rfl hd rfl hy hr_
theorem own_lrem (X : Stand p l e R s m args below meth c T locs cells slots) (hx : p.tables.exec = Jvm.exec) {x y : Int64} (hd : decode c.code pc = .ok (.lrem, 1)) (hy : y ≠ 0) (hq : pc + 1 = q) (g : own_G p e below FF (T.setTop (mkF m q Ls (.long (x - (x / y) * y) :: rest)))) : own_G p e below FF (T.setTop (mkF m pc Ls (.long y :: .long x :: rest))) := by
  subst hq; exact g.via fun _ hr_ => XT.lrem (g := mkF m pc Ls (.long y :: .long x :: rest)) X.here hx rfl hd rfl hy hr_
theorem own_lcmp (X : Stand p l e R s m args below meth c T locs cells slots) (hx : p.tables.exec = Jvm.exec) {x y : Int64} (hd : decode c.code pc = .ok (.lcmp, 1))  (hq : pc + 1 = q) (g : own_G p e below FF (T.setTop (mkF m q Ls (.int (XT.cmpL x y) :: rest)))) : own_G p e below FF (T.setTop (mkF m pc Ls (.long y :: .long x :: rest))) := by
  subst hq; exact g.via fun _ hr_ => XT.lcmp (g := mkF m pc Ls (.long y :: .long x :: rest)) X.here hx rfl hd rfl hr_
theorem own_lshl (X : Stand p l e R s m args below meth c T locs cells slots) (hx : p.tables.exec = Jvm.exec) {x : Int64} {y : Int32} (hd : decode c.code pc = .ok (.lshl, 1))  (hq : pc + 1 = q) (g : own_G p e below FF (T.setTop (mkF m q Ls (.long (x <<< (y.toInt64 &&& 63)) :: rest)))) : own_G p e below FF (T.setTop (mkF m pc Ls (.int y :: .long x :: rest))) := by
  subst hq; exact g.via fun _ hr_ => XT.lshl (g := mkF m pc Ls (.int y :: .long x :: rest)) X.here hx rfl hd rfl hr_
theorem own_lshr (X : Stand p l e R s m args below meth c T locs cells slots) (hx : p.tables.exec = Jvm.exec) {x : Int64} {y : Int32} (hd : decode c.code pc = .ok (.lshr, 1))  (hq : pc + 1 = q) (g : own_G p e below FF (T.setTop (mkF m q Ls (.long (x >>> (y.toInt64 &&& 63)) :: rest)))) : own_G p e below FF (T.setTop (mkF m pc Ls (.int y :: .long x :: rest))) := by
  subst hq; exact g.via fun _ hr_ => XT.lshr (g := mkF m pc Ls (.int y :: .long x :: rest)) X.here hx rfl hd rfl hr_
theorem own_lushr (X : Stand p l e R s m args below meth c T locs cells slots) (hx : p.tables.exec = Jvm.exec) {x : Int64} {y : Int32} (hd : decode c.code pc = .ok (.lushr, 1))  (hq : pc + 1 = q) (g : own_G p e below FF (T.setTop (mkF m q Ls (.long (XT.ushrL x y) :: rest)))) : own_G p e below FF (T.setTop (mkF m pc Ls (.int y :: .long x :: rest))) := by
  subst hq; exact g.via fun _ hr_ => XT.lushr (g := mkF m pc Ls (.int y :: .long x :: rest)) X.here hx rfl hd rfl hr_
theorem own_ineg (X : Stand p l e R s m args below meth c T locs cells slots) (hx : p.tables.exec = Jvm.exec) {x : Int32} (hd : decode c.code pc = .ok (.ineg, 1))  (hq : pc + 1 = q) (g : own_G p e below FF (T.setTop (mkF m q Ls (.int (-x) :: rest)))) : own_G p e below FF (T.setTop (mkF m pc Ls (.int x :: rest))) := by
  subst hq; exact g.via fun _ hr_ => XS.ineg (g := mkF m pc Ls (.int x :: rest)) X.here hx rfl hd rfl hr_
theorem own_lneg (X : Stand p l e R s m args below meth c T locs cells slots) (hx : p.tables.exec = Jvm.exec) {x : Int64} (hd : decode c.code pc = .ok (.lneg, 1))  (hq : pc + 1 = q) (g : own_G p e below FF (T.setTop (mkF m q Ls (.long (-x) :: rest)))) : own_G p e below FF (T.setTop (mkF m pc Ls (.long x :: rest))) := by
  subst hq; exact g.via fun _ hr_ => XT.lneg (g := mkF m pc Ls (.long x :: rest)) X.here hx rfl hd rfl hr_
theorem own_i2l (X : Stand p l e R s m args below meth c T locs cells slots) (hx : p.tables.exec = Jvm.exec) {x : Int32} (hd : decode c.code pc = .ok (.i2l, 1))  (hq : pc + 1 = q) (g : own_G p e below FF (T.setTop (mkF m q Ls (.long (x.toInt64) :: rest)))) : own_G p e below FF (T.setTop (mkF m pc Ls (.int x :: rest))) := by
  subst hq; exact g.via fun _ hr_ => XT.i2l (g := mkF m pc Ls (.int x :: rest)) X.here hx rfl hd rfl hr_
theorem own_l2i (X : Stand p l e R s m args below meth c T locs cells slots) (hx : p.tables.exec = Jvm.exec) {x : Int64} (hd : decode c.code pc = .ok (.l2i, 1))  (hq : pc + 1 = q) (g : own_G p e below FF (T.setTop (mkF m q Ls (.int (x.toInt32) :: rest)))) : own_G p e below FF (T.setTop (mkF m pc Ls (.long x :: rest))) := by
  subst hq; exact g.via fun _ hr_ => XT.l2i (g := mkF m pc Ls (.long x :: rest)) X.here hx rfl hd rfl hr_
theorem own_i2b (X : Stand p l e R s m args below meth c T locs cells slots) (hx : p.tables.exec = Jvm.exec) {x : Int32} (hd : decode c.code pc = .ok (.i2b, 1))  (hq : pc + 1 = q) (g : own_G p e below FF (T.setTop (mkF m q Ls (.int (x.toInt8.toInt32) :: rest)))) : own_G p e below FF (T.setTop (mkF m pc Ls (.int x :: rest))) := by
  subst hq; exact g.via fun _ hr_ => XT.i2b (g := mkF m pc Ls (.int x :: rest)) X.here hx rfl hd rfl hr_
theorem own_i2c (X : Stand p l e R s m args below meth c T locs cells slots) (hx : p.tables.exec = Jvm.exec) {x : Int32} (hd : decode c.code pc = .ok (.i2c, 1))  (hq : pc + 1 = q) (g : own_G p e below FF (T.setTop (mkF m q Ls (.int (x.toUInt32.toUInt16.toUInt32.toInt32) :: rest)))) : own_G p e below FF (T.setTop (mkF m pc Ls (.int x :: rest))) := by
  subst hq; exact g.via fun _ hr_ => XT.i2c (g := mkF m pc Ls (.int x :: rest)) X.here hx rfl hd rfl hr_
theorem own_iconst (X : Stand p l e R s m args below meth c T locs cells slots) (hx : p.tables.exec = Jvm.exec) {i : Int} {v : Int32} (hd : decode c.code pc = .ok (.iconst i, 1)) (hv : Int32.ofInt i = v) (hq : pc + 1 = q) (g : own_G p e below FF (T.setTop (mkF m q Ls (.int v :: st)))) : own_G p e below FF (T.setTop (mkF m pc Ls (st))) := by
  subst hq; subst hv; exact g.via fun _ hr_ => XS.iconst (g := mkF m pc Ls (st)) X.here hx rfl hd  hr_
theorem own_bipush (X : Stand p l e R s m args below meth c T locs cells slots) (hx : p.tables.exec = Jvm.exec) {i : Int} {v : Int32} (hd : decode c.code pc = .ok (.bipush i, 2)) (hv : (Int8.ofInt i).toInt32 = v) (hq : pc + 2 = q) (g : own_G p e below FF (T.setTop (mkF m q Ls (.int v :: st)))) : own_G p e below FF (T.setTop (mkF m pc Ls (st))) := by
  subst hq; subst hv; exact g.via fun _ hr_ => XS.bipush (g := mkF m pc Ls (st)) X.here hx rfl hd  hr_
theorem own_sipush (X : Stand p l e R s m args below meth c T locs cells slots) (hx : p.tables.exec = Jvm.exec) {i : Int} {v : Int32} (hd : decode c.code pc = .ok (.sipush i, 3)) (hv : (Int16.ofInt i).toInt32 = v) (hq : pc + 3 = q) (g : own_G p e below FF (T.setTop (mkF m q Ls (.int v :: st)))) : own_G p e below FF (T.setTop (mkF m pc Ls (st))) := by
  subst hq; subst hv; exact g.via fun _ hr_ => XS.sipush (g := mkF m pc Ls (st)) X.here hx rfl hd  hr_
theorem own_lconst (X : Stand p l e R s m args below meth c T locs cells slots) (hx : p.tables.exec = Jvm.exec) {i : Fin 2} {v : Int64} (hd : decode c.code pc = .ok (.lconst i, 1)) (hv : Int64.ofNat i = v) (hq : pc + 1 = q) (g : own_G p e below FF (T.setTop (mkF m q Ls (.long v :: st)))) : own_G p e below FF (T.setTop (mkF m pc Ls (st))) := by
  subst hq; subst hv; exact g.via fun _ hr_ => XT.lconst (g := mkF m pc Ls (st)) X.here hx rfl hd  hr_
theorem own_aconst_null (X : Stand p l e R s m args below meth c T locs cells slots) (hx : p.tables.exec = Jvm.exec)  (hd : decode c.code pc = .ok (.aconst_null, 1))  (hq : pc + 1 = q) (g : own_G p e below FF (T.setTop (mkF m q Ls (.null :: st)))) : own_G p e below FF (T.setTop (mkF m pc Ls (st))) := by
  subst hq; exact g.via fun _ hr_ => XS.aconstNull (g := mkF m pc Ls (st)) X.here hx rfl hd  hr_
theorem own_iload_n (X : Stand p l e R s m args below meth c T locs cells slots) (hx : p.tables.exec = Jvm.exec) {i : Fin 4} {v : Int32} (hd : decode c.code pc = .ok (.iload_n i, 1)) (hl : Ls[i.val]? = some (.val (.int v))) (hq : pc + 1 = q) (g : own_G p e below FF (T.setTop (mkF m q Ls (.int v :: st)))) : own_G p e below FF (T.setTop (mkF m pc Ls (st))) := by
  subst hq; exact g.via fun _ hr_ => XS.iloadN (g := mkF m pc Ls (st)) X.here hx rfl hd hl hr_
theorem own_iload (X : Stand p l e R s m args below meth c T locs cells slots) (hx : p.tables.exec = Jvm.exec) {i : Nat} {v : Int32} (hd : decode c.code pc = .ok (.iload i, 2)) (hl : Ls[i]? = some (.val (.int v))) (hq : pc + 2 = q) (g : own_G p e below FF (T.setTop (mkF m q Ls (.int v :: st)))) : own_G p e below FF (T.setTop (mkF m pc Ls (st))) := by
  subst hq; exact g.via fun _ hr_ => XS.iload (g := mkF m pc Ls (st)) X.here hx rfl hd hl hr_
theorem own_lload_n (X : Stand p l e R s m args below meth c T locs cells slots) (hx : p.tables.exec = Jvm.exec) {i : Fin 4} {v : Int64} (hd : decode c.code pc = .ok (.lload_n i, 1)) (hl : Ls[i.val]? = some (.val (.long v))) (hq : pc + 1 = q) (g : own_G p e below FF (T.setTop (mkF m q Ls (.long v :: st)))) : own_G p e below FF (T.setTop (mkF m pc Ls (st))) := by
  subst hq; exact g.via fun _ hr_ => XT.lloadN (g := mkF m pc Ls (st)) X.here hx rfl hd hl hr_
theorem own_lload (X : Stand p l e R s m args below meth c T locs cells slots) (hx : p.tables.exec = Jvm.exec) {i : Nat} {v : Int64} (hd : decode c.code pc = .ok (.lload i, 2)) (hl : Ls[i]? = some (.val (.long v))) (hq : pc + 2 = q) (g : own_G p e below FF (T.setTop (mkF m q Ls (.long v :: st)))) : own_G p e below FF (T.setTop (mkF m pc Ls (st))) := by
  subst hq; exact g.via fun _ hr_ => XT.lload (g := mkF m pc Ls (st)) X.here hx rfl hd hl hr_
theorem own_aload_n (X : Stand p l e R s m args below meth c T locs cells slots) (hx : p.tables.exec = Jvm.exec) {i : Fin 4} {v : Value} (hd : decode c.code pc = .ok (.aload_n i, 1)) (hl : Ls[i.val]? = some (.val v)) (hr : v.isRef = true) (hq : pc + 1 = q) (g : own_G p e below FF (T.setTop (mkF m q Ls (v :: st)))) : own_G p e below FF (T.setTop (mkF m pc Ls (st))) := by
  subst hq; exact g.via fun _ hr_ => XS.aloadN (g := mkF m pc Ls (st)) X.here hx rfl hd hl hr hr_
theorem own_aload (X : Stand p l e R s m args below meth c T locs cells slots) (hx : p.tables.exec = Jvm.exec) {i : Nat} {v : Value} (hd : decode c.code pc = .ok (.aload i, 2)) (hl : Ls[i]? = some (.val v)) (hr : v.isRef = true) (hq : pc + 2 = q) (g : own_G p e below FF (T.setTop (mkF m q Ls (v :: st)))) : own_G p e below FF (T.setTop (mkF m pc Ls (st))) := by
  subst hq; exact g.via fun _ hr_ => XS.aload (g := mkF m pc Ls (st)) X.here hx rfl hd hl hr hr_
theorem own_istore_n (X : Stand p l e R s m args below meth c T locs cells slots) (hx : p.tables.exec = Jvm.exec) {i : Fin 4} {v : Int32} (hd : decode c.code pc = .ok (.istore_n i, 1)) (hl : storeLocals Ls i.val (.int v) = some l') (hq : pc + 1 = q) (g : own_G p e below FF (T.setTop (mkF m q l' (rest)))) : own_G p e below FF (T.setTop (mkF m pc Ls (.int v :: rest))) := by
  subst hq; exact g.via fun _ hr_ => XS.istoreN (g := mkF m pc Ls (.int v :: rest)) X.here hx rfl hd rfl hl hr_
theorem own_istore (X : Stand p l e R s m args below meth c T locs cells slots) (hx : p.tables.exec = Jvm.exec) {i : Nat} {v : Int32} (hd : decode c.code pc = .ok (.istore i, 2)) (hl : storeLocals Ls i (.int v) = some l') (hq : pc + 2 = q) (g : own_G p e below FF (T.setTop (mkF m q l' (rest)))) : own_G p e below FF (T.setTop (mkF m pc Ls (.int v :: rest))) := by
  subst hq; exact g.via fun _ hr_ => XS.istore (g := mkF m pc Ls (.int v :: rest)) X.here hx rfl hd rfl hl hr_
theorem own_lstore_n (X : Stand p l e R s m args below meth c T locs cells slots) (hx : p.tables.exec = Jvm.exec) {i : Fin 4} {v : Int64} (hd : decode c.code pc = .ok (.lstore_n i, 1)) (hl : storeLocals Ls i.val (.long v) = some l') (hq : pc + 1 = q) (g : own_G p e below FF (T.setTop (mkF m q l' (rest)))) : own_G p e below FF (T.setTop (mkF m pc Ls (.long v :: rest))) := by
  subst hq; exact g.via fun _ hr_ => XT.lstoreN (g := mkF m pc Ls (.long v :: rest)) X.here hx rfl hd rfl hl hr_
theorem own_lstore (X : Stand p l e R s m args below meth c T locs cells slots) (hx : p.tables.exec = Jvm.exec) {i : Nat} {v : Int64} (hd : decode c.code pc = .ok (.lstore i, 2)) (hl : storeLocals Ls i (.long v) = some l') (hq : pc + 2 = q) (g : own_G p e below FF (T.setTop (mkF m q l' (rest)))) : own_G p e below FF (T.setTop (mkF m pc Ls (.long v :: rest))) := by
  subst hq; exact g.via fun _ hr_ => XT.lstore (g := mkF m pc Ls (.long v :: rest)) X.here hx rfl hd rfl hl hr_
theorem own_astore_n (X : Stand p l e R s m args below meth c T locs cells slots) (hx : p.tables.exec = Jvm.exec) {i : Fin 4} {v : Value} (hd : decode c.code pc = .ok (.astore_n i, 1)) (hr : v.isRef = true) (hl : storeLocals Ls i.val v = some l') (hq : pc + 1 = q) (g : own_G p e below FF (T.setTop (mkF m q l' (rest)))) : own_G p e below FF (T.setTop (mkF m pc Ls (v :: rest))) := by
  subst hq; exact g.via fun _ hr_ => XS.astoreN (g := mkF m pc Ls (v :: rest)) X.here hx rfl hd rfl hr hl hr_
theorem own_astore (X : Stand p l e R s m args below meth c T locs cells slots) (hx : p.tables.exec = Jvm.exec) {i : Nat} {v : Value} (hd : decode c.code pc = .ok (.astore i, 2)) (hr : v.isRef = true) (hl : storeLocals Ls i v = some l') (hq : pc + 2 = q) (g : own_G p e below FF (T.setTop (mkF m q l' (rest)))) : own_G p e below FF (T.setTop (mkF m pc Ls (v :: rest))) := by
  subst hq; exact g.via fun _ hr_ => XS.astore (g := mkF m pc Ls (v :: rest)) X.here hx rfl hd rfl hr hl hr_
theorem own_iinc (X : Stand p l e R s m args below meth c T locs cells slots) (hx : p.tables.exec = Jvm.exec) {i : Nat} {cst : Int} {v w : Int32} (hd : decode c.code pc = .ok (.iinc i cst, 3)) (hl : Ls[i]? = some (.val (.int v))) (hv : v + Int32.ofInt cst = w) (hs : storeLocals Ls i (.int w) = some l') (hq : pc + 3 = q) (g : own_G p e below FF (T.setTop (mkF m q l' (st)))) : own_G p e below FF (T.setTop (mkF m pc Ls (st))) := by
  subst hq; subst hv; exact g.via fun _ hr_ => XS.iinc (g := mkF m pc Ls (st)) X.here hx rfl hd hl hs hr_
theorem own_dup (X : Stand p l e R s m args below meth c T locs cells slots) (hx : p.tables.exec = Jvm.exec) {v : Value} (hd : decode c.code pc = .ok (.dup, 1)) (hc : v.category = 1) (hq : pc + 1 = q) (g : own_G p e below FF (T.setTop (mkF m q Ls (v :: v :: rest)))) : own_G p e below FF (T.setTop (mkF m pc Ls (v :: rest))) := by
  subst hq; exact g.via fun _ hr_ => XS.dup (g := mkF m pc Ls (v :: rest)) X.here hx rfl hd rfl hc hr_
theorem own_pop (X : Stand p l e R s m args below meth c T locs cells slots) (hx : p.tables.exec = Jvm.exec) {v : Value} (hd : decode c.code pc = .ok (.pop, 1)) (hc : v.category = 1) (hq : pc + 1 = q) (g : own_G p e below FF (T.setTop (mkF m q Ls (rest)))) : own_G p e below FF (T.setTop (mkF m pc Ls (v :: rest))) := by
  subst hq; exact g.via fun _ hr_ => XT.pop (g := mkF m pc Ls (v :: rest)) X.here hx rfl hd rfl hc hr_
theorem own_dup2L (X : Stand p l e R s m args below meth c T locs cells slots) (hx : p.tables.exec = Jvm.exec) {x : Int64} (hd : decode c.code pc = .ok (.dup2, 1))  (hq : pc + 1 = q) (g : own_G p e below FF (T.setTop (mkF m q Ls (.long x :: .long x :: rest)))) : own_G p e below FF (T.setTop (mkF m pc Ls (.long x :: rest))) := by
  subst hq; exact g.via fun _ hr_ => XT.dup2L (g := mkF m pc Ls (.long x :: rest)) X.here hx rfl hd rfl hr_
theorem own_dup2 (X : Stand p l e R s m args below meth c T locs cells slots) (hx : p.tables.exec = Jvm.exec) {v w : Value} (hd : decode c.code pc = .ok (.dup2, 1)) (hc : v.category = 1) (hc' : w.category = 1) (hq : pc + 1 = q) (g : own_G p e below FF (T.setTop (mkF m q Ls (v :: w :: v :: w :: rest)))) : own_G p e below FF (T.setTop (mkF m pc Ls (v :: w :: rest))) := by
  subst hq; exact g.via fun _ hr_ => XT.dup2 (g := mkF m pc Ls (v :: w :: rest)) X.here hx rfl hd rfl hc hc' hr_
theorem own_dup_x1 (X : Stand p l e R s m args below meth c T locs cells slots) (hx : p.tables.exec = Jvm.exec) {v w : Value} (hd : decode c.code pc = .ok (.dup_x1, 1)) (hc : v.category = 1) (hc' : w.category = 1) (hq : pc + 1 = q) (g : own_G p e below FF (T.setTop (mkF m q Ls (v :: w :: v :: rest)))) : own_G p e below FF (T.setTop (mkF m pc Ls (v :: w :: rest))) := by
  subst hq; exact g.via fun _ hr_ => XT.dupX1 (g := mkF m pc Ls (v :: w :: rest)) X.here hx rfl hd rfl hc hc' hr_
theorem own_goto (X : Stand p l e R s m args below meth c T locs cells slots) (hx : p.tables.exec = Jvm.exec) {o : Int} (hd : decode c.code pc = .ok (.goto o, 3)) (ho : 0 ≤ (pc : Int) + o) (hp : ((pc : Int) + o).toNat = q) (g : own_G p e below FF (T.setTop (mkF m q Ls st))) : own_G p e below FF (T.setTop (mkF m pc Ls st)) :=
  g.via fun _ hr => XS.goto (g := mkF m pc Ls st) X.here hx rfl (pc0 := pc) rfl hd ho hp hr
theorem own_if (X : Stand p l e R s m args below meth c T locs cells slots) (hx : p.tables.exec = Jvm.exec) {cd : ClassFile.Cond} {x : Int32} {o : Int} {P : Prop} [Decidable P] (hd : decode c.code pc = .ok (.ifCond cd o, 3)) (ho : 0 ≤ (pc : Int) + o) (hp : ((pc : Int) + o).toNat = q) (hq : pc + 3 = q') (hP : ifCond.holds cd x = decide P) (gy : P → own_G p e below FF (T.setTop (mkF m q Ls rest))) (gn : ¬ P → own_G p e below FF (T.setTop (mkF m q' Ls rest))) : own_G p e below FF (T.setTop (mkF m pc Ls (.int x :: rest))) := by
  by_cases h : P
  · exact (gy h).via fun _ hr => XS.ifYes (g := mkF m pc Ls (.int x :: rest)) X.here hx rfl (pc0 := pc) rfl hd rfl (by rw [hP]; exact decide_eq_true h) ho hp hr
  · subst hq; exact (gn h).via fun _ hr => XS.ifNo (g := mkF m pc Ls (.int x :: rest)) X.here hx rfl hd rfl (by rw [hP]; exact decide_eq_false h) hr
theorem own_icmp (X : Stand p l e R s m args below meth c T locs cells slots) (hx : p.tables.exec = Jvm.exec) {cd : ClassFile.Cond} {x y : Int32} {o : Int} {P : Prop} [Decidable P] (hd : decode c.code pc = .ok (.if_icmp cd o, 3)) (ho : 0 ≤ (pc : Int) + o) (hp : ((pc : Int) + o).toNat = q) (hq : pc + 3 = q') (hP : if_icmp.holds cd x y = decide P) (gy : P → own_G p e below FF (T.setTop (mkF m q Ls rest))) (gn : ¬ P → own_G p e below FF (T.setTop (mkF m q' Ls rest))) : own_G p e below FF (T.setTop (mkF m pc Ls (.int y :: .int x :: rest))) := by
  by_cases h : P
  · exact (gy h).via fun _ hr => XS.icmpYes (g := mkF m pc Ls (.int y :: .int x :: rest)) X.here hx rfl (pc0 := pc) rfl hd rfl (by rw [hP]; exact decide_eq_true h) ho hp hr
  · subst hq; exact (gn h).via fun _ hr => XS.icmpNo (g := mkF m pc Ls (.int y :: .int x :: rest)) X.here hx rfl hd rfl (by rw [hP]; exact decide_eq_false h) hr
theorem own_h_eq (x y : Int32) : if_icmp.holds .eq x y = decide (x.toInt = y.toInt) := by
  by_cases h : x = y
  · rw [(teq h).1, h]; simp
  · rw [(feq h).1]; symm; exact decide_eq_false fun q => h (Int32.toInt_inj.mp q)
theorem own_h_ne (x y : Int32) : if_icmp.holds .ne x y = decide (x.toInt ≠ y.toInt) := by
  by_cases h : x = y
  · rw [(teq h).2, h]; simp
  · rw [(feq h).2]; symm; exact decide_eq_true fun q => h (Int32.toInt_inj.mp q)
theorem own_h_lt (x y : Int32) : if_icmp.holds .lt x y = decide (x.toInt < y.toInt) := by
  by_cases h : x < y
  · rw [(tlt h).1]; symm; exact decide_eq_true (Int32.lt_iff_toInt_lt.mp h)
  · rw [(flt h).1]; symm; exact decide_eq_false fun q => h (Int32.lt_iff_toInt_lt.mpr q)
theorem own_h_ge (x y : Int32) : if_icmp.holds .ge x y = decide (y.toInt ≤ x.toInt) := by
  by_cases h : x < y
  · rw [(tlt h).2.1]; symm; exact decide_eq_false fun q => absurd (Int32.lt_iff_toInt_lt.mp h) (by omega)
  · rw [(flt h).2.1]; symm; exact decide_eq_true (Int.not_lt.mp fun q => h (Int32.lt_iff_toInt_lt.mpr q))
theorem own_h_gt (x y : Int32) : if_icmp.holds .gt x y = decide (y.toInt < x.toInt) := by
  by_cases h : y < x
  · rw [(tlt h).2.2.1]; symm; exact decide_eq_true (Int32.lt_iff_toInt_lt.mp h)
  · rw [(flt h).2.2.1]; symm; exact decide_eq_false fun q => h (Int32.lt_iff_toInt_lt.mpr q)
theorem own_h_le (x y : Int32) : if_icmp.holds .le x y = decide (x.toInt ≤ y.toInt) := by
  by_cases h : y < x
  · rw [(tlt h).2.2.2]; symm; exact decide_eq_false fun q => absurd (Int32.lt_iff_toInt_lt.mp h) (by omega)
  · rw [(flt h).2.2.2]; symm; exact decide_eq_true (Int.not_lt.mp fun q => h (Int32.lt_iff_toInt_lt.mpr q))
theorem own_z_eq (x : Int32) : ifCond.holds .eq x = decide (x.toInt = 0) := (if0 _ _).trans (own_h_eq x 0)
theorem own_z_ne (x : Int32) : ifCond.holds .ne x = decide (x.toInt ≠ 0) := (if0 _ _).trans (own_h_ne x 0)
theorem own_z_lt (x : Int32) : ifCond.holds .lt x = decide (x.toInt < 0) := (if0 _ _).trans (own_h_lt x 0)
theorem own_z_ge (x : Int32) : ifCond.holds .ge x = decide (0 ≤ x.toInt) := (if0 _ _).trans (own_h_ge x 0)
theorem own_z_gt (x : Int32) : ifCond.holds .gt x = decide (0 < x.toInt) := (if0 _ _).trans (own_h_gt x 0)
theorem own_z_le (x : Int32) : ifCond.holds .le x = decide (x.toInt ≤ 0) := (if0 _ _).trans (own_h_le x 0)
theorem own_cmpL (x y : Int64) : (x.toInt < y.toInt ∧ (XT.cmpL x y).toInt = -1) ∨ (x.toInt = y.toInt ∧ (XT.cmpL x y).toInt = 0) ∨ (y.toInt < x.toInt ∧ (XT.cmpL x y).toInt = 1) := by
  unfold XT.cmpL
  by_cases h1 : y < x
  · rw [if_pos h1]; exact Or.inr (Or.inr ⟨Int64.lt_iff_toInt_lt.mp h1, rfl⟩)
  · rw [if_neg h1]
    by_cases h2 : x = y
    · rw [if_pos h2]; exact Or.inr (Or.inl ⟨by rw [h2], rfl⟩)
    · rw [if_neg h2]
      have h3 : ¬ y.toInt < x.toInt := fun q => h1 (Int64.lt_iff_toInt_lt.mpr q)
      have h4 : ¬ x.toInt = y.toInt := fun q => h2 (Int64.toInt_inj.mp q)
      exact Or.inl ⟨by omega, rfl⟩
theorem own_l_eq (x y : Int64) : ifCond.holds .eq (XT.cmpL x y) = decide (x.toInt = y.toInt) := by
  rw [own_z_eq]; rcases own_cmpL x y with ⟨h, q⟩ | ⟨h, q⟩ | ⟨h, q⟩ <;> rw [q] <;> simp <;> omega
theorem own_l_ne (x y : Int64) : ifCond.holds .ne (XT.cmpL x y) = decide (x.toInt ≠ y.toInt) := by
  rw [own_z_ne]; rcases own_cmpL x y with ⟨h, q⟩ | ⟨h, q⟩ | ⟨h, q⟩ <;> rw [q] <;> simp <;> omega
theorem own_l_lt (x y : Int64) : ifCond.holds .lt (XT.cmpL x y) = decide (x.toInt < y.toInt) := by
  rw [own_z_lt]; rcases own_cmpL x y with ⟨h, q⟩ | ⟨h, q⟩ | ⟨h, q⟩ <;> rw [q] <;> simp <;> omega
theorem own_l_ge (x y : Int64) : ifCond.holds .ge (XT.cmpL x y) = decide (y.toInt ≤ x.toInt) := by
  rw [own_z_ge]; rcases own_cmpL x y with ⟨h, q⟩ | ⟨h, q⟩ | ⟨h, q⟩ <;> rw [q] <;> simp <;> omega
theorem own_l_gt (x y : Int64) : ifCond.holds .gt (XT.cmpL x y) = decide (y.toInt < x.toInt) := by
  rw [own_z_gt]; rcases own_cmpL x y with ⟨h, q⟩ | ⟨h, q⟩ | ⟨h, q⟩ <;> rw [q] <;> simp <;> omega
theorem own_l_le (x y : Int64) : ifCond.holds .le (XT.cmpL x y) = decide (x.toInt ≤ y.toInt) := by
  rw [own_z_le]; rcases own_cmpL x y with ⟨h, q⟩ | ⟨h, q⟩ | ⟨h, q⟩ <;> rw [q] <;> simp <;> omega
theorem own_addI (x y : Int32) (h1 : -2147483648 ≤ x.toInt + y.toInt) (h2 : x.toInt + y.toInt < 2147483648) : (x + y).toInt = x.toInt + y.toInt := by
  have := c_iadd x y; have := rng32 (x + y); omega
theorem own_subI (x y : Int32) (h1 : -2147483648 ≤ x.toInt - y.toInt) (h2 : x.toInt - y.toInt < 2147483648) : (x - y).toInt = x.toInt - y.toInt := by
  have := c_isub x y; have := rng32 (x - y); omega
theorem own_mulI (x y : Int32) (h1 : -2147483648 ≤ x.toInt * y.toInt) (h2 : x.toInt * y.toInt < 2147483648) : (x * y).toInt = x.toInt * y.toInt := by
  have := c_imul x y; have := rng32 (x * y); omega
theorem own_rem (x y : Int32) (h0 : 0 ≤ x.toInt) (hy : 0 < y.toInt) : (x - (x / y) * y).toInt = x.toInt % y.toInt := by
  have hne : y ≠ -1 := fun q => by rw [q] at hy; exact absurd hy (by decide)
  have h1 := (c_idiv x y y.toInt rfl hne).1 h0
  have h2 := c_imul (x / y) y
  rw [h1] at h2
  have h3 := c_isub x ((x / y) * y)
  have h4 := rng32 (x - (x / y) * y)
  have h5 := Int.emod_def x.toInt y.toInt
  rw [Int.mul_comm] at h5
  have h6 := Int.emod_nonneg x.toInt (Int.ne_of_gt hy)
  have h7 := Int.emod_lt_of_pos x.toInt hy
  have h8 := rng32 y
  generalize x.toInt / y.toInt * y.toInt = P at *
  generalize x.toInt % y.toInt = M at *
  omega
end Own
section Own2
variable {p : Program} {l : Launch} {e : Env} {R : Room} {s : State} {m : MethodId} {args : Array Value} {below : List Frame} {meth : Method} {c : Code} {T : State} {locs : List Loc} {cells slots : Nat} {k n : Nat} {Q : Option Value → Heap → List Loc → Prop} {FF : State → Option Value → Prop} {pc q q' : Nat} {Ls l' : Array Slot} {st rest : List Value}
variable {Z : State} {a0 : Array Value} {h h' : Heap} {a b : Addr} {ty : FieldType} {N i : Nat} {f : Nat → Value} {v : Value} {ws : List Addr} {sl n0 : Nat} {j x : Int32}
/-- an array of N places that hold f 0 .. f (N - 1) -/
def own_Arr (Z : State) (h : Heap) (a : Addr) (ty : FieldType) (N : Nat) (f : Nat → Value) : Prop := ∃ c : Cell, Arr Z h a c ty ∧ c.slots.size = N ∧ N < 2 ^ 31 ∧ ∀ i, i < N → c.slots[i]? = some (f i)
def own_upd (f : Nat → Value) (j : Nat) (v : Value) : Nat → Value := fun i => if i = j then v else f i
theorem own_upd_same (f : Nat → Value) (j : Nat) (v : Value) : own_upd f j v j = v := if_pos rfl
theorem own_upd_ne (f : Nat → Value) {i j : Nat} (v : Value) (q : i ≠ j) : own_upd f j v i = f i := if_neg q
def own_updI (f : Nat → Int32) (j : Nat) (v : Int32) : Nat → Int32 := fun i => if i = j then v else f i
def own_zero : Nat → Int32 := fun _ => 0
theorem own_updI_same (f : Nat → Int32) (j : Nat) (v : Int32) : own_updI f j v j = v := if_pos rfl
theorem own_updI_ne (f : Nat → Int32) {i j : Nat} (v : Int32) (q : i ≠ j) : own_updI f j v i = f i := if_neg q
theorem own_upd_I (f : Nat → Int32) (j : Nat) (v : Int32) : own_upd (fun i => .int (f i)) j (.int v) = fun i => .int (own_updI f j v i) := by
  funext i
  show (if i = j then Value.int v else Value.int (f i)) = Value.int (if i = j then v else f i)
  split <;> rfl
theorem own_Arr.ext (F : own_Arr Z h a ty N f) (E : Ext h h') : own_Arr Z h' a ty N f := by obtain ⟨c, A, r⟩ := F; exact ⟨c, A.ext E, r⟩
theorem own_Arr.keep (F : own_Arr Z h a ty N f) (K : Keep h h' ws) (q : a ∉ ws) : own_Arr Z h' a ty N f := by obtain ⟨c, A, r⟩ := F; exact ⟨c, ⟨K.2.1 a c A.1 q, A.2⟩, r⟩
theorem own_Arr.lt (F : own_Arr Z h a ty N f) : a < h.size := by obtain ⟨c, A, -⟩ := F; exact A.lt
theorem own_Arr.set (F : own_Arr Z h a ty N f) (W : Wr h h' a i v) : own_Arr Z h' a ty N (own_upd f i v) := by
  obtain ⟨c, A, S, hN, H⟩ := F
  refine ⟨_, Arr.same W A, by rw [sz_set]; exact S, hN, fun t ht => ?_⟩
  show (c.slots.setIfInBounds i v)[t]? = _
  rw [Array.getElem?_setIfInBounds]
  by_cases q : t = i
  · subst q; simp [own_upd, S, ht]
  · rw [if_neg (fun z => q z.symm), own_upd, if_neg q]; exact H t ht
theorem own_idx (hj : j.toInt = (i : Int)) (hi : i < N) : ¬ (j < 0 ∨ N ≤ j.toNatClampNeg) ∧ j.toNatClampNeg = i := by
  have h1 : j.toNatClampNeg = i := by show j.toInt.toNat = i; omega
  refine ⟨fun q => ?_, h1⟩
  rcases q with q | q
  · have := Int32.lt_iff_toInt_lt.mp q; have : (0 : Int32).toInt = 0 := rfl; omega
  · omega
theorem own_newP (X : Stand p l e R s m args below meth c T locs cells slots) (hx : p.tables.exec = Jvm.exec) (hZ : Z.Warmed39 s.vm) {aty : ArrayType} (w : (Jvm.Cond.arrayClass (newarray.typeOf aty)).before a0 Z = true) (eT : T.heap = h) (hd : decode c.code pc = .ok (.newarray aty, 2)) (hn : j.toInt = (N : Int)) {cap : Nat} (hcap : N ≤ cap) (hb : cap * 8 ≤ 536870912) (hc : cells + 1 ≤ R.cells) (hl : slots + cap ≤ R.slots) (hq : pc + 2 = q)
    (g : ∀ T' h' b, b = h.size → Stand p l e R s m args below meth c T' locs (cells + 1) (slots + cap) → T'.heap = h' → Ext h h' → own_Arr Z h' b (newarray.typeOf aty) N (fun _ => defaultValue (newarray.typeOf aty)) → own_G p e below FF (T'.setTop (mkF m q Ls (.ref b :: rest)))) :
    own_G p e below FF (T.setTop (mkF m pc Ls (.int j :: rest))) := by
  subst hq
  have hN : j.toNatClampNeg = N := by show j.toInt.toNat = N; omega
  have hn0 : ¬ j < 0 := fun q => by have := Int32.lt_iff_toInt_lt.mp q; have : (0 : Int32).toInt = 0 := rfl; omega
  obtain ⟨T', h', cA, X', e', E, A, st⟩ := newP X hx hZ w eT (g := mkF m pc Ls (.int j :: rest)) rfl hd rfl hn0 (cap := cap) (by rw [hN]; exact hcap) hb hc hl
  refine (g T' h' h.size rfl X' e' E ⟨_, A, by rw [sz_new]; exact hN, ?_, fun t ht => ?_⟩).via st
  · have := (back32 hn0).2; omega
  · show (Array.replicate j.toNatClampNeg _)[t]? = _
    rw [Array.getElem?_replicate, if_pos (by omega)]
theorem own_stB (X : Stand p l e R s m args below meth c T locs cells slots) (hx : p.tables.exec = Jvm.exec) (hZ : Z.Warmed39 s.vm) (eT : T.heap = h) {fi : Nat → Int32} (A : own_Arr Z h a .byte N (fun i => .int (fi i))) (hd : decode c.code pc = .ok (.bastore, 1)) (hj : j.toInt = (i : Int)) (hi : i < N) (Nf : Fr n0 locs) (ha : n0 ≤ a) (hq : pc + 1 = q)
    (g : ∀ T' h' L', Stand p l e R s m args below meth c T' L' cells slots → Fr n0 L' → T'.heap = h' → own_Arr Z h' a .byte N (fun t => .int (own_updI fi i (x.toInt8.toInt32) t)) → Wr h h' a i (.int (x.toInt8.toInt32)) → own_G p e below FF (T'.setTop (mkF m q Ls rest))) :
    own_G p e below FF (T.setTop (mkF m pc Ls (.int x :: .int j :: .ref a :: rest))) := by
  subst hq
  have A0 := A
  obtain ⟨cl, Ar, S, hN, H⟩ := A
  obtain ⟨h1, h2⟩ := own_idx (N := cl.slots.size) hj (by omega)
  obtain ⟨T', h', X', e', W, st⟩ := stB X hx hZ eT Ar (j := j) (x := x) h1 (g := mkF m pc Ls (.int x :: .int j :: .ref a :: rest)) rfl rfl hd
  have N' := Fr.snoc X' Nf ha
  rw [h2] at W
  have A1 := A0.set W
  rw [show (Value.int (nar .byte x)) = .int (x.toInt8.toInt32) from rfl, own_upd_I] at A1
  exact (g T' h' _ X' N' e' A1 W).via st
theorem own_baload (X : Stand p l e R s m args below meth c T locs cells slots) (hx : p.tables.exec = Jvm.exec) (hZ : Z.Warmed39 s.vm) (eT : T.heap = h) (A : own_Arr Z h a .byte N f) (hd : decode c.code pc = .ok (.baload, 1)) (hj : j.toInt = (i : Int)) (hi : i < N) (hv : f i = v) (hq : pc + 1 = q)
    (g : own_G p e below FF (T.setTop (mkF m q Ls (v :: rest)))) :
    own_G p e below FF (T.setTop (mkF m pc Ls (.int j :: .ref a :: rest))) := by
  subst hq
  obtain ⟨cl, Ar, S, hN, H⟩ := A
  obtain ⟨h1, h2⟩ := own_idx (N := cl.slots.size) hj (by omega)
  exact g.via fun t => X.baloadBytes hx (j := j) (v := v) (by rw [eT]; exact Ar.1) (State.isArrayOf_alike hZ.alike Ar.2.1) Ar.2.2 h1 (by rw [h2, ← hv]; exact H i hi) (g := mkF m pc Ls (.int j :: .ref a :: rest)) rfl rfl hd t
theorem own_zaload (X : Stand p l e R s m args below meth c T locs cells slots) (hx : p.tables.exec = Jvm.exec) (hZ : Z.Warmed39 s.vm) (eT : T.heap = h) (A : own_Arr Z h a .boolean N f) (hd : decode c.code pc = .ok (.baload, 1)) (hj : j.toInt = (i : Int)) (hi : i < N) (hv : f i = v) (hq : pc + 1 = q)
    (g : own_G p e below FF (T.setTop (mkF m q Ls (v :: rest)))) :
    own_G p e below FF (T.setTop (mkF m pc Ls (.int j :: .ref a :: rest))) := by
  subst hq
  obtain ⟨cl, Ar, S, hN, H⟩ := A
  obtain ⟨h1, h2⟩ := own_idx (N := cl.slots.size) hj (by omega)
  exact g.via fun t => X.baloadBooleans hx (j := j) (v := v) (by rw [eT]; exact Ar.1) (State.isArrayOf_alike hZ.alike Ar.2.1) Ar.2.2 h1 (by rw [h2, ← hv]; exact H i hi) (g := mkF m pc Ls (.int j :: .ref a :: rest)) rfl rfl hd t
theorem own_newO (X : Stand p l e R s m args below meth c T locs cells slots) (hx : p.tables.exec = Jvm.exec) (hZ : Z.Warmed39 s.vm) {own C : String} {index sz : Nat} (hown : s.vm.findClass own = some m.cls) (w : (Jvm.Cond.classLink own index C).before a0 Z = true) (wi : (Jvm.Cond.instantiable C sz).before a0 Z = true) (wz : (Jvm.Cond.initialized C).before a0 Z = true) (eT : T.heap = h) (hd : decode c.code pc = .ok (.new index, 3)) (hc : cells + 1 ≤ R.cells) (hl : slots + sz ≤ R.slots) (hq : pc + 3 = q)
    (g : ∀ T' h' b, b = h.size → Stand p l e R s m args below meth c T' locs (cells + 1) (slots + sz) → T'.heap = h' → Ext h h' → Exa Z h' b C → (∀ {O nm d : String} {ty : FieldType}, Laid Z a0 C O nm d → parseFieldDescriptor d = some ty → Fld Z h' b O nm d (defaultValue ty)) → own_G p e below FF (T'.setTop (mkF m q Ls (.ref b :: st)))) :
    own_G p e below FF (T.setTop (mkF m pc Ls st)) := by
  subst hq
  obtain ⟨T', h', X', e', E, A, D, -, stp⟩ := newO X hx hZ hown w wi wz eT (g := mkF m pc Ls st) rfl hd hc hl
  exact (g T' h' h.size rfl X' e' E A D).via stp
theorem own_initO (X : Stand p l e R s m args below meth c T locs cells slots) (hx : p.tables.exec = Jvm.exec) (hZ : Z.Warmed39 s.vm) {own : String} {idx : Nat} (hown : s.vm.findClass own = some m.cls) (w1 : (Jvm.Cond.methodLink own idx Lib.objectInit).before a0 Z = true) (w2 : (Jvm.Cond.instanceMethod Lib.objectInit).before a0 Z = true)
    (w3 : (Jvm.Cond.code Lib.objectInit ⟨#[0xb1]⟩ 1 none).before a0 Z = true) (eT : T.heap = h) (hsize : Ls.size = c.maxLocals) (hd : decode c.code pc = .ok (.invokespecial idx, 3)) (hf : 1 ≤ R.frames) {W : Nat} (hW : (rest.map fun v => v.category).sum = W) (hl : W + 12 ≤ R.locals) (hq : pc + 3 = q)
    (g : ∀ T', Stand p l e R s m args below meth c T' locs cells slots → T'.heap = h → own_G p e below FF (T'.setTop (mkF m q Ls rest))) :
    own_G p e below FF (T.setTop (mkF m pc Ls (.ref a :: rest))) := by
  subst hq
  obtain ⟨T', X', e', st⟩ := initO X hx hZ hown w1 w2 w3 eT (g := mkF m pc Ls (.ref a :: rest)) rfl hsize rfl hd hf (W := W) (by show 2 * 0 + _ ≤ _; rw [hW]; omega) hl
  exact (g T' X' e').via st
theorem own_putF (X : Stand p l e R s m args below meth c T locs cells slots) (hx : p.tables.exec = Jvm.exec) (hZ : Z.Warmed39 s.vm) {own O nm d C : String} {index kk : Nat} {ft : FieldType} (hown : s.vm.findClass own = some m.cls) (w : (Jvm.Cond.fieldLink own index O nm d).before a0 Z = true)
    (eT : T.heap = h) {old : Value} (F : Fld Z h a O nm d old) (E : Exa Z h a C) (L : (Jvm.Cond.lays C O nm d).before a0 Z = true ∨ ((Jvm.Cond.laysFinal C O nm d).before a0 Z = true ∧ own = O ∧ meth.name = "<init>")) (wi : (Jvm.Cond.instantiable C kk).before a0 Z = true)
    (hty : parseFieldDescriptor d = some ft) (hn : narrow ft v = v) (hf : fits ft v = true) (hd : decode c.code pc = .ok (.putfield index, 3)) (Nf : Fr n0 locs) (ha : n0 ≤ a) (hq : pc + 3 = q)
    (g : ∀ T' h' L', Stand p l e R s m args below meth c T' L' cells slots → Fr n0 L' → T'.heap = h' → Wr h h' a (Jvm.RoadKit.slotOf Z O nm d) v → own_G p e below FF (T'.setTop (mkF m q Ls rest))) :
    own_G p e below FF (T.setTop (mkF m pc Ls (v :: .ref a :: rest))) := by
  subst hq
  obtain ⟨T', h', X', e', W, st⟩ := putF X hx hZ hown (host := "") (Or.inl w) Via.refl eT F E L wi hty hn hf (g := mkF m pc Ls (v :: .ref a :: rest)) rfl rfl hd
  exact (g T' h' _ X' (Fr.snoc X' Nf ha) e' W).via st
theorem own_getF (X : Stand p l e R s m args below meth c T locs cells slots) (hx : p.tables.exec = Jvm.exec) (hZ : Z.Warmed39 s.vm) {own O nm d : String} {index : Nat} (hown : s.vm.findClass own = some m.cls) (w : (Jvm.Cond.fieldLink own index O nm d).before a0 Z = true)
    (eT : T.heap = h) (F : Fld Z h a O nm d v) (hd : decode c.code pc = .ok (.getfield index, 3)) (hq : pc + 3 = q)
    (g : ∀ T', Stand p l e R s m args below meth c T' locs cells slots → T'.heap = h → own_G p e below FF (T'.setTop (mkF m q Ls (v :: rest)))) :
    own_G p e below FF (T.setTop (mkF m pc Ls (.ref a :: rest))) := by
  subst hq
  obtain ⟨T', X', e', st⟩ := getF X hx hZ hown (host := "") (Or.inl w) Via.refl eT F (g := mkF m pc Ls (.ref a :: rest)) rfl rfl hd
  exact (g T' X' e').via st
theorem own_getS (X : Stand p l e R s m args below meth c T locs cells slots) (hx : p.tables.exec = Jvm.exec) (hZ : Z.Warmed39 s.vm) {own O nm d : String} {index : Nat} (hown : s.vm.findClass own = some m.cls) (w : (Jvm.Cond.fieldLink own index O nm d).before a0 Z = true)
    (eT : T.heap = h) (F : Sta Z h O nm d v) (hd : decode c.code pc = .ok (.getstatic index, 3)) (hq : pc + 3 = q)
    (g : ∀ T', Stand p l e R s m args below meth c T' locs cells slots → T'.heap = h → own_G p e below FF (T'.setTop (mkF m q Ls (v :: st)))) :
    own_G p e below FF (T.setTop (mkF m pc Ls st)) := by
  subst hq
  obtain ⟨T', X', e', stp⟩ := getS X hx hZ (host := "") hown w Via.refl eT F (g := mkF m pc Ls st) rfl hd
  exact (g T' X' e').via stp
theorem own_retA (X : Stand p l e R s m args below meth c T locs cells slots) (hx : p.tables.exec = Jvm.exec) {t : FieldType} (hv : v.isRef = true) (hret : meth.sig.returnType = some t) (ht : t.isReference = true) (hlk : meth.locks = false) (hd : decode c.code pc = .ok (.areturn, 1)) (hk : cells ≤ k) (hn : slots ≤ n) (hq : Q (some v) T.heap locs) :
    own_G p e below (own_En s k n Q) (T.setTop (mkF m pc Ls [v])) := by
  obtain ⟨fs, hr, hrun, hended, hW, hsame⟩ := X.leave (v := some v) (fun h => by rw [hret] at h; cases h) hlk
  exact ⟨_, _, X.areturnOut hx hv hret ht hd hr, hrun, hended, _, hq, ⟨_, rfl⟩, hW, hsame.mono hk hn⟩
theorem own_newR (X : Stand p l e R s m args below meth c T locs cells slots) (hx : p.tables.exec = Jvm.exec) (hZ : Z.Warmed39 s.vm) {own C : String} {index : Nat} (hown : s.vm.findClass own = some m.cls) (w1 : (Jvm.Cond.classLink own index C).before a0 Z = true) (w2 : (Jvm.Cond.arrayOver (.object C)).before a0 Z = true) (eT : T.heap = h) (hd : decode c.code pc = .ok (.anewarray index, 3)) (hn : j.toInt = (N : Int)) {cap : Nat} (hcap : N ≤ cap) (hb : cap * 8 ≤ 536870912) (hc : cells + 1 ≤ R.cells) (hl : slots + cap ≤ R.slots) (hq : pc + 3 = q)
    (g : ∀ T' h' b, b = h.size → Stand p l e R s m args below meth c T' locs (cells + 1) (slots + cap) → T'.heap = h' → Ext h h' → own_Arr Z h' b (.object C) N (fun _ => .null) → (∃ cl, Arr Z h' b cl (.object C) ∧ Ovr Z cl.cls C) → own_G p e below FF (T'.setTop (mkF m q Ls (.ref b :: rest)))) :
    own_G p e below FF (T.setTop (mkF m pc Ls (.int j :: rest))) := by
  subst hq
  have hN : j.toNatClampNeg = N := by show j.toInt.toNat = N; omega
  have hn0 : ¬ j < 0 := fun q => by have := Int32.lt_iff_toInt_lt.mp q; have : (0 : Int32).toInt = 0 := rfl; omega
  obtain ⟨T', h', cA, X', e', E, A, O, st⟩ := newR X hx hZ hown w1 w2 eT (g := mkF m pc Ls (.int j :: rest)) rfl hd rfl hn0 (cap := cap) (by rw [hN]; exact hcap) hb hc hl
  refine (g T' h' h.size rfl X' e' E ⟨_, A, by rw [sz_new]; exact hN, ?_, fun t ht => ?_⟩ ⟨_, A, O⟩).via st
  · have := (back32 hn0).2; omega
  · show (Array.replicate j.toNatClampNeg _)[t]? = _
    rw [Array.getElem?_replicate, if_pos (by omega)]; rfl
theorem own_ovr_keep {C : String} (F : ∃ cl : Cell, Arr Z h a cl (.object C) ∧ Ovr Z cl.cls C) (W : Wr h h' a i v) : ∃ cl : Cell, Arr Z h' a cl (.object C) ∧ Ovr Z cl.cls C := by
  obtain ⟨cl, A, O⟩ := F
  exact ⟨_, Arr.same W A, O⟩
theorem own_stR {C : String} (X : Stand p l e R s m args below meth c T locs cells slots) (hx : p.tables.exec = Jvm.exec) (hZ : Z.Warmed39 s.vm) (eT : T.heap = h) (A : own_Arr Z h a (.object C) N f) (O : ∃ cl : Cell, Arr Z h a cl (.object C) ∧ Ovr Z cl.cls C) (I : Ins Z h b C true) (hd : decode c.code pc = .ok (.aastore, 1)) (hj : j.toInt = (i : Int)) (hi : i < N) (Nf : Fr n0 locs) (ha : n0 ≤ a) (hq : pc + 1 = q)
    (g : ∀ T' h' L', Stand p l e R s m args below meth c T' L' cells slots → Fr n0 L' → T'.heap = h' → own_Arr Z h' a (.object C) N (own_upd f i (.ref b)) → (∃ cl : Cell, Arr Z h' a cl (.object C) ∧ Ovr Z cl.cls C) → Wr h h' a i (.ref b) → own_G p e below FF (T'.setTop (mkF m q Ls rest))) :
    own_G p e below FF (T.setTop (mkF m pc Ls (.ref b :: .int j :: .ref a :: rest))) := by
  subst hq
  have A0 := A
  have O0 := O
  obtain ⟨cl, Ar, S, hN, H⟩ := A
  obtain ⟨cl', Ar', Ov⟩ := O
  cases Ar.1.symm.trans Ar'.1
  obtain ⟨h1, h2⟩ := own_idx (N := cl.slots.size) hj (by omega)
  obtain ⟨T', h', X', e', W, st⟩ := stR X hx hZ eT Ar (j := j) (v := .ref b) h1 rfl (Sto.of Ar Ov I) (g := mkF m pc Ls (.ref b :: .int j :: .ref a :: rest)) rfl rfl hd
  have N' := Fr.snoc X' Nf ha
  rw [h2] at W
  exact (g T' h' _ X' N' e' (A0.set W) (own_ovr_keep O0 W) W).via st
theorem own_aaload {C : String} (X : Stand p l e R s m args below meth c T locs cells slots) (hx : p.tables.exec = Jvm.exec) (hZ : Z.Warmed39 s.vm) (eT : T.heap = h) (A : own_Arr Z h a (.object C) N f) (hd : decode c.code pc = .ok (.aaload, 1)) (hj : j.toInt = (i : Int)) (hi : i < N) (hv : f i = v) (hq : pc + 1 = q)
    (g : own_G p e below FF (T.setTop (mkF m q Ls (v :: rest)))) :
    own_G p e below FF (T.setTop (mkF m pc Ls (.int j :: .ref a :: rest))) := by
  subst hq
  obtain ⟨cl, Ar, S, hN, H⟩ := A
  obtain ⟨h1, h2⟩ := own_idx (N := cl.slots.size) hj (by omega)
  exact g.via fun t => X.aaload hx (j := j) (v := v) (by rw [eT]; exact Ar.1) (State.isArrayOf_alike hZ.alike Ar.2.1) rfl Ar.2.2 h1 (by rw [h2, ← hv]; exact H i hi) (g := mkF m pc Ls (.int j :: .ref a :: rest)) rfl rfl hd t
theorem own_acmp (X : Stand p l e R s m args below meth c T locs cells slots) (hx : p.tables.exec = Jvm.exec) {cd : ClassFile.ACond} {o : Int} {P : Prop} [Decidable P] {u v : Value} (hd : decode c.code pc = .ok (.if_acmp cd o, 3)) (ho : 0 ≤ (pc : Int) + o) (hp : ((pc : Int) + o).toNat = q) (hq : pc + 3 = q') (hu : u.isRef = true) (hv : v.isRef = true) (hP : XT.acmp cd u v = decide P) (gy : P → own_G p e below FF (T.setTop (mkF m q Ls rest))) (gn : ¬ P → own_G p e below FF (T.setTop (mkF m q' Ls rest))) : own_G p e below FF (T.setTop (mkF m pc Ls (v :: u :: rest))) := by
  by_cases h : P
  · exact (gy h).via fun _ hr => XT.acmpYes (g := mkF m pc Ls (v :: u :: rest)) X.here hx rfl (pc0 := pc) rfl hd rfl hu hv (by rw [hP]; exact decide_eq_true h) ho hp hr
  · subst hq; exact (gn h).via fun _ hr => XT.acmpNo (g := mkF m pc Ls (v :: u :: rest)) X.here hx rfl hd rfl hu hv (by rw [hP]; exact decide_eq_false h) hr
theorem own_callVP {C own : String} {index : Nat} {y : MethodName} {bytes : ByteArray} {maxL : Nat} {ret : Option FieldType} (X : Stand p l e R s m args below meth c T locs cells slots) (hx : p.tables.exec = Jvm.exec) (hZ : Z.Warmed39 s.vm)
    (hown : s.vm.findClass own = some m.cls) (w1 : (Jvm.Cond.methodLink own index y).before a0 Z = true) (w2 : (Jvm.Cond.declares y).before a0 Z = true) (w3 : (Jvm.Cond.selects C y y).before a0 Z = true) (w4 : (Jvm.Cond.instanceMethod y).before a0 Z = true) (w5 : (Jvm.Cond.code y bytes maxL ret).before a0 Z = true) (w6 : (Jvm.Cond.initialized y.cls).before a0 Z = true)
    (hy : y.cls ≠ "java/lang/invoke/MethodHandle" ∧ y.cls ≠ "java/lang/invoke/VarHandle") {rm : Room} {as' : Array Value} {P : Value → Prop} {W : Nat}
    (hM : MetFree l y (head1 [Jvm.Cond.code y bytes maxL ret] rm) (fun a U => a = as' ∧ Z.Warmed39 U.vm ∧ U.heap = h) (fun _ _ _ _ _ => True) (fun _ U o U' => ∃ v L, o = .returned v ∧ ((∃ w, v = some w ∧ P w) ∧ L = [] ∧ U'.heap = h) ∧ FrameEnd U o U' L rm.cells rm.slots))
    (E : Exa Z h b C) (hf : rm.frames + 1 ≤ R.frames) (hl : W + (maxL + 11) + rm.locals ≤ R.locals) (eT : T.heap = h) (hsize : Ls.size = c.maxLocals) {argsL : List Value}
    (hlen : ∀ sig, parseMethodDescriptor y.desc = some sig → argsL.length = sig.parameters.length) (hst : st = argsL.reverse ++ .ref b :: rest) (hW : (rest.map fun v => v.category).sum = W) (hd : decode c.code pc = .ok (.invokevirtual index, 3)) (hq : pc + 3 = q) (has : (.ref b :: argsL).toArray = as') (hc : rm.cells = 0) (hs : rm.slots = 0) (hcc : cells ≤ R.cells) (hss : slots ≤ R.slots)
    (g : ∀ w T', P w → Stand p l e R s m args below meth c T' locs cells slots → T'.heap = h → own_G p e below FF (T'.setTop (mkF m q Ls (w :: rest)))) :
    own_G p e below FF (T.setTop (mkF m pc Ls st)) := by
  refine own_callV (Q' := fun v U L => (∃ w, v = some w ∧ P w) ∧ L = [] ∧ U = h) X hx hZ hown w1 w2 w3 w4 w5 w6 hy hM E hf hl eT hsize hlen hst hW hd hq has (by rw [hc]; exact hcc) (by rw [hs]; exact hss) ?_
  rintro v T' L ⟨⟨w, rfl, hP⟩, rfl, e'⟩ X'
  rw [List.append_nil, hc, hs] at X'
  exact g w T' hP X' e'
/-- a private method by invokevirtual, the heap left as it was -/
theorem own_callPP {C own : String} {index kk : Nat} {y : MethodName} {bytes : ByteArray} {maxL : Nat} {ret : Option FieldType} (X : Stand p l e R s m args below meth c T locs cells slots) (hx : p.tables.exec = Jvm.exec) (hZ : Z.Warmed39 s.vm)
    (hown : s.vm.findClass own = some m.cls) (w1 : (Jvm.Cond.methodLink own index y).before a0 Z = true) (w2 : (Jvm.Cond.privateMethod y).before a0 Z = true) (w3 : (Jvm.Cond.instantiable y.cls kk).before a0 Z = true) (w4 : (Jvm.Cond.instanceMethod y).before a0 Z = true) (w5 : (Jvm.Cond.code y bytes maxL ret).before a0 Z = true) (w6 : (Jvm.Cond.initialized y.cls).before a0 Z = true)
    (hy : y.cls ≠ "java/lang/invoke/MethodHandle" ∧ y.cls ≠ "java/lang/invoke/VarHandle") {rm : Room} {as' : Array Value} {P : Value → Prop} {W : Nat}
    (hM : MetFree l y (head1 [Jvm.Cond.code y bytes maxL ret] rm) (fun a U => a = as' ∧ Z.Warmed39 U.vm ∧ U.heap = h) (fun _ _ _ _ _ => True) (fun _ U o U' => ∃ v L, o = .returned v ∧ ((∃ w, v = some w ∧ P w) ∧ L = [] ∧ U'.heap = h) ∧ FrameEnd U o U' L rm.cells rm.slots))
    (E : Exa Z h b C) (hf : rm.frames + 1 ≤ R.frames) (hl : W + (maxL + 11) + rm.locals ≤ R.locals) (eT : T.heap = h) (hsize : Ls.size = c.maxLocals) {argsL : List Value}
    (hlen : ∀ sig, parseMethodDescriptor y.desc = some sig → argsL.length = sig.parameters.length) (hst : st = argsL.reverse ++ .ref b :: rest) (hW : (rest.map fun v => v.category).sum = W) (hd : decode c.code pc = .ok (.invokevirtual index, 3)) (hq : pc + 3 = q) (has : (.ref b :: argsL).toArray = as') (hc : rm.cells = 0) (hs : rm.slots = 0) (hcc : cells ≤ R.cells) (hss : slots ≤ R.slots)
    (g : ∀ w T', P w → Stand p l e R s m args below meth c T' locs cells slots → T'.heap = h → own_G p e below FF (T'.setTop (mkF m q Ls (w :: rest)))) :
    own_G p e below FF (T.setTop (mkF m pc Ls st)) := by
  subst hq hst
  obtain ⟨cq, q1, q2⟩ := E.cell
  have hi := mvT (args := args) hZ w4
  have hp := Cond.privateMethod_at (mvP (args := #[]) hZ w2)
  obtain ⟨ci, ki, f1, f2, -, f3, -⟩ := Cond.instantiable_spec (mvT (args := args) hZ w3)
  have hsel := selects_self_of_private f1 f2 (Bool.or_eq_false_iff.mp f3).1 hp hi hy
  obtain ⟨v, _, ⟨T7, L7, k7, n7⟩, -, X7, ⟨Lc7, hQ7, l7, y7, z7⟩, st7⟩ := X.privateBack hx hown (mvT hZ w1) hi hsel hp (mvT hZ w5) hy (backOf (W := W) (Q := fun v U L => (∃ w, v = some w ∧ P w) ∧ L = [] ∧ U = h) hM hZ w5 w6 hf hl) (g := mkF m pc Ls (argsL.reverse ++ .ref b :: rest)) rfl hsize (Steps.refl _) (a := b) (by rw [eT]; exact q1) q2 (argsL := argsL) (rest := rest) hlen rfl (by show 2 * 0 + _ ≤ _; rw [hW]; omega) hd (fun _ _ => ⟨has, eT, by rw [hc]; exact hcc, by rw [hs]; exact hss⟩)
  dsimp only [Pt.U, Pt.locs, Pt.cells, Pt.slots] at X7 l7 y7 z7 st7 hQ7
  obtain ⟨⟨w, rfl, hP⟩, rfl, e'⟩ := hQ7
  rw [List.append_nil] at l7
  rw [hc] at y7
  rw [hs] at z7
  subst l7 y7 z7
  exact (g w T7 hP X7 e').via fun t hh => st7.trans hh
/-- a constructor that leaves the heap as it was (Record's, say) -/
theorem own_callNP {own : String} {index : Nat} {y : MethodName} {bytes : ByteArray} {maxL : Nat} (X : Stand p l e R s m args below meth c T locs cells slots) (hx : p.tables.exec = Jvm.exec) (hZ : Z.Warmed39 s.vm)
    (hyn : y.name = "<init>") (hown : s.vm.findClass own = some m.cls) (w1 : (Jvm.Cond.methodLink own index y).before a0 Z = true) (w2 : (Jvm.Cond.instanceMethod y).before a0 Z = true) (w3 : (Jvm.Cond.initialized y.cls).before a0 Z = true) (w4 : (Jvm.Cond.code y bytes maxL none).before a0 Z = true)
    (hy : y.cls ≠ "java/lang/invoke/MethodHandle" ∧ y.cls ≠ "java/lang/invoke/VarHandle") {rm : Room} {as' : Array Value} {W : Nat}
    (hM : MetFree l y (head1 [Jvm.Cond.code y bytes maxL none] rm) (fun a U => a = as' ∧ Z.Warmed39 U.vm ∧ U.heap = h) (fun _ _ _ _ _ => True) (fun _ U o U' => ∃ v L, o = .returned v ∧ (v = none ∧ L = [] ∧ U'.heap = h) ∧ FrameEnd U o U' L rm.cells rm.slots))
    (hf : rm.frames + 1 ≤ R.frames) (hl : W + (maxL + 11) + rm.locals ≤ R.locals) (eT : T.heap = h) (hsize : Ls.size = c.maxLocals) {argsL : List Value}
    (hlen : ∀ sig, parseMethodDescriptor y.desc = some sig → argsL.length = sig.parameters.length) (hst : st = argsL.reverse ++ .ref b :: rest) (hW : (rest.map fun v => v.category).sum = W) (hd : decode c.code pc = .ok (.invokespecial index, 3)) (hq : pc + 3 = q) (has : (.ref b :: argsL).toArray = as') (hc : rm.cells = 0) (hs : rm.slots = 0) (hcc : cells ≤ R.cells) (hss : slots ≤ R.slots)
    (g : ∀ T', Stand p l e R s m args below meth c T' locs cells slots → T'.heap = h → own_G p e below FF (T'.setTop (mkF m q Ls rest))) :
    own_G p e below FF (T.setTop (mkF m pc Ls st)) := by
  refine own_callN (Q' := fun v U L => v = none ∧ L = [] ∧ U = h) (b := b) X hx hZ hyn hown w1 w2 w3 w4 hy hM hf hl eT hsize hlen hst hW hd hq has (by rw [hc]; exact hcc) (by rw [hs]; exact hss) ?_
  rintro v T' L ⟨rfl, rfl, e'⟩ X'
  rw [List.append_nil, hc, hs] at X'
  exact g T' X' e'
theorem own_addL (x y : Int64) (h1 : -9223372036854775808 ≤ x.toInt + y.toInt) (h2 : x.toInt + y.toInt < 9223372036854775808) : (x + y).toInt = x.toInt + y.toInt := by
  have := c_ladd x y; have := rng64 (x + y); omega
theorem own_subL (x y : Int64) (h1 : -9223372036854775808 ≤ x.toInt - y.toInt) (h2 : x.toInt - y.toInt < 9223372036854775808) : (x - y).toInt = x.toInt - y.toInt := by
  have := c_lsub x y; have := rng64 (x - y); omega
theorem own_mulL (x y : Int64) (h1 : -9223372036854775808 ≤ x.toInt * y.toInt) (h2 : x.toInt * y.toInt < 9223372036854775808) : (x * y).toInt = x.toInt * y.toInt := by
  have := c_lmul x y; have := rng64 (x * y); omega
theorem own_nb (z : Int32) (h : z.toInt = 0 ∨ z.toInt = 1) : nar .boolean z = z := by
  rcases h with h | h
  · rw [show z = 0 from Int32.toInt_inj.mp h]; rfl
  · rw [show z = 1 from Int32.toInt_inj.mp h]; rfl
theorem own_rngU {f : Nat → Int32} (hf : ∀ j, -128 ≤ (f j).toInt ∧ (f j).toInt < 128) (i : Nat) (x : Int32) : ∀ j, -128 ≤ (own_updI f i (x.toInt8.toInt32) j).toInt ∧ (own_updI f i (x.toInt8.toInt32) j).toInt < 128 := by
  intro j
  by_cases q : j = i
  · subst q; rw [own_updI_same]; exact (c_i2b x).2
  · rw [own_updI_ne _ _ q]; exact hf j
theorem own_rng0 : ∀ j, -128 ≤ (own_zero j).toInt ∧ (own_zero j).toInt < 128 := fun _ => ⟨show (-128 : Int) ≤ (0 : Int32).toInt by decide, show (0 : Int32).toInt < (128 : Int) by decide⟩
end Own2
theorem own_kext {h h' : Heap} (K : Keep h h' []) : Ext h h' := ⟨K.1, fun x c q => K.2.1 x c q nin0⟩
section OwnAl
variable {p : Program} {l : Launch} {e : Env} {R : Room} {s : State} {m : MethodId} {args : Array Value} {below : List Frame} {meth : Method} {c : Code} {T : State} {locs : List Loc} {cells slots : Nat} {k n : Nat} {Q : Option Value → Heap → List Loc → Prop} {FF : State → Option Value → Prop} {pc q q' : Nat} {Ls l' : Array Slot} {st rest : List Value} {Z : State} {a0 : Array Value} {h h' : Heap} {ws : List Addr} {a : Addr} {ty : FieldType} {N i n0 : Nat} {f : Nat → Value} {j : Int32}
theorem own_arraylength (X : Stand p l e R s m args below meth c T locs cells slots) (hx : p.tables.exec = Jvm.exec) (hZ : Z.Warmed39 s.vm) (eT : T.heap = h) (A : own_Arr Z h a ty N f) (hd : decode c.code pc = .ok (.arraylength, 1)) {v : Int32} (hv : N.toInt32 = v) (hq : pc + 1 = q)
    (g : own_G p e below FF (T.setTop (mkF m q Ls (.int v :: rest)))) :
    own_G p e below FF (T.setTop (mkF m pc Ls (.ref a :: rest))) := by
  subst hq hv
  obtain ⟨cl, Ar, S, hN, H⟩ := A
  subst S
  exact g.via fun t => X.arraylength hx (by rw [eT]; exact Ar.1) (State.isArrayOf_alike hZ.alike Ar.2.1) (g := mkF m pc Ls (.ref a :: rest)) rfl rfl hd t
end OwnAl
section OwnW
variable {p : Program} {l : Launch} {e : Env} {R : Room} {s : State} {vm0 : Vm} {m : MethodId} {args : Array Value} {below : List Frame} {meth : Method} {c : Code} {T : State} {locs : List Loc} {cells slots : Nat} {k n : Nat} {Q : Option Value → Heap → List Loc → Prop} {FF : State → Option Value → Prop} {pc q q' : Nat} {Ls l' : Array Slot} {st rest : List Value}
variable {Z : State} {a0 : Array Value} {EL : List (String × Nat)} {h h' : Heap} {a b : Addr} {v : Value} {ws : List Addr} {k0 : Nat}
/-- the wide end: String constants may have been loaded -/
def own_FW (Z : State) (EL : List (String × Nat)) (s : State) (k n : Nat) (Q : Option Value → Heap → List Loc → Prop) : State → Option Value → Prop := fun s₂ v => ∃ L, Q v s₂.heap L ∧ CHr Z EL s.vm s.heap s₂.vm s₂.heap ∧ ReturnedEndW s (.returned v) s₂ L k n
/-- .. and what is booked is not said -/
def own_FV (s : State) (k n : Nat) (Q : Option Value → Heap → List Loc → Prop) : State → Option Value → Prop := fun s₂ v => ∃ L, Q v s₂.heap L ∧ ReturnedEndW s (.returned v) s₂ L k n
theorem own_endW (X : Stand p l e R (s.setVm vm0) m args below meth c T locs cells slots) (hZ : Z.Warmed39 vm0) (hEL : EW Z a0 EL) (eT : T.heap = h) (HC : CHr Z EL s.vm s.heap vm0 h) : CHr Z EL s.vm s.heap T.vm T.heap := by
  have q := HC.trans (CHv.at X hZ hEL HC.1)
  rw [← eT] at q; exact q
theorem own_WretA (X : Stand p l e R (s.setVm vm0) m args below meth c T locs cells slots) (hx : p.tables.exec = Jvm.exec) (hZ : Z.Warmed39 vm0) (hEL : EW Z a0 EL) (hS : s.Since vm0 k0) (hk0 : k0 ≤ h.size) (HC : CHr Z EL s.vm s.heap vm0 h) (eT : T.heap = h) {t : FieldType} (hv : v.isRef = true) (hret : meth.sig.returnType = some t) (ht : t.isReference = true) (hlk : meth.locks = false) (hd : decode c.code pc = .ok (.areturn, 1)) (hk : cells ≤ k) (hn : slots ≤ n) (hq : Q (some v) T.heap locs) :
    own_G p e below (own_FW Z EL s k n Q) (T.setTop (mkF m pc Ls [v])) := by
  obtain ⟨fs, hr, hrun, hended, h1, h2, h3, h4⟩ := X.leaveW hS (by rw [eT]; exact hk0) (v := some v) (fun h => by rw [hret] at h; cases h) hlk
  exact ⟨_, _, X.areturnOut hx hv hret ht hd hr, hrun, hended, _, hq, (show CHr Z EL s.vm s.heap T.vm T.heap from own_endW X hZ hEL eT HC), h1, h2, h3, h4.mono hk hn⟩
theorem own_WretN (X : Stand p l e R (s.setVm vm0) m args below meth c T locs cells slots) (hx : p.tables.exec = Jvm.exec) (hZ : Z.Warmed39 vm0) (hEL : EW Z a0 EL) (hS : s.Since vm0 k0) (hk0 : k0 ≤ h.size) (HC : CHr Z EL s.vm s.heap vm0 h) (eT : T.heap = h) {z w : Int32} {t : FieldType} (hret : meth.sig.returnType = some t) (hlk : meth.locks = false) (ht : t = .boolean ∨ t = .byte ∨ t = .char ∨ t = .short) (hd : decode c.code pc = .ok (.ireturn, 1)) (hk : cells ≤ k) (hn : slots ≤ n) (hz : nar t z = w) (hq : Q (some (.int w)) T.heap locs) :
    own_G p e below (own_FW Z EL s k n Q) (T.setTop (mkF m pc Ls [.int z])) := by
  subst hz
  obtain ⟨fs, hr, hrun, hended, h1, h2, h3, h4⟩ := X.leaveW hS (by rw [eT]; exact hk0) (v := some (.int (nar t z))) (fun h => by rw [hret] at h; cases h) hlk
  exact ⟨_, _, retN X hx hret ht hd hr, hrun, hended, _, hq, (show CHr Z EL s.vm s.heap T.vm T.heap from own_endW X hZ hEL eT HC), h1, h2, h3, h4.mono hk hn⟩
theorem own_VretN (X : Stand p l e R (s.setVm vm0) m args below meth c T locs cells slots) (hx : p.tables.exec = Jvm.exec) (hS : s.Since vm0 k0) (hk0 : k0 ≤ h.size) (eT : T.heap = h) {z w : Int32} {t : FieldType} (hret : meth.sig.returnType = some t) (hlk : meth.locks = false) (ht : t = .boolean ∨ t = .byte ∨ t = .char ∨ t = .short) (hd : decode c.code pc = .ok (.ireturn, 1)) (hk : cells ≤ k) (hn : slots ≤ n) (hz : nar t z = w) (hq : Q (some (.int w)) T.heap locs) :
    own_G p e below (own_FV s k n Q) (T.setTop (mkF m pc Ls [.int z])) := by
  subst hz
  obtain ⟨fs, hr, hrun, hended, h1, h2, h3, h4⟩ := X.leaveW hS (by rw [eT]; exact hk0) (v := some (.int (nar t z))) (fun h => by rw [hret] at h; cases h) hlk
  exact ⟨_, _, retN X hx hret ht hd hr, hrun, hended, _, hq, h1, h2, h3, h4.mono hk hn⟩
theorem own_WretV (X : Stand p l e R (s.setVm vm0) m args below meth c T locs cells slots) (hx : p.tables.exec = Jvm.exec) (hZ : Z.Warmed39 vm0) (hEL : EW Z a0 EL) (hS : s.Since vm0 k0) (hk0 : k0 ≤ h.size) (HC : CHr Z EL s.vm s.heap vm0 h) (eT : T.heap = h) (hret : meth.sig.returnType = none) (hlk : meth.locks = false) (hd : decode c.code pc = .ok (.return_, 1)) (hk : cells ≤ k) (hn : slots ≤ n) (hq : Q none T.heap locs) :
    own_G p e below (own_FW Z EL s k n Q) (T.setTop (mkF m pc Ls [])) := by
  obtain ⟨fs, hr, hrun, hended, h1, h2, h3, h4⟩ := X.leaveW hS (by rw [eT]; exact hk0) (v := none) (fun _ => rfl) hlk
  exact ⟨_, _, X.returnOut hx hret hd hr, hrun, hended, _, hq, (show CHr Z EL s.vm s.heap T.vm T.heap from own_endW X hZ hEL eT HC), h1, h2, h3, h4.mono hk hn⟩
theorem own_Wbody {y : MethodName} {bytes : ByteArray} {maxL : Nat} {ret : Option FieldType} {ws : List Jvm.Cond} {rm : Room} {as' : Array Value} {h0 : Heap} {sf : List Addr} (hpn : plainFor y = true)
    (body : ∀ (p : Program) (e : Env) (s : State) (m : MethodId) (below : List Frame) (meth : Method) (c : Code) (s₁ : State), p.tables.exec = Jvm.exec → c.code = bytes → c.maxLocals = maxL → s.vm.findClass y.cls = some m.cls → meth.name = y.name → meth.sig.returnType = ret → meth.locks = false → Z.Warmed39 s.vm →
      Stand p l e rm (s.setVm s.vm) m as' below meth c s₁ [] 0 0 → s₁.heap = h0 → s.Since s.vm h0.size → h0.size ≤ h0.size → CHr Z EL s.vm s.heap s.vm h0 → (∀ x ∈ sf, Safe Z EL s.vm h0 x) → own_G p e below (own_FW Z EL s rm.cells rm.slots Q) (s₁.setTop (entryFrame m as' maxL))) :
    MetFree l y (head1 (Jvm.Cond.code y bytes maxL ret :: ws) rm) (fun a U => a = as' ∧ Z.Warmed39 U.vm ∧ U.heap = h0 ∧ CHv Z EL U.vm h0 ∧ ∀ x ∈ sf, Safe Z EL U.vm h0 x) (fun _ _ _ _ _ => True) (fun _ U o U' => ∃ v L, o = .returned v ∧ Q v U'.heap L ∧ CHr Z EL U.vm U.heap U'.vm U'.heap ∧ ReturnedEndW U o U' L rm.cells rm.slots) := by
  refine MetFree.of_bodySF hpn hisR ?_
  intro p e s m args below meth c s₁ Bd hml0 hP hK
  obtain ⟨rfl, hZ, hh, hC, hsf⟩ := hP
  have X0 : Stand p l e rm s m args below meth c s₁ [] 0 0 := Stand.of_body Bd
  obtain ⟨s₂, v, h1, h2, h3, L, hq, hf⟩ := body p e s m below meth c s₁ Bd.exec Bd.bytes hml0 (findClass_of_methodNamed Bd.named) (name_of_methodNamed Bd.named Bd.method).1 Bd.returns Bd.notSynchronized hZ X0 (by rw [← hh, Bd.state]; rfl) ((State.WarmedH.refl s).since _) (Nat.le_refl _) (by rw [hh]; exact CHr.refl hC) hsf
  exact ⟨s₂, _, h1, h2, h3, v, L, rfl, hq, hf⟩
theorem own_Vbody {y : MethodName} {bytes : ByteArray} {maxL : Nat} {ret : Option FieldType} {ws : List Jvm.Cond} {rm : Room} {as' : Array Value} {h0 : Heap} {sf : List Addr} (hpn : plainFor y = true)
    (body : ∀ (p : Program) (e : Env) (s : State) (m : MethodId) (below : List Frame) (meth : Method) (c : Code) (s₁ : State), p.tables.exec = Jvm.exec → c.code = bytes → c.maxLocals = maxL → s.vm.findClass y.cls = some m.cls → meth.name = y.name → meth.sig.returnType = ret → meth.locks = false → Z.Warmed39 s.vm →
      Stand p l e rm (s.setVm s.vm) m as' below meth c s₁ [] 0 0 → s₁.heap = h0 → s.Since s.vm h0.size → h0.size ≤ h0.size → CHr Z EL s.vm s.heap s.vm h0 → (∀ x ∈ sf, Safe Z EL s.vm h0 x) → own_G p e below (own_FV s rm.cells rm.slots Q) (s₁.setTop (entryFrame m as' maxL))) :
    MetFree l y (head1 (Jvm.Cond.code y bytes maxL ret :: ws) rm) (fun a U => a = as' ∧ Z.Warmed39 U.vm ∧ U.heap = h0 ∧ CHv Z EL U.vm h0 ∧ ∀ x ∈ sf, Safe Z EL U.vm h0 x) (fun _ _ _ _ _ => True) (fun _ U o U' => ∃ v L, o = .returned v ∧ Q v U'.heap L ∧ ReturnedEndW U o U' L rm.cells rm.slots) := by
  refine MetFree.of_bodySF hpn hisR ?_
  intro p e s m args below meth c s₁ Bd hml0 hP hK
  obtain ⟨rfl, hZ, hh, hC, hsf⟩ := hP
  have X0 : Stand p l e rm s m args below meth c s₁ [] 0 0 := Stand.of_body Bd
  obtain ⟨s₂, v, h1, h2, h3, L, hq, hf⟩ := body p e s m below meth c s₁ Bd.exec Bd.bytes hml0 (findClass_of_methodNamed Bd.named) (name_of_methodNamed Bd.named Bd.method).1 Bd.returns Bd.notSynchronized hZ X0 (by rw [← hh, Bd.state]; rfl) ((State.WarmedH.refl s).since _) (Nat.le_refl _) (by rw [hh]; exact CHr.refl hC) hsf
  exact ⟨s₂, _, h1, h2, h3, v, L, rfl, hq, hf⟩
/-- the i-th byte of a text -/
def own_tx (text : String) (i : Nat) : Int32 := Jvm.Lit.byteI (text.toList.getD i 'A').toNat.toUInt16
theorem own_arv {text : String} {kk : ClassId} {z : Int32} {N : Nat} (A : Arv Z h b kk .byte z (text.toList.map fun c => Value.int (Jvm.Lit.byteI c.toNat.toUInt16)) (.int 0)) (hz : z.toNatClampNeg = N) (hN : text.toList.length = N) (hb : N < 2 ^ 31) : own_Arr Z h b .byte N (fun i => .int (own_tx text i)) := by
  obtain ⟨cl, A1, -, A2, -, A3, -⟩ := A
  refine ⟨cl, A1, A2.trans hz, hb, fun i hi => ?_⟩
  rw [A3 i (by rw [A2, hz]; exact hi)]
  have hi' : i < text.toList.length := by rw [hN]; exact hi
  simp [own_tx, List.getD_eq_getElem?_getD, List.getElem?_map, List.getElem?_eq_getElem hi']
/-- ldc of a String constant of EL, its text read -/
theorem own_Wldc (X : Stand p l e R (s.setVm vm0) m args below meth c T locs cells slots) (hx : p.tables.exec = Jvm.exec) (hZ : Z.Warmed39 vm0) {own text : String} {index : Nat} (hown : vm0.findClass own = some m.cls) (w : (Jvm.Cond.stringLink own index text).before a0 Z = true) (wS : ∀ a ∈ Bundle.stringAtoms, a.before a0 Z = true)
    (eT : T.heap = h) (hS : s.Since vm0 k0) (hk : k0 ≤ h.size) (hEL : EW Z a0 EL) (hmem : (own, index) ∈ EL) (HC : CHr Z EL s.vm s.heap vm0 h) (ht : ∀ c ∈ text.toList, c.toNat < 256) {N : Nat} {z : Int32} (hN : text.toList.length = N) (hz0 : ¬ z < 0) (hz : z.toNatClampNeg = N) (hb : N < 2 ^ 31)
    (hd : decode c.code pc = .ok (.ldc index, 2)) {n' : Nat} (hn : 4 * N ≤ n') (hbig : n' ≤ 536870912) (hc : cells + 2 ≤ R.cells) (hl : slots + (n' + 4) ≤ R.slots) (hq : pc + 2 = q)
    (g : ∀ (T' : State) (h' : Heap) (k1 : Nat) (a b : Addr), Stand p l e R (s.setVm T'.vm) m args below meth c T' locs (cells + 2) (slots + (n' + 4)) → T'.heap = h' → Ext h h' → s.Since T'.vm k1 → k1 ≤ h'.size → Z.Warmed39 T'.vm → T'.vm.findClass own = some m.cls →
      Exa Z h' a "java/lang/String" → Fld Z h' a "java/lang/String" "coder" "B" (.int 0) → Fld Z h' a "java/lang/String" "value" "[B" (.ref b) → own_Arr Z h' b .byte N (fun i => .int (own_tx text i)) → CHr Z EL s.vm s.heap T'.vm h' → Lit (s.setVm T'.vm) own index a → (∀ x, x < h.size → Safe Z EL vm0 h x → Safe Z EL T'.vm h' x ∧ x ≠ a ∧ x ≠ b) → own_G p e below FF (T'.setTop (mkF m q Ls (.ref a :: st)))) :
    own_G p e below FF (T.setTop (mkF m pc Ls st)) := by
  subst hq
  obtain ⟨a, T', h', k1, b, kk, X', e', E, hS', hk', hZ', hf', Q1, Q2, Q3, Q4, -, -, HC', hL, hsf, stp⟩ := ldcCH X hx hZ hown w wS eT hS hk hEL hmem HC.1 (z := z) ⟨ht, rfl⟩ hz0 (by rw [hz, List.length_map, hN]) (g := mkF m pc Ls st) rfl hd (n := n') (by rw [hN]; exact hn) hbig hc hl
  exact (g T' h' k1 a b X' e' E hS' hk' hZ' hf' Q1 Q2 Q3 (own_arv Q4 hz hN hb) (HC.trans HC') hL (fun x hxx S => have S' := HC'.safe hxx S; ⟨S', hsf x S'⟩)).via stp
/-- a second load -/
theorem own_Wagain (X : Stand p l e R (s.setVm vm0) m args below meth c T locs cells slots) (hx : p.tables.exec = Jvm.exec) (hZ : Z.Warmed39 vm0) {own text : String} {index : Nat} (hown : vm0.findClass own = some m.cls) (w : (Jvm.Cond.stringLink own index text).before a0 Z = true) (L : Lit (s.setVm vm0) own index a) (hd : decode c.code pc = .ok (.ldc index, 2)) (hq : pc + 2 = q)
    (g : own_G p e below FF (T.setTop (mkF m q Ls (.ref a :: st)))) : own_G p e below FF (T.setTop (mkF m pc Ls st)) := by
  subst hq
  exact g.via (ldcAgain X hx hZ hown w L (g := mkF m pc Ls st) rfl hd)
/-- RW14's 'backOfSH', with places of the caller's that hold no constant -/
theorem own_backW {y : MethodName} {bytes : ByteArray} {maxL : Nat} {ret : Option FieldType} {rm : Room} {len W : Nat} {as' : Array Value} {Q : Option Value → Heap → List Loc → Prop} {sf : List Addr}
    (hM : MetFree l y (head1 [Jvm.Cond.code y bytes maxL ret] rm) (fun a U => a = as' ∧ Z.Warmed39 U.vm ∧ U.heap = h ∧ CHv Z EL U.vm h ∧ ∀ x ∈ sf, Safe Z EL U.vm h x) (fun _ _ _ _ _ => True) (fun _ U o U' => ∃ v L, o = .returned v ∧ Q v U'.heap L ∧ CHr Z EL U.vm U.heap U'.vm U'.heap ∧ ReturnedEndW U o U' L rm.cells rm.slots))
    (hZ : Z.Warmed39 vm0) (wc : (Jvm.Cond.code y bytes maxL ret).before a0 Z = true) (wz : (Jvm.Cond.initialized y.cls).before a0 Z = true) (hf : rm.frames + 1 ≤ R.frames) (hl : W + (maxL + 11) + rm.locals ≤ R.locals) (hEL : EW Z a0 EL) (H : CHv Z EL vm0 h) (hsf : ∀ x ∈ sf, x < h.size ∧ Safe Z EL vm0 h x) :
    BackS l R p e below (s.setVm vm0) args y len W (fun A a => a = as' ∧ A.U.heap = h ∧ A.cells + rm.cells ≤ R.cells ∧ A.slots + rm.slots ≤ R.slots)
      (fun A _ v B => ∃ L, Q v B.U.heap L ∧ B.locs = A.locs ++ L ∧ B.cells = A.cells + rm.cells ∧ B.slots = A.slots + rm.slots ∧ CHr Z EL vm0 h B.U.vm B.U.heap) :=
  BackS.of_freeW (bytes := bytes) (maxL := maxL) (ret := ret) (E := fun _ first o t L k n => k = rm.cells ∧ n = rm.slots ∧ (∃ v, o = .returned v ∧ Q v t.heap L) ∧ CHr Z EL first.vm first.heap t.vm t.heap) hM hf hl
    (fun m meth c A a Y hp => have hU : Z.Warmed39 A.U.vm := wtrans (s := s.setVm vm0) hZ Y.warmed
      ⟨by show (Jvm.Cond.and _ .tt).before a A.U = true; rw [Cond.before_and, mv hU wc]; rfl, mv hU wc, mv hU wz, hp.2.2.1, hp.2.2.2⟩)
    (fun m meth c A a g mk Y hp => have HH := CHv.at Y hZ hEL H; ⟨hp.1, wtrans (s := s.setVm vm0) hZ Y.warmed, hp.2.1, HH.1, fun x hx => HH.safe (hsf x hx).1 (hsf x hx).2⟩) (fun _ _ _ _ _ _ _ _ _ => trivial)
    (fun _ _ _ _ ⟨v, L, h1, h2, h3, h4⟩ => ⟨L, _, _, h4, rfl, rfl, ⟨v, h1, h2⟩, h3⟩)
    (fun m meth c A a g mk v t L k n Y hp _ _ ⟨e1, e2, ⟨v', e3, e4⟩, e5⟩ => by
      cases e3; subst e1 e2
      refine ⟨L, e4, rfl, rfl, rfl, (CHv.at Y hZ hEL H).trans ?_⟩
      rw [← hp.2.1]; exact e5)
/-- a static call of a callee that may load constants -/
theorem own_WcallS (X : Stand p l e R (s.setVm vm0) m args below meth c T locs cells slots) (hx : p.tables.exec = Jvm.exec) (hZ : Z.Warmed39 vm0) {own : String} {index : Nat} {y : MethodName} {bytes : ByteArray} {maxL : Nat} {ret : Option FieldType}
    (hown : vm0.findClass own = some m.cls) (w1 : (Jvm.Cond.methodLink own index y).before a0 Z = true) (w2 : (Jvm.Cond.static y).before a0 Z = true) (w3 : (Jvm.Cond.initialized y.cls).before a0 Z = true) (w4 : (Jvm.Cond.code y bytes maxL ret).before a0 Z = true)
    (hy : y.cls ≠ "java/lang/invoke/MethodHandle" ∧ y.cls ≠ "java/lang/invoke/VarHandle") {rm : Room} {as' : Array Value} {Q' : Option Value → Heap → List Loc → Prop} {sf : List Addr} {W : Nat}
    (hM : MetFree l y (head1 [Jvm.Cond.code y bytes maxL ret] rm) (fun a U => a = as' ∧ Z.Warmed39 U.vm ∧ U.heap = h ∧ CHv Z EL U.vm h ∧ ∀ x ∈ sf, Safe Z EL U.vm h x) (fun _ _ _ _ _ => True) (fun _ U o U' => ∃ v L, o = .returned v ∧ Q' v U'.heap L ∧ CHr Z EL U.vm U.heap U'.vm U'.heap ∧ ReturnedEndW U o U' L rm.cells rm.slots))
    (hf : rm.frames + 1 ≤ R.frames) (hl : W + (maxL + 11) + rm.locals ≤ R.locals) (hS : s.Since vm0 k0) (hk : k0 ≤ h.size) (hEL : EW Z a0 EL) (HC : CHr Z EL s.vm s.heap vm0 h) (hsf : ∀ x ∈ sf, x < h.size ∧ Safe Z EL vm0 h x) (eT : T.heap = h) (hsize : Ls.size = c.maxLocals) {argsL : List Value}
    (hlen : ∀ sig, parseMethodDescriptor y.desc = some sig → argsL.length = sig.parameters.length) (hst : st = argsL.reverse ++ rest) (hW : (rest.map fun v => v.category).sum = W) (hd : decode c.code pc = .ok (.invokestatic index, 3)) (hq : pc + 3 = q) (has : argsL.toArray = as') (hc : cells + rm.cells ≤ R.cells) (hs : slots + rm.slots ≤ R.slots)
    (g : ∀ (v : Option Value) (T' : State) (L : List Loc) (h' : Heap) (k1 : Nat), Q' v h' L → Stand p l e R (s.setVm T'.vm) m args below meth c T' (locs ++ L) (cells + rm.cells) (slots + rm.slots) → T'.heap = h' → s.Since T'.vm k1 → k1 ≤ h'.size → Z.Warmed39 T'.vm → T'.vm.findClass own = some m.cls → CHr Z EL s.vm s.heap T'.vm h' → (∀ x, x < h.size → Safe Z EL vm0 h x → Safe Z EL T'.vm h' x) → own_G p e below FF (T'.setTop (mkF m q Ls (v.toList ++ rest)))) :
    own_G p e below FF (T.setTop (mkF m pc Ls st)) := by
  subst hq hst
  have hZ0 : Z.Warmed39 (s.setVm vm0).vm := hZ
  obtain ⟨v, _, ⟨T7, L7, k7, n7⟩, -, X7, hS7, hg7, ⟨Lc7, hQ7, l7, y7, z7, C7⟩, st7⟩ := callSS X hx (own := own) hown (mvT hZ0 w1) (mvT hZ0 w2) (mvT hZ0 w3) (mvT hZ0 w4) hy (own_backW (s := s) (W := W) hM hZ w4 w3 hf hl hEL HC.1 hsf) (g := mkF m pc Ls (argsL.reverse ++ rest)) rfl hsize hlen rfl (by show 2 * 0 + _ ≤ _; rw [hW]; omega) hd (fun _ _ => ⟨has, eT, hc, hs⟩)
  dsimp only [Pt.U, Pt.locs, Pt.cells, Pt.slots] at X7 l7 y7 z7 st7 hQ7 hS7 hg7 C7
  subst l7 y7 z7
  rw [eT] at hg7
  exact (g v T7 Lc7 T7.heap T7.heap.size hQ7 X7 rfl (hS.trans hS7 (Nat.le_trans hk hg7)) (Nat.le_refl _) (State.Warmed39.trans (t := s.setVm vm0) hZ hS7.1) (by rw [hS7.1.alike.findClass]; exact hown) (HC.trans C7) (fun x hxx S => C7.safe hxx S)).via fun t hh => st7.trans hh
/-- a constructor that may load constants -/
theorem own_WcallN (X : Stand p l e R (s.setVm vm0) m args below meth c T locs cells slots) (hx : p.tables.exec = Jvm.exec) (hZ : Z.Warmed39 vm0) {own : String} {index : Nat} {y : MethodName} {bytes : ByteArray} {maxL : Nat}
    (hyn : y.name = "<init>") (hown : vm0.findClass own = some m.cls) (w1 : (Jvm.Cond.methodLink own index y).before a0 Z = true) (w2 : (Jvm.Cond.instanceMethod y).before a0 Z = true) (w3 : (Jvm.Cond.initialized y.cls).before a0 Z = true) (w4 : (Jvm.Cond.code y bytes maxL none).before a0 Z = true)
    (hy : y.cls ≠ "java/lang/invoke/MethodHandle" ∧ y.cls ≠ "java/lang/invoke/VarHandle") {rm : Room} {as' : Array Value} {Q' : Option Value → Heap → List Loc → Prop} {sf : List Addr} {W : Nat}
    (hM : MetFree l y (head1 [Jvm.Cond.code y bytes maxL none] rm) (fun a U => a = as' ∧ Z.Warmed39 U.vm ∧ U.heap = h ∧ CHv Z EL U.vm h ∧ ∀ x ∈ sf, Safe Z EL U.vm h x) (fun _ _ _ _ _ => True) (fun _ U o U' => ∃ v L, o = .returned v ∧ Q' v U'.heap L ∧ CHr Z EL U.vm U.heap U'.vm U'.heap ∧ ReturnedEndW U o U' L rm.cells rm.slots))
    (hf : rm.frames + 1 ≤ R.frames) (hl : W + (maxL + 11) + rm.locals ≤ R.locals) (hS : s.Since vm0 k0) (hk : k0 ≤ h.size) (hEL : EW Z a0 EL) (HC : CHr Z EL s.vm s.heap vm0 h) (hsf : ∀ x ∈ sf, x < h.size ∧ Safe Z EL vm0 h x) (eT : T.heap = h) (hsize : Ls.size = c.maxLocals) {argsL : List Value}
    (hlen : ∀ sig, parseMethodDescriptor y.desc = some sig → argsL.length = sig.parameters.length) (hst : st = argsL.reverse ++ .ref b :: rest) (hW : (rest.map fun v => v.category).sum = W) (hd : decode c.code pc = .ok (.invokespecial index, 3)) (hq : pc + 3 = q) (has : (.ref b :: argsL).toArray = as') (hc : cells + rm.cells ≤ R.cells) (hs : slots + rm.slots ≤ R.slots)
    (g : ∀ (v : Option Value) (T' : State) (L : List Loc) (h' : Heap) (k1 : Nat), Q' v h' L → Stand p l e R (s.setVm T'.vm) m args below meth c T' (locs ++ L) (cells + rm.cells) (slots + rm.slots) → T'.heap = h' → s.Since T'.vm k1 → k1 ≤ h'.size → Z.Warmed39 T'.vm → T'.vm.findClass own = some m.cls → CHr Z EL s.vm s.heap T'.vm h' → (∀ x, x < h.size → Safe Z EL vm0 h x → Safe Z EL T'.vm h' x) → own_G p e below FF (T'.setTop (mkF m q Ls (v.toList ++ rest)))) :
    own_G p e below FF (T.setTop (mkF m pc Ls st)) := by
  subst hq hst
  have hZ0 : Z.Warmed39 (s.setVm vm0).vm := hZ
  obtain ⟨v, _, ⟨T7, L7, k7, n7⟩, -, X7, hS7, hg7, ⟨Lc7, hQ7, l7, y7, z7, C7⟩, st7⟩ := X.specialBackS hx hyn (own := own) hown (mvT hZ0 w1) (mvT hZ0 w2) (mvT hZ0 w4) hy (own_backW (s := s) (W := W) hM hZ w4 w3 hf hl hEL HC.1 hsf) (g := mkF m pc Ls (argsL.reverse ++ .ref b :: rest)) rfl hsize (Steps.refl _) (a := b) (argsL := argsL) (rest := rest) hlen rfl (by show 2 * 0 + _ ≤ _; rw [hW]; omega) hd (fun _ _ => ⟨has, eT, hc, hs⟩)
  dsimp only [Pt.U, Pt.locs, Pt.cells, Pt.slots] at X7 l7 y7 z7 st7 hQ7 hS7 hg7 C7
  subst l7 y7 z7
  rw [eT] at hg7
  exact (g v T7 Lc7 T7.heap T7.heap.size hQ7 X7 rfl (hS.trans hS7 (Nat.le_trans hk hg7)) (Nat.le_refl _) (State.Warmed39.trans (t := s.setVm vm0) hZ hS7.1) (by rw [hS7.1.alike.findClass]; exact hown) (HC.trans C7) (fun x hxx S => C7.safe hxx S)).via fun t hh => st7.trans hh
theorem own_sta_keep {C nm d : String} {w : Value} (F : Sta Z h C nm d w) (K : Keep h h' ws) (hns : ∀ x ∈ ws, ∀ cell : Cell, h[x]? = some cell → cell.vm.isStatics = false) : Sta Z h' C nm d w := by
  obtain ⟨cf, i, kk, f, sa, cell, h1, h2, h3, h4, h5, h6, r⟩ := F
  exact ⟨cf, i, kk, f, sa, cell, h1, h2, h3, h4, K.2.1 _ _ h5 (fun hm => by have := hns _ hm _ h5; rw [h6] at this; cases this), h6, r⟩
theorem own_arr_ns {ty : FieldType} {N : Nat} {f : Nat → Value} (A : own_Arr Z h a ty N f) : ∀ cell : Cell, h[a]? = some cell → cell.vm.isStatics = false := fun cell q => by
  obtain ⟨cl, A1, -⟩ := A
  cases A1.1.symm.trans q
  exact A1.plain
/-- a place's own array or object differs from a constant's -/
theorem own_kp_any {ws' : List Addr} (K : Keep h h' ws) (q : ∀ x ∈ ws, x ∈ ws') : Keep h h' ws' := ⟨K.1, fun x cl h1 h2 => K.2.1 x cl h1 (fun hm => h2 (q x hm)), K.2.2⟩
theorem own_stC {x j : Int32} {N i n0 : Nat} (X : Stand p l e R s m args below meth c T locs cells slots) (hx : p.tables.exec = Jvm.exec) (hZ : Z.Warmed39 s.vm) (eT : T.heap = h) {fi : Nat → Int32} (A : own_Arr Z h a .char N (fun i => .int (fi i))) (hd : decode c.code pc = .ok (.castore, 1)) (hj : j.toInt = (i : Int)) (hi : i < N) (Nf : Fr n0 locs) (ha : n0 ≤ a) (hq : pc + 1 = q)
    (g : ∀ T' h' L', Stand p l e R s m args below meth c T' L' cells slots → Fr n0 L' → T'.heap = h' → own_Arr Z h' a .char N (fun t => .int (own_updI fi i (nar .char x) t)) → Wr h h' a i (.int (nar .char x)) → own_G p e below FF (T'.setTop (mkF m q Ls rest))) :
    own_G p e below FF (T.setTop (mkF m pc Ls (.int x :: .int j :: .ref a :: rest))) := by
  subst hq
  have A0 := A
  obtain ⟨cl, Ar, S, hN, H⟩ := A
  obtain ⟨h1, h2⟩ := own_idx (N := cl.slots.size) hj (by omega)
  obtain ⟨T', h', X', e', W, st⟩ := stC X hx hZ eT Ar (j := j) (x := x) h1 (g := mkF m pc Ls (.int x :: .int j :: .ref a :: rest)) rfl rfl hd
  have N' := Fr.snoc X' Nf ha
  rw [h2] at W
  have A1 := A0.set W
  rw [own_upd_I] at A1
  exact (g T' h' _ X' N' e' A1 W).via st
theorem own_caload {f : Nat → Value} {j : Int32} {N i : Nat} (X : Stand p l e R s m args below meth c T locs cells slots) (hx : p.tables.exec = Jvm.exec) (hZ : Z.Warmed39 s.vm) (eT : T.heap = h) (A : own_Arr Z h a .char N f) (hd : decode c.code pc = .ok (.caload, 1)) (hj : j.toInt = (i : Int)) (hi : i < N) (hv : f i = v) (hq : pc + 1 = q)
    (g : own_G p e below FF (T.setTop (mkF m q Ls (v :: rest)))) :
    own_G p e below FF (T.setTop (mkF m pc Ls (.int j :: .ref a :: rest))) := by
  subst hq
  obtain ⟨cl, Ar, S, hN, H⟩ := A
  obtain ⟨h1, h2⟩ := own_idx (N := cl.slots.size) hj (by omega)
  exact g.via fun t => X.caload hx (j := j) (v := v) (by rw [eT]; exact Ar.1) (State.isArrayOf_alike hZ.alike Ar.2.1) Ar.2.2 h1 (by rw [h2, ← hv]; exact H i hi) (g := mkF m pc Ls (.int j :: .ref a :: rest)) rfl rfl hd t
theorem own_ifnullN (X : Stand p l e R s m args below meth c T locs cells slots) (hx : p.tables.exec = Jvm.exec) {o : Int} (hd : decode c.code pc = .ok (.ifnull o, 3)) (hq : pc + 3 = q) (g : own_G p e below FF (T.setTop (mkF m q Ls rest))) : own_G p e below FF (T.setTop (mkF m pc Ls (.ref a :: rest))) := by
  subst hq; exact g.via fun _ hr => XS.ifnullNo (g := mkF m pc Ls (.ref a :: rest)) X.here hx rfl hd rfl hr
theorem own_ifnullY (X : Stand p l e R s m args below meth c T locs cells slots) (hx : p.tables.exec = Jvm.exec) {o : Int} (hd : decode c.code pc = .ok (.ifnull o, 3)) (ho : 0 ≤ (pc : Int) + o) (hp : ((pc : Int) + o).toNat = q) (g : own_G p e below FF (T.setTop (mkF m q Ls rest))) : own_G p e below FF (T.setTop (mkF m pc Ls (.null :: rest))) :=
  g.via fun _ hr => XS.ifnullYes (g := mkF m pc Ls (.null :: rest)) X.here hx rfl (pc0 := pc) rfl hd rfl ho hp hr
theorem own_ifnonnullY (X : Stand p l e R s m args below meth c T locs cells slots) (hx : p.tables.exec = Jvm.exec) {o : Int} (hd : decode c.code pc = .ok (.ifnonnull o, 3)) (ho : 0 ≤ (pc : Int) + o) (hp : ((pc : Int) + o).toNat = q) (g : own_G p e below FF (T.setTop (mkF m q Ls rest))) : own_G p e below FF (T.setTop (mkF m pc Ls (.ref a :: rest))) :=
  g.via fun _ hr => XT.ifnonnullYes (g := mkF m pc Ls (.ref a :: rest)) X.here hx rfl (pc0 := pc) rfl hd rfl ho hp hr
theorem own_ifnonnullN (X : Stand p l e R s m args below meth c T locs cells slots) (hx : p.tables.exec = Jvm.exec) {o : Int} (hd : decode c.code pc = .ok (.ifnonnull o, 3)) (hq : pc + 3 = q) (g : own_G p e below FF (T.setTop (mkF m q Ls rest))) : own_G p e below FF (T.setTop (mkF m pc Ls (.null :: rest))) := by
  subst hq; exact g.via fun _ hr => XT.ifnonnullNo (g := mkF m pc Ls (.null :: rest)) X.here hx rfl hd rfl hr
theorem own_rngC {f : Nat → Int32} (hf : ∀ j, 0 ≤ (f j).toInt ∧ (f j).toInt ≤ 255) (i : Nat) (x : Int32) : ∀ j, 0 ≤ (own_updI f i (nar .char ((x &&& (255 : Int32)).toUInt32.toUInt16.toUInt32.toInt32)) j).toInt ∧ (own_updI f i (nar .char ((x &&& (255 : Int32)).toUInt32.toUInt16.toUInt32.toInt32)) j).toInt ≤ 255 := by
  intro j
  by_cases q : j = i
  · subst q; rw [own_updI_same, i2c_mask]
    show 0 ≤ ((x &&& (255 : Int32)).toUInt32.toUInt16.toUInt32.toInt32).toInt ∧ ((x &&& (255 : Int32)).toUInt32.toUInt16.toUInt32.toInt32).toInt ≤ 255
    rw [i2c_mask]
    have e : (x &&& (255 : Int32)).toInt = x.toInt % 256 := c_mask x 255 8 (by decide) (by decide)
    omega
  · rw [own_updI_ne _ _ q]; exact hf j
theorem own_rngC0 : ∀ j, 0 ≤ (own_zero j).toInt ∧ (own_zero j).toInt ≤ 255 := fun _ => ⟨show (0 : Int) ≤ (0 : Int32).toInt by decide, show (0 : Int32).toInt ≤ (255 : Int) by decide⟩
end OwnW
theorem own_pd0 : parseMethodDescriptor "([CI[BII)I" = some ⟨[(.array .char), .int, (.array .byte), .int, .int], (some .int)⟩ := by decide +kernel
theorem own_pd1 : parseMethodDescriptor "([CII)[B" = some ⟨[(.array .char), .int, .int], (some (.array .byte))⟩ := by decide +kernel
theorem own_pd2 : parseMethodDescriptor "([BI)B" = some ⟨[(.array .byte), .int], (some .byte)⟩ := by decide +kernel
theorem own_pd3 : parseMethodDescriptor "([CIILjava/lang/Void;)V" = some ⟨[(.array .char), .int, .int, (.object "java/lang/Void")], none⟩ := by decide +kernel
theorem own_pd4 : parseMethodDescriptor "(C)Z" = some ⟨[.char], (some .boolean)⟩ := by decide +kernel
theorem own_pd5 : parseMethodDescriptor "(C)[B" = some ⟨[.char], (some (.array .byte))⟩ := by decide +kernel
theorem own_pd6 : parseMethodDescriptor "([BB)V" = some ⟨[(.array .byte), .byte], none⟩ := by decide +kernel
theorem own_pd7 : parseMethodDescriptor "([C)V" = some ⟨[(.array .char)], none⟩ := by decide +kernel
theorem own_pd8 : parseMethodDescriptor "(C)Ljava/lang/String;" = some ⟨[.char], (some (.object "java/lang/String"))⟩ := by decide +kernel
theorem own_pd9 : parseMethodDescriptor "(IIII)Ljava/lang/String;" = some ⟨[.int, .int, .int, .int], (some (.object "java/lang/String"))⟩ := by decide +kernel
theorem own_pd10 : parseMethodDescriptor "(Ljava/lang/String;)Lcom/example/treaty2/treaty2/service/Receipt;" = some ⟨[(.object "java/lang/String")], (some (.object "com/example/treaty2/treaty2/service/Receipt"))⟩ := by decide +kernel
theorem own_pd11 : parseMethodDescriptor "()Ljava/lang/String;" = some ⟨[], (some (.object "java/lang/String"))⟩ := by decide +kernel
theorem own_pd12 : parseMethodDescriptor "()Z" = some ⟨[], (some .boolean)⟩ := by decide +kernel
theorem own_pd13 : parseMethodDescriptor "()V" = some ⟨[], none⟩ := by decide +kernel
theorem own_pd14 : parseMethodDescriptor "(Ljava/lang/String;ZLjava/lang/String;Ljava/lang/String;)V" = some ⟨[(.object "java/lang/String"), .boolean, (.object "java/lang/String"), (.object "java/lang/String")], none⟩ := by decide +kernel
theorem own_EW {Z : State} {a0 : Array Value} (hw : ∀ d ∈ tables_1, d.before a0 Z = true) : EW Z a0 consts_1 := (EW.cons (hw _ (List.mem_of_getElem? (i := 32) rfl)) (by decide) (EW.cons (hw _ (List.mem_of_getElem? (i := 18) rfl)) (by decide) EW.nil))
theorem own_wS {Z : State} {a0 : Array Value} (hw : ∀ d ∈ tables_1, d.before a0 Z = true) : ∀ a ∈ Bundle.stringAtoms, a.before a0 Z = true := by
  intro d hd
  simp only [Bundle.stringAtoms, List.mem_cons, List.not_mem_nil, or_false] at hd
  rcases hd with rfl | rfl | rfl | rfl | rfl | rfl | rfl
  · exact (hw _ (List.mem_of_getElem? (i := 6) rfl))
  · exact (hw _ (List.mem_of_getElem? (i := 5) rfl))
  · exact (hw _ (List.mem_of_getElem? (i := 19) rfl))
  · exact (hw _ (List.mem_of_getElem? (i := 20) rfl))
  · exact (hw _ (List.mem_of_getElem? (i := 21) rfl))
  · exact (hw _ (List.mem_of_getElem? (i := 22) rfl))
  · exact (hw _ (List.mem_of_getElem? (i := 23) rfl))
theorem own_chr (x : Int32) : ((x &&& (255 : Int32)).toUInt32.toUInt16.toUInt32.toInt32).toInt ≤ 255 := by
  rw [i2c_mask]
  have e : (x &&& (255 : Int32)).toInt = x.toInt % 256 := c_mask x 255 8 (by decide) (by decide)
  omega
theorem dK2_0 : decode jdk_52_method_21_code 0 = .ok (.iconst 0, 1) := by decide +kernel
theorem dK2_1 : decode jdk_52_method_21_code 1 = .ok (.istore 5, 2) := by decide +kernel
theorem dK2_3 : decode jdk_52_method_21_code 3 = .ok (.iload 5, 2) := by decide +kernel
theorem dK2_5 : decode jdk_52_method_21_code 5 = .ok (.iload 4, 2) := by decide +kernel
theorem dK2_7 : decode jdk_52_method_21_code 7 = .ok (.if_icmp .ge 37, 3) := by decide +kernel
theorem dK2_10 : decode jdk_52_method_21_code 10 = .ok (.aload_n 0, 1) := by decide +kernel
theorem dK2_11 : decode jdk_52_method_21_code 11 = .ok (.iload_n 1, 1) := by decide +kernel
theorem dK2_12 : decode jdk_52_method_21_code 12 = .ok (.caload, 1) := by decide +kernel
theorem dK2_13 : decode jdk_52_method_21_code 13 = .ok (.istore 6, 2) := by decide +kernel
theorem dK2_15 : decode jdk_52_method_21_code 15 = .ok (.iload 6, 2) := by decide +kernel
theorem dK2_17 : decode jdk_52_method_21_code 17 = .ok (.sipush 255, 3) := by decide +kernel
theorem dK2_20 : decode jdk_52_method_21_code 20 = .ok (.if_icmp .le 6, 3) := by decide +kernel
theorem dK2_26 : decode jdk_52_method_21_code 26 = .ok (.aload_n 2, 1) := by decide +kernel
theorem dK2_27 : decode jdk_52_method_21_code 27 = .ok (.iload_n 3, 1) := by decide +kernel
theorem dK2_28 : decode jdk_52_method_21_code 28 = .ok (.iload 6, 2) := by decide +kernel
theorem dK2_30 : decode jdk_52_method_21_code 30 = .ok (.i2b, 1) := by decide +kernel
theorem dK2_31 : decode jdk_52_method_21_code 31 = .ok (.bastore, 1) := by decide +kernel
theorem dK2_32 : decode jdk_52_method_21_code 32 = .ok (.iinc 1 1, 3) := by decide +kernel
theorem dK2_35 : decode jdk_52_method_21_code 35 = .ok (.iinc 3 1, 3) := by decide +kernel
theorem dK2_38 : decode jdk_52_method_21_code 38 = .ok (.iinc 5 1, 3) := by decide +kernel
theorem dK2_41 : decode jdk_52_method_21_code 41 = .ok (.goto (-38), 3) := by decide +kernel
theorem dK2_44 : decode jdk_52_method_21_code 44 = .ok (.iload 4, 2) := by decide +kernel
theorem dK2_46 : decode jdk_52_method_21_code 46 = .ok (.ireturn, 1) := by decide +kernel
def own_QK2 (Z : State) (a1 : Addr) (p1 : Int32) (a2 : Addr) (p2 : Int32) (p3 : Int32) (h0 : Heap) (n0 : Nat) : Option Value → Heap → List Loc → Prop := fun v h L => v = some (.int 2) ∧ Fr n0 L ∧ Keep h0 h [a2] ∧ ∃ g' : Nat → Int32, own_Arr Z h a2 .byte 2 (fun i => .int (g' i))
theorem own_pnK2 : plainFor (⟨"java/lang/StringUTF16", "compress", "([CI[BII)I"⟩ : MethodName) = true := plainFor_of_name (show plainName "java/lang/StringUTF16" = true by first | (simp [plainName, overriddenIn]; done) | decide +kernel)
theorem own_efK2 (m : MethodId) (a1 : Addr) (p1 : Int32) (a2 : Addr) (p2 : Int32) (p3 : Int32)  : entryFrame m #[(.ref a1), (.int p1), (.ref a2), (.int p2), (.int p3)] 7 = mkF m 0 #[.val (.ref a1), .val (.int p1), .val (.ref a2), .val (.int p2), .val (.int p3), .unset, .unset] [] := by first | (simp [entryFrame, mkF, argsToLocals, Value.category, maxLocals]; done) | rfl
set_option maxRecDepth 65536 in
set_option maxHeartbeats 40000000 in
theorem own_rmK2 (l : Launch) (Z : State) (a0 : Array Value) (hw : ∀ d ∈ tables_1, d.before a0 Z = true) (ws : List Jvm.Cond) (a1 : Addr) (p1 : Int32) (a2 : Addr) (p2 : Int32) (p3 : Int32) (f g : Nat → Int32) (h0 : Heap) (n0 : Nat) (hn0 : n0 ≤ h0.size) (ha : n0 ≤ a2) (hne : a1 ≠ a2) (AC : own_Arr Z h0 a1 .char 2 (fun i => .int (f i))) (hf : ∀ j, 0 ≤ (f j).toInt ∧ (f j).toInt ≤ 255) (AB : own_Arr Z h0 a2 .byte 2 (fun i => .int (g i))) (hp1 : p1 = 0) (hp2 : p2 = 0) (hp3 : p3 = 2) :
    MetFree l (⟨"java/lang/StringUTF16", "compress", "([CI[BII)I"⟩ : MethodName) (head1 (Jvm.Cond.code (⟨"java/lang/StringUTF16", "compress", "([CI[BII)I"⟩ : MethodName) jdk_52_method_21_code 7 (some .int) :: ws) ({ frames := 0, cells := 0, slots := 0, locals := 0 } : Room)) (fun a U => a = #[(.ref a1), (.int p1), (.ref a2), (.int p2), (.int p3)] ∧ Z.Warmed39 U.vm ∧ U.heap = h0) (fun _ _ _ _ _ => True) (fun _ U o U' => ∃ v L, o = .returned v ∧ (own_QK2 Z a1 p1 a2 p2 p3 h0 n0) v U'.heap L ∧ FrameEnd U o U' L ({ frames := 0, cells := 0, slots := 0, locals := 0 } : Room).cells ({ frames := 0, cells := 0, slots := 0, locals := 0 } : Room).slots) := by
  refine own_body (y := (⟨"java/lang/StringUTF16", "compress", "([CI[BII)I"⟩ : MethodName)) (Q := own_QK2 Z a1 p1 a2 p2 p3 h0 n0) (rm := ({ frames := 0, cells := 0, slots := 0, locals := 0 } : Room)) (as' := #[(.ref a1), (.int p1), (.ref a2), (.int p2), (.int p3)]) (h0 := h0) (Z := Z) own_pnK2 ?_
  intro p e s m below meth c s₁ hx hby hml hown hnm hret hlk hZ X0 e0
  have hown : s.vm.findClass "java/lang/StringUTF16" = some m.cls := hown
  rw [own_efK2]
  subst hp1 hp2 hp3
  refine own_iconst X0 hx (hb hby dK2_0) (v := (0 : Int32)) rfl (q := 1) rfl ?_
  refine own_istore X0 hx (hb hby dK2_1) (l' := #[.val (.ref a1), .val (.int (0 : Int32)), .val (.ref a2), .val (.int (0 : Int32)), .val (.int (2 : Int32)), .val (.int (0 : Int32)), .unset]) rfl (q := 3) rfl ?_
  refine own_iload X0 hx (hb hby dK2_3) rfl (q := 5) rfl ?_
  refine own_iload X0 hx (hb hby dK2_5) rfl (q := 7) rfl ?_
  refine own_icmp X0 hx (hb hby dK2_7) (by decide) (q := 44) rfl (q' := 10) rfl (own_h_ge _ _) (fun h7 => ?_) (fun h7 => ?_)
  · replace h7 : (2 : Int) ≤ (0 : Int) := h7
    exact absurd h7 (by decide)
  · replace h7 : ¬ ((2 : Int) ≤ (0 : Int)) := h7
    refine own_aload_n X0 hx (hb hby dK2_10) rfl rfl (q := 11) rfl ?_
    refine own_iload_n X0 hx (hb hby dK2_11) rfl (q := 12) rfl ?_
    refine own_caload X0 hx hZ e0 AC (hb hby dK2_12) (i := 0) rfl (by decide) (v := .int (f 0)) rfl (q := 13) rfl ?_
    refine own_istore X0 hx (hb hby dK2_13) (l' := #[.val (.ref a1), .val (.int (0 : Int32)), .val (.ref a2), .val (.int (0 : Int32)), .val (.int (2 : Int32)), .val (.int (0 : Int32)), .val (.int (f 0))]) rfl (q := 15) rfl ?_
    refine own_iload X0 hx (hb hby dK2_15) rfl (q := 17) rfl ?_
    refine own_sipush X0 hx (hb hby dK2_17) (v := (255 : Int32)) rfl (q := 20) rfl ?_
    refine own_icmp X0 hx (hb hby dK2_20) (by decide) (q := 26) rfl (q' := 23) rfl (own_h_le _ _) (fun h20 => ?_) (fun h20 => ?_)
    · replace h20 : (f 0).toInt ≤ (255 : Int) := h20
      refine own_aload_n X0 hx (hb hby dK2_26) rfl rfl (q := 27) rfl ?_
      refine own_iload_n X0 hx (hb hby dK2_27) rfl (q := 28) rfl ?_
      refine own_iload X0 hx (hb hby dK2_28) rfl (q := 30) rfl ?_
      refine own_i2b X0 hx (hb hby dK2_30) (q := 31) rfl ?_
      refine own_stB X0 hx hZ e0 AB (hb hby dK2_31) (i := 0) (rfl) (by decide) (Fr.nil n0) ha (q := 32) rfl ?_
      intro T1 h1_ L1 X1 N1 e1 A1 W1
      have K1 := Keep.of_wr W1
      have AC_1 := AC.keep K1 (ninS hne nin0)
      have KK1 := Keep.trans (Keep.refl h0 [a2]) K1 (allS (Or.inl (List.mem_of_getElem? (i := 0) rfl)) all0)
      have z1_ : h0.size ≤ h1_.size := Nat.le_trans (Nat.le_refl _) K1.1
      refine own_iinc X1 hx (hb hby dK2_32) (w := (1 : Int32)) rfl rfl (l' := #[.val (.ref a1), .val (.int (1 : Int32)), .val (.ref a2), .val (.int (0 : Int32)), .val (.int (2 : Int32)), .val (.int (0 : Int32)), .val (.int (f 0))]) rfl (q := 35) rfl ?_
      refine own_iinc X1 hx (hb hby dK2_35) (w := (1 : Int32)) rfl rfl (l' := #[.val (.ref a1), .val (.int (1 : Int32)), .val (.ref a2), .val (.int (1 : Int32)), .val (.int (2 : Int32)), .val (.int (0 : Int32)), .val (.int (f 0))]) rfl (q := 38) rfl ?_
      refine own_iinc X1 hx (hb hby dK2_38) (w := (1 : Int32)) rfl rfl (l' := #[.val (.ref a1), .val (.int (1 : Int32)), .val (.ref a2), .val (.int (1 : Int32)), .val (.int (2 : Int32)), .val (.int (1 : Int32)), .val (.int (f 0))]) rfl (q := 41) rfl ?_
      refine own_goto X1 hx (hb hby dK2_41) (by decide) (q := 3) rfl ?_
      refine own_iload X1 hx (hb hby dK2_3) rfl (q := 5) rfl ?_
      refine own_iload X1 hx (hb hby dK2_5) rfl (q := 7) rfl ?_
      refine own_icmp X1 hx (hb hby dK2_7) (by decide) (q := 44) rfl (q' := 10) rfl (own_h_ge _ _) (fun h7 => ?_) (fun h7 => ?_)
      · replace h7 : (2 : Int) ≤ (1 : Int) := h7
        exact absurd h7 (by decide)
      · replace h7 : ¬ ((2 : Int) ≤ (1 : Int)) := h7
        refine own_aload_n X1 hx (hb hby dK2_10) rfl rfl (q := 11) rfl ?_
        refine own_iload_n X1 hx (hb hby dK2_11) rfl (q := 12) rfl ?_
        refine own_caload X1 hx hZ e1 AC_1 (hb hby dK2_12) (i := 1) rfl (by decide) (v := .int (f 1)) rfl (q := 13) rfl ?_
        refine own_istore X1 hx (hb hby dK2_13) (l' := #[.val (.ref a1), .val (.int (1 : Int32)), .val (.ref a2), .val (.int (1 : Int32)), .val (.int (2 : Int32)), .val (.int (1 : Int32)), .val (.int (f 1))]) rfl (q := 15) rfl ?_
        refine own_iload X1 hx (hb hby dK2_15) rfl (q := 17) rfl ?_
        refine own_sipush X1 hx (hb hby dK2_17) (v := (255 : Int32)) rfl (q := 20) rfl ?_
        refine own_icmp X1 hx (hb hby dK2_20) (by decide) (q := 26) rfl (q' := 23) rfl (own_h_le _ _) (fun h20 => ?_) (fun h20 => ?_)
        · replace h20 : (f 1).toInt ≤ (255 : Int) := h20
          refine own_aload_n X1 hx (hb hby dK2_26) rfl rfl (q := 27) rfl ?_
          refine own_iload_n X1 hx (hb hby dK2_27) rfl (q := 28) rfl ?_
          refine own_iload X1 hx (hb hby dK2_28) rfl (q := 30) rfl ?_
          refine own_i2b X1 hx (hb hby dK2_30) (q := 31) rfl ?_
          refine own_stB X1 hx hZ e1 A1 (hb hby dK2_31) (i := 1) (rfl) (by decide) N1 ha (q := 32) rfl ?_
          intro T2 h2_ L2 X2 N2 e2 A2 W2
          have K2 := Keep.of_wr W2
          have AC_2 := AC_1.keep K2 (ninS hne nin0)
          have KK2 := Keep.trans KK1 K2 (allS (Or.inl (List.mem_of_getElem? (i := 0) rfl)) all0)
          have z2_ : h0.size ≤ h2_.size := Nat.le_trans z1_ K2.1
          refine own_iinc X2 hx (hb hby dK2_32) (w := (2 : Int32)) rfl rfl (l' := #[.val (.ref a1), .val (.int (2 : Int32)), .val (.ref a2), .val (.int (1 : Int32)), .val (.int (2 : Int32)), .val (.int (1 : Int32)), .val (.int (f 1))]) rfl (q := 35) rfl ?_
          refine own_iinc X2 hx (hb hby dK2_35) (w := (2 : Int32)) rfl rfl (l' := #[.val (.ref a1), .val (.int (2 : Int32)), .val (.ref a2), .val (.int (2 : Int32)), .val (.int (2 : Int32)), .val (.int (1 : Int32)), .val (.int (f 1))]) rfl (q := 38) rfl ?_
          refine own_iinc X2 hx (hb hby dK2_38) (w := (2 : Int32)) rfl rfl (l' := #[.val (.ref a1), .val (.int (2 : Int32)), .val (.ref a2), .val (.int (2 : Int32)), .val (.int (2 : Int32)), .val (.int (2 : Int32)), .val (.int (f 1))]) rfl (q := 41) rfl ?_
          refine own_goto X2 hx (hb hby dK2_41) (by decide) (q := 3) rfl ?_
          refine own_iload X2 hx (hb hby dK2_3) rfl (q := 5) rfl ?_
          refine own_iload X2 hx (hb hby dK2_5) rfl (q := 7) rfl ?_
          refine own_icmp X2 hx (hb hby dK2_7) (by decide) (q := 44) rfl (q' := 10) rfl (own_h_ge _ _) (fun h7 => ?_) (fun h7 => ?_)
          · replace h7 : (2 : Int) ≤ (2 : Int) := h7
            refine own_iload X2 hx (hb hby dK2_44) rfl (q := 46) rfl ?_
            exact own_retI X2 hx hret hlk (hb hby dK2_46) (by decide) (by decide) (by rw [e2]; unfold own_QK2; exact ⟨rfl, N2, KK2, _, A2⟩)
          · replace h7 : ¬ ((2 : Int) ≤ (2 : Int)) := h7
            exact absurd h7 (by decide)
        · replace h20 : ¬ ((f 1).toInt ≤ (255 : Int)) := h20
          exfalso; exact h20 (hf _).2
    · replace h20 : ¬ ((f 0).toInt ≤ (255 : Int)) := h20
      exfalso; exact h20 (hf _).2
theorem dK3_0 : decode jdk_52_method_21_code 0 = .ok (.iconst 0, 1) := by decide +kernel
theorem dK3_1 : decode jdk_52_method_21_code 1 = .ok (.istore 5, 2) := by decide +kernel
theorem dK3_3 : decode jdk_52_method_21_code 3 = .ok (.iload 5, 2) := by decide +kernel
theorem dK3_5 : decode jdk_52_method_21_code 5 = .ok (.iload 4, 2) := by decide +kernel
theorem dK3_7 : decode jdk_52_method_21_code 7 = .ok (.if_icmp .ge 37, 3) := by decide +kernel
theorem dK3_10 : decode jdk_52_method_21_code 10 = .ok (.aload_n 0, 1) := by decide +kernel
theorem dK3_11 : decode jdk_52_method_21_code 11 = .ok (.iload_n 1, 1) := by decide +kernel
theorem dK3_12 : decode jdk_52_method_21_code 12 = .ok (.caload, 1) := by decide +kernel
theorem dK3_13 : decode jdk_52_method_21_code 13 = .ok (.istore 6, 2) := by decide +kernel
theorem dK3_15 : decode jdk_52_method_21_code 15 = .ok (.iload 6, 2) := by decide +kernel
theorem dK3_17 : decode jdk_52_method_21_code 17 = .ok (.sipush 255, 3) := by decide +kernel
theorem dK3_20 : decode jdk_52_method_21_code 20 = .ok (.if_icmp .le 6, 3) := by decide +kernel
theorem dK3_26 : decode jdk_52_method_21_code 26 = .ok (.aload_n 2, 1) := by decide +kernel
theorem dK3_27 : decode jdk_52_method_21_code 27 = .ok (.iload_n 3, 1) := by decide +kernel
theorem dK3_28 : decode jdk_52_method_21_code 28 = .ok (.iload 6, 2) := by decide +kernel
theorem dK3_30 : decode jdk_52_method_21_code 30 = .ok (.i2b, 1) := by decide +kernel
theorem dK3_31 : decode jdk_52_method_21_code 31 = .ok (.bastore, 1) := by decide +kernel
theorem dK3_32 : decode jdk_52_method_21_code 32 = .ok (.iinc 1 1, 3) := by decide +kernel
theorem dK3_35 : decode jdk_52_method_21_code 35 = .ok (.iinc 3 1, 3) := by decide +kernel
theorem dK3_38 : decode jdk_52_method_21_code 38 = .ok (.iinc 5 1, 3) := by decide +kernel
theorem dK3_41 : decode jdk_52_method_21_code 41 = .ok (.goto (-38), 3) := by decide +kernel
theorem dK3_44 : decode jdk_52_method_21_code 44 = .ok (.iload 4, 2) := by decide +kernel
theorem dK3_46 : decode jdk_52_method_21_code 46 = .ok (.ireturn, 1) := by decide +kernel
def own_QK3 (Z : State) (a1 : Addr) (p1 : Int32) (a2 : Addr) (p2 : Int32) (p3 : Int32) (h0 : Heap) (n0 : Nat) : Option Value → Heap → List Loc → Prop := fun v h L => v = some (.int 3) ∧ Fr n0 L ∧ Keep h0 h [a2] ∧ ∃ g' : Nat → Int32, own_Arr Z h a2 .byte 3 (fun i => .int (g' i))
theorem own_pnK3 : plainFor (⟨"java/lang/StringUTF16", "compress", "([CI[BII)I"⟩ : MethodName) = true := plainFor_of_name (show plainName "java/lang/StringUTF16" = true by first | (simp [plainName, overriddenIn]; done) | decide +kernel)
theorem own_efK3 (m : MethodId) (a1 : Addr) (p1 : Int32) (a2 : Addr) (p2 : Int32) (p3 : Int32)  : entryFrame m #[(.ref a1), (.int p1), (.ref a2), (.int p2), (.int p3)] 7 = mkF m 0 #[.val (.ref a1), .val (.int p1), .val (.ref a2), .val (.int p2), .val (.int p3), .unset, .unset] [] := by first | (simp [entryFrame, mkF, argsToLocals, Value.category, maxLocals]; done) | rfl
set_option maxRecDepth 65536 in
set_option maxHeartbeats 40000000 in
theorem own_rmK3 (l : Launch) (Z : State) (a0 : Array Value) (hw : ∀ d ∈ tables_1, d.before a0 Z = true) (ws : List Jvm.Cond) (a1 : Addr) (p1 : Int32) (a2 : Addr) (p2 : Int32) (p3 : Int32) (f g : Nat → Int32) (h0 : Heap) (n0 : Nat) (hn0 : n0 ≤ h0.size) (ha : n0 ≤ a2) (hne : a1 ≠ a2) (AC : own_Arr Z h0 a1 .char 3 (fun i => .int (f i))) (hf : ∀ j, 0 ≤ (f j).toInt ∧ (f j).toInt ≤ 255) (AB : own_Arr Z h0 a2 .byte 3 (fun i => .int (g i))) (hp1 : p1 = 0) (hp2 : p2 = 0) (hp3 : p3 = 3) :
    MetFree l (⟨"java/lang/StringUTF16", "compress", "([CI[BII)I"⟩ : MethodName) (head1 (Jvm.Cond.code (⟨"java/lang/StringUTF16", "compress", "([CI[BII)I"⟩ : MethodName) jdk_52_method_21_code 7 (some .int) :: ws) ({ frames := 0, cells := 0, slots := 0, locals := 0 } : Room)) (fun a U => a = #[(.ref a1), (.int p1), (.ref a2), (.int p2), (.int p3)] ∧ Z.Warmed39 U.vm ∧ U.heap = h0) (fun _ _ _ _ _ => True) (fun _ U o U' => ∃ v L, o = .returned v ∧ (own_QK3 Z a1 p1 a2 p2 p3 h0 n0) v U'.heap L ∧ FrameEnd U o U' L ({ frames := 0, cells := 0, slots := 0, locals := 0 } : Room).cells ({ frames := 0, cells := 0, slots := 0, locals := 0 } : Room).slots) := by
  refine own_body (y := (⟨"java/lang/StringUTF16", "compress", "([CI[BII)I"⟩ : MethodName)) (Q := own_QK3 Z a1 p1 a2 p2 p3 h0 n0) (rm := ({ frames := 0, cells := 0, slots := 0, locals := 0 } : Room)) (as' := #[(.ref a1), (.int p1), (.ref a2), (.int p2), (.int p3)]) (h0 := h0) (Z := Z) own_pnK3 ?_
  intro p e s m below meth c s₁ hx hby hml hown hnm hret hlk hZ X0 e0
  have hown : s.vm.findClass "java/lang/StringUTF16" = some m.cls := hown
  rw [own_efK3]
  subst hp1 hp2 hp3
  refine own_iconst X0 hx (hb hby dK3_0) (v := (0 : Int32)) rfl (q := 1) rfl ?_
  refine own_istore X0 hx (hb hby dK3_1) (l' := #[.val (.ref a1), .val (.int (0 : Int32)), .val (.ref a2), .val (.int (0 : Int32)), .val (.int (3 : Int32)), .val (.int (0 : Int32)), .unset]) rfl (q := 3) rfl ?_
  refine own_iload X0 hx (hb hby dK3_3) rfl (q := 5) rfl ?_
  refine own_iload X0 hx (hb hby dK3_5) rfl (q := 7) rfl ?_
  refine own_icmp X0 hx (hb hby dK3_7) (by decide) (q := 44) rfl (q' := 10) rfl (own_h_ge _ _) (fun h7 => ?_) (fun h7 => ?_)
  · replace h7 : (3 : Int) ≤ (0 : Int) := h7
    exact absurd h7 (by decide)
  · replace h7 : ¬ ((3 : Int) ≤ (0 : Int)) := h7
    refine own_aload_n X0 hx (hb hby dK3_10) rfl rfl (q := 11) rfl ?_
    refine own_iload_n X0 hx (hb hby dK3_11) rfl (q := 12) rfl ?_
    refine own_caload X0 hx hZ e0 AC (hb hby dK3_12) (i := 0) rfl (by decide) (v := .int (f 0)) rfl (q := 13) rfl ?_
    refine own_istore X0 hx (hb hby dK3_13) (l' := #[.val (.ref a1), .val (.int (0 : Int32)), .val (.ref a2), .val (.int (0 : Int32)), .val (.int (3 : Int32)), .val (.int (0 : Int32)), .val (.int (f 0))]) rfl (q := 15) rfl ?_
    refine own_iload X0 hx (hb hby dK3_15) rfl (q := 17) rfl ?_
    refine own_sipush X0 hx (hb hby dK3_17) (v := (255 : Int32)) rfl (q := 20) rfl ?_
    refine own_icmp X0 hx (hb hby dK3_20) (by decide) (q := 26) rfl (q' := 23) rfl (own_h_le _ _) (fun h20 => ?_) (fun h20 => ?_)
    · replace h20 : (f 0).toInt ≤ (255 : Int) := h20
      refine own_aload_n X0 hx (hb hby dK3_26) rfl rfl (q := 27) rfl ?_
      refine own_iload_n X0 hx (hb hby dK3_27) rfl (q := 28) rfl ?_
      refine own_iload X0 hx (hb hby dK3_28) rfl (q := 30) rfl ?_
      refine own_i2b X0 hx (hb hby dK3_30) (q := 31) rfl ?_
      refine own_stB X0 hx hZ e0 AB (hb hby dK3_31) (i := 0) (rfl) (by decide) (Fr.nil n0) ha (q := 32) rfl ?_
      intro T1 h1_ L1 X1 N1 e1 A1 W1
      have K1 := Keep.of_wr W1
      have AC_1 := AC.keep K1 (ninS hne nin0)
      have KK1 := Keep.trans (Keep.refl h0 [a2]) K1 (allS (Or.inl (List.mem_of_getElem? (i := 0) rfl)) all0)
      have z1_ : h0.size ≤ h1_.size := Nat.le_trans (Nat.le_refl _) K1.1
      refine own_iinc X1 hx (hb hby dK3_32) (w := (1 : Int32)) rfl rfl (l' := #[.val (.ref a1), .val (.int (1 : Int32)), .val (.ref a2), .val (.int (0 : Int32)), .val (.int (3 : Int32)), .val (.int (0 : Int32)), .val (.int (f 0))]) rfl (q := 35) rfl ?_
      refine own_iinc X1 hx (hb hby dK3_35) (w := (1 : Int32)) rfl rfl (l' := #[.val (.ref a1), .val (.int (1 : Int32)), .val (.ref a2), .val (.int (1 : Int32)), .val (.int (3 : Int32)), .val (.int (0 : Int32)), .val (.int (f 0))]) rfl (q := 38) rfl ?_
      refine own_iinc X1 hx (hb hby dK3_38) (w := (1 : Int32)) rfl rfl (l' := #[.val (.ref a1), .val (.int (1 : Int32)), .val (.ref a2), .val (.int (1 : Int32)), .val (.int (3 : Int32)), .val (.int (1 : Int32)), .val (.int (f 0))]) rfl (q := 41) rfl ?_
      refine own_goto X1 hx (hb hby dK3_41) (by decide) (q := 3) rfl ?_
      refine own_iload X1 hx (hb hby dK3_3) rfl (q := 5) rfl ?_
      refine own_iload X1 hx (hb hby dK3_5) rfl (q := 7) rfl ?_
      refine own_icmp X1 hx (hb hby dK3_7) (by decide) (q := 44) rfl (q' := 10) rfl (own_h_ge _ _) (fun h7 => ?_) (fun h7 => ?_)
      · replace h7 : (3 : Int) ≤ (1 : Int) := h7
        exact absurd h7 (by decide)
      · replace h7 : ¬ ((3 : Int) ≤ (1 : Int)) := h7
        refine own_aload_n X1 hx (hb hby dK3_10) rfl rfl (q := 11) rfl ?_
        refine own_iload_n X1 hx (hb hby dK3_11) rfl (q := 12) rfl ?_
        refine own_caload X1 hx hZ e1 AC_1 (hb hby dK3_12) (i := 1) rfl (by decide) (v := .int (f 1)) rfl (q := 13) rfl ?_
        refine own_istore X1 hx (hb hby dK3_13) (l' := #[.val (.ref a1), .val (.int (1 : Int32)), .val (.ref a2), .val (.int (1 : Int32)), .val (.int (3 : Int32)), .val (.int (1 : Int32)), .val (.int (f 1))]) rfl (q := 15) rfl ?_
        refine own_iload X1 hx (hb hby dK3_15) rfl (q := 17) rfl ?_
        refine own_sipush X1 hx (hb hby dK3_17) (v := (255 : Int32)) rfl (q := 20) rfl ?_
        refine own_icmp X1 hx (hb hby dK3_20) (by decide) (q := 26) rfl (q' := 23) rfl (own_h_le _ _) (fun h20 => ?_) (fun h20 => ?_)
        · replace h20 : (f 1).toInt ≤ (255 : Int) := h20
          refine own_aload_n X1 hx (hb hby dK3_26) rfl rfl (q := 27) rfl ?_
          refine own_iload_n X1 hx (hb hby dK3_27) rfl (q := 28) rfl ?_
          refine own_iload X1 hx (hb hby dK3_28) rfl (q := 30) rfl ?_
          refine own_i2b X1 hx (hb hby dK3_30) (q := 31) rfl ?_
          refine own_stB X1 hx hZ e1 A1 (hb hby dK3_31) (i := 1) (rfl) (by decide) N1 ha (q := 32) rfl ?_
          intro T2 h2_ L2 X2 N2 e2 A2 W2
          have K2 := Keep.of_wr W2
          have AC_2 := AC_1.keep K2 (ninS hne nin0)
          have KK2 := Keep.trans KK1 K2 (allS (Or.inl (List.mem_of_getElem? (i := 0) rfl)) all0)
          have z2_ : h0.size ≤ h2_.size := Nat.le_trans z1_ K2.1
          refine own_iinc X2 hx (hb hby dK3_32) (w := (2 : Int32)) rfl rfl (l' := #[.val (.ref a1), .val (.int (2 : Int32)), .val (.ref a2), .val (.int (1 : Int32)), .val (.int (3 : Int32)), .val (.int (1 : Int32)), .val (.int (f 1))]) rfl (q := 35) rfl ?_
          refine own_iinc X2 hx (hb hby dK3_35) (w := (2 : Int32)) rfl rfl (l' := #[.val (.ref a1), .val (.int (2 : Int32)), .val (.ref a2), .val (.int (2 : Int32)), .val (.int (3 : Int32)), .val (.int (1 : Int32)), .val (.int (f 1))]) rfl (q := 38) rfl ?_
          refine own_iinc X2 hx (hb hby dK3_38) (w := (2 : Int32)) rfl rfl (l' := #[.val (.ref a1), .val (.int (2 : Int32)), .val (.ref a2), .val (.int (2 : Int32)), .val (.int (3 : Int32)), .val (.int (2 : Int32)), .val (.int (f 1))]) rfl (q := 41) rfl ?_
          refine own_goto X2 hx (hb hby dK3_41) (by decide) (q := 3) rfl ?_
          refine own_iload X2 hx (hb hby dK3_3) rfl (q := 5) rfl ?_
          refine own_iload X2 hx (hb hby dK3_5) rfl (q := 7) rfl ?_
          refine own_icmp X2 hx (hb hby dK3_7) (by decide) (q := 44) rfl (q' := 10) rfl (own_h_ge _ _) (fun h7 => ?_) (fun h7 => ?_)
          · replace h7 : (3 : Int) ≤ (2 : Int) := h7
            exact absurd h7 (by decide)
          · replace h7 : ¬ ((3 : Int) ≤ (2 : Int)) := h7
            refine own_aload_n X2 hx (hb hby dK3_10) rfl rfl (q := 11) rfl ?_
            refine own_iload_n X2 hx (hb hby dK3_11) rfl (q := 12) rfl ?_
            refine own_caload X2 hx hZ e2 AC_2 (hb hby dK3_12) (i := 2) rfl (by decide) (v := .int (f 2)) rfl (q := 13) rfl ?_
            refine own_istore X2 hx (hb hby dK3_13) (l' := #[.val (.ref a1), .val (.int (2 : Int32)), .val (.ref a2), .val (.int (2 : Int32)), .val (.int (3 : Int32)), .val (.int (2 : Int32)), .val (.int (f 2))]) rfl (q := 15) rfl ?_
            refine own_iload X2 hx (hb hby dK3_15) rfl (q := 17) rfl ?_
            refine own_sipush X2 hx (hb hby dK3_17) (v := (255 : Int32)) rfl (q := 20) rfl ?_
            refine own_icmp X2 hx (hb hby dK3_20) (by decide) (q := 26) rfl (q' := 23) rfl (own_h_le _ _) (fun h20 => ?_) (fun h20 => ?_)
            · replace h20 : (f 2).toInt ≤ (255 : Int) := h20
              refine own_aload_n X2 hx (hb hby dK3_26) rfl rfl (q := 27) rfl ?_
              refine own_iload_n X2 hx (hb hby dK3_27) rfl (q := 28) rfl ?_
              refine own_iload X2 hx (hb hby dK3_28) rfl (q := 30) rfl ?_
              refine own_i2b X2 hx (hb hby dK3_30) (q := 31) rfl ?_
              refine own_stB X2 hx hZ e2 A2 (hb hby dK3_31) (i := 2) (rfl) (by decide) N2 ha (q := 32) rfl ?_
              intro T3 h3_ L3 X3 N3 e3 A3 W3
              have K3 := Keep.of_wr W3
              have AC_3 := AC_2.keep K3 (ninS hne nin0)
              have KK3 := Keep.trans KK2 K3 (allS (Or.inl (List.mem_of_getElem? (i := 0) rfl)) all0)
              have z3_ : h0.size ≤ h3_.size := Nat.le_trans z2_ K3.1
              refine own_iinc X3 hx (hb hby dK3_32) (w := (3 : Int32)) rfl rfl (l' := #[.val (.ref a1), .val (.int (3 : Int32)), .val (.ref a2), .val (.int (2 : Int32)), .val (.int (3 : Int32)), .val (.int (2 : Int32)), .val (.int (f 2))]) rfl (q := 35) rfl ?_
              refine own_iinc X3 hx (hb hby dK3_35) (w := (3 : Int32)) rfl rfl (l' := #[.val (.ref a1), .val (.int (3 : Int32)), .val (.ref a2), .val (.int (3 : Int32)), .val (.int (3 : Int32)), .val (.int (2 : Int32)), .val (.int (f 2))]) rfl (q := 38) rfl ?_
              refine own_iinc X3 hx (hb hby dK3_38) (w := (3 : Int32)) rfl rfl (l' := #[.val (.ref a1), .val (.int (3 : Int32)), .val (.ref a2), .val (.int (3 : Int32)), .val (.int (3 : Int32)), .val (.int (3 : Int32)), .val (.int (f 2))]) rfl (q := 41) rfl ?_
              refine own_goto X3 hx (hb hby dK3_41) (by decide) (q := 3) rfl ?_
              refine own_iload X3 hx (hb hby dK3_3) rfl (q := 5) rfl ?_
              refine own_iload X3 hx (hb hby dK3_5) rfl (q := 7) rfl ?_
              refine own_icmp X3 hx (hb hby dK3_7) (by decide) (q := 44) rfl (q' := 10) rfl (own_h_ge _ _) (fun h7 => ?_) (fun h7 => ?_)
              · replace h7 : (3 : Int) ≤ (3 : Int) := h7
                refine own_iload X3 hx (hb hby dK3_44) rfl (q := 46) rfl ?_
                exact own_retI X3 hx hret hlk (hb hby dK3_46) (by decide) (by decide) (by rw [e3]; unfold own_QK3; exact ⟨rfl, N3, KK3, _, A3⟩)
              · replace h7 : ¬ ((3 : Int) ≤ (3 : Int)) := h7
                exact absurd h7 (by decide)
            · replace h20 : ¬ ((f 2).toInt ≤ (255 : Int)) := h20
              exfalso; exact h20 (hf _).2
        · replace h20 : ¬ ((f 1).toInt ≤ (255 : Int)) := h20
          exfalso; exact h20 (hf _).2
    · replace h20 : ¬ ((f 0).toInt ≤ (255 : Int)) := h20
      exfalso; exact h20 (hf _).2
theorem dU2_0 : decode jdk_52_method_16_code 0 = .ok (.iload_n 2, 1) := by decide +kernel
theorem dU2_1 : decode jdk_52_method_16_code 1 = .ok (.newarray .byte, 2) := by decide +kernel
theorem dU2_3 : decode jdk_52_method_16_code 3 = .ok (.astore_n 3, 1) := by decide +kernel
theorem dU2_4 : decode jdk_52_method_16_code 4 = .ok (.aload_n 0, 1) := by decide +kernel
theorem dU2_5 : decode jdk_52_method_16_code 5 = .ok (.iload_n 1, 1) := by decide +kernel
theorem dU2_6 : decode jdk_52_method_16_code 6 = .ok (.aload_n 3, 1) := by decide +kernel
theorem dU2_7 : decode jdk_52_method_16_code 7 = .ok (.iconst 0, 1) := by decide +kernel
theorem dU2_8 : decode jdk_52_method_16_code 8 = .ok (.iload_n 2, 1) := by decide +kernel
theorem dU2_9 : decode jdk_52_method_16_code 9 = .ok (.invokestatic 115, 3) := by decide +kernel
theorem dU2_12 : decode jdk_52_method_16_code 12 = .ok (.istore 4, 2) := by decide +kernel
theorem dU2_14 : decode jdk_52_method_16_code 14 = .ok (.iload 4, 2) := by decide +kernel
theorem dU2_16 : decode jdk_52_method_16_code 16 = .ok (.iload_n 2, 1) := by decide +kernel
theorem dU2_17 : decode jdk_52_method_16_code 17 = .ok (.if_icmp .eq 40, 3) := by decide +kernel
theorem dU2_57 : decode jdk_52_method_16_code 57 = .ok (.aload_n 3, 1) := by decide +kernel
theorem dU2_58 : decode jdk_52_method_16_code 58 = .ok (.areturn, 1) := by decide +kernel
def own_QU2 (Z : State) (a1 : Addr) (p1 : Int32) (p2 : Int32) (h0 : Heap) (n0 : Nat) : Option Value → Heap → List Loc → Prop := fun v h L => ∃ b, v = some (.ref b) ∧ n0 ≤ b ∧ Fr n0 L ∧ Keep h0 h [] ∧ ∃ g' : Nat → Int32, own_Arr Z h b .byte 2 (fun i => .int (g' i))
theorem own_pnU2 : plainFor (⟨"java/lang/StringUTF16", "compress", "([CII)[B"⟩ : MethodName) = true := plainFor_of_name (show plainName "java/lang/StringUTF16" = true by first | (simp [plainName, overriddenIn]; done) | decide +kernel)
theorem own_efU2 (m : MethodId) (a1 : Addr) (p1 : Int32) (p2 : Int32)  : entryFrame m #[(.ref a1), (.int p1), (.int p2)] 6 = mkF m 0 #[.val (.ref a1), .val (.int p1), .val (.int p2), .unset, .unset, .unset] [] := by first | (simp [entryFrame, mkF, argsToLocals, Value.category, maxLocals]; done) | rfl
set_option maxRecDepth 65536 in
set_option maxHeartbeats 40000000 in
theorem own_rmU2 (l : Launch) (Z : State) (a0 : Array Value) (hw : ∀ d ∈ tables_1, d.before a0 Z = true) (ws : List Jvm.Cond) (a1 : Addr) (p1 : Int32) (p2 : Int32) (f : Nat → Int32) (h0 : Heap) (n0 : Nat) (hn0 : n0 ≤ h0.size) (AC : own_Arr Z h0 a1 .char 2 (fun i => .int (f i))) (hf : ∀ j, 0 ≤ (f j).toInt ∧ (f j).toInt ≤ 255) (hp1 : p1 = 0) (hp2 : p2 = 2) :
    MetFree l (⟨"java/lang/StringUTF16", "compress", "([CII)[B"⟩ : MethodName) (head1 (Jvm.Cond.code (⟨"java/lang/StringUTF16", "compress", "([CII)[B"⟩ : MethodName) jdk_52_method_16_code 6 (some (.array .byte)) :: ws) ({ frames := 1, cells := 1, slots := 2, locals := 18 } : Room)) (fun a U => a = #[(.ref a1), (.int p1), (.int p2)] ∧ Z.Warmed39 U.vm ∧ U.heap = h0) (fun _ _ _ _ _ => True) (fun _ U o U' => ∃ v L, o = .returned v ∧ (own_QU2 Z a1 p1 p2 h0 n0) v U'.heap L ∧ FrameEnd U o U' L ({ frames := 1, cells := 1, slots := 2, locals := 18 } : Room).cells ({ frames := 1, cells := 1, slots := 2, locals := 18 } : Room).slots) := by
  refine own_body (y := (⟨"java/lang/StringUTF16", "compress", "([CII)[B"⟩ : MethodName)) (Q := own_QU2 Z a1 p1 p2 h0 n0) (rm := ({ frames := 1, cells := 1, slots := 2, locals := 18 } : Room)) (as' := #[(.ref a1), (.int p1), (.int p2)]) (h0 := h0) (Z := Z) own_pnU2 ?_
  intro p e s m below meth c s₁ hx hby hml hown hnm hret hlk hZ X0 e0
  have hown : s.vm.findClass "java/lang/StringUTF16" = some m.cls := hown
  rw [own_efU2]
  subst hp1 hp2
  refine own_iload_n X0 hx (hb hby dU2_0) rfl (q := 1) rfl ?_
  refine own_newP X0 hx hZ (hw _ (List.mem_of_getElem? (i := 19) rfl)) e0 (hb hby dU2_1) (N := 2) (rfl) (cap := 2) (by decide) (by decide) (by decide) (by decide) (q := 3) rfl ?_
  intro T1 h1_ b1 g1 X1 e1 E1 A1
  have ne_a1_b1 : a1 ≠ b1 := Nat.ne_of_lt (by rw [g1]; exact AC.lt)
  have AC_1 := AC.ext E1
  have KK1 := Keep.ext (Keep.refl h0 []) E1
  have o1 : h0.size ≤ b1 := by rw [g1]; exact (Nat.le_refl _)
  have p1_ : n0 ≤ b1 := Nat.le_trans hn0 o1
  have z1_ : h0.size ≤ h1_.size := Nat.le_trans (Nat.le_refl _) E1.1
  have A1 : own_Arr Z h1_ b1 .byte 2 (fun i => .int (own_zero i)) := A1
  refine own_astore_n X1 hx (hb hby dU2_3) rfl (l' := #[.val (.ref a1), .val (.int (0 : Int32)), .val (.int (2 : Int32)), .val (.ref b1), .unset, .unset]) rfl (q := 4) rfl ?_
  refine own_aload_n X1 hx (hb hby dU2_4) rfl rfl (q := 5) rfl ?_
  refine own_iload_n X1 hx (hb hby dU2_5) rfl (q := 6) rfl ?_
  refine own_aload_n X1 hx (hb hby dU2_6) rfl rfl (q := 7) rfl ?_
  refine own_iconst X1 hx (hb hby dU2_7) (v := (0 : Int32)) rfl (q := 8) rfl ?_
  refine own_iload_n X1 hx (hb hby dU2_8) rfl (q := 9) rfl ?_
  refine own_callS X1 hx hZ hown (hw _ (List.mem_of_getElem? (i := 80) rfl)) (hw _ (List.mem_of_getElem? (i := 81) rfl)) (hw _ (List.mem_of_getElem? (i := 78) rfl)) (hw _ (List.mem_of_getElem? (i := 82) rfl)) (by decide) (own_rmK2 l Z a0 hw [] a1 (0 : Int32) b1 (0 : Int32) (2 : Int32) f own_zero h1_ n0 (Nat.le_trans hn0 z1_) p1_ ne_a1_b1 AC_1 hf A1 rfl rfl rfl) (by decide) (by decide) e1 (by rw [hml]; rfl) (argsL := [(.ref a1), (.int (0 : Int32)), (.ref b1), (.int (0 : Int32)), (.int (2 : Int32))]) (rest := []) (lenOf own_pd0 rfl) rfl (W := 0) rfl (hb hby dU2_9) (q := 12) rfl rfl (by decide) (by decide) ?_
  rintro _ T2 L2 ⟨rfl, NL2, K2, g2_, A2⟩ X2
  have N2 := Fr.app (Fr.nil n0) NL2
  obtain ⟨h2_, e2⟩ : ∃ z, T2.heap = z := ⟨_, rfl⟩
  rw [e2] at K2 A2
  have AC_2 := AC_1.keep K2 (ninS ne_a1_b1 nin0)
  have KK2 := Keep.trans KK1 K2 (allS (Or.inr o1) all0)
  have z2_ : h0.size ≤ h2_.size := Nat.le_trans z1_ K2.1
  obtain ⟨LL2, eL2⟩ : ∃ z, [] ++ L2 = z := ⟨_, rfl⟩
  rw [eL2] at X2 N2
  show own_G p e below _ (T2.setTop (mkF m 12 #[.val (.ref a1), .val (.int (0 : Int32)), .val (.int (2 : Int32)), .val (.ref b1), .unset, .unset] [(.int (2 : Int32))]))
  refine own_istore X2 hx (hb hby dU2_12) (l' := #[.val (.ref a1), .val (.int (0 : Int32)), .val (.int (2 : Int32)), .val (.ref b1), .val (.int (2 : Int32)), .unset]) rfl (q := 14) rfl ?_
  refine own_iload X2 hx (hb hby dU2_14) rfl (q := 16) rfl ?_
  refine own_iload_n X2 hx (hb hby dU2_16) rfl (q := 17) rfl ?_
  refine own_icmp X2 hx (hb hby dU2_17) (by decide) (q := 57) rfl (q' := 20) rfl (own_h_eq _ _) (fun h17 => ?_) (fun h17 => ?_)
  · replace h17 : (2 : Int) = (2 : Int) := h17
    refine own_aload_n X2 hx (hb hby dU2_57) rfl rfl (q := 58) rfl ?_
    exact own_retA X2 hx rfl hret rfl hlk (hb hby dU2_58) (by decide) (by decide) (by rw [e2]; unfold own_QU2; exact ⟨_, rfl, p1_, N2, KK2, _, A2⟩)
  · replace h17 : ¬ ((2 : Int) = (2 : Int)) := h17
    exact absurd h17 (by decide)
theorem dU3_0 : decode jdk_52_method_16_code 0 = .ok (.iload_n 2, 1) := by decide +kernel
theorem dU3_1 : decode jdk_52_method_16_code 1 = .ok (.newarray .byte, 2) := by decide +kernel
theorem dU3_3 : decode jdk_52_method_16_code 3 = .ok (.astore_n 3, 1) := by decide +kernel
theorem dU3_4 : decode jdk_52_method_16_code 4 = .ok (.aload_n 0, 1) := by decide +kernel
theorem dU3_5 : decode jdk_52_method_16_code 5 = .ok (.iload_n 1, 1) := by decide +kernel
theorem dU3_6 : decode jdk_52_method_16_code 6 = .ok (.aload_n 3, 1) := by decide +kernel
theorem dU3_7 : decode jdk_52_method_16_code 7 = .ok (.iconst 0, 1) := by decide +kernel
theorem dU3_8 : decode jdk_52_method_16_code 8 = .ok (.iload_n 2, 1) := by decide +kernel
theorem dU3_9 : decode jdk_52_method_16_code 9 = .ok (.invokestatic 115, 3) := by decide +kernel
theorem dU3_12 : decode jdk_52_method_16_code 12 = .ok (.istore 4, 2) := by decide +kernel
theorem dU3_14 : decode jdk_52_method_16_code 14 = .ok (.iload 4, 2) := by decide +kernel
theorem dU3_16 : decode jdk_52_method_16_code 16 = .ok (.iload_n 2, 1) := by decide +kernel
theorem dU3_17 : decode jdk_52_method_16_code 17 = .ok (.if_icmp .eq 40, 3) := by decide +kernel
theorem dU3_57 : decode jdk_52_method_16_code 57 = .ok (.aload_n 3, 1) := by decide +kernel
theorem dU3_58 : decode jdk_52_method_16_code 58 = .ok (.areturn, 1) := by decide +kernel
def own_QU3 (Z : State) (a1 : Addr) (p1 : Int32) (p2 : Int32) (h0 : Heap) (n0 : Nat) : Option Value → Heap → List Loc → Prop := fun v h L => ∃ b, v = some (.ref b) ∧ n0 ≤ b ∧ Fr n0 L ∧ Keep h0 h [] ∧ ∃ g' : Nat → Int32, own_Arr Z h b .byte 3 (fun i => .int (g' i))
theorem own_pnU3 : plainFor (⟨"java/lang/StringUTF16", "compress", "([CII)[B"⟩ : MethodName) = true := plainFor_of_name (show plainName "java/lang/StringUTF16" = true by first | (simp [plainName, overriddenIn]; done) | decide +kernel)
theorem own_efU3 (m : MethodId) (a1 : Addr) (p1 : Int32) (p2 : Int32)  : entryFrame m #[(.ref a1), (.int p1), (.int p2)] 6 = mkF m 0 #[.val (.ref a1), .val (.int p1), .val (.int p2), .unset, .unset, .unset] [] := by first | (simp [entryFrame, mkF, argsToLocals, Value.category, maxLocals]; done) | rfl
set_option maxRecDepth 65536 in
set_option maxHeartbeats 40000000 in
theorem own_rmU3 (l : Launch) (Z : State) (a0 : Array Value) (hw : ∀ d ∈ tables_1, d.before a0 Z = true) (ws : List Jvm.Cond) (a1 : Addr) (p1 : Int32) (p2 : Int32) (f : Nat → Int32) (h0 : Heap) (n0 : Nat) (hn0 : n0 ≤ h0.size) (AC : own_Arr Z h0 a1 .char 3 (fun i => .int (f i))) (hf : ∀ j, 0 ≤ (f j).toInt ∧ (f j).toInt ≤ 255) (hp1 : p1 = 0) (hp2 : p2 = 3) :
    MetFree l (⟨"java/lang/StringUTF16", "compress", "([CII)[B"⟩ : MethodName) (head1 (Jvm.Cond.code (⟨"java/lang/StringUTF16", "compress", "([CII)[B"⟩ : MethodName) jdk_52_method_16_code 6 (some (.array .byte)) :: ws) ({ frames := 1, cells := 1, slots := 3, locals := 18 } : Room)) (fun a U => a = #[(.ref a1), (.int p1), (.int p2)] ∧ Z.Warmed39 U.vm ∧ U.heap = h0) (fun _ _ _ _ _ => True) (fun _ U o U' => ∃ v L, o = .returned v ∧ (own_QU3 Z a1 p1 p2 h0 n0) v U'.heap L ∧ FrameEnd U o U' L ({ frames := 1, cells := 1, slots := 3, locals := 18 } : Room).cells ({ frames := 1, cells := 1, slots := 3, locals := 18 } : Room).slots) := by
  refine own_body (y := (⟨"java/lang/StringUTF16", "compress", "([CII)[B"⟩ : MethodName)) (Q := own_QU3 Z a1 p1 p2 h0 n0) (rm := ({ frames := 1, cells := 1, slots := 3, locals := 18 } : Room)) (as' := #[(.ref a1), (.int p1), (.int p2)]) (h0 := h0) (Z := Z) own_pnU3 ?_
  intro p e s m below meth c s₁ hx hby hml hown hnm hret hlk hZ X0 e0
  have hown : s.vm.findClass "java/lang/StringUTF16" = some m.cls := hown
  rw [own_efU3]
  subst hp1 hp2
  refine own_iload_n X0 hx (hb hby dU3_0) rfl (q := 1) rfl ?_
  refine own_newP X0 hx hZ (hw _ (List.mem_of_getElem? (i := 19) rfl)) e0 (hb hby dU3_1) (N := 3) (rfl) (cap := 3) (by decide) (by decide) (by decide) (by decide) (q := 3) rfl ?_
  intro T1 h1_ b1 g1 X1 e1 E1 A1
  have ne_a1_b1 : a1 ≠ b1 := Nat.ne_of_lt (by rw [g1]; exact AC.lt)
  have AC_1 := AC.ext E1
  have KK1 := Keep.ext (Keep.refl h0 []) E1
  have o1 : h0.size ≤ b1 := by rw [g1]; exact (Nat.le_refl _)
  have p1_ : n0 ≤ b1 := Nat.le_trans hn0 o1
  have z1_ : h0.size ≤ h1_.size := Nat.le_trans (Nat.le_refl _) E1.1
  have A1 : own_Arr Z h1_ b1 .byte 3 (fun i => .int (own_zero i)) := A1
  refine own_astore_n X1 hx (hb hby dU3_3) rfl (l' := #[.val (.ref a1), .val (.int (0 : Int32)), .val (.int (3 : Int32)), .val (.ref b1), .unset, .unset]) rfl (q := 4) rfl ?_
  refine own_aload_n X1 hx (hb hby dU3_4) rfl rfl (q := 5) rfl ?_
  refine own_iload_n X1 hx (hb hby dU3_5) rfl (q := 6) rfl ?_
  refine own_aload_n X1 hx (hb hby dU3_6) rfl rfl (q := 7) rfl ?_
  refine own_iconst X1 hx (hb hby dU3_7) (v := (0 : Int32)) rfl (q := 8) rfl ?_
  refine own_iload_n X1 hx (hb hby dU3_8) rfl (q := 9) rfl ?_
  refine own_callS X1 hx hZ hown (hw _ (List.mem_of_getElem? (i := 80) rfl)) (hw _ (List.mem_of_getElem? (i := 81) rfl)) (hw _ (List.mem_of_getElem? (i := 78) rfl)) (hw _ (List.mem_of_getElem? (i := 82) rfl)) (by decide) (own_rmK3 l Z a0 hw [] a1 (0 : Int32) b1 (0 : Int32) (3 : Int32) f own_zero h1_ n0 (Nat.le_trans hn0 z1_) p1_ ne_a1_b1 AC_1 hf A1 rfl rfl rfl) (by decide) (by decide) e1 (by rw [hml]; rfl) (argsL := [(.ref a1), (.int (0 : Int32)), (.ref b1), (.int (0 : Int32)), (.int (3 : Int32))]) (rest := []) (lenOf own_pd0 rfl) rfl (W := 0) rfl (hb hby dU3_9) (q := 12) rfl rfl (by decide) (by decide) ?_
  rintro _ T2 L2 ⟨rfl, NL2, K2, g2_, A2⟩ X2
  have N2 := Fr.app (Fr.nil n0) NL2
  obtain ⟨h2_, e2⟩ : ∃ z, T2.heap = z := ⟨_, rfl⟩
  rw [e2] at K2 A2
  have AC_2 := AC_1.keep K2 (ninS ne_a1_b1 nin0)
  have KK2 := Keep.trans KK1 K2 (allS (Or.inr o1) all0)
  have z2_ : h0.size ≤ h2_.size := Nat.le_trans z1_ K2.1
  obtain ⟨LL2, eL2⟩ : ∃ z, [] ++ L2 = z := ⟨_, rfl⟩
  rw [eL2] at X2 N2
  show own_G p e below _ (T2.setTop (mkF m 12 #[.val (.ref a1), .val (.int (0 : Int32)), .val (.int (3 : Int32)), .val (.ref b1), .unset, .unset] [(.int (3 : Int32))]))
  refine own_istore X2 hx (hb hby dU3_12) (l' := #[.val (.ref a1), .val (.int (0 : Int32)), .val (.int (3 : Int32)), .val (.ref b1), .val (.int (3 : Int32)), .unset]) rfl (q := 14) rfl ?_
  refine own_iload X2 hx (hb hby dU3_14) rfl (q := 16) rfl ?_
  refine own_iload_n X2 hx (hb hby dU3_16) rfl (q := 17) rfl ?_
  refine own_icmp X2 hx (hb hby dU3_17) (by decide) (q := 57) rfl (q' := 20) rfl (own_h_eq _ _) (fun h17 => ?_) (fun h17 => ?_)
  · replace h17 : (3 : Int) = (3 : Int) := h17
    refine own_aload_n X2 hx (hb hby dU3_57) rfl rfl (q := 58) rfl ?_
    exact own_retA X2 hx rfl hret rfl hlk (hb hby dU3_58) (by decide) (by decide) (by rw [e2]; unfold own_QU3; exact ⟨_, rfl, p1_, N2, KK2, _, A2⟩)
  · replace h17 : ¬ ((3 : Int) = (3 : Int)) := h17
    exact absurd h17 (by decide)
theorem dL2_0 : decode jdk_52_method_15_code 0 = .ok (.iload_n 1, 1) := by decide +kernel
theorem dL2_1 : decode jdk_52_method_15_code 1 = .ok (.aload_n 0, 1) := by decide +kernel
theorem dL2_2 : decode jdk_52_method_15_code 2 = .ok (.arraylength, 1) := by decide +kernel
theorem dL2_3 : decode jdk_52_method_15_code 3 = .ok (.isub, 1) := by decide +kernel
theorem dL2_4 : decode jdk_52_method_15_code 4 = .ok (.bipush 31, 2) := by decide +kernel
theorem dL2_6 : decode jdk_52_method_15_code 6 = .ok (.iushr, 1) := by decide +kernel
theorem dL2_7 : decode jdk_52_method_15_code 7 = .ok (.i2b, 1) := by decide +kernel
theorem dL2_8 : decode jdk_52_method_15_code 8 = .ok (.ireturn, 1) := by decide +kernel
theorem own_pnL2 : plainFor (⟨"java/lang/StringUTF16", "coderFromArrayLen", "([BI)B"⟩ : MethodName) = true := plainFor_of_name (show plainName "java/lang/StringUTF16" = true by first | (simp [plainName, overriddenIn]; done) | decide +kernel)
theorem own_efL2 (m : MethodId) (a1 : Addr) (p1 : Int32)  : entryFrame m #[(.ref a1), (.int p1)] 2 = mkF m 0 #[.val (.ref a1), .val (.int p1)] [] := by first | (simp [entryFrame, mkF, argsToLocals, Value.category, maxLocals]; done) | rfl
set_option maxRecDepth 65536 in
set_option maxHeartbeats 40000000 in
theorem own_rmL2 (l : Launch) (Z : State) (a0 : Array Value) (hw : ∀ d ∈ tables_1, d.before a0 Z = true) (ws : List Jvm.Cond) (a1 : Addr) (p1 : Int32) (f : Nat → Int32) (h0 : Heap) (AB : own_Arr Z h0 a1 .byte 2 (fun i => .int (f i))) (hp1 : p1 = 2) :
    MetFree l (⟨"java/lang/StringUTF16", "coderFromArrayLen", "([BI)B"⟩ : MethodName) (head1 (Jvm.Cond.code (⟨"java/lang/StringUTF16", "coderFromArrayLen", "([BI)B"⟩ : MethodName) jdk_52_method_15_code 2 (some .byte) :: ws) ({ frames := 0, cells := 0, slots := 0, locals := 0 } : Room)) (fun a U => a = #[(.ref a1), (.int p1)] ∧ Z.Warmed39 U.vm ∧ U.heap = h0) (fun _ _ _ _ _ => True) (fun _ U o U' => ∃ v L, o = .returned v ∧ (fun v h L => (∃ w, v = some w ∧ (fun w => w = .int 0) w) ∧ L = [] ∧ h = h0) v U'.heap L ∧ FrameEnd U o U' L ({ frames := 0, cells := 0, slots := 0, locals := 0 } : Room).cells ({ frames := 0, cells := 0, slots := 0, locals := 0 } : Room).slots) := by
  refine own_body (y := (⟨"java/lang/StringUTF16", "coderFromArrayLen", "([BI)B"⟩ : MethodName)) (Q := fun v h L => (∃ w, v = some w ∧ (fun w => w = .int 0) w) ∧ L = [] ∧ h = h0) (rm := ({ frames := 0, cells := 0, slots := 0, locals := 0 } : Room)) (as' := #[(.ref a1), (.int p1)]) (h0 := h0) (Z := Z) own_pnL2 ?_
  intro p e s m below meth c s₁ hx hby hml hown hnm hret hlk hZ X0 e0
  have hown : s.vm.findClass "java/lang/StringUTF16" = some m.cls := hown
  rw [own_efL2]
  subst hp1
  refine own_iload_n X0 hx (hb hby dL2_0) rfl (q := 1) rfl ?_
  refine own_aload_n X0 hx (hb hby dL2_1) rfl rfl (q := 2) rfl ?_
  refine own_arraylength X0 hx hZ e0 AB (hb hby dL2_2) (v := (2 : Int32)) rfl (q := 3) rfl ?_
  refine own_isub X0 hx (hb hby dL2_3) (q := 4) rfl ?_
  rw [show ((2 : Int32) - (2 : Int32)) = (0 : Int32) by decide]
  refine own_bipush X0 hx (hb hby dL2_4) (v := (31 : Int32)) rfl (q := 6) rfl ?_
  refine own_iushr X0 hx (hb hby dL2_6) (q := 7) rfl ?_
  rw [show (XT.ushr (0 : Int32) (31 : Int32)) = (0 : Int32) by decide]
  refine own_i2b X0 hx (hb hby dL2_7) (q := 8) rfl ?_
  rw [show ((0 : Int32).toInt8.toInt32) = (0 : Int32) by decide]
  exact own_retN X0 hx (t := .byte) hret hlk (by simp) (hb hby dL2_8) (by decide) (by decide) (w := (0 : Int32)) rfl ⟨⟨_, rfl, rfl⟩, rfl, e0⟩
theorem dL3_0 : decode jdk_52_method_15_code 0 = .ok (.iload_n 1, 1) := by decide +kernel
theorem dL3_1 : decode jdk_52_method_15_code 1 = .ok (.aload_n 0, 1) := by decide +kernel
theorem dL3_2 : decode jdk_52_method_15_code 2 = .ok (.arraylength, 1) := by decide +kernel
theorem dL3_3 : decode jdk_52_method_15_code 3 = .ok (.isub, 1) := by decide +kernel
theorem dL3_4 : decode jdk_52_method_15_code 4 = .ok (.bipush 31, 2) := by decide +kernel
theorem dL3_6 : decode jdk_52_method_15_code 6 = .ok (.iushr, 1) := by decide +kernel
theorem dL3_7 : decode jdk_52_method_15_code 7 = .ok (.i2b, 1) := by decide +kernel
theorem dL3_8 : decode jdk_52_method_15_code 8 = .ok (.ireturn, 1) := by decide +kernel
theorem own_pnL3 : plainFor (⟨"java/lang/StringUTF16", "coderFromArrayLen", "([BI)B"⟩ : MethodName) = true := plainFor_of_name (show plainName "java/lang/StringUTF16" = true by first | (simp [plainName, overriddenIn]; done) | decide +kernel)
theorem own_efL3 (m : MethodId) (a1 : Addr) (p1 : Int32)  : entryFrame m #[(.ref a1), (.int p1)] 2 = mkF m 0 #[.val (.ref a1), .val (.int p1)] [] := by first | (simp [entryFrame, mkF, argsToLocals, Value.category, maxLocals]; done) | rfl
set_option maxRecDepth 65536 in
set_option maxHeartbeats 40000000 in
theorem own_rmL3 (l : Launch) (Z : State) (a0 : Array Value) (hw : ∀ d ∈ tables_1, d.before a0 Z = true) (ws : List Jvm.Cond) (a1 : Addr) (p1 : Int32) (f : Nat → Int32) (h0 : Heap) (AB : own_Arr Z h0 a1 .byte 3 (fun i => .int (f i))) (hp1 : p1 = 3) :
    MetFree l (⟨"java/lang/StringUTF16", "coderFromArrayLen", "([BI)B"⟩ : MethodName) (head1 (Jvm.Cond.code (⟨"java/lang/StringUTF16", "coderFromArrayLen", "([BI)B"⟩ : MethodName) jdk_52_method_15_code 2 (some .byte) :: ws) ({ frames := 0, cells := 0, slots := 0, locals := 0 } : Room)) (fun a U => a = #[(.ref a1), (.int p1)] ∧ Z.Warmed39 U.vm ∧ U.heap = h0) (fun _ _ _ _ _ => True) (fun _ U o U' => ∃ v L, o = .returned v ∧ (fun v h L => (∃ w, v = some w ∧ (fun w => w = .int 0) w) ∧ L = [] ∧ h = h0) v U'.heap L ∧ FrameEnd U o U' L ({ frames := 0, cells := 0, slots := 0, locals := 0 } : Room).cells ({ frames := 0, cells := 0, slots := 0, locals := 0 } : Room).slots) := by
  refine own_body (y := (⟨"java/lang/StringUTF16", "coderFromArrayLen", "([BI)B"⟩ : MethodName)) (Q := fun v h L => (∃ w, v = some w ∧ (fun w => w = .int 0) w) ∧ L = [] ∧ h = h0) (rm := ({ frames := 0, cells := 0, slots := 0, locals := 0 } : Room)) (as' := #[(.ref a1), (.int p1)]) (h0 := h0) (Z := Z) own_pnL3 ?_
  intro p e s m below meth c s₁ hx hby hml hown hnm hret hlk hZ X0 e0
  have hown : s.vm.findClass "java/lang/StringUTF16" = some m.cls := hown
  rw [own_efL3]
  subst hp1
  refine own_iload_n X0 hx (hb hby dL3_0) rfl (q := 1) rfl ?_
  refine own_aload_n X0 hx (hb hby dL3_1) rfl rfl (q := 2) rfl ?_
  refine own_arraylength X0 hx hZ e0 AB (hb hby dL3_2) (v := (3 : Int32)) rfl (q := 3) rfl ?_
  refine own_isub X0 hx (hb hby dL3_3) (q := 4) rfl ?_
  rw [show ((3 : Int32) - (3 : Int32)) = (0 : Int32) by decide]
  refine own_bipush X0 hx (hb hby dL3_4) (v := (31 : Int32)) rfl (q := 6) rfl ?_
  refine own_iushr X0 hx (hb hby dL3_6) (q := 7) rfl ?_
  rw [show (XT.ushr (0 : Int32) (31 : Int32)) = (0 : Int32) by decide]
  refine own_i2b X0 hx (hb hby dL3_7) (q := 8) rfl ?_
  rw [show ((0 : Int32).toInt8.toInt32) = (0 : Int32) by decide]
  exact own_retN X0 hx (t := .byte) hret hlk (by simp) (hb hby dL3_8) (by decide) (by decide) (w := (0 : Int32)) rfl ⟨⟨_, rfl, rfl⟩, rfl, e0⟩
theorem dI0_0 : decode jdk_42_method_149_code 0 = .ok (.aload_n 0, 1) := by decide +kernel
theorem dI0_1 : decode jdk_42_method_149_code 1 = .ok (.invokespecial 1, 3) := by decide +kernel
theorem dI0_4 : decode jdk_42_method_149_code 4 = .ok (.iload_n 3, 1) := by decide +kernel
theorem dI0_5 : decode jdk_42_method_149_code 5 = .ok (.ifCond .ne 22, 3) := by decide +kernel
theorem dI0_8 : decode jdk_42_method_149_code 8 = .ok (.aload_n 0, 1) := by decide +kernel
theorem dI0_9 : decode jdk_42_method_149_code 9 = .ok (.ldc 7, 2) := by decide +kernel
theorem dI0_11 : decode jdk_42_method_149_code 11 = .ok (.getfield 9, 3) := by decide +kernel
theorem dI0_14 : decode jdk_42_method_149_code 14 = .ok (.putfield 9, 3) := by decide +kernel
theorem dI0_17 : decode jdk_42_method_149_code 17 = .ok (.aload_n 0, 1) := by decide +kernel
theorem dI0_18 : decode jdk_42_method_149_code 18 = .ok (.ldc 7, 2) := by decide +kernel
theorem dI0_20 : decode jdk_42_method_149_code 20 = .ok (.getfield 15, 3) := by decide +kernel
theorem dI0_23 : decode jdk_42_method_149_code 23 = .ok (.putfield 15, 3) := by decide +kernel
theorem dI0_26 : decode jdk_42_method_149_code 26 = .ok (.return_, 1) := by decide +kernel
def own_QI0 (Z : State) (a1 : Addr) (a2 : Addr) (p1 : Int32) (p2 : Int32) (h0 : Heap) (n0 : Nat) : Option Value → Heap → List Loc → Prop := fun v h L => v = none ∧ Fr n0 L ∧ Keep h0 h [a1]
theorem own_pnI0 : plainFor (⟨"java/lang/String", "<init>", "([CIILjava/lang/Void;)V"⟩ : MethodName) = true := plainFor_of_name (show plainName "java/lang/String" = true by first | (simp [plainName, overriddenIn]; done) | decide +kernel)
theorem own_efI0 (m : MethodId) (a1 : Addr) (a2 : Addr) (p1 : Int32) (p2 : Int32)  : entryFrame m #[(.ref a1), (.ref a2), (.int p1), (.int p2), .null] 6 = mkF m 0 #[.val (.ref a1), .val (.ref a2), .val (.int p1), .val (.int p2), .val .null, .unset] [] := by first | (simp [entryFrame, mkF, argsToLocals, Value.category, maxLocals]; done) | rfl
set_option maxRecDepth 65536 in
set_option maxHeartbeats 40000000 in
theorem own_rmI0 (l : Launch) (Z : State) (a0 : Array Value) (hw : ∀ d ∈ tables_1, d.before a0 Z = true) (ws : List Jvm.Cond) (a1 : Addr) (a2 : Addr) (p1 : Int32) (p2 : Int32)  (h0 : Heap) (n0 : Nat) (hn0 : n0 ≤ h0.size) (ha : n0 ≤ a1) (E : Exa Z h0 a1 "java/lang/String") (F1 : Fld Z h0 a1 "java/lang/String" "value" "[B" (.null)) (F2 : Fld Z h0 a1 "java/lang/String" "coder" "B" (.int 0)) (hp1 : p1 = 0) (hp2 : p2 = 0) :
    MetFree l (⟨"java/lang/String", "<init>", "([CIILjava/lang/Void;)V"⟩ : MethodName) (head1 (Jvm.Cond.code (⟨"java/lang/String", "<init>", "([CIILjava/lang/Void;)V"⟩ : MethodName) jdk_42_method_149_code 6 none :: ws) ({ frames := 1, cells := 4, slots := 8, locals := 12 } : Room)) (fun a U => a = #[(.ref a1), (.ref a2), (.int p1), (.int p2), .null] ∧ Z.Warmed39 U.vm ∧ U.heap = h0 ∧ CHv Z consts_1 U.vm h0 ∧ ∀ x ∈ ([a1] : List Addr), Safe Z consts_1 U.vm h0 x) (fun _ _ _ _ _ => True) (fun _ U o U' => ∃ v L, o = .returned v ∧ (own_QI0 Z a1 a2 p1 p2 h0 n0) v U'.heap L ∧ CHr Z consts_1 U.vm U.heap U'.vm U'.heap ∧ ReturnedEndW U o U' L ({ frames := 1, cells := 4, slots := 8, locals := 12 } : Room).cells ({ frames := 1, cells := 4, slots := 8, locals := 12 } : Room).slots) := by
  refine own_Wbody (EL := consts_1) (y := (⟨"java/lang/String", "<init>", "([CIILjava/lang/Void;)V"⟩ : MethodName)) (Q := own_QI0 Z a1 a2 p1 p2 h0 n0) (rm := ({ frames := 1, cells := 4, slots := 8, locals := 12 } : Room)) (as' := #[(.ref a1), (.ref a2), (.int p1), (.int p2), .null]) (h0 := h0) (Z := Z) (sf := [a1]) own_pnI0 ?_
  intro p e s m below meth c s₁ hx hby hml hown hnm hret hlk hZ X0 e0 hS hk HC0 hsf0
  have hown : s.vm.findClass "java/lang/String" = some m.cls := hown
  rw [own_efI0]
  have SP0 := hsf0 a1 (List.mem_of_getElem? (i := 0) rfl)
  subst hp1 hp2
  refine own_aload_n X0 hx (hb hby dI0_0) rfl rfl (q := 1) rfl ?_
  refine own_initO X0 hx hZ hown (hw _ (List.mem_of_getElem? (i := 15) rfl)) (hw _ (List.mem_of_getElem? (i := 16) rfl)) (hw _ (List.mem_of_getElem? (i := 17) rfl)) e0 (by rw [hml]; rfl) (hb hby dI0_1) (by decide) (W := 0) rfl (by decide) (q := 4) rfl ?_
  intro T1 X1 e1
  refine own_iload_n X1 hx (hb hby dI0_4) rfl (q := 5) rfl ?_
  refine own_if X1 hx (hb hby dI0_5) (by decide) (q := 27) rfl (q' := 8) rfl (own_z_ne _) (fun h5 => ?_) (fun h5 => ?_)
  · replace h5 : (0 : Int) ≠ 0 := h5
    exact absurd h5 (by decide)
  · replace h5 : ¬ ((0 : Int) ≠ 0) := h5
    refine own_aload_n X1 hx (hb hby dI0_8) rfl rfl (q := 9) rfl ?_
    refine own_Wldc X1 hx hZ hown (hw _ (List.mem_of_getElem? (i := 18) rfl)) (own_wS hw) e1 hS hk (own_EW hw) (by simp [consts_1]) HC0 (by decide) (N := 0) (z := 0) (by decide) (by decide) (by decide) (by decide) (hb hby dI0_9) (n' := 0) (by decide) (by decide) (by decide) (by decide) (q := 11) rfl ?_
    intro T2 h2_ kk2 c2 b2 X2 e2 E2 hS hk hZ hown Q2 C2 V2 A2 HC2 LT2 SF2
    have SN2_a1 := SF2 a1 E.lt SP0
    have SP0_2 := SN2_a1.1
    have E_2 := E.ext E2
    have F1_2 := F1.ext E2
    have F2_2 := F2.ext E2
    have KK2 := Keep.ext (Keep.refl h0 [a1]) E2
    have z2_ : h0.size ≤ h2_.size := Nat.le_trans (Nat.le_refl _) E2.1
    refine own_getF X2 hx hZ hown (hw _ (List.mem_of_getElem? (i := 24) rfl)) e2 V2 (hb hby dI0_11) (q := 14) rfl ?_
    intro T3 X3 e3
    refine own_putF X3 hx hZ hown (hw _ (List.mem_of_getElem? (i := 24) rfl)) e3 F1_2 E_2 (Or.inr ⟨(hw _ (List.mem_of_getElem? (i := 20) rfl)), rfl, hnm⟩) (hw _ (List.mem_of_getElem? (i := 5) rfl)) (ft := (.array .byte)) (by decide) rfl rfl (hb hby dI0_14) (Fr.nil n0) ha (q := 17) rfl ?_
    intro T4 h4_ L4 X4 N4 e4 W4
    have K4 := Keep.of_wr W4
    have SP0_4 := Safe.wr W4 SP0_2 HC2.1 SP0_2
    have E_4 := E_2.wr W4
    have F1_4 := F1_2.same W4
    have F2_4 := F2_2.other W4 (Or.inr (slot_ne (Or.inr (hw _ (List.mem_of_getElem? (i := 21) rfl))) (Or.inr (hw _ (List.mem_of_getElem? (i := 20) rfl))) (by decide) (t := .byte) (t' := (.array .byte)) (by decide) (by decide)))
    have Q2_4 := Q2.wr W4
    have C2_4 := C2.keep K4 (ninS SN2_a1.2.1.symm nin0)
    have V2_4 := V2.keep K4 (ninS SN2_a1.2.1.symm nin0)
    have A2_4 := A2.keep K4 (ninS SN2_a1.2.2.symm nin0)
    have KK4 := Keep.wr KK2 W4 (Or.inl (List.mem_of_getElem? (i := 0) rfl))
    have HC4 := CHr.trans HC2 (CHr.wr W4 SP0_2 HC2.1)
    have hk : _ ≤ h4_.size := Nat.le_trans hk K4.1
    have z4_ : h0.size ≤ h4_.size := Nat.le_trans z2_ K4.1
    refine own_aload_n X4 hx (hb hby dI0_17) rfl rfl (q := 18) rfl ?_
    refine own_Wldc X4 hx hZ hown (hw _ (List.mem_of_getElem? (i := 18) rfl)) (own_wS hw) e4 hS hk (own_EW hw) (by simp [consts_1]) HC4 (by decide) (N := 0) (z := 0) (by decide) (by decide) (by decide) (by decide) (hb hby dI0_18) (n' := 0) (by decide) (by decide) (by decide) (by decide) (q := 20) rfl ?_
    intro T5 h5_ kk5 c5 b5 X5 e5 E5 hS hk hZ hown Q5 C5 V5 A5 HC5 LT5 SF5
    have SN5_a1 := SF5 a1 E_4.lt SP0_4
    have SP0_5 := SN5_a1.1
    have E_5 := E_4.ext E5
    have F1_5 := F1_4.ext E5
    have F2_5 := F2_4.ext E5
    have Q2_5 := Q2_4.ext E5
    have C2_5 := C2_4.ext E5
    have V2_5 := V2_4.ext E5
    have A2_5 := A2_4.ext E5
    have KK5 := Keep.ext KK4 E5
    have z5_ : h0.size ≤ h5_.size := Nat.le_trans z4_ E5.1
    refine own_getF X5 hx hZ hown (hw _ (List.mem_of_getElem? (i := 25) rfl)) e5 C5 (hb hby dI0_20) (q := 23) rfl ?_
    intro T6 X6 e6
    refine own_putF X6 hx hZ hown (hw _ (List.mem_of_getElem? (i := 25) rfl)) e6 F2_5 E_5 (Or.inr ⟨(hw _ (List.mem_of_getElem? (i := 21) rfl)), rfl, hnm⟩) (hw _ (List.mem_of_getElem? (i := 5) rfl)) (ft := .byte) (by decide) rfl rfl (hb hby dI0_23) N4 ha (q := 26) rfl ?_
    intro T7 h7_ L7 X7 N7 e7 W7
    have K7 := Keep.of_wr W7
    have SP0_7 := Safe.wr W7 SP0_5 HC5.1 SP0_5
    have E_7 := E_5.wr W7
    have F1_7 := F1_5.other W7 (Or.inr (slot_ne (Or.inr (hw _ (List.mem_of_getElem? (i := 20) rfl))) (Or.inr (hw _ (List.mem_of_getElem? (i := 21) rfl))) (by decide) (t := (.array .byte)) (t' := .byte) (by decide) (by decide)))
    have F2_7 := F2_5.same W7
    have Q2_7 := Q2_5.wr W7
    have C2_7 := C2_5.keep K7 (ninS SN2_a1.2.1.symm nin0)
    have V2_7 := V2_5.keep K7 (ninS SN2_a1.2.1.symm nin0)
    have A2_7 := A2_5.keep K7 (ninS SN2_a1.2.2.symm nin0)
    have Q5_7 := Q5.wr W7
    have C5_7 := C5.keep K7 (ninS SN5_a1.2.1.symm nin0)
    have V5_7 := V5.keep K7 (ninS SN5_a1.2.1.symm nin0)
    have A5_7 := A5.keep K7 (ninS SN5_a1.2.2.symm nin0)
    have KK7 := Keep.wr KK5 W7 (Or.inl (List.mem_of_getElem? (i := 0) rfl))
    have HC7 := CHr.trans HC5 (CHr.wr W7 SP0_5 HC5.1)
    have hk : _ ≤ h7_.size := Nat.le_trans hk K7.1
    have z7_ : h0.size ≤ h7_.size := Nat.le_trans z5_ K7.1
    exact own_WretV X7 hx hZ (own_EW hw) hS hk HC7 e7 hret hlk (hb hby dI0_26) (by decide) (by decide) (by rw [e7]; unfold own_QI0; exact ⟨rfl, N7, KK7⟩)
theorem dI2_0 : decode jdk_42_method_149_code 0 = .ok (.aload_n 0, 1) := by decide +kernel
theorem dI2_1 : decode jdk_42_method_149_code 1 = .ok (.invokespecial 1, 3) := by decide +kernel
theorem dI2_4 : decode jdk_42_method_149_code 4 = .ok (.iload_n 3, 1) := by decide +kernel
theorem dI2_5 : decode jdk_42_method_149_code 5 = .ok (.ifCond .ne 22, 3) := by decide +kernel
theorem dI2_27 : decode jdk_42_method_149_code 27 = .ok (.getstatic 38, 3) := by decide +kernel
theorem dI2_30 : decode jdk_42_method_149_code 30 = .ok (.ifCond .eq 28, 3) := by decide +kernel
theorem dI2_33 : decode jdk_42_method_149_code 33 = .ok (.aload_n 1, 1) := by decide +kernel
theorem dI2_34 : decode jdk_42_method_149_code 34 = .ok (.iload_n 2, 1) := by decide +kernel
theorem dI2_35 : decode jdk_42_method_149_code 35 = .ok (.iload_n 3, 1) := by decide +kernel
theorem dI2_36 : decode jdk_42_method_149_code 36 = .ok (.invokestatic 177, 3) := by decide +kernel
theorem dI2_39 : decode jdk_42_method_149_code 39 = .ok (.astore 5, 2) := by decide +kernel
theorem dI2_41 : decode jdk_42_method_149_code 41 = .ok (.aload_n 0, 1) := by decide +kernel
theorem dI2_42 : decode jdk_42_method_149_code 42 = .ok (.aload 5, 2) := by decide +kernel
theorem dI2_44 : decode jdk_42_method_149_code 44 = .ok (.iload_n 3, 1) := by decide +kernel
theorem dI2_45 : decode jdk_42_method_149_code 45 = .ok (.invokestatic 47, 3) := by decide +kernel
theorem dI2_48 : decode jdk_42_method_149_code 48 = .ok (.putfield 15, 3) := by decide +kernel
theorem dI2_51 : decode jdk_42_method_149_code 51 = .ok (.aload_n 0, 1) := by decide +kernel
theorem dI2_52 : decode jdk_42_method_149_code 52 = .ok (.aload 5, 2) := by decide +kernel
theorem dI2_54 : decode jdk_42_method_149_code 54 = .ok (.putfield 9, 3) := by decide +kernel
theorem dI2_57 : decode jdk_42_method_149_code 57 = .ok (.return_, 1) := by decide +kernel
def own_QI2 (Z : State) (a1 : Addr) (a2 : Addr) (p1 : Int32) (p2 : Int32) (h0 : Heap) (n0 : Nat) : Option Value → Heap → List Loc → Prop := fun v h L => v = none ∧ Fr n0 L ∧ Keep h0 h [a1]
theorem own_pnI2 : plainFor (⟨"java/lang/String", "<init>", "([CIILjava/lang/Void;)V"⟩ : MethodName) = true := plainFor_of_name (show plainName "java/lang/String" = true by first | (simp [plainName, overriddenIn]; done) | decide +kernel)
theorem own_efI2 (m : MethodId) (a1 : Addr) (a2 : Addr) (p1 : Int32) (p2 : Int32)  : entryFrame m #[(.ref a1), (.ref a2), (.int p1), (.int p2), .null] 6 = mkF m 0 #[.val (.ref a1), .val (.ref a2), .val (.int p1), .val (.int p2), .val .null, .unset] [] := by first | (simp [entryFrame, mkF, argsToLocals, Value.category, maxLocals]; done) | rfl
set_option maxRecDepth 65536 in
set_option maxHeartbeats 40000000 in
theorem own_rmI2 (l : Launch) (Z : State) (a0 : Array Value) (hw : ∀ d ∈ tables_1, d.before a0 Z = true) (ws : List Jvm.Cond) (a1 : Addr) (a2 : Addr) (p1 : Int32) (p2 : Int32) (f : Nat → Int32) (G1 : Int32) (h0 : Heap) (n0 : Nat) (hn0 : n0 ≤ h0.size) (ha : n0 ≤ a1) (E : Exa Z h0 a1 "java/lang/String") (F1 : Fld Z h0 a1 "java/lang/String" "value" "[B" (.null)) (F2 : Fld Z h0 a1 "java/lang/String" "coder" "B" (.int 0)) (hp1 : p1 = 0) (hp2 : p2 = 2) (hne : a2 ≠ a1) (AC : own_Arr Z h0 a2 .char 2 (fun i => .int (f i))) (hf : ∀ j, 0 ≤ (f j).toInt ∧ (f j).toInt ≤ 255) (ST : Sta Z h0 "java/lang/String" "COMPACT_STRINGS" "Z" (.int G1)) (hG : G1.toInt ≠ 0) :
    MetFree l (⟨"java/lang/String", "<init>", "([CIILjava/lang/Void;)V"⟩ : MethodName) (head1 (Jvm.Cond.code (⟨"java/lang/String", "<init>", "([CIILjava/lang/Void;)V"⟩ : MethodName) jdk_42_method_149_code 6 none :: ws) ({ frames := 2, cells := 1, slots := 2, locals := 35 } : Room)) (fun a U => a = #[(.ref a1), (.ref a2), (.int p1), (.int p2), .null] ∧ Z.Warmed39 U.vm ∧ U.heap = h0) (fun _ _ _ _ _ => True) (fun _ U o U' => ∃ v L, o = .returned v ∧ (own_QI2 Z a1 a2 p1 p2 h0 n0) v U'.heap L ∧ FrameEnd U o U' L ({ frames := 2, cells := 1, slots := 2, locals := 35 } : Room).cells ({ frames := 2, cells := 1, slots := 2, locals := 35 } : Room).slots) := by
  refine own_body (y := (⟨"java/lang/String", "<init>", "([CIILjava/lang/Void;)V"⟩ : MethodName)) (Q := own_QI2 Z a1 a2 p1 p2 h0 n0) (rm := ({ frames := 2, cells := 1, slots := 2, locals := 35 } : Room)) (as' := #[(.ref a1), (.ref a2), (.int p1), (.int p2), .null]) (h0 := h0) (Z := Z) own_pnI2 ?_
  intro p e s m below meth c s₁ hx hby hml hown hnm hret hlk hZ X0 e0
  have hown : s.vm.findClass "java/lang/String" = some m.cls := hown
  rw [own_efI2]
  subst hp1 hp2
  refine own_aload_n X0 hx (hb hby dI2_0) rfl rfl (q := 1) rfl ?_
  refine own_initO X0 hx hZ hown (hw _ (List.mem_of_getElem? (i := 15) rfl)) (hw _ (List.mem_of_getElem? (i := 16) rfl)) (hw _ (List.mem_of_getElem? (i := 17) rfl)) e0 (by rw [hml]; rfl) (hb hby dI2_1) (by decide) (W := 0) rfl (by decide) (q := 4) rfl ?_
  intro T1 X1 e1
  refine own_iload_n X1 hx (hb hby dI2_4) rfl (q := 5) rfl ?_
  refine own_if X1 hx (hb hby dI2_5) (by decide) (q := 27) rfl (q' := 8) rfl (own_z_ne _) (fun h5 => ?_) (fun h5 => ?_)
  · replace h5 : (2 : Int) ≠ 0 := h5
    refine own_getS X1 hx hZ hown (hw _ (List.mem_of_getElem? (i := 75) rfl)) e1 ST (hb hby dI2_27) (q := 30) rfl ?_
    intro T2 X2 e2
    refine own_if X2 hx (hb hby dI2_30) (by decide) (q := 58) rfl (q' := 33) rfl (own_z_eq _) (fun h30 => ?_) (fun h30 => ?_)
    · replace h30 : G1.toInt = 0 := h30
      exfalso; omega
    · replace h30 : ¬ (G1.toInt = 0) := h30
      refine own_aload_n X2 hx (hb hby dI2_33) rfl rfl (q := 34) rfl ?_
      refine own_iload_n X2 hx (hb hby dI2_34) rfl (q := 35) rfl ?_
      refine own_iload_n X2 hx (hb hby dI2_35) rfl (q := 36) rfl ?_
      refine own_callS X2 hx hZ hown (hw _ (List.mem_of_getElem? (i := 76) rfl)) (hw _ (List.mem_of_getElem? (i := 77) rfl)) (hw _ (List.mem_of_getElem? (i := 78) rfl)) (hw _ (List.mem_of_getElem? (i := 79) rfl)) (by decide) (own_rmU2 l Z a0 hw [] a2 (0 : Int32) (2 : Int32) f h0 n0 (Nat.le_trans hn0 (Nat.le_refl _)) AC hf rfl rfl) (by decide) (by decide) e2 (by rw [hml]; rfl) (argsL := [(.ref a2), (.int (0 : Int32)), (.int (2 : Int32))]) (rest := []) (lenOf own_pd1 rfl) rfl (W := 0) rfl (hb hby dI2_36) (q := 39) rfl rfl (by decide) (by decide) ?_
      rintro _ T3 L3 ⟨b3, rfl, o3, NL3, K3, g3_, AA3⟩ X3
      have N3 := Fr.app (Fr.nil n0) NL3
      obtain ⟨h3_, e3⟩ : ∃ z, T3.heap = z := ⟨_, rfl⟩
      rw [e3] at K3
      have E3 := own_kext K3
      have E_3 := E.ext E3
      have F1_3 := F1.ext E3
      have F2_3 := F2.ext E3
      have AC_3 := AC.ext E3
      have ST_3 := ST.ext E3
      have KK3 := Keep.ext (Keep.refl h0 [a1]) E3
      have z3_ : h0.size ≤ h3_.size := Nat.le_trans (Nat.le_refl _) K3.1
      obtain ⟨LL3, eL3⟩ : ∃ z, [] ++ L3 = z := ⟨_, rfl⟩
      rw [eL3] at X3 N3
      show own_G p e below _ (T3.setTop (mkF m 39 #[.val (.ref a1), .val (.ref a2), .val (.int (0 : Int32)), .val (.int (2 : Int32)), .val .null, .unset] [(.ref b3)]))
      rw [e3] at AA3
      refine own_astore X3 hx (hb hby dI2_39) rfl (l' := #[.val (.ref a1), .val (.ref a2), .val (.int (0 : Int32)), .val (.int (2 : Int32)), .val .null, .val (.ref b3)]) rfl (q := 41) rfl ?_
      refine own_aload_n X3 hx (hb hby dI2_41) rfl rfl (q := 42) rfl ?_
      refine own_aload X3 hx (hb hby dI2_42) rfl rfl (q := 44) rfl ?_
      refine own_iload_n X3 hx (hb hby dI2_44) rfl (q := 45) rfl ?_
      refine own_callSP X3 hx hZ hown (hw _ (List.mem_of_getElem? (i := 83) rfl)) (hw _ (List.mem_of_getElem? (i := 84) rfl)) (hw _ (List.mem_of_getElem? (i := 78) rfl)) (hw _ (List.mem_of_getElem? (i := 85) rfl)) (by decide) (own_rmL2 l Z a0 hw [] b3 (2 : Int32) g3_ h3_ AA3 rfl) (by decide) (by decide) e3 (by rw [hml]; rfl) (argsL := [(.ref b3), (.int (2 : Int32))]) (rest := [(.ref a1)]) (lenOf own_pd2 rfl) rfl (W := 1) rfl (hb hby dI2_45) (q := 48) rfl rfl rfl rfl (by decide) (by decide) ?_
      rintro _ T4 rfl X4 e4
      refine own_putF X4 hx hZ hown (hw _ (List.mem_of_getElem? (i := 25) rfl)) e4 F2_3 E_3 (Or.inr ⟨(hw _ (List.mem_of_getElem? (i := 21) rfl)), rfl, hnm⟩) (hw _ (List.mem_of_getElem? (i := 5) rfl)) (ft := .byte) (by decide) rfl rfl (hb hby dI2_48) N3 ha (q := 51) rfl ?_
      intro T5 h5_ L5 X5 N5 e5 W5
      have K5 := Keep.of_wr W5
      have E_5 := E_3.wr W5
      have F1_5 := F1_3.other W5 (Or.inr (slot_ne (Or.inr (hw _ (List.mem_of_getElem? (i := 20) rfl))) (Or.inr (hw _ (List.mem_of_getElem? (i := 21) rfl))) (by decide) (t := (.array .byte)) (t' := .byte) (by decide) (by decide)))
      have F2_5 := F2_3.same W5
      have KK5 := Keep.wr KK3 W5 (Or.inl (List.mem_of_getElem? (i := 0) rfl))
      have z5_ : h0.size ≤ h5_.size := Nat.le_trans z3_ K5.1
      refine own_aload_n X5 hx (hb hby dI2_51) rfl rfl (q := 52) rfl ?_
      refine own_aload X5 hx (hb hby dI2_52) rfl rfl (q := 54) rfl ?_
      refine own_putF X5 hx hZ hown (hw _ (List.mem_of_getElem? (i := 24) rfl)) e5 F1_5 E_5 (Or.inr ⟨(hw _ (List.mem_of_getElem? (i := 20) rfl)), rfl, hnm⟩) (hw _ (List.mem_of_getElem? (i := 5) rfl)) (ft := (.array .byte)) (by decide) rfl rfl (hb hby dI2_54) N5 ha (q := 57) rfl ?_
      intro T6 h6_ L6 X6 N6 e6 W6
      have K6 := Keep.of_wr W6
      have E_6 := E_5.wr W6
      have F1_6 := F1_5.same W6
      have F2_6 := F2_5.other W6 (Or.inr (slot_ne (Or.inr (hw _ (List.mem_of_getElem? (i := 21) rfl))) (Or.inr (hw _ (List.mem_of_getElem? (i := 20) rfl))) (by decide) (t := .byte) (t' := (.array .byte)) (by decide) (by decide)))
      have KK6 := Keep.wr KK5 W6 (Or.inl (List.mem_of_getElem? (i := 0) rfl))
      have z6_ : h0.size ≤ h6_.size := Nat.le_trans z5_ K6.1
      exact own_retV X6 hx hret hlk (hb hby dI2_57) (by decide) (by decide) (by rw [e6]; unfold own_QI2; exact ⟨rfl, N6, KK6⟩)
  · replace h5 : ¬ ((2 : Int) ≠ 0) := h5
    exact absurd h5 (by decide)
theorem dI3_0 : decode jdk_42_method_149_code 0 = .ok (.aload_n 0, 1) := by decide +kernel
theorem dI3_1 : decode jdk_42_method_149_code 1 = .ok (.invokespecial 1, 3) := by decide +kernel
theorem dI3_4 : decode jdk_42_method_149_code 4 = .ok (.iload_n 3, 1) := by decide +kernel
theorem dI3_5 : decode jdk_42_method_149_code 5 = .ok (.ifCond .ne 22, 3) := by decide +kernel
theorem dI3_27 : decode jdk_42_method_149_code 27 = .ok (.getstatic 38, 3) := by decide +kernel
theorem dI3_30 : decode jdk_42_method_149_code 30 = .ok (.ifCond .eq 28, 3) := by decide +kernel
theorem dI3_33 : decode jdk_42_method_149_code 33 = .ok (.aload_n 1, 1) := by decide +kernel
theorem dI3_34 : decode jdk_42_method_149_code 34 = .ok (.iload_n 2, 1) := by decide +kernel
theorem dI3_35 : decode jdk_42_method_149_code 35 = .ok (.iload_n 3, 1) := by decide +kernel
theorem dI3_36 : decode jdk_42_method_149_code 36 = .ok (.invokestatic 177, 3) := by decide +kernel
theorem dI3_39 : decode jdk_42_method_149_code 39 = .ok (.astore 5, 2) := by decide +kernel
theorem dI3_41 : decode jdk_42_method_149_code 41 = .ok (.aload_n 0, 1) := by decide +kernel
theorem dI3_42 : decode jdk_42_method_149_code 42 = .ok (.aload 5, 2) := by decide +kernel
theorem dI3_44 : decode jdk_42_method_149_code 44 = .ok (.iload_n 3, 1) := by decide +kernel
theorem dI3_45 : decode jdk_42_method_149_code 45 = .ok (.invokestatic 47, 3) := by decide +kernel
theorem dI3_48 : decode jdk_42_method_149_code 48 = .ok (.putfield 15, 3) := by decide +kernel
theorem dI3_51 : decode jdk_42_method_149_code 51 = .ok (.aload_n 0, 1) := by decide +kernel
theorem dI3_52 : decode jdk_42_method_149_code 52 = .ok (.aload 5, 2) := by decide +kernel
theorem dI3_54 : decode jdk_42_method_149_code 54 = .ok (.putfield 9, 3) := by decide +kernel
theorem dI3_57 : decode jdk_42_method_149_code 57 = .ok (.return_, 1) := by decide +kernel
def own_QI3 (Z : State) (a1 : Addr) (a2 : Addr) (p1 : Int32) (p2 : Int32) (h0 : Heap) (n0 : Nat) : Option Value → Heap → List Loc → Prop := fun v h L => v = none ∧ Fr n0 L ∧ Keep h0 h [a1]
theorem own_pnI3 : plainFor (⟨"java/lang/String", "<init>", "([CIILjava/lang/Void;)V"⟩ : MethodName) = true := plainFor_of_name (show plainName "java/lang/String" = true by first | (simp [plainName, overriddenIn]; done) | decide +kernel)
theorem own_efI3 (m : MethodId) (a1 : Addr) (a2 : Addr) (p1 : Int32) (p2 : Int32)  : entryFrame m #[(.ref a1), (.ref a2), (.int p1), (.int p2), .null] 6 = mkF m 0 #[.val (.ref a1), .val (.ref a2), .val (.int p1), .val (.int p2), .val .null, .unset] [] := by first | (simp [entryFrame, mkF, argsToLocals, Value.category, maxLocals]; done) | rfl
set_option maxRecDepth 65536 in
set_option maxHeartbeats 40000000 in
theorem own_rmI3 (l : Launch) (Z : State) (a0 : Array Value) (hw : ∀ d ∈ tables_1, d.before a0 Z = true) (ws : List Jvm.Cond) (a1 : Addr) (a2 : Addr) (p1 : Int32) (p2 : Int32) (f : Nat → Int32) (G1 : Int32) (h0 : Heap) (n0 : Nat) (hn0 : n0 ≤ h0.size) (ha : n0 ≤ a1) (E : Exa Z h0 a1 "java/lang/String") (F1 : Fld Z h0 a1 "java/lang/String" "value" "[B" (.null)) (F2 : Fld Z h0 a1 "java/lang/String" "coder" "B" (.int 0)) (hp1 : p1 = 0) (hp2 : p2 = 3) (hne : a2 ≠ a1) (AC : own_Arr Z h0 a2 .char 3 (fun i => .int (f i))) (hf : ∀ j, 0 ≤ (f j).toInt ∧ (f j).toInt ≤ 255) (ST : Sta Z h0 "java/lang/String" "COMPACT_STRINGS" "Z" (.int G1)) (hG : G1.toInt ≠ 0) :
    MetFree l (⟨"java/lang/String", "<init>", "([CIILjava/lang/Void;)V"⟩ : MethodName) (head1 (Jvm.Cond.code (⟨"java/lang/String", "<init>", "([CIILjava/lang/Void;)V"⟩ : MethodName) jdk_42_method_149_code 6 none :: ws) ({ frames := 2, cells := 1, slots := 3, locals := 35 } : Room)) (fun a U => a = #[(.ref a1), (.ref a2), (.int p1), (.int p2), .null] ∧ Z.Warmed39 U.vm ∧ U.heap = h0) (fun _ _ _ _ _ => True) (fun _ U o U' => ∃ v L, o = .returned v ∧ (own_QI3 Z a1 a2 p1 p2 h0 n0) v U'.heap L ∧ FrameEnd U o U' L ({ frames := 2, cells := 1, slots := 3, locals := 35 } : Room).cells ({ frames := 2, cells := 1, slots := 3, locals := 35 } : Room).slots) := by
  refine own_body (y := (⟨"java/lang/String", "<init>", "([CIILjava/lang/Void;)V"⟩ : MethodName)) (Q := own_QI3 Z a1 a2 p1 p2 h0 n0) (rm := ({ frames := 2, cells := 1, slots := 3, locals := 35 } : Room)) (as' := #[(.ref a1), (.ref a2), (.int p1), (.int p2), .null]) (h0 := h0) (Z := Z) own_pnI3 ?_
  intro p e s m below meth c s₁ hx hby hml hown hnm hret hlk hZ X0 e0
  have hown : s.vm.findClass "java/lang/String" = some m.cls := hown
  rw [own_efI3]
  subst hp1 hp2
  refine own_aload_n X0 hx (hb hby dI3_0) rfl rfl (q := 1) rfl ?_
  refine own_initO X0 hx hZ hown (hw _ (List.mem_of_getElem? (i := 15) rfl)) (hw _ (List.mem_of_getElem? (i := 16) rfl)) (hw _ (List.mem_of_getElem? (i := 17) rfl)) e0 (by rw [hml]; rfl) (hb hby dI3_1) (by decide) (W := 0) rfl (by decide) (q := 4) rfl ?_
  intro T1 X1 e1
  refine own_iload_n X1 hx (hb hby dI3_4) rfl (q := 5) rfl ?_
  refine own_if X1 hx (hb hby dI3_5) (by decide) (q := 27) rfl (q' := 8) rfl (own_z_ne _) (fun h5 => ?_) (fun h5 => ?_)
  · replace h5 : (3 : Int) ≠ 0 := h5
    refine own_getS X1 hx hZ hown (hw _ (List.mem_of_getElem? (i := 75) rfl)) e1 ST (hb hby dI3_27) (q := 30) rfl ?_
    intro T2 X2 e2
    refine own_if X2 hx (hb hby dI3_30) (by decide) (q := 58) rfl (q' := 33) rfl (own_z_eq _) (fun h30 => ?_) (fun h30 => ?_)
    · replace h30 : G1.toInt = 0 := h30
      exfalso; omega
    · replace h30 : ¬ (G1.toInt = 0) := h30
      refine own_aload_n X2 hx (hb hby dI3_33) rfl rfl (q := 34) rfl ?_
      refine own_iload_n X2 hx (hb hby dI3_34) rfl (q := 35) rfl ?_
      refine own_iload_n X2 hx (hb hby dI3_35) rfl (q := 36) rfl ?_
      refine own_callS X2 hx hZ hown (hw _ (List.mem_of_getElem? (i := 76) rfl)) (hw _ (List.mem_of_getElem? (i := 77) rfl)) (hw _ (List.mem_of_getElem? (i := 78) rfl)) (hw _ (List.mem_of_getElem? (i := 79) rfl)) (by decide) (own_rmU3 l Z a0 hw [] a2 (0 : Int32) (3 : Int32) f h0 n0 (Nat.le_trans hn0 (Nat.le_refl _)) AC hf rfl rfl) (by decide) (by decide) e2 (by rw [hml]; rfl) (argsL := [(.ref a2), (.int (0 : Int32)), (.int (3 : Int32))]) (rest := []) (lenOf own_pd1 rfl) rfl (W := 0) rfl (hb hby dI3_36) (q := 39) rfl rfl (by decide) (by decide) ?_
      rintro _ T3 L3 ⟨b3, rfl, o3, NL3, K3, g3_, AA3⟩ X3
      have N3 := Fr.app (Fr.nil n0) NL3
      obtain ⟨h3_, e3⟩ : ∃ z, T3.heap = z := ⟨_, rfl⟩
      rw [e3] at K3
      have E3 := own_kext K3
      have E_3 := E.ext E3
      have F1_3 := F1.ext E3
      have F2_3 := F2.ext E3
      have AC_3 := AC.ext E3
      have ST_3 := ST.ext E3
      have KK3 := Keep.ext (Keep.refl h0 [a1]) E3
      have z3_ : h0.size ≤ h3_.size := Nat.le_trans (Nat.le_refl _) K3.1
      obtain ⟨LL3, eL3⟩ : ∃ z, [] ++ L3 = z := ⟨_, rfl⟩
      rw [eL3] at X3 N3
      show own_G p e below _ (T3.setTop (mkF m 39 #[.val (.ref a1), .val (.ref a2), .val (.int (0 : Int32)), .val (.int (3 : Int32)), .val .null, .unset] [(.ref b3)]))
      rw [e3] at AA3
      refine own_astore X3 hx (hb hby dI3_39) rfl (l' := #[.val (.ref a1), .val (.ref a2), .val (.int (0 : Int32)), .val (.int (3 : Int32)), .val .null, .val (.ref b3)]) rfl (q := 41) rfl ?_
      refine own_aload_n X3 hx (hb hby dI3_41) rfl rfl (q := 42) rfl ?_
      refine own_aload X3 hx (hb hby dI3_42) rfl rfl (q := 44) rfl ?_
      refine own_iload_n X3 hx (hb hby dI3_44) rfl (q := 45) rfl ?_
      refine own_callSP X3 hx hZ hown (hw _ (List.mem_of_getElem? (i := 83) rfl)) (hw _ (List.mem_of_getElem? (i := 84) rfl)) (hw _ (List.mem_of_getElem? (i := 78) rfl)) (hw _ (List.mem_of_getElem? (i := 85) rfl)) (by decide) (own_rmL3 l Z a0 hw [] b3 (3 : Int32) g3_ h3_ AA3 rfl) (by decide) (by decide) e3 (by rw [hml]; rfl) (argsL := [(.ref b3), (.int (3 : Int32))]) (rest := [(.ref a1)]) (lenOf own_pd2 rfl) rfl (W := 1) rfl (hb hby dI3_45) (q := 48) rfl rfl rfl rfl (by decide) (by decide) ?_
      rintro _ T4 rfl X4 e4
      refine own_putF X4 hx hZ hown (hw _ (List.mem_of_getElem? (i := 25) rfl)) e4 F2_3 E_3 (Or.inr ⟨(hw _ (List.mem_of_getElem? (i := 21) rfl)), rfl, hnm⟩) (hw _ (List.mem_of_getElem? (i := 5) rfl)) (ft := .byte) (by decide) rfl rfl (hb hby dI3_48) N3 ha (q := 51) rfl ?_
      intro T5 h5_ L5 X5 N5 e5 W5
      have K5 := Keep.of_wr W5
      have E_5 := E_3.wr W5
      have F1_5 := F1_3.other W5 (Or.inr (slot_ne (Or.inr (hw _ (List.mem_of_getElem? (i := 20) rfl))) (Or.inr (hw _ (List.mem_of_getElem? (i := 21) rfl))) (by decide) (t := (.array .byte)) (t' := .byte) (by decide) (by decide)))
      have F2_5 := F2_3.same W5
      have KK5 := Keep.wr KK3 W5 (Or.inl (List.mem_of_getElem? (i := 0) rfl))
      have z5_ : h0.size ≤ h5_.size := Nat.le_trans z3_ K5.1
      refine own_aload_n X5 hx (hb hby dI3_51) rfl rfl (q := 52) rfl ?_
      refine own_aload X5 hx (hb hby dI3_52) rfl rfl (q := 54) rfl ?_
      refine own_putF X5 hx hZ hown (hw _ (List.mem_of_getElem? (i := 24) rfl)) e5 F1_5 E_5 (Or.inr ⟨(hw _ (List.mem_of_getElem? (i := 20) rfl)), rfl, hnm⟩) (hw _ (List.mem_of_getElem? (i := 5) rfl)) (ft := (.array .byte)) (by decide) rfl rfl (hb hby dI3_54) N5 ha (q := 57) rfl ?_
      intro T6 h6_ L6 X6 N6 e6 W6
      have K6 := Keep.of_wr W6
      have E_6 := E_5.wr W6
      have F1_6 := F1_5.same W6
      have F2_6 := F2_5.other W6 (Or.inr (slot_ne (Or.inr (hw _ (List.mem_of_getElem? (i := 21) rfl))) (Or.inr (hw _ (List.mem_of_getElem? (i := 20) rfl))) (by decide) (t := .byte) (t' := (.array .byte)) (by decide) (by decide)))
      have KK6 := Keep.wr KK5 W6 (Or.inl (List.mem_of_getElem? (i := 0) rfl))
      have z6_ : h0.size ≤ h6_.size := Nat.le_trans z5_ K6.1
      exact own_retV X6 hx hret hlk (hb hby dI3_57) (by decide) (by decide) (by rw [e6]; unfold own_QI3; exact ⟨rfl, N6, KK6⟩)
  · replace h5 : ¬ ((3 : Int) ≠ 0) := h5
    exact absurd h5 (by decide)
theorem dJ0_0 : decode jdk_42_method_3_code 0 = .ok (.aload_n 0, 1) := by decide +kernel
theorem dJ0_1 : decode jdk_42_method_3_code 1 = .ok (.aload_n 1, 1) := by decide +kernel
theorem dJ0_2 : decode jdk_42_method_3_code 2 = .ok (.iconst 0, 1) := by decide +kernel
theorem dJ0_3 : decode jdk_42_method_3_code 3 = .ok (.aload_n 1, 1) := by decide +kernel
theorem dJ0_4 : decode jdk_42_method_3_code 4 = .ok (.arraylength, 1) := by decide +kernel
theorem dJ0_5 : decode jdk_42_method_3_code 5 = .ok (.aconst_null, 1) := by decide +kernel
theorem dJ0_6 : decode jdk_42_method_3_code 6 = .ok (.invokespecial 27, 3) := by decide +kernel
theorem dJ0_9 : decode jdk_42_method_3_code 9 = .ok (.return_, 1) := by decide +kernel
def own_QJ0 (Z : State) (a1 : Addr) (a2 : Addr) (h0 : Heap) (n0 : Nat) : Option Value → Heap → List Loc → Prop := fun v h L => v = none ∧ Fr n0 L ∧ Keep h0 h [a1]
theorem own_pnJ0 : plainFor (⟨"java/lang/String", "<init>", "([C)V"⟩ : MethodName) = true := plainFor_of_name (show plainName "java/lang/String" = true by first | (simp [plainName, overriddenIn]; done) | decide +kernel)
theorem own_efJ0 (m : MethodId) (a1 : Addr) (a2 : Addr)  : entryFrame m #[(.ref a1), (.ref a2)] 2 = mkF m 0 #[.val (.ref a1), .val (.ref a2)] [] := by first | (simp [entryFrame, mkF, argsToLocals, Value.category, maxLocals]; done) | rfl
set_option maxRecDepth 65536 in
set_option maxHeartbeats 40000000 in
theorem own_rmJ0 (l : Launch) (Z : State) (a0 : Array Value) (hw : ∀ d ∈ tables_1, d.before a0 Z = true) (ws : List Jvm.Cond) (a1 : Addr) (a2 : Addr) (f : Nat → Int32) (h0 : Heap) (n0 : Nat) (hn0 : n0 ≤ h0.size) (ha : n0 ≤ a1) (E : Exa Z h0 a1 "java/lang/String") (F1 : Fld Z h0 a1 "java/lang/String" "value" "[B" (.null)) (F2 : Fld Z h0 a1 "java/lang/String" "coder" "B" (.int 0)) (hne : a2 ≠ a1) (AC : own_Arr Z h0 a2 .char 0 (fun i => .int (f i))) (hf : ∀ j, 0 ≤ (f j).toInt ∧ (f j).toInt ≤ 255) :
    MetFree l (⟨"java/lang/String", "<init>", "([C)V"⟩ : MethodName) (head1 (Jvm.Cond.code (⟨"java/lang/String", "<init>", "([C)V"⟩ : MethodName) jdk_42_method_3_code 2 none :: ws) ({ frames := 2, cells := 4, slots := 8, locals := 29 } : Room)) (fun a U => a = #[(.ref a1), (.ref a2)] ∧ Z.Warmed39 U.vm ∧ U.heap = h0 ∧ CHv Z consts_1 U.vm h0 ∧ ∀ x ∈ ([a1] : List Addr), Safe Z consts_1 U.vm h0 x) (fun _ _ _ _ _ => True) (fun _ U o U' => ∃ v L, o = .returned v ∧ (own_QJ0 Z a1 a2 h0 n0) v U'.heap L ∧ CHr Z consts_1 U.vm U.heap U'.vm U'.heap ∧ ReturnedEndW U o U' L ({ frames := 2, cells := 4, slots := 8, locals := 29 } : Room).cells ({ frames := 2, cells := 4, slots := 8, locals := 29 } : Room).slots) := by
  refine own_Wbody (EL := consts_1) (y := (⟨"java/lang/String", "<init>", "([C)V"⟩ : MethodName)) (Q := own_QJ0 Z a1 a2 h0 n0) (rm := ({ frames := 2, cells := 4, slots := 8, locals := 29 } : Room)) (as' := #[(.ref a1), (.ref a2)]) (h0 := h0) (Z := Z) (sf := [a1]) own_pnJ0 ?_
  intro p e s m below meth c s₁ hx hby hml hown hnm hret hlk hZ X0 e0 hS hk HC0 hsf0
  have hown : s.vm.findClass "java/lang/String" = some m.cls := hown
  rw [own_efJ0]
  have SP0 := hsf0 a1 (List.mem_of_getElem? (i := 0) rfl)
  refine own_aload_n X0 hx (hb hby dJ0_0) rfl rfl (q := 1) rfl ?_
  refine own_aload_n X0 hx (hb hby dJ0_1) rfl rfl (q := 2) rfl ?_
  refine own_iconst X0 hx (hb hby dJ0_2) (v := (0 : Int32)) rfl (q := 3) rfl ?_
  refine own_aload_n X0 hx (hb hby dJ0_3) rfl rfl (q := 4) rfl ?_
  refine own_arraylength X0 hx hZ e0 AC (hb hby dJ0_4) (v := (0 : Int32)) rfl (q := 5) rfl ?_
  refine own_aconst_null X0 hx (hb hby dJ0_5) (q := 6) rfl ?_
  refine own_WcallN X0 hx hZ rfl hown (hw _ (List.mem_of_getElem? (i := 11) rfl)) (hw _ (List.mem_of_getElem? (i := 12) rfl)) (hw _ (List.mem_of_getElem? (i := 6) rfl)) (hw _ (List.mem_of_getElem? (i := 14) rfl)) (by decide) (own_rmI0 l Z a0 hw [] a1 a2 (0 : Int32) (0 : Int32)  h0 n0 (Nat.le_trans hn0 (Nat.le_refl _)) ha E F1 F2 rfl rfl) (by decide) (by decide) hS hk (own_EW hw) HC0 (fun y q => by cases List.mem_singleton.mp q; exact ⟨E.lt, SP0⟩) e0 (by rw [hml]; rfl) (argsL := [(.ref a2), (.int (0 : Int32)), (.int (0 : Int32)), .null]) (rest := []) (lenOf own_pd3 rfl) rfl (W := 0) rfl (hb hby dJ0_6) (q := 9) rfl rfl (by decide) (by decide) ?_
  rintro _ T1 L1 h1_ kk1 ⟨rfl, NL1, K1⟩ X1 e1 hS hk hZ hown HC1 SF1
  have N1 := Fr.app (Fr.nil n0) NL1
  have SP0_1 := SF1 a1 E.lt SP0
  have E_1 := E.keep K1
  have AC_1 := AC.keep K1 (ninS hne nin0)
  have KK1 := Keep.trans (Keep.refl h0 [a1]) K1 (allS (Or.inl (List.mem_of_getElem? (i := 0) rfl)) all0)
  have z1_ : h0.size ≤ h1_.size := Nat.le_trans (Nat.le_refl _) K1.1
  obtain ⟨LL1, eL1⟩ : ∃ z, [] ++ L1 = z := ⟨_, rfl⟩
  rw [eL1] at X1 N1
  show own_G p e below _ (T1.setTop (mkF m 9 #[.val (.ref a1), .val (.ref a2)] []))
  exact own_WretV X1 hx hZ (own_EW hw) hS hk HC1 e1 hret hlk (hb hby dJ0_9) (by decide) (by decide) (by rw [e1]; unfold own_QJ0; exact ⟨rfl, N1, KK1⟩)
theorem dJ2_0 : decode jdk_42_method_3_code 0 = .ok (.aload_n 0, 1) := by decide +kernel
theorem dJ2_1 : decode jdk_42_method_3_code 1 = .ok (.aload_n 1, 1) := by decide +kernel
theorem dJ2_2 : decode jdk_42_method_3_code 2 = .ok (.iconst 0, 1) := by decide +kernel
theorem dJ2_3 : decode jdk_42_method_3_code 3 = .ok (.aload_n 1, 1) := by decide +kernel
theorem dJ2_4 : decode jdk_42_method_3_code 4 = .ok (.arraylength, 1) := by decide +kernel
theorem dJ2_5 : decode jdk_42_method_3_code 5 = .ok (.aconst_null, 1) := by decide +kernel
theorem dJ2_6 : decode jdk_42_method_3_code 6 = .ok (.invokespecial 27, 3) := by decide +kernel
theorem dJ2_9 : decode jdk_42_method_3_code 9 = .ok (.return_, 1) := by decide +kernel
def own_QJ2 (Z : State) (a1 : Addr) (a2 : Addr) (h0 : Heap) (n0 : Nat) : Option Value → Heap → List Loc → Prop := fun v h L => v = none ∧ Fr n0 L ∧ Keep h0 h [a1]
theorem own_pnJ2 : plainFor (⟨"java/lang/String", "<init>", "([C)V"⟩ : MethodName) = true := plainFor_of_name (show plainName "java/lang/String" = true by first | (simp [plainName, overriddenIn]; done) | decide +kernel)
theorem own_efJ2 (m : MethodId) (a1 : Addr) (a2 : Addr)  : entryFrame m #[(.ref a1), (.ref a2)] 2 = mkF m 0 #[.val (.ref a1), .val (.ref a2)] [] := by first | (simp [entryFrame, mkF, argsToLocals, Value.category, maxLocals]; done) | rfl
set_option maxRecDepth 65536 in
set_option maxHeartbeats 40000000 in
theorem own_rmJ2 (l : Launch) (Z : State) (a0 : Array Value) (hw : ∀ d ∈ tables_1, d.before a0 Z = true) (ws : List Jvm.Cond) (a1 : Addr) (a2 : Addr) (f : Nat → Int32) (G1 : Int32) (h0 : Heap) (n0 : Nat) (hn0 : n0 ≤ h0.size) (ha : n0 ≤ a1) (E : Exa Z h0 a1 "java/lang/String") (F1 : Fld Z h0 a1 "java/lang/String" "value" "[B" (.null)) (F2 : Fld Z h0 a1 "java/lang/String" "coder" "B" (.int 0)) (hne : a2 ≠ a1) (AC : own_Arr Z h0 a2 .char 2 (fun i => .int (f i))) (hf : ∀ j, 0 ≤ (f j).toInt ∧ (f j).toInt ≤ 255) (ST : Sta Z h0 "java/lang/String" "COMPACT_STRINGS" "Z" (.int G1)) (hG : G1.toInt ≠ 0) :
    MetFree l (⟨"java/lang/String", "<init>", "([C)V"⟩ : MethodName) (head1 (Jvm.Cond.code (⟨"java/lang/String", "<init>", "([C)V"⟩ : MethodName) jdk_42_method_3_code 2 none :: ws) ({ frames := 3, cells := 1, slots := 2, locals := 52 } : Room)) (fun a U => a = #[(.ref a1), (.ref a2)] ∧ Z.Warmed39 U.vm ∧ U.heap = h0) (fun _ _ _ _ _ => True) (fun _ U o U' => ∃ v L, o = .returned v ∧ (own_QJ2 Z a1 a2 h0 n0) v U'.heap L ∧ FrameEnd U o U' L ({ frames := 3, cells := 1, slots := 2, locals := 52 } : Room).cells ({ frames := 3, cells := 1, slots := 2, locals := 52 } : Room).slots) := by
  refine own_body (y := (⟨"java/lang/String", "<init>", "([C)V"⟩ : MethodName)) (Q := own_QJ2 Z a1 a2 h0 n0) (rm := ({ frames := 3, cells := 1, slots := 2, locals := 52 } : Room)) (as' := #[(.ref a1), (.ref a2)]) (h0 := h0) (Z := Z) own_pnJ2 ?_
  intro p e s m below meth c s₁ hx hby hml hown hnm hret hlk hZ X0 e0
  have hown : s.vm.findClass "java/lang/String" = some m.cls := hown
  rw [own_efJ2]
  refine own_aload_n X0 hx (hb hby dJ2_0) rfl rfl (q := 1) rfl ?_
  refine own_aload_n X0 hx (hb hby dJ2_1) rfl rfl (q := 2) rfl ?_
  refine own_iconst X0 hx (hb hby dJ2_2) (v := (0 : Int32)) rfl (q := 3) rfl ?_
  refine own_aload_n X0 hx (hb hby dJ2_3) rfl rfl (q := 4) rfl ?_
  refine own_arraylength X0 hx hZ e0 AC (hb hby dJ2_4) (v := (2 : Int32)) rfl (q := 5) rfl ?_
  refine own_aconst_null X0 hx (hb hby dJ2_5) (q := 6) rfl ?_
  refine own_callN X0 hx hZ rfl hown (hw _ (List.mem_of_getElem? (i := 11) rfl)) (hw _ (List.mem_of_getElem? (i := 12) rfl)) (hw _ (List.mem_of_getElem? (i := 6) rfl)) (hw _ (List.mem_of_getElem? (i := 14) rfl)) (by decide) (own_rmI2 l Z a0 hw [] a1 a2 (0 : Int32) (2 : Int32) f G1 h0 n0 (Nat.le_trans hn0 (Nat.le_refl _)) ha E F1 F2 rfl rfl hne AC hf ST hG) (by decide) (by decide) e0 (by rw [hml]; rfl) (argsL := [(.ref a2), (.int (0 : Int32)), (.int (2 : Int32)), .null]) (rest := []) (lenOf own_pd3 rfl) rfl (W := 0) rfl (hb hby dJ2_6) (q := 9) rfl rfl (by decide) (by decide) ?_
  rintro _ T1 L1 ⟨rfl, NL1, K1⟩ X1
  have N1 := Fr.app (Fr.nil n0) NL1
  obtain ⟨h1_, e1⟩ : ∃ z, T1.heap = z := ⟨_, rfl⟩
  rw [e1] at K1 
  have E_1 := E.keep K1
  have AC_1 := AC.keep K1 (ninS hne nin0)
  have ST_1 := own_sta_keep ST K1 (nsS (Exa.nostat E) ns0)
  have KK1 := Keep.trans (Keep.refl h0 [a1]) K1 (allS (Or.inl (List.mem_of_getElem? (i := 0) rfl)) all0)
  have z1_ : h0.size ≤ h1_.size := Nat.le_trans (Nat.le_refl _) K1.1
  obtain ⟨LL1, eL1⟩ : ∃ z, [] ++ L1 = z := ⟨_, rfl⟩
  rw [eL1] at X1 N1
  show own_G p e below _ (T1.setTop (mkF m 9 #[.val (.ref a1), .val (.ref a2)] []))
  exact own_retV X1 hx hret hlk (hb hby dJ2_9) (by decide) (by decide) (by rw [e1]; unfold own_QJ2; exact ⟨rfl, N1, KK1⟩)
theorem dJ3_0 : decode jdk_42_method_3_code 0 = .ok (.aload_n 0, 1) := by decide +kernel
theorem dJ3_1 : decode jdk_42_method_3_code 1 = .ok (.aload_n 1, 1) := by decide +kernel
theorem dJ3_2 : decode jdk_42_method_3_code 2 = .ok (.iconst 0, 1) := by decide +kernel
theorem dJ3_3 : decode jdk_42_method_3_code 3 = .ok (.aload_n 1, 1) := by decide +kernel
theorem dJ3_4 : decode jdk_42_method_3_code 4 = .ok (.arraylength, 1) := by decide +kernel
theorem dJ3_5 : decode jdk_42_method_3_code 5 = .ok (.aconst_null, 1) := by decide +kernel
theorem dJ3_6 : decode jdk_42_method_3_code 6 = .ok (.invokespecial 27, 3) := by decide +kernel
theorem dJ3_9 : decode jdk_42_method_3_code 9 = .ok (.return_, 1) := by decide +kernel
def own_QJ3 (Z : State) (a1 : Addr) (a2 : Addr) (h0 : Heap) (n0 : Nat) : Option Value → Heap → List Loc → Prop := fun v h L => v = none ∧ Fr n0 L ∧ Keep h0 h [a1]
theorem own_pnJ3 : plainFor (⟨"java/lang/String", "<init>", "([C)V"⟩ : MethodName) = true := plainFor_of_name (show plainName "java/lang/String" = true by first | (simp [plainName, overriddenIn]; done) | decide +kernel)
theorem own_efJ3 (m : MethodId) (a1 : Addr) (a2 : Addr)  : entryFrame m #[(.ref a1), (.ref a2)] 2 = mkF m 0 #[.val (.ref a1), .val (.ref a2)] [] := by first | (simp [entryFrame, mkF, argsToLocals, Value.category, maxLocals]; done) | rfl
set_option maxRecDepth 65536 in
set_option maxHeartbeats 40000000 in
theorem own_rmJ3 (l : Launch) (Z : State) (a0 : Array Value) (hw : ∀ d ∈ tables_1, d.before a0 Z = true) (ws : List Jvm.Cond) (a1 : Addr) (a2 : Addr) (f : Nat → Int32) (G1 : Int32) (h0 : Heap) (n0 : Nat) (hn0 : n0 ≤ h0.size) (ha : n0 ≤ a1) (E : Exa Z h0 a1 "java/lang/String") (F1 : Fld Z h0 a1 "java/lang/String" "value" "[B" (.null)) (F2 : Fld Z h0 a1 "java/lang/String" "coder" "B" (.int 0)) (hne : a2 ≠ a1) (AC : own_Arr Z h0 a2 .char 3 (fun i => .int (f i))) (hf : ∀ j, 0 ≤ (f j).toInt ∧ (f j).toInt ≤ 255) (ST : Sta Z h0 "java/lang/String" "COMPACT_STRINGS" "Z" (.int G1)) (hG : G1.toInt ≠ 0) :
    MetFree l (⟨"java/lang/String", "<init>", "([C)V"⟩ : MethodName) (head1 (Jvm.Cond.code (⟨"java/lang/String", "<init>", "([C)V"⟩ : MethodName) jdk_42_method_3_code 2 none :: ws) ({ frames := 3, cells := 1, slots := 3, locals := 52 } : Room)) (fun a U => a = #[(.ref a1), (.ref a2)] ∧ Z.Warmed39 U.vm ∧ U.heap = h0) (fun _ _ _ _ _ => True) (fun _ U o U' => ∃ v L, o = .returned v ∧ (own_QJ3 Z a1 a2 h0 n0) v U'.heap L ∧ FrameEnd U o U' L ({ frames := 3, cells := 1, slots := 3, locals := 52 } : Room).cells ({ frames := 3, cells := 1, slots := 3, locals := 52 } : Room).slots) := by
  refine own_body (y := (⟨"java/lang/String", "<init>", "([C)V"⟩ : MethodName)) (Q := own_QJ3 Z a1 a2 h0 n0) (rm := ({ frames := 3, cells := 1, slots := 3, locals := 52 } : Room)) (as' := #[(.ref a1), (.ref a2)]) (h0 := h0) (Z := Z) own_pnJ3 ?_
  intro p e s m below meth c s₁ hx hby hml hown hnm hret hlk hZ X0 e0
  have hown : s.vm.findClass "java/lang/String" = some m.cls := hown
  rw [own_efJ3]
  refine own_aload_n X0 hx (hb hby dJ3_0) rfl rfl (q := 1) rfl ?_
  refine own_aload_n X0 hx (hb hby dJ3_1) rfl rfl (q := 2) rfl ?_
  refine own_iconst X0 hx (hb hby dJ3_2) (v := (0 : Int32)) rfl (q := 3) rfl ?_
  refine own_aload_n X0 hx (hb hby dJ3_3) rfl rfl (q := 4) rfl ?_
  refine own_arraylength X0 hx hZ e0 AC (hb hby dJ3_4) (v := (3 : Int32)) rfl (q := 5) rfl ?_
  refine own_aconst_null X0 hx (hb hby dJ3_5) (q := 6) rfl ?_
  refine own_callN X0 hx hZ rfl hown (hw _ (List.mem_of_getElem? (i := 11) rfl)) (hw _ (List.mem_of_getElem? (i := 12) rfl)) (hw _ (List.mem_of_getElem? (i := 6) rfl)) (hw _ (List.mem_of_getElem? (i := 14) rfl)) (by decide) (own_rmI3 l Z a0 hw [] a1 a2 (0 : Int32) (3 : Int32) f G1 h0 n0 (Nat.le_trans hn0 (Nat.le_refl _)) ha E F1 F2 rfl rfl hne AC hf ST hG) (by decide) (by decide) e0 (by rw [hml]; rfl) (argsL := [(.ref a2), (.int (0 : Int32)), (.int (3 : Int32)), .null]) (rest := []) (lenOf own_pd3 rfl) rfl (W := 0) rfl (hb hby dJ3_6) (q := 9) rfl rfl (by decide) (by decide) ?_
  rintro _ T1 L1 ⟨rfl, NL1, K1⟩ X1
  have N1 := Fr.app (Fr.nil n0) NL1
  obtain ⟨h1_, e1⟩ : ∃ z, T1.heap = z := ⟨_, rfl⟩
  rw [e1] at K1 
  have E_1 := E.keep K1
  have AC_1 := AC.keep K1 (ninS hne nin0)
  have ST_1 := own_sta_keep ST K1 (nsS (Exa.nostat E) ns0)
  have KK1 := Keep.trans (Keep.refl h0 [a1]) K1 (allS (Or.inl (List.mem_of_getElem? (i := 0) rfl)) all0)
  have z1_ : h0.size ≤ h1_.size := Nat.le_trans (Nat.le_refl _) K1.1
  obtain ⟨LL1, eL1⟩ : ∃ z, [] ++ L1 = z := ⟨_, rfl⟩
  rw [eL1] at X1 N1
  show own_G p e below _ (T1.setTop (mkF m 9 #[.val (.ref a1), .val (.ref a2)] []))
  exact own_retV X1 hx hret hlk (hb hby dJ3_9) (by decide) (by decide) (by rw [e1]; unfold own_QJ3; exact ⟨rfl, N1, KK1⟩)
theorem dR_0 : decode jdk_30_method_1_code 0 = .ok (.aload_n 0, 1) := by decide +kernel
theorem dR_1 : decode jdk_30_method_1_code 1 = .ok (.invokespecial 1, 3) := by decide +kernel
theorem dR_4 : decode jdk_30_method_1_code 4 = .ok (.return_, 1) := by decide +kernel
theorem own_pnR : plainFor (⟨"java/lang/Record", "<init>", "()V"⟩ : MethodName) = true := plainFor_of_name (show plainName "java/lang/Record" = true by first | (simp [plainName, overriddenIn]; done) | decide +kernel)
theorem own_efR (m : MethodId) (a1 : Addr)  : entryFrame m #[(.ref a1)] 1 = mkF m 0 #[.val (.ref a1)] [] := by first | (simp [entryFrame, mkF, argsToLocals, Value.category, maxLocals]; done) | rfl
set_option maxRecDepth 65536 in
set_option maxHeartbeats 40000000 in
theorem own_rmR (l : Launch) (Z : State) (a0 : Array Value) (hw : ∀ d ∈ tables_1, d.before a0 Z = true) (ws : List Jvm.Cond) (a1 : Addr)  (h0 : Heap)  :
    MetFree l (⟨"java/lang/Record", "<init>", "()V"⟩ : MethodName) (head1 (Jvm.Cond.code (⟨"java/lang/Record", "<init>", "()V"⟩ : MethodName) jdk_30_method_1_code 1 none :: ws) ({ frames := 1, cells := 0, slots := 0, locals := 12 } : Room)) (fun a U => a = #[(.ref a1)] ∧ Z.Warmed39 U.vm ∧ U.heap = h0) (fun _ _ _ _ _ => True) (fun _ U o U' => ∃ v L, o = .returned v ∧ (fun v h L => v = none ∧ L = [] ∧ h = h0) v U'.heap L ∧ FrameEnd U o U' L ({ frames := 1, cells := 0, slots := 0, locals := 12 } : Room).cells ({ frames := 1, cells := 0, slots := 0, locals := 12 } : Room).slots) := by
  refine own_body (y := (⟨"java/lang/Record", "<init>", "()V"⟩ : MethodName)) (Q := fun v h L => v = none ∧ L = [] ∧ h = h0) (rm := ({ frames := 1, cells := 0, slots := 0, locals := 12 } : Room)) (as' := #[(.ref a1)]) (h0 := h0) (Z := Z) own_pnR ?_
  intro p e s m below meth c s₁ hx hby hml hown hnm hret hlk hZ X0 e0
  have hown : s.vm.findClass "java/lang/Record" = some m.cls := hown
  rw [own_efR]
  refine own_aload_n X0 hx (hb hby dR_0) rfl rfl (q := 1) rfl ?_
  refine own_initO X0 hx hZ hown (hw _ (List.mem_of_getElem? (i := 41) rfl)) (hw _ (List.mem_of_getElem? (i := 16) rfl)) (hw _ (List.mem_of_getElem? (i := 17) rfl)) e0 (by rw [hml]; rfl) (hb hby dR_1) (by decide) (W := 0) rfl (by decide) (q := 4) rfl ?_
  intro T1 X1 e1
  exact own_retV X1 hx hret hlk (hb hby dR_4) (by decide) (by decide) ⟨rfl, rfl, e1⟩
theorem dC_0 : decode jdk_43_method_3_code 0 = .ok (.iload_n 0, 1) := by decide +kernel
theorem dC_1 : decode jdk_43_method_3_code 1 = .ok (.sipush 255, 3) := by decide +kernel
theorem dC_4 : decode jdk_43_method_3_code 4 = .ok (.if_icmp .gt 7, 3) := by decide +kernel
theorem dC_7 : decode jdk_43_method_3_code 7 = .ok (.iconst 1, 1) := by decide +kernel
theorem dC_8 : decode jdk_43_method_3_code 8 = .ok (.goto 4, 3) := by decide +kernel
theorem dC_11 : decode jdk_43_method_3_code 11 = .ok (.iconst 0, 1) := by decide +kernel
theorem dC_12 : decode jdk_43_method_3_code 12 = .ok (.ireturn, 1) := by decide +kernel
theorem own_pnC : plainFor (⟨"java/lang/StringLatin1", "canEncode", "(C)Z"⟩ : MethodName) = true := plainFor_of_name (show plainName "java/lang/StringLatin1" = true by first | (simp [plainName, overriddenIn]; done) | decide +kernel)
theorem own_efC (m : MethodId) (p1 : Int32)  : entryFrame m #[(.int p1)] 1 = mkF m 0 #[.val (.int p1)] [] := by first | (simp [entryFrame, mkF, argsToLocals, Value.category, maxLocals]; done) | rfl
set_option maxRecDepth 65536 in
set_option maxHeartbeats 40000000 in
theorem own_rmC (l : Launch) (Z : State) (a0 : Array Value) (hw : ∀ d ∈ tables_1, d.before a0 Z = true) (ws : List Jvm.Cond) (p1 : Int32)  (h0 : Heap)  :
    MetFree l (⟨"java/lang/StringLatin1", "canEncode", "(C)Z"⟩ : MethodName) (head1 (Jvm.Cond.code (⟨"java/lang/StringLatin1", "canEncode", "(C)Z"⟩ : MethodName) jdk_43_method_3_code 1 (some .boolean) :: ws) ({ frames := 0, cells := 0, slots := 0, locals := 0 } : Room)) (fun a U => a = #[(.int p1)] ∧ Z.Warmed39 U.vm ∧ U.heap = h0) (fun _ _ _ _ _ => True) (fun _ U o U' => ∃ v L, o = .returned v ∧ (fun v h L => (∃ w, v = some w ∧ (fun w => ∃ z : Int32, w = .int z ∧ (((p1.toInt ≤ 255) ∧ z.toInt = 1) ∨ (¬ (p1.toInt ≤ 255) ∧ z.toInt = 0))) w) ∧ L = [] ∧ h = h0) v U'.heap L ∧ FrameEnd U o U' L ({ frames := 0, cells := 0, slots := 0, locals := 0 } : Room).cells ({ frames := 0, cells := 0, slots := 0, locals := 0 } : Room).slots) := by
  refine own_body (y := (⟨"java/lang/StringLatin1", "canEncode", "(C)Z"⟩ : MethodName)) (Q := fun v h L => (∃ w, v = some w ∧ (fun w => ∃ z : Int32, w = .int z ∧ (((p1.toInt ≤ 255) ∧ z.toInt = 1) ∨ (¬ (p1.toInt ≤ 255) ∧ z.toInt = 0))) w) ∧ L = [] ∧ h = h0) (rm := ({ frames := 0, cells := 0, slots := 0, locals := 0 } : Room)) (as' := #[(.int p1)]) (h0 := h0) (Z := Z) own_pnC ?_
  intro p e s m below meth c s₁ hx hby hml hown hnm hret hlk hZ X0 e0
  have hown : s.vm.findClass "java/lang/StringLatin1" = some m.cls := hown
  rw [own_efC]
  refine own_iload_n X0 hx (hb hby dC_0) rfl (q := 1) rfl ?_
  refine own_sipush X0 hx (hb hby dC_1) (v := (255 : Int32)) rfl (q := 4) rfl ?_
  refine own_icmp X0 hx (hb hby dC_4) (by decide) (q := 11) rfl (q' := 7) rfl (own_h_gt _ _) (fun h4 => ?_) (fun h4 => ?_)
  · replace h4 : (255 : Int) < p1.toInt := h4
    refine own_iconst X0 hx (hb hby dC_11) (v := (0 : Int32)) rfl (q := 12) rfl ?_
    exact own_retN X0 hx (t := .boolean) hret hlk (by simp) (hb hby dC_12) (by decide) (by decide) (w := (0 : Int32)) rfl ⟨⟨_, rfl, ⟨_, rfl, by have hc_ : (0 : Int32).toInt = (0 : Int) := rfl; omega⟩⟩, rfl, e0⟩
  · replace h4 : ¬ ((255 : Int) < p1.toInt) := h4
    refine own_iconst X0 hx (hb hby dC_7) (v := (1 : Int32)) rfl (q := 8) rfl ?_
    refine own_goto X0 hx (hb hby dC_8) (by decide) (q := 12) rfl ?_
    exact own_retN X0 hx (t := .boolean) hret hlk (by simp) (hb hby dC_12) (by decide) (by decide) (w := (1 : Int32)) rfl ⟨⟨_, rfl, ⟨_, rfl, by have hc_ : (1 : Int32).toInt = (1 : Int) := rfl; omega⟩⟩, rfl, e0⟩
theorem dT_0 : decode jdk_43_method_46_code 0 = .ok (.iconst 1, 1) := by decide +kernel
theorem dT_1 : decode jdk_43_method_46_code 1 = .ok (.newarray .byte, 2) := by decide +kernel
theorem dT_3 : decode jdk_43_method_46_code 3 = .ok (.dup, 1) := by decide +kernel
theorem dT_4 : decode jdk_43_method_46_code 4 = .ok (.iconst 0, 1) := by decide +kernel
theorem dT_5 : decode jdk_43_method_46_code 5 = .ok (.iload_n 0, 1) := by decide +kernel
theorem dT_6 : decode jdk_43_method_46_code 6 = .ok (.i2b, 1) := by decide +kernel
theorem dT_7 : decode jdk_43_method_46_code 7 = .ok (.bastore, 1) := by decide +kernel
theorem dT_8 : decode jdk_43_method_46_code 8 = .ok (.areturn, 1) := by decide +kernel
def own_QT (Z : State) (p1 : Int32) (h0 : Heap) (n0 : Nat) : Option Value → Heap → List Loc → Prop := fun v h L => ∃ b, v = some (.ref b) ∧ n0 ≤ b ∧ Fr n0 L ∧ Keep h0 h []
theorem own_pnT : plainFor (⟨"java/lang/StringLatin1", "toBytes", "(C)[B"⟩ : MethodName) = true := plainFor_of_name (show plainName "java/lang/StringLatin1" = true by first | (simp [plainName, overriddenIn]; done) | decide +kernel)
theorem own_efT (m : MethodId) (p1 : Int32)  : entryFrame m #[(.int p1)] 1 = mkF m 0 #[.val (.int p1)] [] := by first | (simp [entryFrame, mkF, argsToLocals, Value.category, maxLocals]; done) | rfl
set_option maxRecDepth 65536 in
set_option maxHeartbeats 40000000 in
theorem own_rmT (l : Launch) (Z : State) (a0 : Array Value) (hw : ∀ d ∈ tables_1, d.before a0 Z = true) (ws : List Jvm.Cond) (p1 : Int32)  (h0 : Heap) (n0 : Nat) (hn0 : n0 ≤ h0.size) :
    MetFree l (⟨"java/lang/StringLatin1", "toBytes", "(C)[B"⟩ : MethodName) (head1 (Jvm.Cond.code (⟨"java/lang/StringLatin1", "toBytes", "(C)[B"⟩ : MethodName) jdk_43_method_46_code 1 (some (.array .byte)) :: ws) ({ frames := 0, cells := 1, slots := 1, locals := 0 } : Room)) (fun a U => a = #[(.int p1)] ∧ Z.Warmed39 U.vm ∧ U.heap = h0) (fun _ _ _ _ _ => True) (fun _ U o U' => ∃ v L, o = .returned v ∧ (own_QT Z p1 h0 n0) v U'.heap L ∧ FrameEnd U o U' L ({ frames := 0, cells := 1, slots := 1, locals := 0 } : Room).cells ({ frames := 0, cells := 1, slots := 1, locals := 0 } : Room).slots) := by
  refine own_body (y := (⟨"java/lang/StringLatin1", "toBytes", "(C)[B"⟩ : MethodName)) (Q := own_QT Z p1 h0 n0) (rm := ({ frames := 0, cells := 1, slots := 1, locals := 0 } : Room)) (as' := #[(.int p1)]) (h0 := h0) (Z := Z) own_pnT ?_
  intro p e s m below meth c s₁ hx hby hml hown hnm hret hlk hZ X0 e0
  have hown : s.vm.findClass "java/lang/StringLatin1" = some m.cls := hown
  rw [own_efT]
  refine own_iconst X0 hx (hb hby dT_0) (v := (1 : Int32)) rfl (q := 1) rfl ?_
  refine own_newP X0 hx hZ (hw _ (List.mem_of_getElem? (i := 19) rfl)) e0 (hb hby dT_1) (N := 1) (rfl) (cap := 1) (by decide) (by decide) (by decide) (by decide) (q := 3) rfl ?_
  intro T1 h1_ b1 g1 X1 e1 E1 A1
  have KK1 := Keep.ext (Keep.refl h0 []) E1
  have o1 : h0.size ≤ b1 := by rw [g1]; exact (Nat.le_refl _)
  have p1_ : n0 ≤ b1 := Nat.le_trans hn0 o1
  have z1_ : h0.size ≤ h1_.size := Nat.le_trans (Nat.le_refl _) E1.1
  have A1 : own_Arr Z h1_ b1 .byte 1 (fun i => .int (own_zero i)) := A1
  refine own_dup X1 hx (hb hby dT_3) rfl (q := 4) rfl ?_
  refine own_iconst X1 hx (hb hby dT_4) (v := (0 : Int32)) rfl (q := 5) rfl ?_
  refine own_iload_n X1 hx (hb hby dT_5) rfl (q := 6) rfl ?_
  refine own_i2b X1 hx (hb hby dT_6) (q := 7) rfl ?_
  refine own_stB X1 hx hZ e1 A1 (hb hby dT_7) (i := 0) (rfl) (by decide) (Fr.nil n0) p1_ (q := 8) rfl ?_
  intro T2 h2_ L2 X2 N2 e2 A2 W2
  have K2 := Keep.of_wr W2
  have KK2 := Keep.trans KK1 K2 (allS (Or.inr o1) all0)
  have z2_ : h0.size ≤ h2_.size := Nat.le_trans z1_ K2.1
  exact own_retA X2 hx rfl hret rfl hlk (hb hby dT_8) (by decide) (by decide) (by rw [e2]; unfold own_QT; exact ⟨_, rfl, p1_, N2, KK2⟩)
theorem dS_0 : decode jdk_42_method_151_code 0 = .ok (.aload_n 0, 1) := by decide +kernel
theorem dS_1 : decode jdk_42_method_151_code 1 = .ok (.invokespecial 1, 3) := by decide +kernel
theorem dS_4 : decode jdk_42_method_151_code 4 = .ok (.aload_n 0, 1) := by decide +kernel
theorem dS_5 : decode jdk_42_method_151_code 5 = .ok (.aload_n 1, 1) := by decide +kernel
theorem dS_6 : decode jdk_42_method_151_code 6 = .ok (.putfield 9, 3) := by decide +kernel
theorem dS_9 : decode jdk_42_method_151_code 9 = .ok (.aload_n 0, 1) := by decide +kernel
theorem dS_10 : decode jdk_42_method_151_code 10 = .ok (.iload_n 2, 1) := by decide +kernel
theorem dS_11 : decode jdk_42_method_151_code 11 = .ok (.putfield 15, 3) := by decide +kernel
theorem dS_14 : decode jdk_42_method_151_code 14 = .ok (.return_, 1) := by decide +kernel
def own_QS (Z : State) (a1 : Addr) (a2 : Addr) (p1 : Int32) (h0 : Heap) (n0 : Nat) : Option Value → Heap → List Loc → Prop := fun v h L => v = none ∧ Fr n0 L ∧ Keep h0 h [a1]
theorem own_pnS : plainFor (⟨"java/lang/String", "<init>", "([BB)V"⟩ : MethodName) = true := plainFor_of_name (show plainName "java/lang/String" = true by first | (simp [plainName, overriddenIn]; done) | decide +kernel)
theorem own_efS (m : MethodId) (a1 : Addr) (a2 : Addr) (p1 : Int32)  : entryFrame m #[(.ref a1), (.ref a2), (.int p1)] 3 = mkF m 0 #[.val (.ref a1), .val (.ref a2), .val (.int p1)] [] := by first | (simp [entryFrame, mkF, argsToLocals, Value.category, maxLocals]; done) | rfl
set_option maxRecDepth 65536 in
set_option maxHeartbeats 40000000 in
theorem own_rmS (l : Launch) (Z : State) (a0 : Array Value) (hw : ∀ d ∈ tables_1, d.before a0 Z = true) (ws : List Jvm.Cond) (a1 : Addr) (a2 : Addr) (p1 : Int32)  (h0 : Heap) (n0 : Nat) (hn0 : n0 ≤ h0.size) (ha : n0 ≤ a1) (E : Exa Z h0 a1 "java/lang/String") (F1 : Fld Z h0 a1 "java/lang/String" "value" "[B" (.null)) (F2 : Fld Z h0 a1 "java/lang/String" "coder" "B" (.int 0)) (hp : p1 = 0) :
    MetFree l (⟨"java/lang/String", "<init>", "([BB)V"⟩ : MethodName) (head1 (Jvm.Cond.code (⟨"java/lang/String", "<init>", "([BB)V"⟩ : MethodName) jdk_42_method_151_code 3 none :: ws) ({ frames := 1, cells := 0, slots := 0, locals := 12 } : Room)) (fun a U => a = #[(.ref a1), (.ref a2), (.int p1)] ∧ Z.Warmed39 U.vm ∧ U.heap = h0) (fun _ _ _ _ _ => True) (fun _ U o U' => ∃ v L, o = .returned v ∧ (own_QS Z a1 a2 p1 h0 n0) v U'.heap L ∧ FrameEnd U o U' L ({ frames := 1, cells := 0, slots := 0, locals := 12 } : Room).cells ({ frames := 1, cells := 0, slots := 0, locals := 12 } : Room).slots) := by
  refine own_body (y := (⟨"java/lang/String", "<init>", "([BB)V"⟩ : MethodName)) (Q := own_QS Z a1 a2 p1 h0 n0) (rm := ({ frames := 1, cells := 0, slots := 0, locals := 12 } : Room)) (as' := #[(.ref a1), (.ref a2), (.int p1)]) (h0 := h0) (Z := Z) own_pnS ?_
  intro p e s m below meth c s₁ hx hby hml hown hnm hret hlk hZ X0 e0
  have hown : s.vm.findClass "java/lang/String" = some m.cls := hown
  rw [own_efS]
  subst hp
  refine own_aload_n X0 hx (hb hby dS_0) rfl rfl (q := 1) rfl ?_
  refine own_initO X0 hx hZ hown (hw _ (List.mem_of_getElem? (i := 15) rfl)) (hw _ (List.mem_of_getElem? (i := 16) rfl)) (hw _ (List.mem_of_getElem? (i := 17) rfl)) e0 (by rw [hml]; rfl) (hb hby dS_1) (by decide) (W := 0) rfl (by decide) (q := 4) rfl ?_
  intro T1 X1 e1
  refine own_aload_n X1 hx (hb hby dS_4) rfl rfl (q := 5) rfl ?_
  refine own_aload_n X1 hx (hb hby dS_5) rfl rfl (q := 6) rfl ?_
  refine own_putF X1 hx hZ hown (hw _ (List.mem_of_getElem? (i := 24) rfl)) e1 F1 E (Or.inr ⟨(hw _ (List.mem_of_getElem? (i := 20) rfl)), rfl, hnm⟩) (hw _ (List.mem_of_getElem? (i := 5) rfl)) (ft := (.array .byte)) (by decide) rfl rfl (hb hby dS_6) (Fr.nil n0) ha (q := 9) rfl ?_
  intro T2 h2_ L2 X2 N2 e2 W2
  have K2 := Keep.of_wr W2
  have E_2 := E.wr W2
  have F1_2 := F1.same W2
  have F2_2 := F2.other W2 (Or.inr (slot_ne (Or.inr (hw _ (List.mem_of_getElem? (i := 21) rfl))) (Or.inr (hw _ (List.mem_of_getElem? (i := 20) rfl))) (by decide) (t := .byte) (t' := (.array .byte)) (by decide) (by decide)))
  have KK2 := Keep.wr (Keep.refl h0 [a1]) W2 (Or.inl (List.mem_of_getElem? (i := 0) rfl))
  have z2_ : h0.size ≤ h2_.size := Nat.le_trans (Nat.le_refl _) K2.1
  refine own_aload_n X2 hx (hb hby dS_9) rfl rfl (q := 10) rfl ?_
  refine own_iload_n X2 hx (hb hby dS_10) rfl (q := 11) rfl ?_
  refine own_putF X2 hx hZ hown (hw _ (List.mem_of_getElem? (i := 25) rfl)) e2 F2_2 E_2 (Or.inr ⟨(hw _ (List.mem_of_getElem? (i := 21) rfl)), rfl, hnm⟩) (hw _ (List.mem_of_getElem? (i := 5) rfl)) (ft := .byte) (by decide) rfl rfl (hb hby dS_11) N2 ha (q := 14) rfl ?_
  intro T3 h3_ L3 X3 N3 e3 W3
  have K3 := Keep.of_wr W3
  have E_3 := E_2.wr W3
  have F1_3 := F1_2.other W3 (Or.inr (slot_ne (Or.inr (hw _ (List.mem_of_getElem? (i := 20) rfl))) (Or.inr (hw _ (List.mem_of_getElem? (i := 21) rfl))) (by decide) (t := (.array .byte)) (t' := .byte) (by decide) (by decide)))
  have F2_3 := F2_2.same W3
  have KK3 := Keep.wr KK2 W3 (Or.inl (List.mem_of_getElem? (i := 0) rfl))
  have z3_ : h0.size ≤ h3_.size := Nat.le_trans z2_ K3.1
  exact own_retV X3 hx hret hlk (hb hby dS_14) (by decide) (by decide) (by rw [e3]; unfold own_QS; exact ⟨rfl, N3, KK3⟩)
theorem dV_0 : decode jdk_42_method_139_code 0 = .ok (.getstatic 38, 3) := by decide +kernel
theorem dV_3 : decode jdk_42_method_139_code 3 = .ok (.ifCond .eq 23, 3) := by decide +kernel
theorem dV_6 : decode jdk_42_method_139_code 6 = .ok (.iload_n 0, 1) := by decide +kernel
theorem dV_7 : decode jdk_42_method_139_code 7 = .ok (.invokestatic 1015, 3) := by decide +kernel
theorem dV_10 : decode jdk_42_method_139_code 10 = .ok (.ifCond .eq 16, 3) := by decide +kernel
theorem dV_13 : decode jdk_42_method_139_code 13 = .ok (.new 10, 3) := by decide +kernel
theorem dV_16 : decode jdk_42_method_139_code 16 = .ok (.dup, 1) := by decide +kernel
theorem dV_17 : decode jdk_42_method_139_code 17 = .ok (.iload_n 0, 1) := by decide +kernel
theorem dV_18 : decode jdk_42_method_139_code 18 = .ok (.invokestatic 1018, 3) := by decide +kernel
theorem dV_21 : decode jdk_42_method_139_code 21 = .ok (.iconst 0, 1) := by decide +kernel
theorem dV_22 : decode jdk_42_method_139_code 22 = .ok (.invokespecial 209, 3) := by decide +kernel
theorem dV_25 : decode jdk_42_method_139_code 25 = .ok (.areturn, 1) := by decide +kernel
def own_QV (Z : State) (p1 : Int32) (h0 : Heap) (n0 : Nat) : Option Value → Heap → List Loc → Prop := fun v h L => ∃ b, v = some (.ref b) ∧ n0 ≤ b ∧ Fr n0 L ∧ Keep h0 h []
theorem own_pnV : plainFor (⟨"java/lang/String", "valueOf", "(C)Ljava/lang/String;"⟩ : MethodName) = true := plainFor_of_name (show plainName "java/lang/String" = true by first | (simp [plainName, overriddenIn]; done) | decide +kernel)
theorem own_efV (m : MethodId) (p1 : Int32)  : entryFrame m #[(.int p1)] 1 = mkF m 0 #[.val (.int p1)] [] := by first | (simp [entryFrame, mkF, argsToLocals, Value.category, maxLocals]; done) | rfl
set_option maxRecDepth 65536 in
set_option maxHeartbeats 40000000 in
theorem own_rmV (l : Launch) (Z : State) (a0 : Array Value) (hw : ∀ d ∈ tables_1, d.before a0 Z = true) (ws : List Jvm.Cond) (p1 : Int32) (G1 : Int32) (h0 : Heap) (n0 : Nat) (hn0 : n0 ≤ h0.size) (ST : Sta Z h0 "java/lang/String" "COMPACT_STRINGS" "Z" (.int G1)) (hG : G1.toInt ≠ 0) (hp : p1.toInt ≤ 255) :
    MetFree l (⟨"java/lang/String", "valueOf", "(C)Ljava/lang/String;"⟩ : MethodName) (head1 (Jvm.Cond.code (⟨"java/lang/String", "valueOf", "(C)Ljava/lang/String;"⟩ : MethodName) jdk_42_method_139_code 1 (some (.object "java/lang/String")) :: ws) ({ frames := 2, cells := 2, slots := 5, locals := 27 } : Room)) (fun a U => a = #[(.int p1)] ∧ Z.Warmed39 U.vm ∧ U.heap = h0) (fun _ _ _ _ _ => True) (fun _ U o U' => ∃ v L, o = .returned v ∧ (own_QV Z p1 h0 n0) v U'.heap L ∧ FrameEnd U o U' L ({ frames := 2, cells := 2, slots := 5, locals := 27 } : Room).cells ({ frames := 2, cells := 2, slots := 5, locals := 27 } : Room).slots) := by
  refine own_body (y := (⟨"java/lang/String", "valueOf", "(C)Ljava/lang/String;"⟩ : MethodName)) (Q := own_QV Z p1 h0 n0) (rm := ({ frames := 2, cells := 2, slots := 5, locals := 27 } : Room)) (as' := #[(.int p1)]) (h0 := h0) (Z := Z) own_pnV ?_
  intro p e s m below meth c s₁ hx hby hml hown hnm hret hlk hZ X0 e0
  have hown : s.vm.findClass "java/lang/String" = some m.cls := hown
  rw [own_efV]
  refine own_getS X0 hx hZ hown (hw _ (List.mem_of_getElem? (i := 75) rfl)) e0 ST (hb hby dV_0) (q := 3) rfl ?_
  intro T1 X1 e1
  refine own_if X1 hx (hb hby dV_3) (by decide) (q := 26) rfl (q' := 6) rfl (own_z_eq _) (fun h3 => ?_) (fun h3 => ?_)
  · replace h3 : G1.toInt = 0 := h3
    exfalso; omega
  · replace h3 : ¬ (G1.toInt = 0) := h3
    refine own_iload_n X1 hx (hb hby dV_6) rfl (q := 7) rfl ?_
    refine own_callSP X1 hx hZ hown (hw _ (List.mem_of_getElem? (i := 89) rfl)) (hw _ (List.mem_of_getElem? (i := 90) rfl)) (hw _ (List.mem_of_getElem? (i := 91) rfl)) (hw _ (List.mem_of_getElem? (i := 92) rfl)) (by decide) (own_rmC l Z a0 hw [] p1  h0 ) (by decide) (by decide) e1 (by rw [hml]; rfl) (argsL := [(.int p1)]) (rest := []) (lenOf own_pd4 rfl) rfl (W := 0) rfl (hb hby dV_7) (q := 10) rfl rfl rfl rfl (by decide) (by decide) ?_
    rintro _ T2 ⟨z2, rfl, hz2⟩ X2 e2
    refine own_if X2 hx (hb hby dV_10) (by decide) (q := 26) rfl (q' := 13) rfl (own_z_eq _) (fun h10 => ?_) (fun h10 => ?_)
    · replace h10 : z2.toInt = 0 := h10
      exfalso; omega
    · replace h10 : ¬ (z2.toInt = 0) := h10
      refine own_newO X2 hx hZ hown (hw _ (List.mem_of_getElem? (i := 93) rfl)) (hw _ (List.mem_of_getElem? (i := 5) rfl)) (hw _ (List.mem_of_getElem? (i := 6) rfl)) e2 (hb hby dV_13) (by decide) (by decide) (q := 16) rfl ?_
      intro T3 h3_ b3 g3 X3 e3 E3 A3 D3
      have ST_3 := ST.ext E3
      have KK3 := Keep.ext (Keep.refl h0 []) E3
      have o3 : h0.size ≤ b3 := by rw [g3]; exact (Nat.le_refl _)
      have p3_ : n0 ≤ b3 := Nat.le_trans hn0 o3
      have z3_ : h0.size ≤ h3_.size := Nat.le_trans (Nat.le_refl _) E3.1
      have F3value : Fld Z h3_ b3 "java/lang/String" "value" "[B" (.null) := D3 (Or.inr (hw _ (List.mem_of_getElem? (i := 20) rfl))) (ty := (.array .byte)) (by decide)
      have F3coder : Fld Z h3_ b3 "java/lang/String" "coder" "B" (.int 0) := D3 (Or.inr (hw _ (List.mem_of_getElem? (i := 21) rfl))) (ty := .byte) (by decide)
      refine own_dup X3 hx (hb hby dV_16) rfl (q := 17) rfl ?_
      refine own_iload_n X3 hx (hb hby dV_17) rfl (q := 18) rfl ?_
      refine own_callS X3 hx hZ hown (hw _ (List.mem_of_getElem? (i := 94) rfl)) (hw _ (List.mem_of_getElem? (i := 95) rfl)) (hw _ (List.mem_of_getElem? (i := 91) rfl)) (hw _ (List.mem_of_getElem? (i := 96) rfl)) (by decide) (own_rmT l Z a0 hw [] p1  h3_ n0 (Nat.le_trans hn0 z3_)) (by decide) (by decide) e3 (by rw [hml]; rfl) (argsL := [(.int p1)]) (rest := [(.ref b3), (.ref b3)]) (lenOf own_pd5 rfl) rfl (W := 2) rfl (hb hby dV_18) (q := 21) rfl rfl (by decide) (by decide) ?_
      rintro _ T4 L4 ⟨b4, rfl, o4, NL4, K4⟩ X4
      have N4 := Fr.app (Fr.nil n0) NL4
      obtain ⟨h4_, e4⟩ : ∃ z, T4.heap = z := ⟨_, rfl⟩
      rw [e4] at K4
      have E4 := own_kext K4
      have ST_4 := ST_3.ext E4
      have A3_4 := A3.ext E4
      have F3value_4 := F3value.ext E4
      have F3coder_4 := F3coder.ext E4
      have KK4 := Keep.ext KK3 E4
      have z4_ : h0.size ≤ h4_.size := Nat.le_trans z3_ K4.1
      obtain ⟨LL4, eL4⟩ : ∃ z, [] ++ L4 = z := ⟨_, rfl⟩
      rw [eL4] at X4 N4
      show own_G p e below _ (T4.setTop (mkF m 21 #[.val (.int p1)] [(.ref b4), (.ref b3), (.ref b3)]))
      refine own_iconst X4 hx (hb hby dV_21) (v := (0 : Int32)) rfl (q := 22) rfl ?_
      refine own_callN X4 hx hZ rfl hown (hw _ (List.mem_of_getElem? (i := 97) rfl)) (hw _ (List.mem_of_getElem? (i := 98) rfl)) (hw _ (List.mem_of_getElem? (i := 6) rfl)) (hw _ (List.mem_of_getElem? (i := 99) rfl)) (by decide) (own_rmS l Z a0 hw [] b3 b4 (0 : Int32)  h4_ n0 (Nat.le_trans hn0 z4_) p3_ A3_4 F3value_4 F3coder_4 rfl) (by decide) (by decide) e4 (by rw [hml]; rfl) (argsL := [(.ref b4), (.int (0 : Int32))]) (rest := [(.ref b3)]) (lenOf own_pd6 rfl) rfl (W := 1) rfl (hb hby dV_22) (q := 25) rfl rfl (by decide) (by decide) ?_
      rintro _ T5 L5 ⟨rfl, NL5, K5⟩ X5
      have N5 := Fr.app N4 NL5
      obtain ⟨h5_, e5⟩ : ∃ z, T5.heap = z := ⟨_, rfl⟩
      rw [e5] at K5 
      have ST_5 := own_sta_keep ST_4 K5 (nsS (Exa.nostat A3_4) ns0)
      have A3_5 := A3_4.keep K5
      have KK5 := Keep.trans KK4 K5 (allS (Or.inr o3) all0)
      have z5_ : h0.size ≤ h5_.size := Nat.le_trans z4_ K5.1
      obtain ⟨LL5, eL5⟩ : ∃ z, LL4 ++ L5 = z := ⟨_, rfl⟩
      rw [eL5] at X5 N5
      show own_G p e below _ (T5.setTop (mkF m 25 #[.val (.int p1)] [(.ref b3)]))
      exact own_retA X5 hx rfl hret rfl hlk (hb hby dV_25) (by decide) (by decide) (by rw [e5]; unfold own_QV; exact ⟨_, rfl, p3_, N5, KK5⟩)
theorem dD_0 : decode method_3_code 0 = .ok (.iload_n 0, 1) := by decide +kernel
theorem dD_1 : decode method_3_code 1 = .ok (.bipush 7, 2) := by decide +kernel
theorem dD_3 : decode method_3_code 3 = .ok (.iand, 1) := by decide +kernel
theorem dD_4 : decode method_3_code 4 = .ok (.bipush 7, 2) := by decide +kernel
theorem dD_6 : decode method_3_code 6 = .ok (.if_icmp .ne 5, 3) := by decide +kernel
theorem dD_9 : decode method_3_code 9 = .ok (.aconst_null, 1) := by decide +kernel
theorem dD_10 : decode method_3_code 10 = .ok (.areturn, 1) := by decide +kernel
theorem dD_11 : decode method_3_code 11 = .ok (.iload_n 0, 1) := by decide +kernel
theorem dD_12 : decode method_3_code 12 = .ok (.iconst 3, 1) := by decide +kernel
theorem dD_13 : decode method_3_code 13 = .ok (.iand, 1) := by decide +kernel
theorem dD_14 : decode method_3_code 14 = .ok (.istore 4, 2) := by decide +kernel
theorem dD_16 : decode method_3_code 16 = .ok (.iload_n 1, 1) := by decide +kernel
theorem dD_17 : decode method_3_code 17 = .ok (.sipush 255, 3) := by decide +kernel
theorem dD_20 : decode method_3_code 20 = .ok (.iand, 1) := by decide +kernel
theorem dD_21 : decode method_3_code 21 = .ok (.i2c, 1) := by decide +kernel
theorem dD_22 : decode method_3_code 22 = .ok (.istore 5, 2) := by decide +kernel
theorem dD_24 : decode method_3_code 24 = .ok (.iload_n 2, 1) := by decide +kernel
theorem dD_25 : decode method_3_code 25 = .ok (.sipush 255, 3) := by decide +kernel
theorem dD_28 : decode method_3_code 28 = .ok (.iand, 1) := by decide +kernel
theorem dD_29 : decode method_3_code 29 = .ok (.i2c, 1) := by decide +kernel
theorem dD_30 : decode method_3_code 30 = .ok (.istore 6, 2) := by decide +kernel
theorem dD_32 : decode method_3_code 32 = .ok (.iload_n 3, 1) := by decide +kernel
theorem dD_33 : decode method_3_code 33 = .ok (.sipush 255, 3) := by decide +kernel
theorem dD_36 : decode method_3_code 36 = .ok (.iand, 1) := by decide +kernel
theorem dD_37 : decode method_3_code 37 = .ok (.i2c, 1) := by decide +kernel
theorem dD_38 : decode method_3_code 38 = .ok (.istore 7, 2) := by decide +kernel
theorem dD_40 : decode method_3_code 40 = .ok (.iload 4, 2) := by decide +kernel
theorem dD_42 : decode method_3_code 42 = .ok (.ifCond .ne 14, 3) := by decide +kernel
theorem dD_45 : decode method_3_code 45 = .ok (.new 33, 3) := by decide +kernel
theorem dD_48 : decode method_3_code 48 = .ok (.dup, 1) := by decide +kernel
theorem dD_49 : decode method_3_code 49 = .ok (.iconst 0, 1) := by decide +kernel
theorem dD_50 : decode method_3_code 50 = .ok (.newarray .char, 2) := by decide +kernel
theorem dD_52 : decode method_3_code 52 = .ok (.invokespecial 37, 3) := by decide +kernel
theorem dD_55 : decode method_3_code 55 = .ok (.areturn, 1) := by decide +kernel
theorem dD_56 : decode method_3_code 56 = .ok (.iload 4, 2) := by decide +kernel
theorem dD_58 : decode method_3_code 58 = .ok (.iconst 1, 1) := by decide +kernel
theorem dD_59 : decode method_3_code 59 = .ok (.if_icmp .ne 9, 3) := by decide +kernel
theorem dD_62 : decode method_3_code 62 = .ok (.iload 5, 2) := by decide +kernel
theorem dD_64 : decode method_3_code 64 = .ok (.invokestatic 40, 3) := by decide +kernel
theorem dD_67 : decode method_3_code 67 = .ok (.areturn, 1) := by decide +kernel
theorem dD_68 : decode method_3_code 68 = .ok (.iload 4, 2) := by decide +kernel
theorem dD_70 : decode method_3_code 70 = .ok (.iconst 2, 1) := by decide +kernel
theorem dD_71 : decode method_3_code 71 = .ok (.if_icmp .ne 24, 3) := by decide +kernel
theorem dD_74 : decode method_3_code 74 = .ok (.new 33, 3) := by decide +kernel
theorem dD_77 : decode method_3_code 77 = .ok (.dup, 1) := by decide +kernel
theorem dD_78 : decode method_3_code 78 = .ok (.iconst 2, 1) := by decide +kernel
theorem dD_79 : decode method_3_code 79 = .ok (.newarray .char, 2) := by decide +kernel
theorem dD_81 : decode method_3_code 81 = .ok (.dup, 1) := by decide +kernel
theorem dD_82 : decode method_3_code 82 = .ok (.iconst 0, 1) := by decide +kernel
theorem dD_83 : decode method_3_code 83 = .ok (.iload 5, 2) := by decide +kernel
theorem dD_85 : decode method_3_code 85 = .ok (.castore, 1) := by decide +kernel
theorem dD_86 : decode method_3_code 86 = .ok (.dup, 1) := by decide +kernel
theorem dD_87 : decode method_3_code 87 = .ok (.iconst 1, 1) := by decide +kernel
theorem dD_88 : decode method_3_code 88 = .ok (.iload 6, 2) := by decide +kernel
theorem dD_90 : decode method_3_code 90 = .ok (.castore, 1) := by decide +kernel
theorem dD_91 : decode method_3_code 91 = .ok (.invokespecial 37, 3) := by decide +kernel
theorem dD_94 : decode method_3_code 94 = .ok (.areturn, 1) := by decide +kernel
theorem dD_95 : decode method_3_code 95 = .ok (.new 33, 3) := by decide +kernel
theorem dD_98 : decode method_3_code 98 = .ok (.dup, 1) := by decide +kernel
theorem dD_99 : decode method_3_code 99 = .ok (.iconst 3, 1) := by decide +kernel
theorem dD_100 : decode method_3_code 100 = .ok (.newarray .char, 2) := by decide +kernel
theorem dD_102 : decode method_3_code 102 = .ok (.dup, 1) := by decide +kernel
theorem dD_103 : decode method_3_code 103 = .ok (.iconst 0, 1) := by decide +kernel
theorem dD_104 : decode method_3_code 104 = .ok (.iload 5, 2) := by decide +kernel
theorem dD_106 : decode method_3_code 106 = .ok (.castore, 1) := by decide +kernel
theorem dD_107 : decode method_3_code 107 = .ok (.dup, 1) := by decide +kernel
theorem dD_108 : decode method_3_code 108 = .ok (.iconst 1, 1) := by decide +kernel
theorem dD_109 : decode method_3_code 109 = .ok (.iload 6, 2) := by decide +kernel
theorem dD_111 : decode method_3_code 111 = .ok (.castore, 1) := by decide +kernel
theorem dD_112 : decode method_3_code 112 = .ok (.dup, 1) := by decide +kernel
theorem dD_113 : decode method_3_code 113 = .ok (.iconst 2, 1) := by decide +kernel
theorem dD_114 : decode method_3_code 114 = .ok (.iload 7, 2) := by decide +kernel
theorem dD_116 : decode method_3_code 116 = .ok (.castore, 1) := by decide +kernel
theorem dD_117 : decode method_3_code 117 = .ok (.invokespecial 37, 3) := by decide +kernel
theorem dD_120 : decode method_3_code 120 = .ok (.areturn, 1) := by decide +kernel
def own_QD (Z : State) (p1 : Int32) (p2 : Int32) (p3 : Int32) (p4 : Int32) (h0 : Heap) (n0 : Nat) : Option Value → Heap → List Loc → Prop := fun v h L => (v = some .null ∨ ∃ b, v = some (.ref b)) ∧ Fr n0 L ∧ Keep h0 h []
theorem own_pnD : plainFor (⟨"com/example/treaty2/treaty2/service/ReceiptDeliveredPinLaw", "drawn", "(IIII)Ljava/lang/String;"⟩ : MethodName) = true := plainFor_of_name (show plainName "com/example/treaty2/treaty2/service/ReceiptDeliveredPinLaw" = true by first | (simp [plainName, overriddenIn]; done) | decide +kernel)
theorem own_efD (m : MethodId) (p1 : Int32) (p2 : Int32) (p3 : Int32) (p4 : Int32)  : entryFrame m #[(.int p1), (.int p2), (.int p3), (.int p4)] 8 = mkF m 0 #[.val (.int p1), .val (.int p2), .val (.int p3), .val (.int p4), .unset, .unset, .unset, .unset] [] := by first | (simp [entryFrame, mkF, argsToLocals, Value.category, maxLocals]; done) | rfl
set_option maxRecDepth 65536 in
set_option maxHeartbeats 40000000 in
theorem own_rmD (l : Launch) (Z : State) (a0 : Array Value) (hw : ∀ d ∈ tables_1, d.before a0 Z = true) (ws : List Jvm.Cond) (p1 : Int32) (p2 : Int32) (p3 : Int32) (p4 : Int32) (G1 : Int32) (h0 : Heap) (n0 : Nat) (hn0 : n0 ≤ h0.size) (ST : Sta Z h0 "java/lang/String" "COMPACT_STRINGS" "Z" (.int G1)) (hG : G1.toInt ≠ 0) :
    MetFree l (⟨"com/example/treaty2/treaty2/service/ReceiptDeliveredPinLaw", "drawn", "(IIII)Ljava/lang/String;"⟩ : MethodName) (head1 (Jvm.Cond.code (⟨"com/example/treaty2/treaty2/service/ReceiptDeliveredPinLaw", "drawn", "(IIII)Ljava/lang/String;"⟩ : MethodName) method_3_code 8 (some (.object "java/lang/String")) :: ws) ({ frames := 4, cells := 6, slots := 12, locals := 66 } : Room)) (fun a U => a = #[(.int p1), (.int p2), (.int p3), (.int p4)] ∧ Z.Warmed39 U.vm ∧ U.heap = h0 ∧ CHv Z consts_1 U.vm h0 ∧ ∀ x ∈ ([] : List Addr), Safe Z consts_1 U.vm h0 x) (fun _ _ _ _ _ => True) (fun _ U o U' => ∃ v L, o = .returned v ∧ (own_QD Z p1 p2 p3 p4 h0 n0) v U'.heap L ∧ CHr Z consts_1 U.vm U.heap U'.vm U'.heap ∧ ReturnedEndW U o U' L ({ frames := 4, cells := 6, slots := 12, locals := 66 } : Room).cells ({ frames := 4, cells := 6, slots := 12, locals := 66 } : Room).slots) := by
  refine own_Wbody (EL := consts_1) (y := (⟨"com/example/treaty2/treaty2/service/ReceiptDeliveredPinLaw", "drawn", "(IIII)Ljava/lang/String;"⟩ : MethodName)) (Q := own_QD Z p1 p2 p3 p4 h0 n0) (rm := ({ frames := 4, cells := 6, slots := 12, locals := 66 } : Room)) (as' := #[(.int p1), (.int p2), (.int p3), (.int p4)]) (h0 := h0) (Z := Z) (sf := []) own_pnD ?_
  intro p e s m below meth c s₁ hx hby hml hown hnm hret hlk hZ X0 e0 hS hk HC0 hsf0
  have hown : s.vm.findClass "com/example/treaty2/treaty2/service/ReceiptDeliveredPinLaw" = some m.cls := hown
  rw [own_efD]
  refine own_iload_n X0 hx (hb hby dD_0) rfl (q := 1) rfl ?_
  refine own_bipush X0 hx (hb hby dD_1) (v := (7 : Int32)) rfl (q := 3) rfl ?_
  refine own_iand X0 hx (hb hby dD_3) (q := 4) rfl ?_
  refine own_bipush X0 hx (hb hby dD_4) (v := (7 : Int32)) rfl (q := 6) rfl ?_
  refine own_icmp X0 hx (hb hby dD_6) (by decide) (q := 11) rfl (q' := 9) rfl (own_h_ne _ _) (fun h6 => ?_) (fun h6 => ?_)
  · replace h6 : (p1 &&& (7 : Int32)).toInt ≠ (7 : Int) := h6
    refine own_iload_n X0 hx (hb hby dD_11) rfl (q := 12) rfl ?_
    refine own_iconst X0 hx (hb hby dD_12) (v := (3 : Int32)) rfl (q := 13) rfl ?_
    refine own_iand X0 hx (hb hby dD_13) (q := 14) rfl ?_
    refine own_istore X0 hx (hb hby dD_14) (l' := #[.val (.int p1), .val (.int p2), .val (.int p3), .val (.int p4), .val (.int (p1 &&& (3 : Int32))), .unset, .unset, .unset]) rfl (q := 16) rfl ?_
    refine own_iload_n X0 hx (hb hby dD_16) rfl (q := 17) rfl ?_
    refine own_sipush X0 hx (hb hby dD_17) (v := (255 : Int32)) rfl (q := 20) rfl ?_
    refine own_iand X0 hx (hb hby dD_20) (q := 21) rfl ?_
    refine own_i2c X0 hx (hb hby dD_21) (q := 22) rfl ?_
    refine own_istore X0 hx (hb hby dD_22) (l' := #[.val (.int p1), .val (.int p2), .val (.int p3), .val (.int p4), .val (.int (p1 &&& (3 : Int32))), .val (.int ((p2 &&& (255 : Int32)).toUInt32.toUInt16.toUInt32.toInt32)), .unset, .unset]) rfl (q := 24) rfl ?_
    refine own_iload_n X0 hx (hb hby dD_24) rfl (q := 25) rfl ?_
    refine own_sipush X0 hx (hb hby dD_25) (v := (255 : Int32)) rfl (q := 28) rfl ?_
    refine own_iand X0 hx (hb hby dD_28) (q := 29) rfl ?_
    refine own_i2c X0 hx (hb hby dD_29) (q := 30) rfl ?_
    refine own_istore X0 hx (hb hby dD_30) (l' := #[.val (.int p1), .val (.int p2), .val (.int p3), .val (.int p4), .val (.int (p1 &&& (3 : Int32))), .val (.int ((p2 &&& (255 : Int32)).toUInt32.toUInt16.toUInt32.toInt32)), .val (.int ((p3 &&& (255 : Int32)).toUInt32.toUInt16.toUInt32.toInt32)), .unset]) rfl (q := 32) rfl ?_
    refine own_iload_n X0 hx (hb hby dD_32) rfl (q := 33) rfl ?_
    refine own_sipush X0 hx (hb hby dD_33) (v := (255 : Int32)) rfl (q := 36) rfl ?_
    refine own_iand X0 hx (hb hby dD_36) (q := 37) rfl ?_
    refine own_i2c X0 hx (hb hby dD_37) (q := 38) rfl ?_
    refine own_istore X0 hx (hb hby dD_38) (l' := #[.val (.int p1), .val (.int p2), .val (.int p3), .val (.int p4), .val (.int (p1 &&& (3 : Int32))), .val (.int ((p2 &&& (255 : Int32)).toUInt32.toUInt16.toUInt32.toInt32)), .val (.int ((p3 &&& (255 : Int32)).toUInt32.toUInt16.toUInt32.toInt32)), .val (.int ((p4 &&& (255 : Int32)).toUInt32.toUInt16.toUInt32.toInt32))]) rfl (q := 40) rfl ?_
    refine own_iload X0 hx (hb hby dD_40) rfl (q := 42) rfl ?_
    refine own_if X0 hx (hb hby dD_42) (by decide) (q := 56) rfl (q' := 45) rfl (own_z_ne _) (fun h42 => ?_) (fun h42 => ?_)
    · replace h42 : (p1 &&& (3 : Int32)).toInt ≠ 0 := h42
      refine own_iload X0 hx (hb hby dD_56) rfl (q := 58) rfl ?_
      refine own_iconst X0 hx (hb hby dD_58) (v := (1 : Int32)) rfl (q := 59) rfl ?_
      refine own_icmp X0 hx (hb hby dD_59) (by decide) (q := 68) rfl (q' := 62) rfl (own_h_ne _ _) (fun h59 => ?_) (fun h59 => ?_)
      · replace h59 : (p1 &&& (3 : Int32)).toInt ≠ (1 : Int) := h59
        refine own_iload X0 hx (hb hby dD_68) rfl (q := 70) rfl ?_
        refine own_iconst X0 hx (hb hby dD_70) (v := (2 : Int32)) rfl (q := 71) rfl ?_
        refine own_icmp X0 hx (hb hby dD_71) (by decide) (q := 95) rfl (q' := 74) rfl (own_h_ne _ _) (fun h71 => ?_) (fun h71 => ?_)
        · replace h71 : (p1 &&& (3 : Int32)).toInt ≠ (2 : Int) := h71
          refine own_newO X0 hx hZ hown (hw _ (List.mem_of_getElem? (i := 4) rfl)) (hw _ (List.mem_of_getElem? (i := 5) rfl)) (hw _ (List.mem_of_getElem? (i := 6) rfl)) e0 (hb hby dD_95) (by decide) (by decide) (q := 98) rfl ?_
          intro T1 h1_ b1 g1 X1 e1 E1 A1 D1
          have ST_1 := ST.ext E1
          have S1 : Safe Z consts_1 s.vm h1_ b1 := Safe.ext E1 HC0.1 (Safe.new (by rw [g1]; exact Nat.le_refl _))
          have KK1 := Keep.ext (Keep.refl h0 []) E1
          have HC1 := CHr.trans HC0 (CHr.ext E1 HC0.1)
          have hk : _ ≤ h1_.size := Nat.le_trans hk E1.1
          have o1 : h0.size ≤ b1 := by rw [g1]; exact (Nat.le_refl _)
          have p1_ : n0 ≤ b1 := Nat.le_trans hn0 o1
          have z1_ : h0.size ≤ h1_.size := Nat.le_trans (Nat.le_refl _) E1.1
          have F1value : Fld Z h1_ b1 "java/lang/String" "value" "[B" (.null) := D1 (Or.inr (hw _ (List.mem_of_getElem? (i := 20) rfl))) (ty := (.array .byte)) (by decide)
          have F1coder : Fld Z h1_ b1 "java/lang/String" "coder" "B" (.int 0) := D1 (Or.inr (hw _ (List.mem_of_getElem? (i := 21) rfl))) (ty := .byte) (by decide)
          refine own_dup X1 hx (hb hby dD_98) rfl (q := 99) rfl ?_
          refine own_iconst X1 hx (hb hby dD_99) (v := (3 : Int32)) rfl (q := 100) rfl ?_
          refine own_newP X1 hx hZ (hw _ (List.mem_of_getElem? (i := 7) rfl)) e1 (hb hby dD_100) (N := 3) (rfl) (cap := 3) (by decide) (by decide) (by decide) (by decide) (q := 102) rfl ?_
          intro T2 h2_ b2 g2 X2 e2 E2 A2
          have ne_b1_b2 : b1 ≠ b2 := Nat.ne_of_lt (by rw [g2]; exact A1.lt)
          have ST_2 := ST_1.ext E2
          have S1_2 := Safe.ext E2 HC1.1 S1
          have A1_2 := A1.ext E2
          have F1value_2 := F1value.ext E2
          have F1coder_2 := F1coder.ext E2
          have S2 : Safe Z consts_1 s.vm h2_ b2 := Safe.ext E2 HC1.1 (Safe.new (by rw [g2]; exact Nat.le_refl _))
          have KK2 := Keep.ext KK1 E2
          have HC2 := CHr.trans HC1 (CHr.ext E2 HC1.1)
          have hk : _ ≤ h2_.size := Nat.le_trans hk E2.1
          have o2 : h0.size ≤ b2 := by rw [g2]; exact z1_
          have p2_ : n0 ≤ b2 := Nat.le_trans hn0 o2
          have z2_ : h0.size ≤ h2_.size := Nat.le_trans z1_ E2.1
          have A2 : own_Arr Z h2_ b2 .char 3 (fun i => .int (own_zero i)) := A2
          refine own_dup X2 hx (hb hby dD_102) rfl (q := 103) rfl ?_
          refine own_iconst X2 hx (hb hby dD_103) (v := (0 : Int32)) rfl (q := 104) rfl ?_
          refine own_iload X2 hx (hb hby dD_104) rfl (q := 106) rfl ?_
          refine own_stC X2 hx hZ e2 A2 (hb hby dD_106) (i := 0) (rfl) (by decide) (Fr.nil n0) p2_ (q := 107) rfl ?_
          intro T3 h3_ L3 X3 N3 e3 A3 W3
          have K3 := Keep.of_wr W3
          have ST_3 := ST_2.wr W3
          have S1_3 := Safe.keep K3 (sfS S2 sf0) HC2.1 S1_2
          have A1_3 := A1_2.keep K3
          have F1value_3 := F1value_2.keep K3 (ninS ne_b1_b2 nin0)
          have F1coder_3 := F1coder_2.keep K3 (ninS ne_b1_b2 nin0)
          have S2_3 := Safe.keep K3 (sfS S2 sf0) HC2.1 S2
          have KK3 := Keep.trans KK2 K3 (allS (Or.inr o2) all0)
          have HC3 := CHr.trans HC2 (CHr.keep K3 (sfS S2 sf0) HC2.1)
          have hk : _ ≤ h3_.size := Nat.le_trans hk K3.1
          have z3_ : h0.size ≤ h3_.size := Nat.le_trans z2_ K3.1
          refine own_dup X3 hx (hb hby dD_107) rfl (q := 108) rfl ?_
          refine own_iconst X3 hx (hb hby dD_108) (v := (1 : Int32)) rfl (q := 109) rfl ?_
          refine own_iload X3 hx (hb hby dD_109) rfl (q := 111) rfl ?_
          refine own_stC X3 hx hZ e3 A3 (hb hby dD_111) (i := 1) (rfl) (by decide) N3 p2_ (q := 112) rfl ?_
          intro T4 h4_ L4 X4 N4 e4 A4 W4
          have K4 := Keep.of_wr W4
          have ST_4 := ST_3.wr W4
          have S1_4 := Safe.keep K4 (sfS S2_3 sf0) HC3.1 S1_3
          have A1_4 := A1_3.keep K4
          have F1value_4 := F1value_3.keep K4 (ninS ne_b1_b2 nin0)
          have F1coder_4 := F1coder_3.keep K4 (ninS ne_b1_b2 nin0)
          have S2_4 := Safe.keep K4 (sfS S2_3 sf0) HC3.1 S2_3
          have KK4 := Keep.trans KK3 K4 (allS (Or.inr o2) all0)
          have HC4 := CHr.trans HC3 (CHr.keep K4 (sfS S2_3 sf0) HC3.1)
          have hk : _ ≤ h4_.size := Nat.le_trans hk K4.1
          have z4_ : h0.size ≤ h4_.size := Nat.le_trans z3_ K4.1
          refine own_dup X4 hx (hb hby dD_112) rfl (q := 113) rfl ?_
          refine own_iconst X4 hx (hb hby dD_113) (v := (2 : Int32)) rfl (q := 114) rfl ?_
          refine own_iload X4 hx (hb hby dD_114) rfl (q := 116) rfl ?_
          refine own_stC X4 hx hZ e4 A4 (hb hby dD_116) (i := 2) (rfl) (by decide) N4 p2_ (q := 117) rfl ?_
          intro T5 h5_ L5 X5 N5 e5 A5 W5
          have K5 := Keep.of_wr W5
          have ST_5 := ST_4.wr W5
          have S1_5 := Safe.keep K5 (sfS S2_4 sf0) HC4.1 S1_4
          have A1_5 := A1_4.keep K5
          have F1value_5 := F1value_4.keep K5 (ninS ne_b1_b2 nin0)
          have F1coder_5 := F1coder_4.keep K5 (ninS ne_b1_b2 nin0)
          have S2_5 := Safe.keep K5 (sfS S2_4 sf0) HC4.1 S2_4
          have KK5 := Keep.trans KK4 K5 (allS (Or.inr o2) all0)
          have HC5 := CHr.trans HC4 (CHr.keep K5 (sfS S2_4 sf0) HC4.1)
          have hk : _ ≤ h5_.size := Nat.le_trans hk K5.1
          have z5_ : h0.size ≤ h5_.size := Nat.le_trans z4_ K5.1
          refine own_callN X5 hx hZ rfl hown (hw _ (List.mem_of_getElem? (i := 8) rfl)) (hw _ (List.mem_of_getElem? (i := 9) rfl)) (hw _ (List.mem_of_getElem? (i := 6) rfl)) (hw _ (List.mem_of_getElem? (i := 10) rfl)) (by decide) (own_rmJ3 l Z a0 hw [] b1 b2 (own_updI (own_updI (own_updI own_zero 0 (nar .char ((p2 &&& (255 : Int32)).toUInt32.toUInt16.toUInt32.toInt32))) 1 (nar .char ((p3 &&& (255 : Int32)).toUInt32.toUInt16.toUInt32.toInt32))) 2 (nar .char ((p4 &&& (255 : Int32)).toUInt32.toUInt16.toUInt32.toInt32))) G1 h5_ n0 (Nat.le_trans hn0 z5_) p1_ A1_5 F1value_5 F1coder_5 ne_b1_b2.symm A5 (own_rngC (own_rngC (own_rngC own_rngC0 _ _) _ _) _ _) ST_5 hG) (by decide) (by decide) e5 (by rw [hml]; rfl) (argsL := [(.ref b2)]) (rest := [(.ref b1)]) (lenOf own_pd7 rfl) rfl (W := 1) rfl (hb hby dD_117) (q := 120) rfl rfl (by decide) (by decide) ?_
          rintro _ T6 L6 ⟨rfl, NL6, K6⟩ X6
          have N6 := Fr.app N5 NL6
          obtain ⟨h6_, e6⟩ : ∃ z, T6.heap = z := ⟨_, rfl⟩
          rw [e6] at K6 
          have ST_6 := own_sta_keep ST_5 K6 (nsS (Exa.nostat A1_5) ns0)
          have S1_6 := Safe.keep K6 (sfS S1_5 sf0) HC5.1 S1_5
          have A1_6 := A1_5.keep K6
          have S2_6 := Safe.keep K6 (sfS S1_5 sf0) HC5.1 S2_5
          have A5_6 := A5.keep K6 (ninS ne_b1_b2.symm nin0)
          have KK6 := Keep.trans KK5 K6 (allS (Or.inr o1) all0)
          have HC6 := CHr.trans HC5 (CHr.keep K6 (sfS S1_5 sf0) HC5.1)
          have hk : _ ≤ h6_.size := Nat.le_trans hk K6.1
          have z6_ : h0.size ≤ h6_.size := Nat.le_trans z5_ K6.1
          obtain ⟨LL6, eL6⟩ : ∃ z, L5 ++ L6 = z := ⟨_, rfl⟩
          rw [eL6] at X6 N6
          show own_G p e below _ (T6.setTop (mkF m 120 #[.val (.int p1), .val (.int p2), .val (.int p3), .val (.int p4), .val (.int (p1 &&& (3 : Int32))), .val (.int ((p2 &&& (255 : Int32)).toUInt32.toUInt16.toUInt32.toInt32)), .val (.int ((p3 &&& (255 : Int32)).toUInt32.toUInt16.toUInt32.toInt32)), .val (.int ((p4 &&& (255 : Int32)).toUInt32.toUInt16.toUInt32.toInt32))] [(.ref b1)]))
          exact own_WretA X6 hx hZ (own_EW hw) hS hk HC6 e6 rfl hret rfl hlk (hb hby dD_120) (by decide) (by decide) (by rw [e6]; unfold own_QD; exact ⟨Or.inr ⟨_, rfl⟩, N6, KK6⟩)
        · replace h71 : ¬ ((p1 &&& (3 : Int32)).toInt ≠ (2 : Int)) := h71
          refine own_newO X0 hx hZ hown (hw _ (List.mem_of_getElem? (i := 4) rfl)) (hw _ (List.mem_of_getElem? (i := 5) rfl)) (hw _ (List.mem_of_getElem? (i := 6) rfl)) e0 (hb hby dD_74) (by decide) (by decide) (q := 77) rfl ?_
          intro T7 h7_ b7 g7 X7 e7 E7 A7 D7
          have ST_7 := ST.ext E7
          have S7 : Safe Z consts_1 s.vm h7_ b7 := Safe.ext E7 HC0.1 (Safe.new (by rw [g7]; exact Nat.le_refl _))
          have KK7 := Keep.ext (Keep.refl h0 []) E7
          have HC7 := CHr.trans HC0 (CHr.ext E7 HC0.1)
          have hk : _ ≤ h7_.size := Nat.le_trans hk E7.1
          have o7 : h0.size ≤ b7 := by rw [g7]; exact (Nat.le_refl _)
          have p7_ : n0 ≤ b7 := Nat.le_trans hn0 o7
          have z7_ : h0.size ≤ h7_.size := Nat.le_trans (Nat.le_refl _) E7.1
          have F7value : Fld Z h7_ b7 "java/lang/String" "value" "[B" (.null) := D7 (Or.inr (hw _ (List.mem_of_getElem? (i := 20) rfl))) (ty := (.array .byte)) (by decide)
          have F7coder : Fld Z h7_ b7 "java/lang/String" "coder" "B" (.int 0) := D7 (Or.inr (hw _ (List.mem_of_getElem? (i := 21) rfl))) (ty := .byte) (by decide)
          refine own_dup X7 hx (hb hby dD_77) rfl (q := 78) rfl ?_
          refine own_iconst X7 hx (hb hby dD_78) (v := (2 : Int32)) rfl (q := 79) rfl ?_
          refine own_newP X7 hx hZ (hw _ (List.mem_of_getElem? (i := 7) rfl)) e7 (hb hby dD_79) (N := 2) (rfl) (cap := 2) (by decide) (by decide) (by decide) (by decide) (q := 81) rfl ?_
          intro T8 h8_ b8 g8 X8 e8 E8 A8
          have ne_b7_b8 : b7 ≠ b8 := Nat.ne_of_lt (by rw [g8]; exact A7.lt)
          have ST_8 := ST_7.ext E8
          have S7_8 := Safe.ext E8 HC7.1 S7
          have A7_8 := A7.ext E8
          have F7value_8 := F7value.ext E8
          have F7coder_8 := F7coder.ext E8
          have S8 : Safe Z consts_1 s.vm h8_ b8 := Safe.ext E8 HC7.1 (Safe.new (by rw [g8]; exact Nat.le_refl _))
          have KK8 := Keep.ext KK7 E8
          have HC8 := CHr.trans HC7 (CHr.ext E8 HC7.1)
          have hk : _ ≤ h8_.size := Nat.le_trans hk E8.1
          have o8 : h0.size ≤ b8 := by rw [g8]; exact z7_
          have p8_ : n0 ≤ b8 := Nat.le_trans hn0 o8
          have z8_ : h0.size ≤ h8_.size := Nat.le_trans z7_ E8.1
          have A8 : own_Arr Z h8_ b8 .char 2 (fun i => .int (own_zero i)) := A8
          refine own_dup X8 hx (hb hby dD_81) rfl (q := 82) rfl ?_
          refine own_iconst X8 hx (hb hby dD_82) (v := (0 : Int32)) rfl (q := 83) rfl ?_
          refine own_iload X8 hx (hb hby dD_83) rfl (q := 85) rfl ?_
          refine own_stC X8 hx hZ e8 A8 (hb hby dD_85) (i := 0) (rfl) (by decide) (Fr.nil n0) p8_ (q := 86) rfl ?_
          intro T9 h9_ L9 X9 N9 e9 A9 W9
          have K9 := Keep.of_wr W9
          have ST_9 := ST_8.wr W9
          have S7_9 := Safe.keep K9 (sfS S8 sf0) HC8.1 S7_8
          have A7_9 := A7_8.keep K9
          have F7value_9 := F7value_8.keep K9 (ninS ne_b7_b8 nin0)
          have F7coder_9 := F7coder_8.keep K9 (ninS ne_b7_b8 nin0)
          have S8_9 := Safe.keep K9 (sfS S8 sf0) HC8.1 S8
          have KK9 := Keep.trans KK8 K9 (allS (Or.inr o8) all0)
          have HC9 := CHr.trans HC8 (CHr.keep K9 (sfS S8 sf0) HC8.1)
          have hk : _ ≤ h9_.size := Nat.le_trans hk K9.1
          have z9_ : h0.size ≤ h9_.size := Nat.le_trans z8_ K9.1
          refine own_dup X9 hx (hb hby dD_86) rfl (q := 87) rfl ?_
          refine own_iconst X9 hx (hb hby dD_87) (v := (1 : Int32)) rfl (q := 88) rfl ?_
          refine own_iload X9 hx (hb hby dD_88) rfl (q := 90) rfl ?_
          refine own_stC X9 hx hZ e9 A9 (hb hby dD_90) (i := 1) (rfl) (by decide) N9 p8_ (q := 91) rfl ?_
          intro T10 h10_ L10 X10 N10 e10 A10 W10
          have K10 := Keep.of_wr W10
          have ST_10 := ST_9.wr W10
          have S7_10 := Safe.keep K10 (sfS S8_9 sf0) HC9.1 S7_9
          have A7_10 := A7_9.keep K10
          have F7value_10 := F7value_9.keep K10 (ninS ne_b7_b8 nin0)
          have F7coder_10 := F7coder_9.keep K10 (ninS ne_b7_b8 nin0)
          have S8_10 := Safe.keep K10 (sfS S8_9 sf0) HC9.1 S8_9
          have KK10 := Keep.trans KK9 K10 (allS (Or.inr o8) all0)
          have HC10 := CHr.trans HC9 (CHr.keep K10 (sfS S8_9 sf0) HC9.1)
          have hk : _ ≤ h10_.size := Nat.le_trans hk K10.1
          have z10_ : h0.size ≤ h10_.size := Nat.le_trans z9_ K10.1
          refine own_callN X10 hx hZ rfl hown (hw _ (List.mem_of_getElem? (i := 8) rfl)) (hw _ (List.mem_of_getElem? (i := 9) rfl)) (hw _ (List.mem_of_getElem? (i := 6) rfl)) (hw _ (List.mem_of_getElem? (i := 10) rfl)) (by decide) (own_rmJ2 l Z a0 hw [] b7 b8 (own_updI (own_updI own_zero 0 (nar .char ((p2 &&& (255 : Int32)).toUInt32.toUInt16.toUInt32.toInt32))) 1 (nar .char ((p3 &&& (255 : Int32)).toUInt32.toUInt16.toUInt32.toInt32))) G1 h10_ n0 (Nat.le_trans hn0 z10_) p7_ A7_10 F7value_10 F7coder_10 ne_b7_b8.symm A10 (own_rngC (own_rngC own_rngC0 _ _) _ _) ST_10 hG) (by decide) (by decide) e10 (by rw [hml]; rfl) (argsL := [(.ref b8)]) (rest := [(.ref b7)]) (lenOf own_pd7 rfl) rfl (W := 1) rfl (hb hby dD_91) (q := 94) rfl rfl (by decide) (by decide) ?_
          rintro _ T11 L11 ⟨rfl, NL11, K11⟩ X11
          have N11 := Fr.app N10 NL11
          obtain ⟨h11_, e11⟩ : ∃ z, T11.heap = z := ⟨_, rfl⟩
          rw [e11] at K11 
          have ST_11 := own_sta_keep ST_10 K11 (nsS (Exa.nostat A7_10) ns0)
          have S7_11 := Safe.keep K11 (sfS S7_10 sf0) HC10.1 S7_10
          have A7_11 := A7_10.keep K11
          have S8_11 := Safe.keep K11 (sfS S7_10 sf0) HC10.1 S8_10
          have A10_11 := A10.keep K11 (ninS ne_b7_b8.symm nin0)
          have KK11 := Keep.trans KK10 K11 (allS (Or.inr o7) all0)
          have HC11 := CHr.trans HC10 (CHr.keep K11 (sfS S7_10 sf0) HC10.1)
          have hk : _ ≤ h11_.size := Nat.le_trans hk K11.1
          have z11_ : h0.size ≤ h11_.size := Nat.le_trans z10_ K11.1
          obtain ⟨LL11, eL11⟩ : ∃ z, L10 ++ L11 = z := ⟨_, rfl⟩
          rw [eL11] at X11 N11
          show own_G p e below _ (T11.setTop (mkF m 94 #[.val (.int p1), .val (.int p2), .val (.int p3), .val (.int p4), .val (.int (p1 &&& (3 : Int32))), .val (.int ((p2 &&& (255 : Int32)).toUInt32.toUInt16.toUInt32.toInt32)), .val (.int ((p3 &&& (255 : Int32)).toUInt32.toUInt16.toUInt32.toInt32)), .val (.int ((p4 &&& (255 : Int32)).toUInt32.toUInt16.toUInt32.toInt32))] [(.ref b7)]))
          exact own_WretA X11 hx hZ (own_EW hw) hS hk HC11 e11 rfl hret rfl hlk (hb hby dD_94) (by decide) (by decide) (by rw [e11]; unfold own_QD; exact ⟨Or.inr ⟨_, rfl⟩, N11, KK11⟩)
      · replace h59 : ¬ ((p1 &&& (3 : Int32)).toInt ≠ (1 : Int)) := h59
        refine own_iload X0 hx (hb hby dD_62) rfl (q := 64) rfl ?_
        refine own_callS X0 hx hZ hown (hw _ (List.mem_of_getElem? (i := 86) rfl)) (hw _ (List.mem_of_getElem? (i := 87) rfl)) (hw _ (List.mem_of_getElem? (i := 6) rfl)) (hw _ (List.mem_of_getElem? (i := 88) rfl)) (by decide) (own_rmV l Z a0 hw [] ((p2 &&& (255 : Int32)).toUInt32.toUInt16.toUInt32.toInt32) G1 h0 n0 (Nat.le_trans hn0 (Nat.le_refl _)) ST hG (own_chr _)) (by decide) (by decide) e0 (by rw [hml]; rfl) (argsL := [(.int ((p2 &&& (255 : Int32)).toUInt32.toUInt16.toUInt32.toInt32))]) (rest := []) (lenOf own_pd8 rfl) rfl (W := 0) rfl (hb hby dD_64) (q := 67) rfl rfl (by decide) (by decide) ?_
        rintro _ T12 L12 ⟨b12, rfl, o12, NL12, K12⟩ X12
        have N12 := Fr.app (Fr.nil n0) NL12
        obtain ⟨h12_, e12⟩ : ∃ z, T12.heap = z := ⟨_, rfl⟩
        rw [e12] at K12
        have E12 := own_kext K12
        have ST_12 := ST.ext E12
        have KK12 := Keep.ext (Keep.refl h0 []) E12
        have HC12 := CHr.trans HC0 (CHr.ext E12 HC0.1)
        have hk : _ ≤ h12_.size := Nat.le_trans hk E12.1
        have z12_ : h0.size ≤ h12_.size := Nat.le_trans (Nat.le_refl _) K12.1
        obtain ⟨LL12, eL12⟩ : ∃ z, [] ++ L12 = z := ⟨_, rfl⟩
        rw [eL12] at X12 N12
        show own_G p e below _ (T12.setTop (mkF m 67 #[.val (.int p1), .val (.int p2), .val (.int p3), .val (.int p4), .val (.int (p1 &&& (3 : Int32))), .val (.int ((p2 &&& (255 : Int32)).toUInt32.toUInt16.toUInt32.toInt32)), .val (.int ((p3 &&& (255 : Int32)).toUInt32.toUInt16.toUInt32.toInt32)), .val (.int ((p4 &&& (255 : Int32)).toUInt32.toUInt16.toUInt32.toInt32))] [(.ref b12)]))
        exact own_WretA X12 hx hZ (own_EW hw) hS hk HC12 e12 rfl hret rfl hlk (hb hby dD_67) (by decide) (by decide) (by rw [e12]; unfold own_QD; exact ⟨Or.inr ⟨_, rfl⟩, N12, KK12⟩)
    · replace h42 : ¬ ((p1 &&& (3 : Int32)).toInt ≠ 0) := h42
      refine own_newO X0 hx hZ hown (hw _ (List.mem_of_getElem? (i := 4) rfl)) (hw _ (List.mem_of_getElem? (i := 5) rfl)) (hw _ (List.mem_of_getElem? (i := 6) rfl)) e0 (hb hby dD_45) (by decide) (by decide) (q := 48) rfl ?_
      intro T13 h13_ b13 g13 X13 e13 E13 A13 D13
      have ST_13 := ST.ext E13
      have S13 : Safe Z consts_1 s.vm h13_ b13 := Safe.ext E13 HC0.1 (Safe.new (by rw [g13]; exact Nat.le_refl _))
      have KK13 := Keep.ext (Keep.refl h0 []) E13
      have HC13 := CHr.trans HC0 (CHr.ext E13 HC0.1)
      have hk : _ ≤ h13_.size := Nat.le_trans hk E13.1
      have o13 : h0.size ≤ b13 := by rw [g13]; exact (Nat.le_refl _)
      have p13_ : n0 ≤ b13 := Nat.le_trans hn0 o13
      have z13_ : h0.size ≤ h13_.size := Nat.le_trans (Nat.le_refl _) E13.1
      have F13value : Fld Z h13_ b13 "java/lang/String" "value" "[B" (.null) := D13 (Or.inr (hw _ (List.mem_of_getElem? (i := 20) rfl))) (ty := (.array .byte)) (by decide)
      have F13coder : Fld Z h13_ b13 "java/lang/String" "coder" "B" (.int 0) := D13 (Or.inr (hw _ (List.mem_of_getElem? (i := 21) rfl))) (ty := .byte) (by decide)
      refine own_dup X13 hx (hb hby dD_48) rfl (q := 49) rfl ?_
      refine own_iconst X13 hx (hb hby dD_49) (v := (0 : Int32)) rfl (q := 50) rfl ?_
      refine own_newP X13 hx hZ (hw _ (List.mem_of_getElem? (i := 7) rfl)) e13 (hb hby dD_50) (N := 0) (rfl) (cap := 0) (by decide) (by decide) (by decide) (by decide) (q := 52) rfl ?_
      intro T14 h14_ b14 g14 X14 e14 E14 A14
      have ne_b13_b14 : b13 ≠ b14 := Nat.ne_of_lt (by rw [g14]; exact A13.lt)
      have ST_14 := ST_13.ext E14
      have S13_14 := Safe.ext E14 HC13.1 S13
      have A13_14 := A13.ext E14
      have F13value_14 := F13value.ext E14
      have F13coder_14 := F13coder.ext E14
      have S14 : Safe Z consts_1 s.vm h14_ b14 := Safe.ext E14 HC13.1 (Safe.new (by rw [g14]; exact Nat.le_refl _))
      have KK14 := Keep.ext KK13 E14
      have HC14 := CHr.trans HC13 (CHr.ext E14 HC13.1)
      have hk : _ ≤ h14_.size := Nat.le_trans hk E14.1
      have o14 : h0.size ≤ b14 := by rw [g14]; exact z13_
      have p14_ : n0 ≤ b14 := Nat.le_trans hn0 o14
      have z14_ : h0.size ≤ h14_.size := Nat.le_trans z13_ E14.1
      have A14 : own_Arr Z h14_ b14 .char 0 (fun i => .int (own_zero i)) := A14
      refine own_WcallN X14 hx hZ rfl hown (hw _ (List.mem_of_getElem? (i := 8) rfl)) (hw _ (List.mem_of_getElem? (i := 9) rfl)) (hw _ (List.mem_of_getElem? (i := 6) rfl)) (hw _ (List.mem_of_getElem? (i := 10) rfl)) (by decide) (own_rmJ0 l Z a0 hw [] b13 b14 own_zero h14_ n0 (Nat.le_trans hn0 z14_) p13_ A13_14 F13value_14 F13coder_14 ne_b13_b14.symm A14 own_rngC0) (by decide) (by decide) hS hk (own_EW hw) HC14 (fun y q => by cases List.mem_singleton.mp q; exact ⟨A13_14.lt, S13_14⟩) e14 (by rw [hml]; rfl) (argsL := [(.ref b14)]) (rest := [(.ref b13)]) (lenOf own_pd7 rfl) rfl (W := 1) rfl (hb hby dD_52) (q := 55) rfl rfl (by decide) (by decide) ?_
      rintro _ T15 L15 h15_ kk15 ⟨rfl, NL15, K15⟩ X15 e15 hS hk hZ hown HC15 SF15
      have N15 := Fr.app (Fr.nil n0) NL15
      have ST_15 := own_sta_keep ST_14 K15 (nsS (Exa.nostat A13_14) ns0)
      have S13_15 := SF15 b13 A13_14.lt S13_14
      have A13_15 := A13_14.keep K15
      have S14_15 := SF15 b14 A14.lt S14
      have A14_15 := A14.keep K15 (ninS ne_b13_b14.symm nin0)
      have KK15 := Keep.trans KK14 K15 (allS (Or.inr o13) all0)
      have z15_ : h0.size ≤ h15_.size := Nat.le_trans z14_ K15.1
      obtain ⟨LL15, eL15⟩ : ∃ z, [] ++ L15 = z := ⟨_, rfl⟩
      rw [eL15] at X15 N15
      show own_G p e below _ (T15.setTop (mkF m 55 #[.val (.int p1), .val (.int p2), .val (.int p3), .val (.int p4), .val (.int (p1 &&& (3 : Int32))), .val (.int ((p2 &&& (255 : Int32)).toUInt32.toUInt16.toUInt32.toInt32)), .val (.int ((p3 &&& (255 : Int32)).toUInt32.toUInt16.toUInt32.toInt32)), .val (.int ((p4 &&& (255 : Int32)).toUInt32.toUInt16.toUInt32.toInt32))] [(.ref b13)]))
      exact own_WretA X15 hx hZ (own_EW hw) hS hk HC15 e15 rfl hret rfl hlk (hb hby dD_55) (by decide) (by decide) (by rw [e15]; unfold own_QD; exact ⟨Or.inr ⟨_, rfl⟩, N15, KK15⟩)
  · replace h6 : ¬ ((p1 &&& (7 : Int32)).toInt ≠ (7 : Int)) := h6
    refine own_aconst_null X0 hx (hb hby dD_9) (q := 10) rfl ?_
    exact own_WretA X0 hx hZ (own_EW hw) hS hk HC0 e0 rfl hret rfl hlk (hb hby dD_10) (by decide) (by decide) (by rw [e0]; unfold own_QD; exact ⟨Or.inl rfl, (Fr.nil n0), (Keep.refl h0 [])⟩)
theorem dOn_0 : decode prog_62_method_1_code 0 = .ok (.aload_n 0, 1) := by decide +kernel
theorem dOn_1 : decode prog_62_method_1_code 1 = .ok (.invokespecial 1, 3) := by decide +kernel
theorem dOn_4 : decode prog_62_method_1_code 4 = .ok (.aload_n 0, 1) := by decide +kernel
theorem dOn_5 : decode prog_62_method_1_code 5 = .ok (.aload_n 1, 1) := by decide +kernel
theorem dOn_6 : decode prog_62_method_1_code 6 = .ok (.putfield 7, 3) := by decide +kernel
theorem dOn_9 : decode prog_62_method_1_code 9 = .ok (.aload_n 0, 1) := by decide +kernel
theorem dOn_10 : decode prog_62_method_1_code 10 = .ok (.iload_n 2, 1) := by decide +kernel
theorem dOn_11 : decode prog_62_method_1_code 11 = .ok (.putfield 13, 3) := by decide +kernel
theorem dOn_14 : decode prog_62_method_1_code 14 = .ok (.aload_n 0, 1) := by decide +kernel
theorem dOn_15 : decode prog_62_method_1_code 15 = .ok (.aload_n 3, 1) := by decide +kernel
theorem dOn_16 : decode prog_62_method_1_code 16 = .ok (.putfield 17, 3) := by decide +kernel
theorem dOn_19 : decode prog_62_method_1_code 19 = .ok (.aload_n 0, 1) := by decide +kernel
theorem dOn_20 : decode prog_62_method_1_code 20 = .ok (.aload 4, 2) := by decide +kernel
theorem dOn_22 : decode prog_62_method_1_code 22 = .ok (.putfield 20, 3) := by decide +kernel
theorem dOn_25 : decode prog_62_method_1_code 25 = .ok (.return_, 1) := by decide +kernel
def own_QOn (Z : State) (a1 : Addr) (p1 : Int32) (a3 : Addr) (h0 : Heap) (n0 : Nat) : Option Value → Heap → List Loc → Prop := fun v h L => v = none ∧ Fr n0 L ∧ Keep h0 h [a1] ∧ Exa Z h a1 "com/example/treaty2/treaty2/service/Receipt" ∧ Fld Z h a1 "com/example/treaty2/treaty2/service/Receipt" "peerId" "Ljava/lang/String;" .null ∧ Fld Z h a1 "com/example/treaty2/treaty2/service/Receipt" "delivered" "Z" (.int 1) ∧ Fld Z h a1 "com/example/treaty2/treaty2/service/Receipt" "errorCode" "Ljava/lang/String;" .null ∧ Fld Z h a1 "com/example/treaty2/treaty2/service/Receipt" "reason" "Ljava/lang/String;" (.ref a3)
theorem own_pnOn : plainFor (⟨"com/example/treaty2/treaty2/service/Receipt", "<init>", "(Ljava/lang/String;ZLjava/lang/String;Ljava/lang/String;)V"⟩ : MethodName) = true := plainFor_of_name (show plainName "com/example/treaty2/treaty2/service/Receipt" = true by first | (simp [plainName, overriddenIn]; done) | decide +kernel)
theorem own_efOn (m : MethodId) (a1 : Addr) (p1 : Int32) (a3 : Addr)  : entryFrame m #[(.ref a1), .null, (.int p1), .null, (.ref a3)] 5 = mkF m 0 #[.val (.ref a1), .val .null, .val (.int p1), .val .null, .val (.ref a3)] [] := by first | (simp [entryFrame, mkF, argsToLocals, Value.category, maxLocals]; done) | rfl
set_option maxRecDepth 65536 in
set_option maxHeartbeats 40000000 in
theorem own_rmOn (l : Launch) (Z : State) (a0 : Array Value) (hw : ∀ d ∈ tables_1, d.before a0 Z = true) (ws : List Jvm.Cond) (a1 : Addr) (p1 : Int32) (a3 : Addr)  (h0 : Heap) (n0 : Nat) (hn0 : n0 ≤ h0.size) (ha : n0 ≤ a1) (E : Exa Z h0 a1 "com/example/treaty2/treaty2/service/Receipt") (F0 : Fld Z h0 a1 "com/example/treaty2/treaty2/service/Receipt" "peerId" "Ljava/lang/String;" (.null)) (F1 : Fld Z h0 a1 "com/example/treaty2/treaty2/service/Receipt" "delivered" "Z" (.int 0)) (F2 : Fld Z h0 a1 "com/example/treaty2/treaty2/service/Receipt" "errorCode" "Ljava/lang/String;" (.null)) (F3 : Fld Z h0 a1 "com/example/treaty2/treaty2/service/Receipt" "reason" "Ljava/lang/String;" (.null)) (hp : p1 = 1) :
    MetFree l (⟨"com/example/treaty2/treaty2/service/Receipt", "<init>", "(Ljava/lang/String;ZLjava/lang/String;Ljava/lang/String;)V"⟩ : MethodName) (head1 (Jvm.Cond.code (⟨"com/example/treaty2/treaty2/service/Receipt", "<init>", "(Ljava/lang/String;ZLjava/lang/String;Ljava/lang/String;)V"⟩ : MethodName) prog_62_method_1_code 5 none :: ws) ({ frames := 2, cells := 0, slots := 0, locals := 24 } : Room)) (fun a U => a = #[(.ref a1), .null, (.int p1), .null, (.ref a3)] ∧ Z.Warmed39 U.vm ∧ U.heap = h0) (fun _ _ _ _ _ => True) (fun _ U o U' => ∃ v L, o = .returned v ∧ (own_QOn Z a1 p1 a3 h0 n0) v U'.heap L ∧ FrameEnd U o U' L ({ frames := 2, cells := 0, slots := 0, locals := 24 } : Room).cells ({ frames := 2, cells := 0, slots := 0, locals := 24 } : Room).slots) := by
  refine own_body (y := (⟨"com/example/treaty2/treaty2/service/Receipt", "<init>", "(Ljava/lang/String;ZLjava/lang/String;Ljava/lang/String;)V"⟩ : MethodName)) (Q := own_QOn Z a1 p1 a3 h0 n0) (rm := ({ frames := 2, cells := 0, slots := 0, locals := 24 } : Room)) (as' := #[(.ref a1), .null, (.int p1), .null, (.ref a3)]) (h0 := h0) (Z := Z) own_pnOn ?_
  intro p e s m below meth c s₁ hx hby hml hown hnm hret hlk hZ X0 e0
  have hown : s.vm.findClass "com/example/treaty2/treaty2/service/Receipt" = some m.cls := hown
  rw [own_efOn]
  subst hp
  refine own_aload_n X0 hx (hb hby dOn_0) rfl rfl (q := 1) rfl ?_
  refine own_callNP X0 hx hZ rfl hown (hw _ (List.mem_of_getElem? (i := 36) rfl)) (hw _ (List.mem_of_getElem? (i := 37) rfl)) (hw _ (List.mem_of_getElem? (i := 39) rfl)) (hw _ (List.mem_of_getElem? (i := 40) rfl)) (by decide) (own_rmR l Z a0 hw [] a1 h0) (by decide) (by decide) e0 (by rw [hml]; rfl) (argsL := []) (rest := []) (lenOf own_pd13 rfl) rfl (W := 0) rfl (hb hby dOn_1) (q := 4) rfl rfl rfl rfl (by decide) (by decide) ?_
  intro T1 X1 e1
  refine own_aload_n X1 hx (hb hby dOn_4) rfl rfl (q := 5) rfl ?_
  refine own_aload_n X1 hx (hb hby dOn_5) rfl rfl (q := 6) rfl ?_
  refine own_putF X1 hx hZ hown (hw _ (List.mem_of_getElem? (i := 42) rfl)) e1 F0 E (Or.inr ⟨(hw _ (List.mem_of_getElem? (i := 43) rfl)), rfl, hnm⟩) (hw _ (List.mem_of_getElem? (i := 31) rfl)) (ft := (.object "java/lang/String")) (by decide) rfl rfl (hb hby dOn_6) (Fr.nil n0) ha (q := 9) rfl ?_
  intro T2 h2_ L2 X2 N2 e2 W2
  have K2 := Keep.of_wr W2
  have E_2 := E.wr W2
  have F0_2 := F0.same W2
  have F1_2 := F1.other W2 (Or.inr (slot_ne (Or.inr (hw _ (List.mem_of_getElem? (i := 45) rfl))) (Or.inr (hw _ (List.mem_of_getElem? (i := 43) rfl))) (by decide) (t := .boolean) (t' := (.object "java/lang/String")) (by decide) (by decide)))
  have F2_2 := F2.other W2 (Or.inr (slot_ne (Or.inr (hw _ (List.mem_of_getElem? (i := 47) rfl))) (Or.inr (hw _ (List.mem_of_getElem? (i := 43) rfl))) (by decide) (t := (.object "java/lang/String")) (t' := (.object "java/lang/String")) (by decide) (by decide)))
  have F3_2 := F3.other W2 (Or.inr (slot_ne (Or.inr (hw _ (List.mem_of_getElem? (i := 49) rfl))) (Or.inr (hw _ (List.mem_of_getElem? (i := 43) rfl))) (by decide) (t := (.object "java/lang/String")) (t' := (.object "java/lang/String")) (by decide) (by decide)))
  have KK2 := Keep.wr (Keep.refl h0 [a1]) W2 (Or.inl (List.mem_of_getElem? (i := 0) rfl))
  have z2_ : h0.size ≤ h2_.size := Nat.le_trans (Nat.le_refl _) K2.1
  refine own_aload_n X2 hx (hb hby dOn_9) rfl rfl (q := 10) rfl ?_
  refine own_iload_n X2 hx (hb hby dOn_10) rfl (q := 11) rfl ?_
  refine own_putF X2 hx hZ hown (hw _ (List.mem_of_getElem? (i := 44) rfl)) e2 F1_2 E_2 (Or.inr ⟨(hw _ (List.mem_of_getElem? (i := 45) rfl)), rfl, hnm⟩) (hw _ (List.mem_of_getElem? (i := 31) rfl)) (ft := .boolean) (by decide) rfl rfl (hb hby dOn_11) N2 ha (q := 14) rfl ?_
  intro T3 h3_ L3 X3 N3 e3 W3
  have K3 := Keep.of_wr W3
  have E_3 := E_2.wr W3
  have F0_3 := F0_2.other W3 (Or.inr (slot_ne (Or.inr (hw _ (List.mem_of_getElem? (i := 43) rfl))) (Or.inr (hw _ (List.mem_of_getElem? (i := 45) rfl))) (by decide) (t := (.object "java/lang/String")) (t' := .boolean) (by decide) (by decide)))
  have F1_3 := F1_2.same W3
  have F2_3 := F2_2.other W3 (Or.inr (slot_ne (Or.inr (hw _ (List.mem_of_getElem? (i := 47) rfl))) (Or.inr (hw _ (List.mem_of_getElem? (i := 45) rfl))) (by decide) (t := (.object "java/lang/String")) (t' := .boolean) (by decide) (by decide)))
  have F3_3 := F3_2.other W3 (Or.inr (slot_ne (Or.inr (hw _ (List.mem_of_getElem? (i := 49) rfl))) (Or.inr (hw _ (List.mem_of_getElem? (i := 45) rfl))) (by decide) (t := (.object "java/lang/String")) (t' := .boolean) (by decide) (by decide)))
  have KK3 := Keep.wr KK2 W3 (Or.inl (List.mem_of_getElem? (i := 0) rfl))
  have z3_ : h0.size ≤ h3_.size := Nat.le_trans z2_ K3.1
  refine own_aload_n X3 hx (hb hby dOn_14) rfl rfl (q := 15) rfl ?_
  refine own_aload_n X3 hx (hb hby dOn_15) rfl rfl (q := 16) rfl ?_
  refine own_putF X3 hx hZ hown (hw _ (List.mem_of_getElem? (i := 46) rfl)) e3 F2_3 E_3 (Or.inr ⟨(hw _ (List.mem_of_getElem? (i := 47) rfl)), rfl, hnm⟩) (hw _ (List.mem_of_getElem? (i := 31) rfl)) (ft := (.object "java/lang/String")) (by decide) rfl rfl (hb hby dOn_16) N3 ha (q := 19) rfl ?_
  intro T4 h4_ L4 X4 N4 e4 W4
  have K4 := Keep.of_wr W4
  have E_4 := E_3.wr W4
  have F0_4 := F0_3.other W4 (Or.inr (slot_ne (Or.inr (hw _ (List.mem_of_getElem? (i := 43) rfl))) (Or.inr (hw _ (List.mem_of_getElem? (i := 47) rfl))) (by decide) (t := (.object "java/lang/String")) (t' := (.object "java/lang/String")) (by decide) (by decide)))
  have F1_4 := F1_3.other W4 (Or.inr (slot_ne (Or.inr (hw _ (List.mem_of_getElem? (i := 45) rfl))) (Or.inr (hw _ (List.mem_of_getElem? (i := 47) rfl))) (by decide) (t := .boolean) (t' := (.object "java/lang/String")) (by decide) (by decide)))
  have F2_4 := F2_3.same W4
  have F3_4 := F3_3.other W4 (Or.inr (slot_ne (Or.inr (hw _ (List.mem_of_getElem? (i := 49) rfl))) (Or.inr (hw _ (List.mem_of_getElem? (i := 47) rfl))) (by decide) (t := (.object "java/lang/String")) (t' := (.object "java/lang/String")) (by decide) (by decide)))
  have KK4 := Keep.wr KK3 W4 (Or.inl (List.mem_of_getElem? (i := 0) rfl))
  have z4_ : h0.size ≤ h4_.size := Nat.le_trans z3_ K4.1
  refine own_aload_n X4 hx (hb hby dOn_19) rfl rfl (q := 20) rfl ?_
  refine own_aload X4 hx (hb hby dOn_20) rfl rfl (q := 22) rfl ?_
  refine own_putF X4 hx hZ hown (hw _ (List.mem_of_getElem? (i := 48) rfl)) e4 F3_4 E_4 (Or.inr ⟨(hw _ (List.mem_of_getElem? (i := 49) rfl)), rfl, hnm⟩) (hw _ (List.mem_of_getElem? (i := 31) rfl)) (ft := (.object "java/lang/String")) (by decide) rfl rfl (hb hby dOn_22) N4 ha (q := 25) rfl ?_
  intro T5 h5_ L5 X5 N5 e5 W5
  have K5 := Keep.of_wr W5
  have E_5 := E_4.wr W5
  have F0_5 := F0_4.other W5 (Or.inr (slot_ne (Or.inr (hw _ (List.mem_of_getElem? (i := 43) rfl))) (Or.inr (hw _ (List.mem_of_getElem? (i := 49) rfl))) (by decide) (t := (.object "java/lang/String")) (t' := (.object "java/lang/String")) (by decide) (by decide)))
  have F1_5 := F1_4.other W5 (Or.inr (slot_ne (Or.inr (hw _ (List.mem_of_getElem? (i := 45) rfl))) (Or.inr (hw _ (List.mem_of_getElem? (i := 49) rfl))) (by decide) (t := .boolean) (t' := (.object "java/lang/String")) (by decide) (by decide)))
  have F2_5 := F2_4.other W5 (Or.inr (slot_ne (Or.inr (hw _ (List.mem_of_getElem? (i := 47) rfl))) (Or.inr (hw _ (List.mem_of_getElem? (i := 49) rfl))) (by decide) (t := (.object "java/lang/String")) (t' := (.object "java/lang/String")) (by decide) (by decide)))
  have F3_5 := F3_4.same W5
  have KK5 := Keep.wr KK4 W5 (Or.inl (List.mem_of_getElem? (i := 0) rfl))
  have z5_ : h0.size ≤ h5_.size := Nat.le_trans z4_ K5.1
  exact own_retV X5 hx hret hlk (hb hby dOn_25) (by decide) (by decide) (by rw [e5]; unfold own_QOn; exact ⟨rfl, N5, KK5, E_5, F0_5, F1_5, F2_5, F3_5⟩)
theorem dOr_0 : decode prog_62_method_1_code 0 = .ok (.aload_n 0, 1) := by decide +kernel
theorem dOr_1 : decode prog_62_method_1_code 1 = .ok (.invokespecial 1, 3) := by decide +kernel
theorem dOr_4 : decode prog_62_method_1_code 4 = .ok (.aload_n 0, 1) := by decide +kernel
theorem dOr_5 : decode prog_62_method_1_code 5 = .ok (.aload_n 1, 1) := by decide +kernel
theorem dOr_6 : decode prog_62_method_1_code 6 = .ok (.putfield 7, 3) := by decide +kernel
theorem dOr_9 : decode prog_62_method_1_code 9 = .ok (.aload_n 0, 1) := by decide +kernel
theorem dOr_10 : decode prog_62_method_1_code 10 = .ok (.iload_n 2, 1) := by decide +kernel
theorem dOr_11 : decode prog_62_method_1_code 11 = .ok (.putfield 13, 3) := by decide +kernel
theorem dOr_14 : decode prog_62_method_1_code 14 = .ok (.aload_n 0, 1) := by decide +kernel
theorem dOr_15 : decode prog_62_method_1_code 15 = .ok (.aload_n 3, 1) := by decide +kernel
theorem dOr_16 : decode prog_62_method_1_code 16 = .ok (.putfield 17, 3) := by decide +kernel
theorem dOr_19 : decode prog_62_method_1_code 19 = .ok (.aload_n 0, 1) := by decide +kernel
theorem dOr_20 : decode prog_62_method_1_code 20 = .ok (.aload 4, 2) := by decide +kernel
theorem dOr_22 : decode prog_62_method_1_code 22 = .ok (.putfield 20, 3) := by decide +kernel
theorem dOr_25 : decode prog_62_method_1_code 25 = .ok (.return_, 1) := by decide +kernel
def own_QOr (Z : State) (a1 : Addr) (a2 : Addr) (p1 : Int32) (a3 : Addr) (h0 : Heap) (n0 : Nat) : Option Value → Heap → List Loc → Prop := fun v h L => v = none ∧ Fr n0 L ∧ Keep h0 h [a1] ∧ Exa Z h a1 "com/example/treaty2/treaty2/service/Receipt" ∧ Fld Z h a1 "com/example/treaty2/treaty2/service/Receipt" "peerId" "Ljava/lang/String;" (.ref a2) ∧ Fld Z h a1 "com/example/treaty2/treaty2/service/Receipt" "delivered" "Z" (.int 1) ∧ Fld Z h a1 "com/example/treaty2/treaty2/service/Receipt" "errorCode" "Ljava/lang/String;" .null ∧ Fld Z h a1 "com/example/treaty2/treaty2/service/Receipt" "reason" "Ljava/lang/String;" (.ref a3)
theorem own_pnOr : plainFor (⟨"com/example/treaty2/treaty2/service/Receipt", "<init>", "(Ljava/lang/String;ZLjava/lang/String;Ljava/lang/String;)V"⟩ : MethodName) = true := plainFor_of_name (show plainName "com/example/treaty2/treaty2/service/Receipt" = true by first | (simp [plainName, overriddenIn]; done) | decide +kernel)
theorem own_efOr (m : MethodId) (a1 : Addr) (a2 : Addr) (p1 : Int32) (a3 : Addr)  : entryFrame m #[(.ref a1), (.ref a2), (.int p1), .null, (.ref a3)] 5 = mkF m 0 #[.val (.ref a1), .val (.ref a2), .val (.int p1), .val .null, .val (.ref a3)] [] := by first | (simp [entryFrame, mkF, argsToLocals, Value.category, maxLocals]; done) | rfl
set_option maxRecDepth 65536 in
set_option maxHeartbeats 40000000 in
theorem own_rmOr (l : Launch) (Z : State) (a0 : Array Value) (hw : ∀ d ∈ tables_1, d.before a0 Z = true) (ws : List Jvm.Cond) (a1 : Addr) (a2 : Addr) (p1 : Int32) (a3 : Addr)  (h0 : Heap) (n0 : Nat) (hn0 : n0 ≤ h0.size) (ha : n0 ≤ a1) (E : Exa Z h0 a1 "com/example/treaty2/treaty2/service/Receipt") (F0 : Fld Z h0 a1 "com/example/treaty2/treaty2/service/Receipt" "peerId" "Ljava/lang/String;" (.null)) (F1 : Fld Z h0 a1 "com/example/treaty2/treaty2/service/Receipt" "delivered" "Z" (.int 0)) (F2 : Fld Z h0 a1 "com/example/treaty2/treaty2/service/Receipt" "errorCode" "Ljava/lang/String;" (.null)) (F3 : Fld Z h0 a1 "com/example/treaty2/treaty2/service/Receipt" "reason" "Ljava/lang/String;" (.null)) (hp : p1 = 1) :
    MetFree l (⟨"com/example/treaty2/treaty2/service/Receipt", "<init>", "(Ljava/lang/String;ZLjava/lang/String;Ljava/lang/String;)V"⟩ : MethodName) (head1 (Jvm.Cond.code (⟨"com/example/treaty2/treaty2/service/Receipt", "<init>", "(Ljava/lang/String;ZLjava/lang/String;Ljava/lang/String;)V"⟩ : MethodName) prog_62_method_1_code 5 none :: ws) ({ frames := 2, cells := 0, slots := 0, locals := 24 } : Room)) (fun a U => a = #[(.ref a1), (.ref a2), (.int p1), .null, (.ref a3)] ∧ Z.Warmed39 U.vm ∧ U.heap = h0) (fun _ _ _ _ _ => True) (fun _ U o U' => ∃ v L, o = .returned v ∧ (own_QOr Z a1 a2 p1 a3 h0 n0) v U'.heap L ∧ FrameEnd U o U' L ({ frames := 2, cells := 0, slots := 0, locals := 24 } : Room).cells ({ frames := 2, cells := 0, slots := 0, locals := 24 } : Room).slots) := by
  refine own_body (y := (⟨"com/example/treaty2/treaty2/service/Receipt", "<init>", "(Ljava/lang/String;ZLjava/lang/String;Ljava/lang/String;)V"⟩ : MethodName)) (Q := own_QOr Z a1 a2 p1 a3 h0 n0) (rm := ({ frames := 2, cells := 0, slots := 0, locals := 24 } : Room)) (as' := #[(.ref a1), (.ref a2), (.int p1), .null, (.ref a3)]) (h0 := h0) (Z := Z) own_pnOr ?_
  intro p e s m below meth c s₁ hx hby hml hown hnm hret hlk hZ X0 e0
  have hown : s.vm.findClass "com/example/treaty2/treaty2/service/Receipt" = some m.cls := hown
  rw [own_efOr]
  subst hp
  refine own_aload_n X0 hx (hb hby dOr_0) rfl rfl (q := 1) rfl ?_
  refine own_callNP X0 hx hZ rfl hown (hw _ (List.mem_of_getElem? (i := 36) rfl)) (hw _ (List.mem_of_getElem? (i := 37) rfl)) (hw _ (List.mem_of_getElem? (i := 39) rfl)) (hw _ (List.mem_of_getElem? (i := 40) rfl)) (by decide) (own_rmR l Z a0 hw [] a1 h0) (by decide) (by decide) e0 (by rw [hml]; rfl) (argsL := []) (rest := []) (lenOf own_pd13 rfl) rfl (W := 0) rfl (hb hby dOr_1) (q := 4) rfl rfl rfl rfl (by decide) (by decide) ?_
  intro T1 X1 e1
  refine own_aload_n X1 hx (hb hby dOr_4) rfl rfl (q := 5) rfl ?_
  refine own_aload_n X1 hx (hb hby dOr_5) rfl rfl (q := 6) rfl ?_
  refine own_putF X1 hx hZ hown (hw _ (List.mem_of_getElem? (i := 42) rfl)) e1 F0 E (Or.inr ⟨(hw _ (List.mem_of_getElem? (i := 43) rfl)), rfl, hnm⟩) (hw _ (List.mem_of_getElem? (i := 31) rfl)) (ft := (.object "java/lang/String")) (by decide) rfl rfl (hb hby dOr_6) (Fr.nil n0) ha (q := 9) rfl ?_
  intro T2 h2_ L2 X2 N2 e2 W2
  have K2 := Keep.of_wr W2
  have E_2 := E.wr W2
  have F0_2 := F0.same W2
  have F1_2 := F1.other W2 (Or.inr (slot_ne (Or.inr (hw _ (List.mem_of_getElem? (i := 45) rfl))) (Or.inr (hw _ (List.mem_of_getElem? (i := 43) rfl))) (by decide) (t := .boolean) (t' := (.object "java/lang/String")) (by decide) (by decide)))
  have F2_2 := F2.other W2 (Or.inr (slot_ne (Or.inr (hw _ (List.mem_of_getElem? (i := 47) rfl))) (Or.inr (hw _ (List.mem_of_getElem? (i := 43) rfl))) (by decide) (t := (.object "java/lang/String")) (t' := (.object "java/lang/String")) (by decide) (by decide)))
  have F3_2 := F3.other W2 (Or.inr (slot_ne (Or.inr (hw _ (List.mem_of_getElem? (i := 49) rfl))) (Or.inr (hw _ (List.mem_of_getElem? (i := 43) rfl))) (by decide) (t := (.object "java/lang/String")) (t' := (.object "java/lang/String")) (by decide) (by decide)))
  have KK2 := Keep.wr (Keep.refl h0 [a1]) W2 (Or.inl (List.mem_of_getElem? (i := 0) rfl))
  have z2_ : h0.size ≤ h2_.size := Nat.le_trans (Nat.le_refl _) K2.1
  refine own_aload_n X2 hx (hb hby dOr_9) rfl rfl (q := 10) rfl ?_
  refine own_iload_n X2 hx (hb hby dOr_10) rfl (q := 11) rfl ?_
  refine own_putF X2 hx hZ hown (hw _ (List.mem_of_getElem? (i := 44) rfl)) e2 F1_2 E_2 (Or.inr ⟨(hw _ (List.mem_of_getElem? (i := 45) rfl)), rfl, hnm⟩) (hw _ (List.mem_of_getElem? (i := 31) rfl)) (ft := .boolean) (by decide) rfl rfl (hb hby dOr_11) N2 ha (q := 14) rfl ?_
  intro T3 h3_ L3 X3 N3 e3 W3
  have K3 := Keep.of_wr W3
  have E_3 := E_2.wr W3
  have F0_3 := F0_2.other W3 (Or.inr (slot_ne (Or.inr (hw _ (List.mem_of_getElem? (i := 43) rfl))) (Or.inr (hw _ (List.mem_of_getElem? (i := 45) rfl))) (by decide) (t := (.object "java/lang/String")) (t' := .boolean) (by decide) (by decide)))
  have F1_3 := F1_2.same W3
  have F2_3 := F2_2.other W3 (Or.inr (slot_ne (Or.inr (hw _ (List.mem_of_getElem? (i := 47) rfl))) (Or.inr (hw _ (List.mem_of_getElem? (i := 45) rfl))) (by decide) (t := (.object "java/lang/String")) (t' := .boolean) (by decide) (by decide)))
  have F3_3 := F3_2.other W3 (Or.inr (slot_ne (Or.inr (hw _ (List.mem_of_getElem? (i := 49) rfl))) (Or.inr (hw _ (List.mem_of_getElem? (i := 45) rfl))) (by decide) (t := (.object "java/lang/String")) (t' := .boolean) (by decide) (by decide)))
  have KK3 := Keep.wr KK2 W3 (Or.inl (List.mem_of_getElem? (i := 0) rfl))
  have z3_ : h0.size ≤ h3_.size := Nat.le_trans z2_ K3.1
  refine own_aload_n X3 hx (hb hby dOr_14) rfl rfl (q := 15) rfl ?_
  refine own_aload_n X3 hx (hb hby dOr_15) rfl rfl (q := 16) rfl ?_
  refine own_putF X3 hx hZ hown (hw _ (List.mem_of_getElem? (i := 46) rfl)) e3 F2_3 E_3 (Or.inr ⟨(hw _ (List.mem_of_getElem? (i := 47) rfl)), rfl, hnm⟩) (hw _ (List.mem_of_getElem? (i := 31) rfl)) (ft := (.object "java/lang/String")) (by decide) rfl rfl (hb hby dOr_16) N3 ha (q := 19) rfl ?_
  intro T4 h4_ L4 X4 N4 e4 W4
  have K4 := Keep.of_wr W4
  have E_4 := E_3.wr W4
  have F0_4 := F0_3.other W4 (Or.inr (slot_ne (Or.inr (hw _ (List.mem_of_getElem? (i := 43) rfl))) (Or.inr (hw _ (List.mem_of_getElem? (i := 47) rfl))) (by decide) (t := (.object "java/lang/String")) (t' := (.object "java/lang/String")) (by decide) (by decide)))
  have F1_4 := F1_3.other W4 (Or.inr (slot_ne (Or.inr (hw _ (List.mem_of_getElem? (i := 45) rfl))) (Or.inr (hw _ (List.mem_of_getElem? (i := 47) rfl))) (by decide) (t := .boolean) (t' := (.object "java/lang/String")) (by decide) (by decide)))
  have F2_4 := F2_3.same W4
  have F3_4 := F3_3.other W4 (Or.inr (slot_ne (Or.inr (hw _ (List.mem_of_getElem? (i := 49) rfl))) (Or.inr (hw _ (List.mem_of_getElem? (i := 47) rfl))) (by decide) (t := (.object "java/lang/String")) (t' := (.object "java/lang/String")) (by decide) (by decide)))
  have KK4 := Keep.wr KK3 W4 (Or.inl (List.mem_of_getElem? (i := 0) rfl))
  have z4_ : h0.size ≤ h4_.size := Nat.le_trans z3_ K4.1
  refine own_aload_n X4 hx (hb hby dOr_19) rfl rfl (q := 20) rfl ?_
  refine own_aload X4 hx (hb hby dOr_20) rfl rfl (q := 22) rfl ?_
  refine own_putF X4 hx hZ hown (hw _ (List.mem_of_getElem? (i := 48) rfl)) e4 F3_4 E_4 (Or.inr ⟨(hw _ (List.mem_of_getElem? (i := 49) rfl)), rfl, hnm⟩) (hw _ (List.mem_of_getElem? (i := 31) rfl)) (ft := (.object "java/lang/String")) (by decide) rfl rfl (hb hby dOr_22) N4 ha (q := 25) rfl ?_
  intro T5 h5_ L5 X5 N5 e5 W5
  have K5 := Keep.of_wr W5
  have E_5 := E_4.wr W5
  have F0_5 := F0_4.other W5 (Or.inr (slot_ne (Or.inr (hw _ (List.mem_of_getElem? (i := 43) rfl))) (Or.inr (hw _ (List.mem_of_getElem? (i := 49) rfl))) (by decide) (t := (.object "java/lang/String")) (t' := (.object "java/lang/String")) (by decide) (by decide)))
  have F1_5 := F1_4.other W5 (Or.inr (slot_ne (Or.inr (hw _ (List.mem_of_getElem? (i := 45) rfl))) (Or.inr (hw _ (List.mem_of_getElem? (i := 49) rfl))) (by decide) (t := .boolean) (t' := (.object "java/lang/String")) (by decide) (by decide)))
  have F2_5 := F2_4.other W5 (Or.inr (slot_ne (Or.inr (hw _ (List.mem_of_getElem? (i := 47) rfl))) (Or.inr (hw _ (List.mem_of_getElem? (i := 49) rfl))) (by decide) (t := (.object "java/lang/String")) (t' := (.object "java/lang/String")) (by decide) (by decide)))
  have F3_5 := F3_4.same W5
  have KK5 := Keep.wr KK4 W5 (Or.inl (List.mem_of_getElem? (i := 0) rfl))
  have z5_ : h0.size ≤ h5_.size := Nat.le_trans z4_ K5.1
  exact own_retV X5 hx hret hlk (hb hby dOr_25) (by decide) (by decide) (by rw [e5]; unfold own_QOr; exact ⟨rfl, N5, KK5, E_5, F0_5, F1_5, F2_5, F3_5⟩)
theorem dEn_0 : decode prog_62_method_2_code 0 = .ok (.new 8, 3) := by decide +kernel
theorem dEn_3 : decode prog_62_method_2_code 3 = .ok (.dup, 1) := by decide +kernel
theorem dEn_4 : decode prog_62_method_2_code 4 = .ok (.aload_n 0, 1) := by decide +kernel
theorem dEn_5 : decode prog_62_method_2_code 5 = .ok (.iconst 1, 1) := by decide +kernel
theorem dEn_6 : decode prog_62_method_2_code 6 = .ok (.aconst_null, 1) := by decide +kernel
theorem dEn_7 : decode prog_62_method_2_code 7 = .ok (.ldc 23, 2) := by decide +kernel
theorem dEn_9 : decode prog_62_method_2_code 9 = .ok (.invokespecial 25, 3) := by decide +kernel
theorem dEn_12 : decode prog_62_method_2_code 12 = .ok (.areturn, 1) := by decide +kernel
def own_QEn (Z : State)  (h0 : Heap) (n0 : Nat) : Option Value → Heap → List Loc → Prop := fun v h L => ∃ r a b, v = some (.ref r) ∧ Fr n0 L ∧ Keep h0 h [] ∧ Exa Z h r "com/example/treaty2/treaty2/service/Receipt" ∧ Fld Z h r "com/example/treaty2/treaty2/service/Receipt" "peerId" "Ljava/lang/String;" .null ∧ Fld Z h r "com/example/treaty2/treaty2/service/Receipt" "delivered" "Z" (.int 1) ∧ Fld Z h r "com/example/treaty2/treaty2/service/Receipt" "errorCode" "Ljava/lang/String;" .null ∧ Fld Z h r "com/example/treaty2/treaty2/service/Receipt" "reason" "Ljava/lang/String;" (.ref a) ∧ Exa Z h a "java/lang/String" ∧ Fld Z h a "java/lang/String" "value" "[B" (.ref b) ∧ own_Arr Z h b .byte 0 (fun i => .int (own_tx "" i))
theorem own_pnEn : plainFor (⟨"com/example/treaty2/treaty2/service/Receipt", "delivered", "(Ljava/lang/String;)Lcom/example/treaty2/treaty2/service/Receipt;"⟩ : MethodName) = true := plainFor_of_name (show plainName "com/example/treaty2/treaty2/service/Receipt" = true by first | (simp [plainName, overriddenIn]; done) | decide +kernel)
theorem own_efEn (m : MethodId)   : entryFrame m #[.null] 1 = mkF m 0 #[.val .null] [] := by first | (simp [entryFrame, mkF, argsToLocals, Value.category, maxLocals]; done) | rfl
set_option maxRecDepth 65536 in
set_option maxHeartbeats 40000000 in
theorem own_rmEn (l : Launch) (Z : State) (a0 : Array Value) (hw : ∀ d ∈ tables_1, d.before a0 Z = true) (ws : List Jvm.Cond)   (h0 : Heap) (n0 : Nat) (hn0 : n0 ≤ h0.size) :
    MetFree l (⟨"com/example/treaty2/treaty2/service/Receipt", "delivered", "(Ljava/lang/String;)Lcom/example/treaty2/treaty2/service/Receipt;"⟩ : MethodName) (head1 (Jvm.Cond.code (⟨"com/example/treaty2/treaty2/service/Receipt", "delivered", "(Ljava/lang/String;)Lcom/example/treaty2/treaty2/service/Receipt;"⟩ : MethodName) prog_62_method_2_code 1 (some (.object "com/example/treaty2/treaty2/service/Receipt")) :: ws) ({ frames := 3, cells := 3, slots := 8, locals := 41 } : Room)) (fun a U => a = #[.null] ∧ Z.Warmed39 U.vm ∧ U.heap = h0 ∧ CHv Z consts_1 U.vm h0 ∧ ∀ x ∈ ([] : List Addr), Safe Z consts_1 U.vm h0 x) (fun _ _ _ _ _ => True) (fun _ U o U' => ∃ v L, o = .returned v ∧ (own_QEn Z  h0 n0) v U'.heap L ∧ CHr Z consts_1 U.vm U.heap U'.vm U'.heap ∧ ReturnedEndW U o U' L ({ frames := 3, cells := 3, slots := 8, locals := 41 } : Room).cells ({ frames := 3, cells := 3, slots := 8, locals := 41 } : Room).slots) := by
  refine own_Wbody (EL := consts_1) (y := (⟨"com/example/treaty2/treaty2/service/Receipt", "delivered", "(Ljava/lang/String;)Lcom/example/treaty2/treaty2/service/Receipt;"⟩ : MethodName)) (Q := own_QEn Z  h0 n0) (rm := ({ frames := 3, cells := 3, slots := 8, locals := 41 } : Room)) (as' := #[.null]) (h0 := h0) (Z := Z) (sf := []) own_pnEn ?_
  intro p e s m below meth c s₁ hx hby hml hown hnm hret hlk hZ X0 e0 hS hk HC0 hsf0
  have hown : s.vm.findClass "com/example/treaty2/treaty2/service/Receipt" = some m.cls := hown
  rw [own_efEn]
  refine own_newO X0 hx hZ hown (hw _ (List.mem_of_getElem? (i := 30) rfl)) (hw _ (List.mem_of_getElem? (i := 31) rfl)) (hw _ (List.mem_of_getElem? (i := 28) rfl)) e0 (hb hby dEn_0) (by decide) (by decide) (q := 3) rfl ?_
  intro T1 h1_ b1 g1 X1 e1 E1 A1 D1
  have S1 : Safe Z consts_1 s.vm h1_ b1 := Safe.ext E1 HC0.1 (Safe.new (by rw [g1]; exact Nat.le_refl _))
  have KK1 := Keep.ext (Keep.refl h0 []) E1
  have HC1 := CHr.trans HC0 (CHr.ext E1 HC0.1)
  have hk : _ ≤ h1_.size := Nat.le_trans hk E1.1
  have o1 : h0.size ≤ b1 := by rw [g1]; exact (Nat.le_refl _)
  have p1_ : n0 ≤ b1 := Nat.le_trans hn0 o1
  have z1_ : h0.size ≤ h1_.size := Nat.le_trans (Nat.le_refl _) E1.1
  have F1peerId : Fld Z h1_ b1 "com/example/treaty2/treaty2/service/Receipt" "peerId" "Ljava/lang/String;" (.null) := D1 (Or.inr (hw _ (List.mem_of_getElem? (i := 43) rfl))) (ty := (.object "java/lang/String")) (by decide)
  have F1delivered : Fld Z h1_ b1 "com/example/treaty2/treaty2/service/Receipt" "delivered" "Z" (.int 0) := D1 (Or.inr (hw _ (List.mem_of_getElem? (i := 45) rfl))) (ty := .boolean) (by decide)
  have F1errorCode : Fld Z h1_ b1 "com/example/treaty2/treaty2/service/Receipt" "errorCode" "Ljava/lang/String;" (.null) := D1 (Or.inr (hw _ (List.mem_of_getElem? (i := 47) rfl))) (ty := (.object "java/lang/String")) (by decide)
  have F1reason : Fld Z h1_ b1 "com/example/treaty2/treaty2/service/Receipt" "reason" "Ljava/lang/String;" (.null) := D1 (Or.inr (hw _ (List.mem_of_getElem? (i := 49) rfl))) (ty := (.object "java/lang/String")) (by decide)
  refine own_dup X1 hx (hb hby dEn_3) rfl (q := 4) rfl ?_
  refine own_aload_n X1 hx (hb hby dEn_4) rfl rfl (q := 5) rfl ?_
  refine own_iconst X1 hx (hb hby dEn_5) (v := (1 : Int32)) rfl (q := 6) rfl ?_
  refine own_aconst_null X1 hx (hb hby dEn_6) (q := 7) rfl ?_
  refine own_Wldc X1 hx hZ hown (hw _ (List.mem_of_getElem? (i := 32) rfl)) (own_wS hw) e1 hS hk (own_EW hw) (by simp [consts_1]) HC1 (by decide) (N := 0) (z := 0) (by decide) (by decide) (by decide) (by decide) (hb hby dEn_7) (n' := 0) (by decide) (by decide) (by decide) (by decide) (q := 9) rfl ?_
  intro T2 h2_ kk2 c2 b2 X2 e2 E2 hS hk hZ hown Q2 C2 V2 A2 HC2 LT2 SF2
  have SN2_b1 := SF2 b1 A1.lt S1
  have S1_2 := SN2_b1.1
  have A1_2 := A1.ext E2
  have F1peerId_2 := F1peerId.ext E2
  have F1delivered_2 := F1delivered.ext E2
  have F1errorCode_2 := F1errorCode.ext E2
  have F1reason_2 := F1reason.ext E2
  have KK2 := Keep.ext KK1 E2
  have z2_ : h0.size ≤ h2_.size := Nat.le_trans z1_ E2.1
  refine own_callN X2 hx hZ rfl hown (hw _ (List.mem_of_getElem? (i := 33) rfl)) (hw _ (List.mem_of_getElem? (i := 34) rfl)) (hw _ (List.mem_of_getElem? (i := 28) rfl)) (hw _ (List.mem_of_getElem? (i := 35) rfl)) (by decide) (own_rmOn l Z a0 hw [] b1 (1 : Int32) c2  h2_ n0 (Nat.le_trans hn0 z2_) p1_ A1_2 F1peerId_2 F1delivered_2 F1errorCode_2 F1reason_2 rfl) (by decide) (by decide) e2 (by rw [hml]; rfl) (argsL := [.null, (.int (1 : Int32)), .null, (.ref c2)]) (rest := [(.ref b1)]) (lenOf own_pd14 rfl) rfl (W := 1) rfl (hb hby dEn_9) (q := 12) rfl rfl (by decide) (by decide) ?_
  rintro _ T3 L3 ⟨rfl, NL3, K3, RA3, R03, R13, R23, R33⟩ X3
  have N3 := Fr.app (Fr.nil n0) NL3
  obtain ⟨h3_, e3⟩ : ∃ z, T3.heap = z := ⟨_, rfl⟩
  rw [e3] at K3 RA3 R03 R13 R23 R33
  have S1_3 := Safe.keep K3 (sfS S1_2 sf0) HC2.1 S1_2
  have A1_3 := A1_2.keep K3
  have Q2_3 := Q2.keep K3
  have C2_3 := C2.keep K3 (ninS SN2_b1.2.1.symm nin0)
  have V2_3 := V2.keep K3 (ninS SN2_b1.2.1.symm nin0)
  have A2_3 := A2.keep K3 (ninS SN2_b1.2.2.symm nin0)
  have KK3 := Keep.trans KK2 K3 (allS (Or.inr o1) all0)
  have HC3 := CHr.trans HC2 (CHr.keep K3 (sfS S1_2 sf0) HC2.1)
  have hk : _ ≤ h3_.size := Nat.le_trans hk K3.1
  have z3_ : h0.size ≤ h3_.size := Nat.le_trans z2_ K3.1
  obtain ⟨LL3, eL3⟩ : ∃ z, [] ++ L3 = z := ⟨_, rfl⟩
  rw [eL3] at X3 N3
  show own_G p e below _ (T3.setTop (mkF m 12 #[.val .null] [(.ref b1)]))
  exact own_WretA X3 hx hZ (own_EW hw) hS hk HC3 e3 rfl hret rfl hlk (hb hby dEn_12) (by decide) (by decide) (by rw [e3]; unfold own_QEn; exact ⟨_, _, _, rfl, N3, KK3, RA3, R03, R13, R23, R33, Q2_3, V2_3, A2_3⟩)
theorem dEr_0 : decode prog_62_method_2_code 0 = .ok (.new 8, 3) := by decide +kernel
theorem dEr_3 : decode prog_62_method_2_code 3 = .ok (.dup, 1) := by decide +kernel
theorem dEr_4 : decode prog_62_method_2_code 4 = .ok (.aload_n 0, 1) := by decide +kernel
theorem dEr_5 : decode prog_62_method_2_code 5 = .ok (.iconst 1, 1) := by decide +kernel
theorem dEr_6 : decode prog_62_method_2_code 6 = .ok (.aconst_null, 1) := by decide +kernel
theorem dEr_7 : decode prog_62_method_2_code 7 = .ok (.ldc 23, 2) := by decide +kernel
theorem dEr_9 : decode prog_62_method_2_code 9 = .ok (.invokespecial 25, 3) := by decide +kernel
theorem dEr_12 : decode prog_62_method_2_code 12 = .ok (.areturn, 1) := by decide +kernel
def own_QEr (Z : State) (a2 : Addr) (h0 : Heap) (n0 : Nat) : Option Value → Heap → List Loc → Prop := fun v h L => ∃ r a b, v = some (.ref r) ∧ Fr n0 L ∧ Keep h0 h [] ∧ Exa Z h r "com/example/treaty2/treaty2/service/Receipt" ∧ Fld Z h r "com/example/treaty2/treaty2/service/Receipt" "peerId" "Ljava/lang/String;" (.ref a2) ∧ Fld Z h r "com/example/treaty2/treaty2/service/Receipt" "delivered" "Z" (.int 1) ∧ Fld Z h r "com/example/treaty2/treaty2/service/Receipt" "errorCode" "Ljava/lang/String;" .null ∧ Fld Z h r "com/example/treaty2/treaty2/service/Receipt" "reason" "Ljava/lang/String;" (.ref a) ∧ Exa Z h a "java/lang/String" ∧ Fld Z h a "java/lang/String" "value" "[B" (.ref b) ∧ own_Arr Z h b .byte 0 (fun i => .int (own_tx "" i))
theorem own_pnEr : plainFor (⟨"com/example/treaty2/treaty2/service/Receipt", "delivered", "(Ljava/lang/String;)Lcom/example/treaty2/treaty2/service/Receipt;"⟩ : MethodName) = true := plainFor_of_name (show plainName "com/example/treaty2/treaty2/service/Receipt" = true by first | (simp [plainName, overriddenIn]; done) | decide +kernel)
theorem own_efEr (m : MethodId) (a2 : Addr)  : entryFrame m #[(.ref a2)] 1 = mkF m 0 #[.val (.ref a2)] [] := by first | (simp [entryFrame, mkF, argsToLocals, Value.category, maxLocals]; done) | rfl
set_option maxRecDepth 65536 in
set_option maxHeartbeats 40000000 in
theorem own_rmEr (l : Launch) (Z : State) (a0 : Array Value) (hw : ∀ d ∈ tables_1, d.before a0 Z = true) (ws : List Jvm.Cond) (a2 : Addr)  (h0 : Heap) (n0 : Nat) (hn0 : n0 ≤ h0.size) :
    MetFree l (⟨"com/example/treaty2/treaty2/service/Receipt", "delivered", "(Ljava/lang/String;)Lcom/example/treaty2/treaty2/service/Receipt;"⟩ : MethodName) (head1 (Jvm.Cond.code (⟨"com/example/treaty2/treaty2/service/Receipt", "delivered", "(Ljava/lang/String;)Lcom/example/treaty2/treaty2/service/Receipt;"⟩ : MethodName) prog_62_method_2_code 1 (some (.object "com/example/treaty2/treaty2/service/Receipt")) :: ws) ({ frames := 3, cells := 3, slots := 8, locals := 41 } : Room)) (fun a U => a = #[(.ref a2)] ∧ Z.Warmed39 U.vm ∧ U.heap = h0 ∧ CHv Z consts_1 U.vm h0 ∧ ∀ x ∈ ([] : List Addr), Safe Z consts_1 U.vm h0 x) (fun _ _ _ _ _ => True) (fun _ U o U' => ∃ v L, o = .returned v ∧ (own_QEr Z a2 h0 n0) v U'.heap L ∧ CHr Z consts_1 U.vm U.heap U'.vm U'.heap ∧ ReturnedEndW U o U' L ({ frames := 3, cells := 3, slots := 8, locals := 41 } : Room).cells ({ frames := 3, cells := 3, slots := 8, locals := 41 } : Room).slots) := by
  refine own_Wbody (EL := consts_1) (y := (⟨"com/example/treaty2/treaty2/service/Receipt", "delivered", "(Ljava/lang/String;)Lcom/example/treaty2/treaty2/service/Receipt;"⟩ : MethodName)) (Q := own_QEr Z a2 h0 n0) (rm := ({ frames := 3, cells := 3, slots := 8, locals := 41 } : Room)) (as' := #[(.ref a2)]) (h0 := h0) (Z := Z) (sf := []) own_pnEr ?_
  intro p e s m below meth c s₁ hx hby hml hown hnm hret hlk hZ X0 e0 hS hk HC0 hsf0
  have hown : s.vm.findClass "com/example/treaty2/treaty2/service/Receipt" = some m.cls := hown
  rw [own_efEr]
  refine own_newO X0 hx hZ hown (hw _ (List.mem_of_getElem? (i := 30) rfl)) (hw _ (List.mem_of_getElem? (i := 31) rfl)) (hw _ (List.mem_of_getElem? (i := 28) rfl)) e0 (hb hby dEr_0) (by decide) (by decide) (q := 3) rfl ?_
  intro T1 h1_ b1 g1 X1 e1 E1 A1 D1
  have S1 : Safe Z consts_1 s.vm h1_ b1 := Safe.ext E1 HC0.1 (Safe.new (by rw [g1]; exact Nat.le_refl _))
  have KK1 := Keep.ext (Keep.refl h0 []) E1
  have HC1 := CHr.trans HC0 (CHr.ext E1 HC0.1)
  have hk : _ ≤ h1_.size := Nat.le_trans hk E1.1
  have o1 : h0.size ≤ b1 := by rw [g1]; exact (Nat.le_refl _)
  have p1_ : n0 ≤ b1 := Nat.le_trans hn0 o1
  have z1_ : h0.size ≤ h1_.size := Nat.le_trans (Nat.le_refl _) E1.1
  have F1peerId : Fld Z h1_ b1 "com/example/treaty2/treaty2/service/Receipt" "peerId" "Ljava/lang/String;" (.null) := D1 (Or.inr (hw _ (List.mem_of_getElem? (i := 43) rfl))) (ty := (.object "java/lang/String")) (by decide)
  have F1delivered : Fld Z h1_ b1 "com/example/treaty2/treaty2/service/Receipt" "delivered" "Z" (.int 0) := D1 (Or.inr (hw _ (List.mem_of_getElem? (i := 45) rfl))) (ty := .boolean) (by decide)
  have F1errorCode : Fld Z h1_ b1 "com/example/treaty2/treaty2/service/Receipt" "errorCode" "Ljava/lang/String;" (.null) := D1 (Or.inr (hw _ (List.mem_of_getElem? (i := 47) rfl))) (ty := (.object "java/lang/String")) (by decide)
  have F1reason : Fld Z h1_ b1 "com/example/treaty2/treaty2/service/Receipt" "reason" "Ljava/lang/String;" (.null) := D1 (Or.inr (hw _ (List.mem_of_getElem? (i := 49) rfl))) (ty := (.object "java/lang/String")) (by decide)
  refine own_dup X1 hx (hb hby dEr_3) rfl (q := 4) rfl ?_
  refine own_aload_n X1 hx (hb hby dEr_4) rfl rfl (q := 5) rfl ?_
  refine own_iconst X1 hx (hb hby dEr_5) (v := (1 : Int32)) rfl (q := 6) rfl ?_
  refine own_aconst_null X1 hx (hb hby dEr_6) (q := 7) rfl ?_
  refine own_Wldc X1 hx hZ hown (hw _ (List.mem_of_getElem? (i := 32) rfl)) (own_wS hw) e1 hS hk (own_EW hw) (by simp [consts_1]) HC1 (by decide) (N := 0) (z := 0) (by decide) (by decide) (by decide) (by decide) (hb hby dEr_7) (n' := 0) (by decide) (by decide) (by decide) (by decide) (q := 9) rfl ?_
  intro T2 h2_ kk2 c2 b2 X2 e2 E2 hS hk hZ hown Q2 C2 V2 A2 HC2 LT2 SF2
  have SN2_b1 := SF2 b1 A1.lt S1
  have S1_2 := SN2_b1.1
  have A1_2 := A1.ext E2
  have F1peerId_2 := F1peerId.ext E2
  have F1delivered_2 := F1delivered.ext E2
  have F1errorCode_2 := F1errorCode.ext E2
  have F1reason_2 := F1reason.ext E2
  have KK2 := Keep.ext KK1 E2
  have z2_ : h0.size ≤ h2_.size := Nat.le_trans z1_ E2.1
  refine own_callN X2 hx hZ rfl hown (hw _ (List.mem_of_getElem? (i := 33) rfl)) (hw _ (List.mem_of_getElem? (i := 34) rfl)) (hw _ (List.mem_of_getElem? (i := 28) rfl)) (hw _ (List.mem_of_getElem? (i := 35) rfl)) (by decide) (own_rmOr l Z a0 hw [] b1 a2 (1 : Int32) c2  h2_ n0 (Nat.le_trans hn0 z2_) p1_ A1_2 F1peerId_2 F1delivered_2 F1errorCode_2 F1reason_2 rfl) (by decide) (by decide) e2 (by rw [hml]; rfl) (argsL := [(.ref a2), (.int (1 : Int32)), .null, (.ref c2)]) (rest := [(.ref b1)]) (lenOf own_pd14 rfl) rfl (W := 1) rfl (hb hby dEr_9) (q := 12) rfl rfl (by decide) (by decide) ?_
  rintro _ T3 L3 ⟨rfl, NL3, K3, RA3, R03, R13, R23, R33⟩ X3
  have N3 := Fr.app (Fr.nil n0) NL3
  obtain ⟨h3_, e3⟩ : ∃ z, T3.heap = z := ⟨_, rfl⟩
  rw [e3] at K3 RA3 R03 R13 R23 R33
  have S1_3 := Safe.keep K3 (sfS S1_2 sf0) HC2.1 S1_2
  have A1_3 := A1_2.keep K3
  have Q2_3 := Q2.keep K3
  have C2_3 := C2.keep K3 (ninS SN2_b1.2.1.symm nin0)
  have V2_3 := V2.keep K3 (ninS SN2_b1.2.1.symm nin0)
  have A2_3 := A2.keep K3 (ninS SN2_b1.2.2.symm nin0)
  have KK3 := Keep.trans KK2 K3 (allS (Or.inr o1) all0)
  have HC3 := CHr.trans HC2 (CHr.keep K3 (sfS S1_2 sf0) HC2.1)
  have hk : _ ≤ h3_.size := Nat.le_trans hk K3.1
  have z3_ : h0.size ≤ h3_.size := Nat.le_trans z2_ K3.1
  obtain ⟨LL3, eL3⟩ : ∃ z, [] ++ L3 = z := ⟨_, rfl⟩
  rw [eL3] at X3 N3
  show own_G p e below _ (T3.setTop (mkF m 12 #[.val (.ref a2)] [(.ref b1)]))
  exact own_WretA X3 hx hZ (own_EW hw) hS hk HC3 e3 rfl hret rfl hlk (hb hby dEr_12) (by decide) (by decide) (by rw [e3]; unfold own_QEr; exact ⟨_, _, _, rfl, N3, KK3, RA3, R03, R13, R23, R33, Q2_3, V2_3, A2_3⟩)
theorem dGr_0 : decode prog_62_method_10_code 0 = .ok (.aload_n 0, 1) := by decide +kernel
theorem dGr_1 : decode prog_62_method_10_code 1 = .ok (.getfield 20, 3) := by decide +kernel
theorem dGr_4 : decode prog_62_method_10_code 4 = .ok (.areturn, 1) := by decide +kernel
theorem own_pnGr : plainFor (⟨"com/example/treaty2/treaty2/service/Receipt", "reason", "()Ljava/lang/String;"⟩ : MethodName) = true := plainFor_of_name (show plainName "com/example/treaty2/treaty2/service/Receipt" = true by first | (simp [plainName, overriddenIn]; done) | decide +kernel)
theorem own_efGr (m : MethodId) (a1 : Addr)  : entryFrame m #[(.ref a1)] 1 = mkF m 0 #[.val (.ref a1)] [] := by first | (simp [entryFrame, mkF, argsToLocals, Value.category, maxLocals]; done) | rfl
set_option maxRecDepth 65536 in
set_option maxHeartbeats 40000000 in
theorem own_rmGr (l : Launch) (Z : State) (a0 : Array Value) (hw : ∀ d ∈ tables_1, d.before a0 Z = true) (ws : List Jvm.Cond) (a1 : Addr) (a2 : Addr) (h0 : Heap) (F : Fld Z h0 a1 "com/example/treaty2/treaty2/service/Receipt" "reason" "Ljava/lang/String;" (.ref a2)) :
    MetFree l (⟨"com/example/treaty2/treaty2/service/Receipt", "reason", "()Ljava/lang/String;"⟩ : MethodName) (head1 (Jvm.Cond.code (⟨"com/example/treaty2/treaty2/service/Receipt", "reason", "()Ljava/lang/String;"⟩ : MethodName) prog_62_method_10_code 1 (some (.object "java/lang/String")) :: ws) ({ frames := 0, cells := 0, slots := 0, locals := 0 } : Room)) (fun a U => a = #[(.ref a1)] ∧ Z.Warmed39 U.vm ∧ U.heap = h0) (fun _ _ _ _ _ => True) (fun _ U o U' => ∃ v L, o = .returned v ∧ (fun v h L => (∃ w, v = some w ∧ (fun w => w = (.ref a2)) w) ∧ L = [] ∧ h = h0) v U'.heap L ∧ FrameEnd U o U' L ({ frames := 0, cells := 0, slots := 0, locals := 0 } : Room).cells ({ frames := 0, cells := 0, slots := 0, locals := 0 } : Room).slots) := by
  refine own_body (y := (⟨"com/example/treaty2/treaty2/service/Receipt", "reason", "()Ljava/lang/String;"⟩ : MethodName)) (Q := fun v h L => (∃ w, v = some w ∧ (fun w => w = (.ref a2)) w) ∧ L = [] ∧ h = h0) (rm := ({ frames := 0, cells := 0, slots := 0, locals := 0 } : Room)) (as' := #[(.ref a1)]) (h0 := h0) (Z := Z) own_pnGr ?_
  intro p e s m below meth c s₁ hx hby hml hown hnm hret hlk hZ X0 e0
  have hown : s.vm.findClass "com/example/treaty2/treaty2/service/Receipt" = some m.cls := hown
  rw [own_efGr]
  refine own_aload_n X0 hx (hb hby dGr_0) rfl rfl (q := 1) rfl ?_
  refine own_getF X0 hx hZ hown (hw _ (List.mem_of_getElem? (i := 48) rfl)) e0 F (hb hby dGr_1) (q := 4) rfl ?_
  intro T1 X1 e1
  exact own_retA X1 hx rfl hret rfl hlk (hb hby dGr_4) (by decide) (by decide) ⟨⟨_, rfl, rfl⟩, rfl, e1⟩
theorem dGp_0 : decode prog_62_method_7_code 0 = .ok (.aload_n 0, 1) := by decide +kernel
theorem dGp_1 : decode prog_62_method_7_code 1 = .ok (.getfield 7, 3) := by decide +kernel
theorem dGp_4 : decode prog_62_method_7_code 4 = .ok (.areturn, 1) := by decide +kernel
theorem own_pnGp : plainFor (⟨"com/example/treaty2/treaty2/service/Receipt", "peerId", "()Ljava/lang/String;"⟩ : MethodName) = true := plainFor_of_name (show plainName "com/example/treaty2/treaty2/service/Receipt" = true by first | (simp [plainName, overriddenIn]; done) | decide +kernel)
theorem own_efGp (m : MethodId) (a1 : Addr)  : entryFrame m #[(.ref a1)] 1 = mkF m 0 #[.val (.ref a1)] [] := by first | (simp [entryFrame, mkF, argsToLocals, Value.category, maxLocals]; done) | rfl
set_option maxRecDepth 65536 in
set_option maxHeartbeats 40000000 in
theorem own_rmGp (l : Launch) (Z : State) (a0 : Array Value) (hw : ∀ d ∈ tables_1, d.before a0 Z = true) (ws : List Jvm.Cond) (a1 : Addr) (a2 : Addr) (h0 : Heap) (F : Fld Z h0 a1 "com/example/treaty2/treaty2/service/Receipt" "peerId" "Ljava/lang/String;" (.ref a2)) :
    MetFree l (⟨"com/example/treaty2/treaty2/service/Receipt", "peerId", "()Ljava/lang/String;"⟩ : MethodName) (head1 (Jvm.Cond.code (⟨"com/example/treaty2/treaty2/service/Receipt", "peerId", "()Ljava/lang/String;"⟩ : MethodName) prog_62_method_7_code 1 (some (.object "java/lang/String")) :: ws) ({ frames := 0, cells := 0, slots := 0, locals := 0 } : Room)) (fun a U => a = #[(.ref a1)] ∧ Z.Warmed39 U.vm ∧ U.heap = h0) (fun _ _ _ _ _ => True) (fun _ U o U' => ∃ v L, o = .returned v ∧ (fun v h L => (∃ w, v = some w ∧ (fun w => w = (.ref a2)) w) ∧ L = [] ∧ h = h0) v U'.heap L ∧ FrameEnd U o U' L ({ frames := 0, cells := 0, slots := 0, locals := 0 } : Room).cells ({ frames := 0, cells := 0, slots := 0, locals := 0 } : Room).slots) := by
  refine own_body (y := (⟨"com/example/treaty2/treaty2/service/Receipt", "peerId", "()Ljava/lang/String;"⟩ : MethodName)) (Q := fun v h L => (∃ w, v = some w ∧ (fun w => w = (.ref a2)) w) ∧ L = [] ∧ h = h0) (rm := ({ frames := 0, cells := 0, slots := 0, locals := 0 } : Room)) (as' := #[(.ref a1)]) (h0 := h0) (Z := Z) own_pnGp ?_
  intro p e s m below meth c s₁ hx hby hml hown hnm hret hlk hZ X0 e0
  have hown : s.vm.findClass "com/example/treaty2/treaty2/service/Receipt" = some m.cls := hown
  rw [own_efGp]
  refine own_aload_n X0 hx (hb hby dGp_0) rfl rfl (q := 1) rfl ?_
  refine own_getF X0 hx hZ hown (hw _ (List.mem_of_getElem? (i := 42) rfl)) e0 F (hb hby dGp_1) (q := 4) rfl ?_
  intro T1 X1 e1
  exact own_retA X1 hx rfl hret rfl hlk (hb hby dGp_4) (by decide) (by decide) ⟨⟨_, rfl, rfl⟩, rfl, e1⟩
theorem dGq_0 : decode prog_62_method_7_code 0 = .ok (.aload_n 0, 1) := by decide +kernel
theorem dGq_1 : decode prog_62_method_7_code 1 = .ok (.getfield 7, 3) := by decide +kernel
theorem dGq_4 : decode prog_62_method_7_code 4 = .ok (.areturn, 1) := by decide +kernel
theorem own_pnGq : plainFor (⟨"com/example/treaty2/treaty2/service/Receipt", "peerId", "()Ljava/lang/String;"⟩ : MethodName) = true := plainFor_of_name (show plainName "com/example/treaty2/treaty2/service/Receipt" = true by first | (simp [plainName, overriddenIn]; done) | decide +kernel)
theorem own_efGq (m : MethodId) (a1 : Addr)  : entryFrame m #[(.ref a1)] 1 = mkF m 0 #[.val (.ref a1)] [] := by first | (simp [entryFrame, mkF, argsToLocals, Value.category, maxLocals]; done) | rfl
set_option maxRecDepth 65536 in
set_option maxHeartbeats 40000000 in
theorem own_rmGq (l : Launch) (Z : State) (a0 : Array Value) (hw : ∀ d ∈ tables_1, d.before a0 Z = true) (ws : List Jvm.Cond) (a1 : Addr)  (h0 : Heap) (F : Fld Z h0 a1 "com/example/treaty2/treaty2/service/Receipt" "peerId" "Ljava/lang/String;" .null) :
    MetFree l (⟨"com/example/treaty2/treaty2/service/Receipt", "peerId", "()Ljava/lang/String;"⟩ : MethodName) (head1 (Jvm.Cond.code (⟨"com/example/treaty2/treaty2/service/Receipt", "peerId", "()Ljava/lang/String;"⟩ : MethodName) prog_62_method_7_code 1 (some (.object "java/lang/String")) :: ws) ({ frames := 0, cells := 0, slots := 0, locals := 0 } : Room)) (fun a U => a = #[(.ref a1)] ∧ Z.Warmed39 U.vm ∧ U.heap = h0) (fun _ _ _ _ _ => True) (fun _ U o U' => ∃ v L, o = .returned v ∧ (fun v h L => (∃ w, v = some w ∧ (fun w => w = .null) w) ∧ L = [] ∧ h = h0) v U'.heap L ∧ FrameEnd U o U' L ({ frames := 0, cells := 0, slots := 0, locals := 0 } : Room).cells ({ frames := 0, cells := 0, slots := 0, locals := 0 } : Room).slots) := by
  refine own_body (y := (⟨"com/example/treaty2/treaty2/service/Receipt", "peerId", "()Ljava/lang/String;"⟩ : MethodName)) (Q := fun v h L => (∃ w, v = some w ∧ (fun w => w = .null) w) ∧ L = [] ∧ h = h0) (rm := ({ frames := 0, cells := 0, slots := 0, locals := 0 } : Room)) (as' := #[(.ref a1)]) (h0 := h0) (Z := Z) own_pnGq ?_
  intro p e s m below meth c s₁ hx hby hml hown hnm hret hlk hZ X0 e0
  have hown : s.vm.findClass "com/example/treaty2/treaty2/service/Receipt" = some m.cls := hown
  rw [own_efGq]
  refine own_aload_n X0 hx (hb hby dGq_0) rfl rfl (q := 1) rfl ?_
  refine own_getF X0 hx hZ hown (hw _ (List.mem_of_getElem? (i := 42) rfl)) e0 F (hb hby dGq_1) (q := 4) rfl ?_
  intro T1 X1 e1
  exact own_retA X1 hx rfl hret rfl hlk (hb hby dGq_4) (by decide) (by decide) ⟨⟨_, rfl, rfl⟩, rfl, e1⟩
theorem dGd_0 : decode prog_62_method_8_code 0 = .ok (.aload_n 0, 1) := by decide +kernel
theorem dGd_1 : decode prog_62_method_8_code 1 = .ok (.getfield 13, 3) := by decide +kernel
theorem dGd_4 : decode prog_62_method_8_code 4 = .ok (.ireturn, 1) := by decide +kernel
theorem own_pnGd : plainFor (⟨"com/example/treaty2/treaty2/service/Receipt", "delivered", "()Z"⟩ : MethodName) = true := plainFor_of_name (show plainName "com/example/treaty2/treaty2/service/Receipt" = true by first | (simp [plainName, overriddenIn]; done) | decide +kernel)
theorem own_efGd (m : MethodId) (a1 : Addr)  : entryFrame m #[(.ref a1)] 1 = mkF m 0 #[.val (.ref a1)] [] := by first | (simp [entryFrame, mkF, argsToLocals, Value.category, maxLocals]; done) | rfl
set_option maxRecDepth 65536 in
set_option maxHeartbeats 40000000 in
theorem own_rmGd (l : Launch) (Z : State) (a0 : Array Value) (hw : ∀ d ∈ tables_1, d.before a0 Z = true) (ws : List Jvm.Cond) (a1 : Addr)  (h0 : Heap) (F : Fld Z h0 a1 "com/example/treaty2/treaty2/service/Receipt" "delivered" "Z" (.int (1 : Int32))) :
    MetFree l (⟨"com/example/treaty2/treaty2/service/Receipt", "delivered", "()Z"⟩ : MethodName) (head1 (Jvm.Cond.code (⟨"com/example/treaty2/treaty2/service/Receipt", "delivered", "()Z"⟩ : MethodName) prog_62_method_8_code 1 (some .boolean) :: ws) ({ frames := 0, cells := 0, slots := 0, locals := 0 } : Room)) (fun a U => a = #[(.ref a1)] ∧ Z.Warmed39 U.vm ∧ U.heap = h0) (fun _ _ _ _ _ => True) (fun _ U o U' => ∃ v L, o = .returned v ∧ (fun v h L => (∃ w, v = some w ∧ (fun w => w = (.int (1 : Int32))) w) ∧ L = [] ∧ h = h0) v U'.heap L ∧ FrameEnd U o U' L ({ frames := 0, cells := 0, slots := 0, locals := 0 } : Room).cells ({ frames := 0, cells := 0, slots := 0, locals := 0 } : Room).slots) := by
  refine own_body (y := (⟨"com/example/treaty2/treaty2/service/Receipt", "delivered", "()Z"⟩ : MethodName)) (Q := fun v h L => (∃ w, v = some w ∧ (fun w => w = (.int (1 : Int32))) w) ∧ L = [] ∧ h = h0) (rm := ({ frames := 0, cells := 0, slots := 0, locals := 0 } : Room)) (as' := #[(.ref a1)]) (h0 := h0) (Z := Z) own_pnGd ?_
  intro p e s m below meth c s₁ hx hby hml hown hnm hret hlk hZ X0 e0
  have hown : s.vm.findClass "com/example/treaty2/treaty2/service/Receipt" = some m.cls := hown
  rw [own_efGd]
  refine own_aload_n X0 hx (hb hby dGd_0) rfl rfl (q := 1) rfl ?_
  refine own_getF X0 hx hZ hown (hw _ (List.mem_of_getElem? (i := 44) rfl)) e0 F (hb hby dGd_1) (q := 4) rfl ?_
  intro T1 X1 e1
  exact own_retN X1 hx (t := .boolean) hret hlk (by simp) (hb hby dGd_4) (by decide) (by decide) (w := (1 : Int32)) rfl ⟨⟨_, rfl, rfl⟩, rfl, e1⟩
theorem dGe_0 : decode prog_62_method_9_code 0 = .ok (.aload_n 0, 1) := by decide +kernel
theorem dGe_1 : decode prog_62_method_9_code 1 = .ok (.getfield 17, 3) := by decide +kernel
theorem dGe_4 : decode prog_62_method_9_code 4 = .ok (.areturn, 1) := by decide +kernel
theorem own_pnGe : plainFor (⟨"com/example/treaty2/treaty2/service/Receipt", "errorCode", "()Ljava/lang/String;"⟩ : MethodName) = true := plainFor_of_name (show plainName "com/example/treaty2/treaty2/service/Receipt" = true by first | (simp [plainName, overriddenIn]; done) | decide +kernel)
theorem own_efGe (m : MethodId) (a1 : Addr)  : entryFrame m #[(.ref a1)] 1 = mkF m 0 #[.val (.ref a1)] [] := by first | (simp [entryFrame, mkF, argsToLocals, Value.category, maxLocals]; done) | rfl
set_option maxRecDepth 65536 in
set_option maxHeartbeats 40000000 in
theorem own_rmGe (l : Launch) (Z : State) (a0 : Array Value) (hw : ∀ d ∈ tables_1, d.before a0 Z = true) (ws : List Jvm.Cond) (a1 : Addr)  (h0 : Heap) (F : Fld Z h0 a1 "com/example/treaty2/treaty2/service/Receipt" "errorCode" "Ljava/lang/String;" .null) :
    MetFree l (⟨"com/example/treaty2/treaty2/service/Receipt", "errorCode", "()Ljava/lang/String;"⟩ : MethodName) (head1 (Jvm.Cond.code (⟨"com/example/treaty2/treaty2/service/Receipt", "errorCode", "()Ljava/lang/String;"⟩ : MethodName) prog_62_method_9_code 1 (some (.object "java/lang/String")) :: ws) ({ frames := 0, cells := 0, slots := 0, locals := 0 } : Room)) (fun a U => a = #[(.ref a1)] ∧ Z.Warmed39 U.vm ∧ U.heap = h0) (fun _ _ _ _ _ => True) (fun _ U o U' => ∃ v L, o = .returned v ∧ (fun v h L => (∃ w, v = some w ∧ (fun w => w = .null) w) ∧ L = [] ∧ h = h0) v U'.heap L ∧ FrameEnd U o U' L ({ frames := 0, cells := 0, slots := 0, locals := 0 } : Room).cells ({ frames := 0, cells := 0, slots := 0, locals := 0 } : Room).slots) := by
  refine own_body (y := (⟨"com/example/treaty2/treaty2/service/Receipt", "errorCode", "()Ljava/lang/String;"⟩ : MethodName)) (Q := fun v h L => (∃ w, v = some w ∧ (fun w => w = .null) w) ∧ L = [] ∧ h = h0) (rm := ({ frames := 0, cells := 0, slots := 0, locals := 0 } : Room)) (as' := #[(.ref a1)]) (h0 := h0) (Z := Z) own_pnGe ?_
  intro p e s m below meth c s₁ hx hby hml hown hnm hret hlk hZ X0 e0
  have hown : s.vm.findClass "com/example/treaty2/treaty2/service/Receipt" = some m.cls := hown
  rw [own_efGe]
  refine own_aload_n X0 hx (hb hby dGe_0) rfl rfl (q := 1) rfl ?_
  refine own_getF X0 hx hZ hown (hw _ (List.mem_of_getElem? (i := 46) rfl)) e0 F (hb hby dGe_1) (q := 4) rfl ?_
  intro T1 X1 e1
  exact own_retA X1 hx rfl hret rfl hlk (hb hby dGe_4) (by decide) (by decide) ⟨⟨_, rfl, rfl⟩, rfl, e1⟩
theorem dM_0 : decode jdk_42_method_55_code 0 = .ok (.aload_n 0, 1) := by decide +kernel
theorem dM_1 : decode jdk_42_method_55_code 1 = .ok (.getfield 9, 3) := by decide +kernel
theorem dM_4 : decode jdk_42_method_55_code 4 = .ok (.arraylength, 1) := by decide +kernel
theorem dM_5 : decode jdk_42_method_55_code 5 = .ok (.ifCond .ne 7, 3) := by decide +kernel
theorem dM_8 : decode jdk_42_method_55_code 8 = .ok (.iconst 1, 1) := by decide +kernel
theorem dM_9 : decode jdk_42_method_55_code 9 = .ok (.goto 4, 3) := by decide +kernel
theorem dM_13 : decode jdk_42_method_55_code 13 = .ok (.ireturn, 1) := by decide +kernel
theorem own_pnM : plainFor (⟨"java/lang/String", "isEmpty", "()Z"⟩ : MethodName) = true := plainFor_of_name (show plainName "java/lang/String" = true by first | (simp [plainName, overriddenIn]; done) | decide +kernel)
theorem own_efM (m : MethodId) (a1 : Addr)  : entryFrame m #[(.ref a1)] 1 = mkF m 0 #[.val (.ref a1)] [] := by first | (simp [entryFrame, mkF, argsToLocals, Value.category, maxLocals]; done) | rfl
set_option maxRecDepth 65536 in
set_option maxHeartbeats 40000000 in
theorem own_rmM (l : Launch) (Z : State) (a0 : Array Value) (hw : ∀ d ∈ tables_1, d.before a0 Z = true) (ws : List Jvm.Cond) (a1 : Addr) (b : Addr) (f : Nat → Int32) (h0 : Heap) (F : Fld Z h0 a1 "java/lang/String" "value" "[B" (.ref b)) (A : own_Arr Z h0 b .byte 0 (fun i => .int (f i))) :
    MetFree l (⟨"java/lang/String", "isEmpty", "()Z"⟩ : MethodName) (head1 (Jvm.Cond.code (⟨"java/lang/String", "isEmpty", "()Z"⟩ : MethodName) jdk_42_method_55_code 1 (some .boolean) :: ws) ({ frames := 0, cells := 0, slots := 0, locals := 0 } : Room)) (fun a U => a = #[(.ref a1)] ∧ Z.Warmed39 U.vm ∧ U.heap = h0) (fun _ _ _ _ _ => True) (fun _ U o U' => ∃ v L, o = .returned v ∧ (fun v h L => (∃ w, v = some w ∧ (fun w => w = .int 1) w) ∧ L = [] ∧ h = h0) v U'.heap L ∧ FrameEnd U o U' L ({ frames := 0, cells := 0, slots := 0, locals := 0 } : Room).cells ({ frames := 0, cells := 0, slots := 0, locals := 0 } : Room).slots) := by
  refine own_body (y := (⟨"java/lang/String", "isEmpty", "()Z"⟩ : MethodName)) (Q := fun v h L => (∃ w, v = some w ∧ (fun w => w = .int 1) w) ∧ L = [] ∧ h = h0) (rm := ({ frames := 0, cells := 0, slots := 0, locals := 0 } : Room)) (as' := #[(.ref a1)]) (h0 := h0) (Z := Z) own_pnM ?_
  intro p e s m below meth c s₁ hx hby hml hown hnm hret hlk hZ X0 e0
  have hown : s.vm.findClass "java/lang/String" = some m.cls := hown
  rw [own_efM]
  refine own_aload_n X0 hx (hb hby dM_0) rfl rfl (q := 1) rfl ?_
  refine own_getF X0 hx hZ hown (hw _ (List.mem_of_getElem? (i := 24) rfl)) e0 F (hb hby dM_1) (q := 4) rfl ?_
  intro T1 X1 e1
  refine own_arraylength X1 hx hZ e1 A (hb hby dM_4) (v := (0 : Int32)) rfl (q := 5) rfl ?_
  refine own_if X1 hx (hb hby dM_5) (by decide) (q := 12) rfl (q' := 8) rfl (own_z_ne _) (fun h5 => ?_) (fun h5 => ?_)
  · replace h5 : (0 : Int) ≠ 0 := h5
    exact absurd h5 (by decide)
  · replace h5 : ¬ ((0 : Int) ≠ 0) := h5
    refine own_iconst X1 hx (hb hby dM_8) (v := (1 : Int32)) rfl (q := 9) rfl ?_
    refine own_goto X1 hx (hb hby dM_9) (by decide) (q := 13) rfl ?_
    exact own_retN X1 hx (t := .boolean) hret hlk (by simp) (hb hby dM_13) (by decide) (by decide) (w := (1 : Int32)) rfl ⟨⟨_, rfl, rfl⟩, rfl, e1⟩
theorem own_pn0 : plainFor x = true := plainFor_of_name (show plainName "com/example/treaty2/treaty2/service/ReceiptDeliveredPinLaw" = true by first | (simp [plainName, overriddenIn]; done) | decide +kernel)
theorem own_ef0 (m : MethodId) (p1 : Int32) (p2 : Int32) (p3 : Int32) (p4 : Int32)  : entryFrame m #[(.int p1), (.int p2), (.int p3), (.int p4)] maxLocals = mkF m 0 #[.val (.int p1), .val (.int p2), .val (.int p3), .val (.int p4), .unset, .unset, .unset] [] := by first | (simp [entryFrame, mkF, argsToLocals, Value.category, maxLocals]; done) | rfl
set_option maxRecDepth 65536 in
set_option maxHeartbeats 40000000 in
theorem own_rm0 (l : Launch) (Z : State) (a0 : Array Value) (hw : ∀ d ∈ tables_1, d.before a0 Z = true) (ws : List Jvm.Cond) (p1 : Int32) (p2 : Int32) (p3 : Int32) (p4 : Int32) (G1 : Int32) (h0 : Heap) (ST : Sta Z h0 "java/lang/String" "COMPACT_STRINGS" "Z" (.int G1)) (hG : G1.toInt ≠ 0) :
    MetFree l x (head1 (Jvm.Cond.code x code maxLocals ret :: ws) room_1) (fun a U => a = #[(.int p1), (.int p2), (.int p3), (.int p4)] ∧ Z.Warmed39 U.vm ∧ U.heap = h0 ∧ CHv Z consts_1 U.vm h0 ∧ ∀ x ∈ ([] : List Addr), Safe Z consts_1 U.vm h0 x) (fun _ _ _ _ _ => True) (fun _ U o U' => ∃ v L, o = .returned v ∧ (fun v h L => v = some (.int 1) ∧ Fr h0.size L) v U'.heap L ∧ CHr Z consts_1 U.vm U.heap U'.vm U'.heap ∧ ReturnedEndW U o U' L room_1.cells room_1.slots) := by
  refine own_Wbody (EL := consts_1) (y := x) (Q := fun v h L => v = some (.int 1) ∧ Fr h0.size L) (rm := room_1) (as' := #[(.int p1), (.int p2), (.int p3), (.int p4)]) (h0 := h0) (Z := Z) (sf := []) own_pn0 ?_
  intro p e s m below meth c s₁ hx hby hml hown hnm hret hlk hZ X0 e0 hS hk HC0 hsf0
  have hown : s.vm.findClass "com/example/treaty2/treaty2/service/ReceiptDeliveredPinLaw" = some m.cls := hown
  rw [own_ef0]
  refine own_iload_n X0 hx (hb hby at_0) rfl (q := 1) rfl ?_
  refine own_iload_n X0 hx (hb hby at_1) rfl (q := 2) rfl ?_
  refine own_iload_n X0 hx (hb hby at_2) rfl (q := 3) rfl ?_
  refine own_iload_n X0 hx (hb hby at_3) rfl (q := 4) rfl ?_
  refine own_WcallS X0 hx hZ hown (hw _ (List.mem_of_getElem? (i := 0) rfl)) (hw _ (List.mem_of_getElem? (i := 1) rfl)) (hw _ (List.mem_of_getElem? (i := 2) rfl)) (hw _ (List.mem_of_getElem? (i := 3) rfl)) (by decide) (own_rmD l Z a0 hw [] p1 p2 p3 p4 G1 h0 h0.size (Nat.le_refl _) ST hG) (by decide) (by decide) hS hk (own_EW hw) HC0 (fun _ q => nomatch q) e0 (by rw [hml]; rfl) (argsL := [(.int p1), (.int p2), (.int p3), (.int p4)]) (rest := []) (lenOf own_pd9 rfl) rfl (W := 0) rfl (hb hby at_4) (q := 7) rfl rfl (by decide) (by decide) ?_
  rintro _ T1 L1 h1_ kk1 ⟨(rfl | ⟨b1, rfl⟩), NL1, K1⟩ X1 e1 hS hk hZ hown HC1 SF1
  ·
    have N1 := Fr.app (Fr.nil _) NL1
    have ST_1 := own_sta_keep ST K1 ns0
    have KK1 := Keep.trans (Keep.refl h0 []) K1 all0
    have z1_ : h0.size ≤ h1_.size := Nat.le_trans (Nat.le_refl _) K1.1
    obtain ⟨LL1, eL1⟩ : ∃ z, [] ++ L1 = z := ⟨_, rfl⟩
    rw [eL1] at X1 N1
    show own_G p e below _ (T1.setTop (mkF m 7 #[.val (.int p1), .val (.int p2), .val (.int p3), .val (.int p4), .unset, .unset, .unset] [.null]))
    refine own_astore X1 hx (hb hby at_7) rfl (l' := #[.val (.int p1), .val (.int p2), .val (.int p3), .val (.int p4), .val .null, .unset, .unset]) rfl (q := 9) rfl ?_
    refine own_aload X1 hx (hb hby at_9) rfl rfl (q := 11) rfl ?_
    refine own_WcallS X1 hx hZ hown (hw _ (List.mem_of_getElem? (i := 26) rfl)) (hw _ (List.mem_of_getElem? (i := 27) rfl)) (hw _ (List.mem_of_getElem? (i := 28) rfl)) (hw _ (List.mem_of_getElem? (i := 29) rfl)) (by decide) (own_rmEn l Z a0 hw []   h1_ h0.size z1_) (by decide) (by decide) hS hk (own_EW hw) HC1 (fun _ q => nomatch q) e1 (by rw [hml]; rfl) (argsL := [.null]) (rest := []) (lenOf own_pd10 rfl) rfl (W := 0) rfl (hb hby at_11) (q := 14) rfl rfl (by decide) (by decide) ?_
    rintro _ T2 L2 h2_ kk2 ⟨r2, c2, b2, rfl, NL2, K2, RA2, R02, R12, R22, R32, RB2, RV2, RW2⟩ X2 e2 hS hk hZ hown HC2 SF2
    have N2 := Fr.app N1 NL2
    have ST_2 := own_sta_keep ST_1 K2 ns0
    have KK2 := Keep.trans KK1 K2 all0
    have z2_ : h0.size ≤ h2_.size := Nat.le_trans z1_ K2.1
    obtain ⟨LL2, eL2⟩ : ∃ z, LL1 ++ L2 = z := ⟨_, rfl⟩
    rw [eL2] at X2 N2
    show own_G p e below _ (T2.setTop (mkF m 14 #[.val (.int p1), .val (.int p2), .val (.int p3), .val (.int p4), .val .null, .unset, .unset] [(.ref r2)]))
    refine own_astore X2 hx (hb hby at_14) rfl (l' := #[.val (.int p1), .val (.int p2), .val (.int p3), .val (.int p4), .val .null, .val (.ref r2), .unset]) rfl (q := 16) rfl ?_
    refine own_aload X2 hx (hb hby at_16) rfl rfl (q := 18) rfl ?_
    refine own_callVP X2 hx hZ hown (hw _ (List.mem_of_getElem? (i := 50) rfl)) (hw _ (List.mem_of_getElem? (i := 51) rfl)) (hw _ (List.mem_of_getElem? (i := 53) rfl)) (hw _ (List.mem_of_getElem? (i := 52) rfl)) (hw _ (List.mem_of_getElem? (i := 54) rfl)) (hw _ (List.mem_of_getElem? (i := 28) rfl)) (by decide) (own_rmGr l Z a0 hw [] r2 c2 h2_ R32) RA2 (by decide) (by decide) e2 (by rw [hml]; rfl) (argsL := []) (rest := []) (lenOf own_pd11 rfl) rfl (W := 0) rfl (hb hby at_18) (q := 21) rfl rfl rfl rfl (by decide) (by decide) ?_
    rintro _ T3 rfl X3 e3
    refine own_astore X3 hx (hb hby at_21) rfl (l' := #[.val (.int p1), .val (.int p2), .val (.int p3), .val (.int p4), .val .null, .val (.ref r2), .val (.ref c2)]) rfl (q := 23) rfl ?_
    refine own_aload X3 hx (hb hby at_23) rfl rfl (q := 25) rfl ?_
    refine own_callVP X3 hx hZ hown (hw _ (List.mem_of_getElem? (i := 55) rfl)) (hw _ (List.mem_of_getElem? (i := 56) rfl)) (hw _ (List.mem_of_getElem? (i := 58) rfl)) (hw _ (List.mem_of_getElem? (i := 57) rfl)) (hw _ (List.mem_of_getElem? (i := 59) rfl)) (hw _ (List.mem_of_getElem? (i := 28) rfl)) (by decide) (own_rmGq l Z a0 hw [] r2  h2_ R02) RA2 (by decide) (by decide) e3 (by rw [hml]; rfl) (argsL := []) (rest := []) (lenOf own_pd11 rfl) rfl (W := 0) rfl (hb hby at_25) (q := 28) rfl rfl rfl rfl (by decide) (by decide) ?_
    rintro _ T4 rfl X4 e4
    refine own_aload X4 hx (hb hby at_28) rfl rfl (q := 30) rfl ?_
    refine own_acmp X4 hx (hb hby at_30) (P := False) (by decide) (q := 66) rfl (q' := 33) rfl rfl rfl (by first | rfl | simp [XT.acmp]) (fun h30 => ?_) (fun h30 => ?_)
    · replace h30 : False := h30
      exfalso; exact h30
    · replace h30 : ¬ (False) := h30
      refine own_aload X4 hx (hb hby at_33) rfl rfl (q := 35) rfl ?_
      refine own_callVP X4 hx hZ hown (hw _ (List.mem_of_getElem? (i := 60) rfl)) (hw _ (List.mem_of_getElem? (i := 61) rfl)) (hw _ (List.mem_of_getElem? (i := 63) rfl)) (hw _ (List.mem_of_getElem? (i := 62) rfl)) (hw _ (List.mem_of_getElem? (i := 64) rfl)) (hw _ (List.mem_of_getElem? (i := 28) rfl)) (by decide) (own_rmGd l Z a0 hw [] r2  h2_ R12) RA2 (by decide) (by decide) e4 (by rw [hml]; rfl) (argsL := []) (rest := []) (lenOf own_pd12 rfl) rfl (W := 0) rfl (hb hby at_35) (q := 38) rfl rfl rfl rfl (by decide) (by decide) ?_
      rintro _ T5 rfl X5 e5
      refine own_if X5 hx (hb hby at_38) (by decide) (q := 66) rfl (q' := 41) rfl (own_z_eq _) (fun h38 => ?_) (fun h38 => ?_)
      · replace h38 : (1 : Int) = 0 := h38
        exact absurd h38 (by decide)
      · replace h38 : ¬ ((1 : Int) = 0) := h38
        refine own_aload X5 hx (hb hby at_41) rfl rfl (q := 43) rfl ?_
        refine own_callVP X5 hx hZ hown (hw _ (List.mem_of_getElem? (i := 65) rfl)) (hw _ (List.mem_of_getElem? (i := 66) rfl)) (hw _ (List.mem_of_getElem? (i := 68) rfl)) (hw _ (List.mem_of_getElem? (i := 67) rfl)) (hw _ (List.mem_of_getElem? (i := 69) rfl)) (hw _ (List.mem_of_getElem? (i := 28) rfl)) (by decide) (own_rmGe l Z a0 hw [] r2  h2_ R22) RA2 (by decide) (by decide) e5 (by rw [hml]; rfl) (argsL := []) (rest := []) (lenOf own_pd11 rfl) rfl (W := 0) rfl (hb hby at_43) (q := 46) rfl rfl rfl rfl (by decide) (by decide) ?_
        rintro _ T6 rfl X6 e6
        refine own_ifnonnullN X6 hx (hb hby at_46) (q := 49) rfl ?_
        refine own_aload X6 hx (hb hby at_49) rfl rfl (q := 51) rfl ?_
        refine own_ifnullN X6 hx (hb hby at_51) (q := 54) rfl ?_
        refine own_aload X6 hx (hb hby at_54) rfl rfl (q := 56) rfl ?_
        refine own_callVP X6 hx hZ hown (hw _ (List.mem_of_getElem? (i := 70) rfl)) (hw _ (List.mem_of_getElem? (i := 71) rfl)) (hw _ (List.mem_of_getElem? (i := 73) rfl)) (hw _ (List.mem_of_getElem? (i := 72) rfl)) (hw _ (List.mem_of_getElem? (i := 74) rfl)) (hw _ (List.mem_of_getElem? (i := 6) rfl)) (by decide) (own_rmM l Z a0 hw [] c2 b2 (own_tx "") h2_ RV2 RW2) RB2 (by decide) (by decide) e6 (by rw [hml]; rfl) (argsL := []) (rest := []) (lenOf own_pd12 rfl) rfl (W := 0) rfl (hb hby at_56) (q := 59) rfl rfl rfl rfl (by decide) (by decide) ?_
        rintro _ T7 rfl X7 e7
        refine own_if X7 hx (hb hby at_59) (by decide) (q := 66) rfl (q' := 62) rfl (own_z_eq _) (fun h59 => ?_) (fun h59 => ?_)
        · replace h59 : (1 : Int) = 0 := h59
          exact absurd h59 (by decide)
        · replace h59 : ¬ ((1 : Int) = 0) := h59
          refine own_iconst X7 hx (hb hby at_62) (v := (1 : Int32)) rfl (q := 63) rfl ?_
          refine own_goto X7 hx (hb hby at_63) (by decide) (q := 67) rfl ?_
          exact own_WretN X7 hx hZ (own_EW hw) hS hk HC2 e7 (t := .boolean) hret hlk (by simp) (hb hby at_67) (by decide) (by decide) (w := 1) rfl ⟨rfl, N2⟩
  ·
    have N1 := Fr.app (Fr.nil _) NL1
    have ST_1 := own_sta_keep ST K1 ns0
    have KK1 := Keep.trans (Keep.refl h0 []) K1 all0
    have z1_ : h0.size ≤ h1_.size := Nat.le_trans (Nat.le_refl _) K1.1
    obtain ⟨LL1, eL1⟩ : ∃ z, [] ++ L1 = z := ⟨_, rfl⟩
    rw [eL1] at X1 N1
    show own_G p e below _ (T1.setTop (mkF m 7 #[.val (.int p1), .val (.int p2), .val (.int p3), .val (.int p4), .unset, .unset, .unset] [(.ref b1)]))
    refine own_astore X1 hx (hb hby at_7) rfl (l' := #[.val (.int p1), .val (.int p2), .val (.int p3), .val (.int p4), .val (.ref b1), .unset, .unset]) rfl (q := 9) rfl ?_
    refine own_aload X1 hx (hb hby at_9) rfl rfl (q := 11) rfl ?_
    refine own_WcallS X1 hx hZ hown (hw _ (List.mem_of_getElem? (i := 26) rfl)) (hw _ (List.mem_of_getElem? (i := 27) rfl)) (hw _ (List.mem_of_getElem? (i := 28) rfl)) (hw _ (List.mem_of_getElem? (i := 29) rfl)) (by decide) (own_rmEr l Z a0 hw [] b1  h1_ h0.size z1_) (by decide) (by decide) hS hk (own_EW hw) HC1 (fun _ q => nomatch q) e1 (by rw [hml]; rfl) (argsL := [(.ref b1)]) (rest := []) (lenOf own_pd10 rfl) rfl (W := 0) rfl (hb hby at_11) (q := 14) rfl rfl (by decide) (by decide) ?_
    rintro _ T8 L8 h8_ kk8 ⟨r8, c8, b8, rfl, NL8, K8, RA8, R08, R18, R28, R38, RB8, RV8, RW8⟩ X8 e8 hS hk hZ hown HC8 SF8
    have N8 := Fr.app N1 NL8
    have ST_8 := own_sta_keep ST_1 K8 ns0
    have KK8 := Keep.trans KK1 K8 all0
    have z8_ : h0.size ≤ h8_.size := Nat.le_trans z1_ K8.1
    obtain ⟨LL8, eL8⟩ : ∃ z, LL1 ++ L8 = z := ⟨_, rfl⟩
    rw [eL8] at X8 N8
    show own_G p e below _ (T8.setTop (mkF m 14 #[.val (.int p1), .val (.int p2), .val (.int p3), .val (.int p4), .val (.ref b1), .unset, .unset] [(.ref r8)]))
    refine own_astore X8 hx (hb hby at_14) rfl (l' := #[.val (.int p1), .val (.int p2), .val (.int p3), .val (.int p4), .val (.ref b1), .val (.ref r8), .unset]) rfl (q := 16) rfl ?_
    refine own_aload X8 hx (hb hby at_16) rfl rfl (q := 18) rfl ?_
    refine own_callVP X8 hx hZ hown (hw _ (List.mem_of_getElem? (i := 50) rfl)) (hw _ (List.mem_of_getElem? (i := 51) rfl)) (hw _ (List.mem_of_getElem? (i := 53) rfl)) (hw _ (List.mem_of_getElem? (i := 52) rfl)) (hw _ (List.mem_of_getElem? (i := 54) rfl)) (hw _ (List.mem_of_getElem? (i := 28) rfl)) (by decide) (own_rmGr l Z a0 hw [] r8 c8 h8_ R38) RA8 (by decide) (by decide) e8 (by rw [hml]; rfl) (argsL := []) (rest := []) (lenOf own_pd11 rfl) rfl (W := 0) rfl (hb hby at_18) (q := 21) rfl rfl rfl rfl (by decide) (by decide) ?_
    rintro _ T9 rfl X9 e9
    refine own_astore X9 hx (hb hby at_21) rfl (l' := #[.val (.int p1), .val (.int p2), .val (.int p3), .val (.int p4), .val (.ref b1), .val (.ref r8), .val (.ref c8)]) rfl (q := 23) rfl ?_
    refine own_aload X9 hx (hb hby at_23) rfl rfl (q := 25) rfl ?_
    refine own_callVP X9 hx hZ hown (hw _ (List.mem_of_getElem? (i := 55) rfl)) (hw _ (List.mem_of_getElem? (i := 56) rfl)) (hw _ (List.mem_of_getElem? (i := 58) rfl)) (hw _ (List.mem_of_getElem? (i := 57) rfl)) (hw _ (List.mem_of_getElem? (i := 59) rfl)) (hw _ (List.mem_of_getElem? (i := 28) rfl)) (by decide) (own_rmGp l Z a0 hw [] r8 b1 h8_ R08) RA8 (by decide) (by decide) e9 (by rw [hml]; rfl) (argsL := []) (rest := []) (lenOf own_pd11 rfl) rfl (W := 0) rfl (hb hby at_25) (q := 28) rfl rfl rfl rfl (by decide) (by decide) ?_
    rintro _ T10 rfl X10 e10
    refine own_aload X10 hx (hb hby at_28) rfl rfl (q := 30) rfl ?_
    refine own_acmp X10 hx (hb hby at_30) (P := False) (by decide) (q := 66) rfl (q' := 33) rfl rfl rfl (by first | rfl | simp [XT.acmp]) (fun h30 => ?_) (fun h30 => ?_)
    · replace h30 : False := h30
      exfalso; exact h30
    · replace h30 : ¬ (False) := h30
      refine own_aload X10 hx (hb hby at_33) rfl rfl (q := 35) rfl ?_
      refine own_callVP X10 hx hZ hown (hw _ (List.mem_of_getElem? (i := 60) rfl)) (hw _ (List.mem_of_getElem? (i := 61) rfl)) (hw _ (List.mem_of_getElem? (i := 63) rfl)) (hw _ (List.mem_of_getElem? (i := 62) rfl)) (hw _ (List.mem_of_getElem? (i := 64) rfl)) (hw _ (List.mem_of_getElem? (i := 28) rfl)) (by decide) (own_rmGd l Z a0 hw [] r8  h8_ R18) RA8 (by decide) (by decide) e10 (by rw [hml]; rfl) (argsL := []) (rest := []) (lenOf own_pd12 rfl) rfl (W := 0) rfl (hb hby at_35) (q := 38) rfl rfl rfl rfl (by decide) (by decide) ?_
      rintro _ T11 rfl X11 e11
      refine own_if X11 hx (hb hby at_38) (by decide) (q := 66) rfl (q' := 41) rfl (own_z_eq _) (fun h38 => ?_) (fun h38 => ?_)
      · replace h38 : (1 : Int) = 0 := h38
        exact absurd h38 (by decide)
      · replace h38 : ¬ ((1 : Int) = 0) := h38
        refine own_aload X11 hx (hb hby at_41) rfl rfl (q := 43) rfl ?_
        refine own_callVP X11 hx hZ hown (hw _ (List.mem_of_getElem? (i := 65) rfl)) (hw _ (List.mem_of_getElem? (i := 66) rfl)) (hw _ (List.mem_of_getElem? (i := 68) rfl)) (hw _ (List.mem_of_getElem? (i := 67) rfl)) (hw _ (List.mem_of_getElem? (i := 69) rfl)) (hw _ (List.mem_of_getElem? (i := 28) rfl)) (by decide) (own_rmGe l Z a0 hw [] r8  h8_ R28) RA8 (by decide) (by decide) e11 (by rw [hml]; rfl) (argsL := []) (rest := []) (lenOf own_pd11 rfl) rfl (W := 0) rfl (hb hby at_43) (q := 46) rfl rfl rfl rfl (by decide) (by decide) ?_
        rintro _ T12 rfl X12 e12
        refine own_ifnonnullN X12 hx (hb hby at_46) (q := 49) rfl ?_
        refine own_aload X12 hx (hb hby at_49) rfl rfl (q := 51) rfl ?_
        refine own_ifnullN X12 hx (hb hby at_51) (q := 54) rfl ?_
        refine own_aload X12 hx (hb hby at_54) rfl rfl (q := 56) rfl ?_
        refine own_callVP X12 hx hZ hown (hw _ (List.mem_of_getElem? (i := 70) rfl)) (hw _ (List.mem_of_getElem? (i := 71) rfl)) (hw _ (List.mem_of_getElem? (i := 73) rfl)) (hw _ (List.mem_of_getElem? (i := 72) rfl)) (hw _ (List.mem_of_getElem? (i := 74) rfl)) (hw _ (List.mem_of_getElem? (i := 6) rfl)) (by decide) (own_rmM l Z a0 hw [] c8 b8 (own_tx "") h8_ RV8 RW8) RB8 (by decide) (by decide) e12 (by rw [hml]; rfl) (argsL := []) (rest := []) (lenOf own_pd12 rfl) rfl (W := 0) rfl (hb hby at_56) (q := 59) rfl rfl rfl rfl (by decide) (by decide) ?_
        rintro _ T13 rfl X13 e13
        refine own_if X13 hx (hb hby at_59) (by decide) (q := 66) rfl (q' := 62) rfl (own_z_eq _) (fun h59 => ?_) (fun h59 => ?_)
        · replace h59 : (1 : Int) = 0 := h59
          exact absurd h59 (by decide)
        · replace h59 : ¬ ((1 : Int) = 0) := h59
          refine own_iconst X13 hx (hb hby at_62) (v := (1 : Int32)) rfl (q := 63) rfl ?_
          refine own_goto X13 hx (hb hby at_63) (by decide) (q := 67) rfl ?_
          exact own_WretN X13 hx hZ (own_EW hw) hS hk HC8 e13 (t := .boolean) hret hlk (by simp) (hb hby at_67) (by decide) (by decide) (w := 1) rfl ⟨rfl, N8⟩
set_option maxRecDepth 65536 in
set_option maxHeartbeats 40000000 in
theorem own_comes {Post : Tables → Env → Array Value → State → Outcome → State → Prop} (hpost : ∀ tb e args s v u, (limb_1_1.after args s (.returned v) u = true ∧ limb_1_2.after args s (.returned v) u = true ∧ True) → ReturnedEndW s (.returned v) u (Jvm.fieldLocs frame_1_writes args s ++ Jvm.arrayLocs frame_1_arrays args s ++ Jvm.staticLocs frame_1_statics s) 24 2176 → Post tb e args s (.returned v) u) :
    ArmFor flags0 classFile x code maxLocals ret World_1 tables_1 room_1 Calls_1 rest_1 Pre_1 Post := by
  intro l hfl _ _ p e ha hc hk s m args below hf hA hF happ hP
  obtain ⟨hcalls, hrest, hpre⟩ := hP
  obtain ⟨-, -, -, hnamed, -, -, -, hat⟩ := (Spec.applies_iff hf).mp happ
  obtain ⟨hg, hn⟩ := and_e (Cond.before_iff.mp (show (Jvm.Cond.and given_1 narrow_1).before args s = true from hpre))
  obtain ⟨hcount, k0⟩ := and_e hg
  obtain ⟨w0, w1, w2, w3, rfl⟩ : ∃ w0 w1 w2 w3 : Value, args = #[w0, w1, w2, w3] := by
    have hs : args.size = 4 := by simpa [Cond.value, given_1] using hcount
    obtain ⟨L⟩ := args
    match L, hs with
    | [w0, w1, w2, w3], _ => exact ⟨w0, w1, w2, w3, rfl⟩
  have hw := fun d (hd : d ∈ tables_1) => atoms_spec (ws := Jvm.Cond.code x code maxLocals ret :: tables_1) hat d (List.mem_cons_of_mem _ hd)
  have hfit : Fit s := fun {y c} hc i hi => by
    obtain ⟨ha, rfl⟩ := Array.getElem?_eq_some_iff.mp hc
    have q := List.all_eq_true.mp ((Array.all_eq_true_iff_forall_mem.mp hF) _ (Array.getElem_mem ha)) i (List.mem_range.mpr hi)
    simpa [Array.getElem?_eq_getElem hi] using q
  obtain ⟨j0, k1⟩ := and_e k0
  obtain ⟨i0, e0⟩ := is_v j0
  obtain rfl : w0 = (.int i0) := Option.some.inj e0
  obtain ⟨j1, k2⟩ := and_e k1
  obtain ⟨i1, e1⟩ := is_v j1
  obtain rfl : w1 = (.int i1) := Option.some.inj e1
  obtain ⟨j2, k3⟩ := and_e k2
  obtain ⟨i2, e2⟩ := is_v j2
  obtain rfl : w2 = (.int i2) := Option.some.inj e2
  have j3 := k3
  obtain ⟨i3, e3⟩ := is_v j3
  obtain rfl : w3 = (.int i3) := Option.some.inj e3
  obtain ⟨hsets, hown0⟩ := atoms_of _ (rest_1_c_eq ▸ (show rest_1_c.before _ s = true from hrest))
  have n5 := not_v (Cond.before_iff.mp (hsets _ (List.mem_of_getElem? (i := 2) rfl)))
  obtain ⟨G1, eG⟩ := is_v (Cond.before_iff.mp (hsets _ (List.mem_of_getElem? (i := 1) rfl)))
  have ST : Sta s s.heap "java/lang/String" "COMPACT_STRINGS" "Z" (.int G1) := Sta.start eG (Or.inl (hsets _ (List.mem_of_getElem? (i := 0) rfl)))
  have hG0 : ¬ (G1 = (0 : Int32)) := gotF (Cond.eq_ints eG (Term.int_eval (0))) n5
  have hG : G1.toInt ≠ 0 := fun q => hG0 (Int32.toInt_inj.mp q)
  have hcs : ∀ p ∈ consts_1, Jvm.Lit.constHeld s p.1 p.2 := (show call_1_1 _ _ _ _ ∧ True from hcalls).1
  have HCV : CHv s consts_1 s.vm s.heap := CHv.start (own_EW hw) hcs (hsets _ (List.mem_of_getElem? (i := 2) rfl)) (own_wS hw _ (by simp [Bundle.stringAtoms])) (own_wS hw _ (by simp [Bundle.stringAtoms, Bundle.sN]))
  obtain ⟨n, o, h1, h2, h3, _, L, rfl, ⟨rfl, N⟩, -, hq⟩ := own_rm0 l s _ hw tables_1 i0 i1 i2 i3 G1 s.heap ST hG p e ha hc hk s m _ below hf ((Spec.applies_iff_loose hf).mp happ).1 ⟨rfl, State.Warmed39.refl s, rfl, HCV, fun _ q => nomatch q⟩ trivial
  refine ⟨n, _, h1, h2, h3, hpost _ _ _ _ _ _ ⟨Cond.after_iff.mpr rfl, Cond.after_iff.mpr (eq_i res_at (Term.int_eval (1)) rfl), trivial⟩ ⟨hq.1, hq.2.1, hq.2.2.1, (hq.2.2.2.sift fun y hy => Or.inr (N y hy)).mono (by decide) (by decide)⟩⟩
theorem main_1_1 : Claimed_1_1 := own_comes fun _ _ _ _ _ _ h hF => ⟨h.1, hF⟩
theorem main_1_2 : Claimed_1_2 := own_comes fun _ _ _ _ _ _ h hF => ⟨h.2.1, hF⟩
end Jvm.Pilot.@@N@@
namespace Jvm.Pilot.@@N@@
open Jvm Jvm.ClassFile Sem Op Lib Jvm.Free Jvm.Stand Jvm.Pilot.@@N@@.Jvm.D
/-! MADE BY PROGRAM (witnessworld.py) out of the Statement's table words and the real class files: 21 classes; the members and pool entries that the words name. The judged class is class 1, her method 1. -/
namespace start1
open Jvm.ClassFile
def u (s : String) : CpInfo := .utf8 (stringToUtf16 s)
/-- a pool by its gaps: so many unusable entries, then the entry; so many at the end -/
def gap : Nat → List CpInfo → List CpInfo
  | 0, r => r
  | n + 1, r => .unusable :: gap n r
def poolList (es : List (Nat × CpInfo)) (last : Nat) : List CpInfo := es.foldr (fun e r => gap e.1 (e.2 :: r)) (gap last [])
def pool (es : List (Nat × CpInfo)) (last : Nat) : Array CpInfo := ⟨poolList es last⟩
def fileOf (pool : Array CpInfo) (this : Nat) (attrs : Array Attribute := #[]) (ms : Array MethodInfo := #[]) (fl : Nat := 33) (sup : Nat := 0) (ifs : Array Nat := #[]) (fds : Array FieldInfo := #[]) : ClassFile where
  minorVersion := 0
  majorVersion := 65
  constantPool := pool
  accessFlags := fl
  thisClass := this
  superClass := sup
  interfaces := ifs
  fields := fds
  methods := ms
  attributes := attrs
def plain (name : String) (sup : Option ClassId) : Class where
  name := name
  kind := .ordinary
  loader := none
  accessFlags := 33
  super := sup
  interfaces := #[]
  cf := none
  fields := #[]
  methods := #[]
  instanceTypes := #[]
  staticTypes := #[]
  resolved := #[]
  callSites := []
  init := .initialized
  statics := none
  mirror := none

def pool0 : Array CpInfo := pool [(5, u "<init>"), (0, u "()V"), (1, .class_ 10), (1, u "java/lang/Object")] 113

def k0c0 : Code := { maxStack := 0, maxLocals := 1, code := object_method_1_code, exceptionTable := #[], attributes := #[] }
def k0m0 : Method := { name := "<init>", desc := "()V", sig := { parameters := [], returnType := none }, accessFlags := 1, code := some k0c0 }
/-- java/lang/Object -/
def k0 : Class := { plain "java/lang/Object" none with
  accessFlags := 33
  interfaces := #[]
  cf := some (fileOf pool0 8 #[] #[{ accessFlags := 1, nameIndex := 5, descriptorIndex := 6, attributes := #[] }] 33 0 #[] #[])
  fields := #[]
  methods := #[k0m0]
  instanceTypes := #[]
  staticTypes := #[]
  resolved := Array.replicate 124 none
  statics := none }

def pool1 : Array CpInfo := pool [(2, .class_ 4), (1, u "java/lang/Object"), (0, u "<init>"), (0, u "()V"), (0, .methodref 8 9), (0, .class_ 10), (0, .nameAndType 11 12), (0, u "com/example/treaty2/treaty2/service/ReceiptDeliveredPinLaw"), (0, u "drawn"), (0, u "(IIII)Ljava/lang/String;"), (0, .methodref 14 15), (0, .class_ 16), (0, .nameAndType 17 18), (0, u "com/example/treaty2/treaty2/service/Receipt"), (0, u "delivered"), (0, u "(Ljava/lang/String;)Lcom/example/treaty2/treaty2/service/Receipt;"), (0, .methodref 14 20), (0, .nameAndType 21 22), (0, u "reason"), (0, u "()Ljava/lang/String;"), (0, .methodref 14 24), (0, .nameAndType 25 22), (0, u "peerId"), (0, .methodref 14 27), (0, .nameAndType 17 28), (0, u "()Z"), (0, .methodref 14 30), (0, .nameAndType 31 22), (0, u "errorCode"), (0, .methodref 33 34), (0, .class_ 35), (0, .nameAndType 36 28), (0, u "java/lang/String"), (0, u "isEmpty"), (0, .methodref 33 38), (0, .nameAndType 5 39), (0, u "([C)V"), (0, .methodref 33 41), (0, .nameAndType 42 43), (0, u "valueOf"), (0, u "(C)Ljava/lang/String;"), (2, u "law"), (0, u "(IIII)Z")] 3

def k1m0 : Method := { name := "<init>", desc := "()V", sig := { parameters := [], returnType := none }, accessFlags := 1, code := none }
def k1c1 : Code := { maxStack := 4, maxLocals := 7, code := code, exceptionTable := #[], attributes := #[] }
def k1m1 : Method := { name := "law", desc := "(IIII)Z", sig := { parameters := [.int, .int, .int, .int], returnType := some .boolean }, accessFlags := 9, code := some k1c1 }
def k1c2 : Code := { maxStack := 6, maxLocals := 8, code := method_3_code, exceptionTable := #[], attributes := #[] }
def k1m2 : Method := { name := "drawn", desc := "(IIII)Ljava/lang/String;", sig := { parameters := [.int, .int, .int, .int], returnType := some (.object "java/lang/String") }, accessFlags := 10, code := some k1c2 }
/-- com/example/treaty2/treaty2/service/ReceiptDeliveredPinLaw -/
def k1 : Class := { plain "com/example/treaty2/treaty2/service/ReceiptDeliveredPinLaw" (some 0) with
  accessFlags := 49
  interfaces := #[]
  cf := some (fileOf pool1 8 #[] #[{ accessFlags := 1, nameIndex := 5, descriptorIndex := 6, attributes := #[] }, { accessFlags := 9, nameIndex := 46, descriptorIndex := 47, attributes := #[] }, { accessFlags := 10, nameIndex := 11, descriptorIndex := 12, attributes := #[] }] 49 2 #[] #[])
  fields := #[]
  methods := #[k1m0, k1m1, k1m2]
  instanceTypes := #[]
  staticTypes := #[]
  resolved := Array.replicate 51 none
  statics := none }

def pool2 : Array CpInfo := pool [(1, .class_ 2), (0, u "java/io/Serializable"), (0, .class_ 4), (0, u "java/lang/Object")] 2

/-- java/io/Serializable -/
def k2 : Class := { plain "java/io/Serializable" (some 0) with
  accessFlags := 1537
  interfaces := #[]
  cf := some (fileOf pool2 1 #[] #[] 1537 3 #[] #[])
  fields := #[]
  methods := #[]
  instanceTypes := #[]
  staticTypes := #[]
  resolved := Array.replicate 7 none
  statics := none }

def pool3 : Array CpInfo := pool [(1, .class_ 2), (0, u "java/lang/Comparable"), (0, .class_ 4), (0, u "java/lang/Object")] 7

/-- java/lang/Comparable -/
def k3 : Class := { plain "java/lang/Comparable" (some 0) with
  accessFlags := 1537
  interfaces := #[]
  cf := some (fileOf pool3 1 #[] #[] 1537 3 #[] #[])
  fields := #[]
  methods := #[]
  instanceTypes := #[]
  staticTypes := #[]
  resolved := Array.replicate 12 none
  statics := none }

def pool4 : Array CpInfo := pool [(2, .class_ 4), (1, u "java/lang/CharSequence"), (42, .class_ 48), (0, u "java/lang/CharSequence$1CodePointIterator"), (10, .class_ 60), (0, u "java/lang/CharSequence$1CharIterator"), (5, .class_ 67), (0, u "java/lang/Object")] 63

/-- java/lang/CharSequence -/
def k4 : Class := { plain "java/lang/CharSequence" (some 0) with
  accessFlags := 1537
  interfaces := #[]
  cf := some (fileOf pool4 2 #[.nestMembers #[47, 59]] #[] 1537 66 #[] #[])
  fields := #[]
  methods := #[]
  instanceTypes := #[]
  staticTypes := #[]
  resolved := Array.replicate 131 none
  statics := none }

def pool5 : Array CpInfo := pool [(1, .class_ 2), (0, u "java/lang/constant/Constable"), (0, .class_ 4), (0, u "java/lang/Object")] 6

/-- java/lang/constant/Constable -/
def k5 : Class := { plain "java/lang/constant/Constable" (some 0) with
  accessFlags := 1537
  interfaces := #[]
  cf := some (fileOf pool5 1 #[] #[] 1537 3 #[] #[])
  fields := #[]
  methods := #[]
  instanceTypes := #[]
  staticTypes := #[]
  resolved := Array.replicate 11 none
  statics := none }

def pool6 : Array CpInfo := pool [(1, .class_ 2), (0, u "java/lang/constant/ConstantDesc"), (0, .class_ 4), (0, u "java/lang/Object")] 32

/-- java/lang/constant/ConstantDesc -/
def k6 : Class := { plain "java/lang/constant/ConstantDesc" (some 0) with
  accessFlags := 1537
  interfaces := #[]
  cf := some (fileOf pool6 1 #[] #[] 1537 3 #[] #[])
  fields := #[]
  methods := #[]
  instanceTypes := #[]
  staticTypes := #[]
  resolved := Array.replicate 37 none
  statics := none }

def pool7 : Array CpInfo := pool [(1, .methodref 2 3), (0, .class_ 4), (0, .nameAndType 5 6), (0, u "java/lang/Object"), (0, u "<init>"), (0, u "()V"), (0, .string 8), (0, u ""), (0, .fieldref 10 11), (0, .class_ 12), (0, .nameAndType 13 14), (0, u "java/lang/String"), (0, u "value"), (0, u "[B"), (0, .fieldref 10 16), (0, .nameAndType 17 18), (0, u "coder"), (0, u "B"), (2, u "hash"), (0, u "I"), (2, u "hashIsZero"), (0, u "Z"), (0, .methodref 10 28), (0, .nameAndType 5 29), (0, u "([CIILjava/lang/Void;)V"), (8, .fieldref 10 39), (0, .nameAndType 40 26), (0, u "COMPACT_STRINGS"), (1, .class_ 44), (1, u "java/lang/StringUTF16"), (0, u "compress"), (1, .methodref 42 48), (0, .nameAndType 49 50), (0, u "coderFromArrayLen"), (0, u "([BI)B"), (2, u "toBytes"), (53, .class_ 109), (1, u "java/lang/StringLatin1"), (32, u "()Z"), (34, .methodref 42 178), (0, .nameAndType 45 179), (0, u "([CII)[B"), (29, .methodref 10 210), (0, .nameAndType 5 211), (0, u "([BB)V"), (157, u "(C)Z"), (205, .class_ 576), (0, u "java/lang/CharSequence"), (22, u "CASE_INSENSITIVE_ORDER"), (0, u "Ljava/util/Comparator;"), (91, u "isEmpty"), (89, u "valueOf"), (0, u "(C)Ljava/lang/String;"), (226, u "([C)V"), (4, .methodref 107 1016), (0, .nameAndType 1017 369), (0, u "canEncode"), (0, .methodref 107 1019), (0, .nameAndType 53 1020), (0, u "(C)[B"), (80, u "serialPersistentFields"), (0, u "[Ljava/io/ObjectStreamField;"), (0, .class_ 1104), (0, u "java/lang/String$CaseInsensitiveComparator"), (1, .class_ 1107), (0, u "java/io/Serializable"), (0, .class_ 1109), (0, u "java/lang/Comparable"), (0, .class_ 1111), (0, u "java/lang/constant/Constable"), (0, .class_ 1113), (0, u "java/lang/constant/ConstantDesc"), (2, u "serialVersionUID"), (0, u "J"), (3, u "REPL"), (0, u "C"), (2, u "LATIN1"), (1, u "UTF16")] 323

def k7m0 : Method := { name := "<init>", desc := "()V", sig := { parameters := [], returnType := none }, accessFlags := 1, code := none }
def k7c1 : Code := { maxStack := 5, maxLocals := 2, code := jdk_42_method_3_code, exceptionTable := #[], attributes := #[] }
def k7m1 : Method := { name := "<init>", desc := "([C)V", sig := { parameters := [(.array .char)], returnType := none }, accessFlags := 1, code := some k7c1 }
def k7c2 : Code := { maxStack := 1, maxLocals := 1, code := jdk_42_method_55_code, exceptionTable := #[], attributes := #[] }
def k7m2 : Method := { name := "isEmpty", desc := "()Z", sig := { parameters := [], returnType := some .boolean }, accessFlags := 1, code := some k7c2 }
def k7c3 : Code := { maxStack := 4, maxLocals := 1, code := jdk_42_method_139_code, exceptionTable := #[], attributes := #[] }
def k7m3 : Method := { name := "valueOf", desc := "(C)Ljava/lang/String;", sig := { parameters := [.char], returnType := some (.object "java/lang/String") }, accessFlags := 9, code := some k7c3 }
def k7c4 : Code := { maxStack := 4, maxLocals := 6, code := jdk_42_method_149_code, exceptionTable := #[], attributes := #[] }
def k7m4 : Method := { name := "<init>", desc := "([CIILjava/lang/Void;)V", sig := { parameters := [(.array .char), .int, .int, (.object "java/lang/Void")], returnType := none }, accessFlags := 2, code := some k7c4 }
def k7c5 : Code := { maxStack := 2, maxLocals := 3, code := jdk_42_method_151_code, exceptionTable := #[], attributes := #[] }
def k7m5 : Method := { name := "<init>", desc := "([BB)V", sig := { parameters := [(.array .byte), .byte], returnType := none }, accessFlags := 0, code := some k7c5 }
/-- java/lang/String -/
def k7 : Class := { plain "java/lang/String" (some 0) with
  accessFlags := 49
  interfaces := #[2, 3, 4, 5, 6]
  cf := some (fileOf pool7 10 #[.nestMembers #[1103]] #[{ accessFlags := 1, nameIndex := 5, descriptorIndex := 6, attributes := #[] }, { accessFlags := 1, nameIndex := 5, descriptorIndex := 1010, attributes := #[] }, { accessFlags := 1, nameIndex := 692, descriptorIndex := 142, attributes := #[] }, { accessFlags := 9, nameIndex := 782, descriptorIndex := 783, attributes := #[] }, { accessFlags := 2, nameIndex := 5, descriptorIndex := 29, attributes := #[] }, { accessFlags := 0, nameIndex := 5, descriptorIndex := 211, attributes := #[] }] 49 2 #[1106, 1108, 575, 1110, 1112] #[{ accessFlags := 18, nameIndex := 13, descriptorIndex := 14, attributes := #[] }, { accessFlags := 18, nameIndex := 17, descriptorIndex := 18, attributes := #[] }, { accessFlags := 2, nameIndex := 21, descriptorIndex := 22, attributes := #[] }, { accessFlags := 2, nameIndex := 25, descriptorIndex := 26, attributes := #[] }, { accessFlags := 26, nameIndex := 1116, descriptorIndex := 1117, attributes := #[] }, { accessFlags := 24, nameIndex := 40, descriptorIndex := 26, attributes := #[] }, { accessFlags := 26, nameIndex := 1101, descriptorIndex := 1102, attributes := #[] }, { accessFlags := 26, nameIndex := 1121, descriptorIndex := 1122, attributes := #[] }, { accessFlags := 25, nameIndex := 599, descriptorIndex := 600, attributes := #[] }, { accessFlags := 24, nameIndex := 1125, descriptorIndex := 18, attributes := #[] }, { accessFlags := 24, nameIndex := 1127, descriptorIndex := 18, attributes := #[] }])
  fields := #[{ name := "value", type := (.array .byte), accessFlags := 18, slot := 0, constantValue := 0 }, { name := "coder", type := .byte, accessFlags := 18, slot := 1, constantValue := 0 }, { name := "hash", type := .int, accessFlags := 2, slot := 2, constantValue := 0 }, { name := "hashIsZero", type := .boolean, accessFlags := 2, slot := 3, constantValue := 0 }, { name := "serialVersionUID", type := .long, accessFlags := 26, slot := 0, constantValue := 0 }, { name := "COMPACT_STRINGS", type := .boolean, accessFlags := 24, slot := 1, constantValue := 0 }, { name := "serialPersistentFields", type := (.array (.object "java/io/ObjectStreamField")), accessFlags := 26, slot := 2, constantValue := 0 }, { name := "REPL", type := .char, accessFlags := 26, slot := 3, constantValue := 0 }, { name := "CASE_INSENSITIVE_ORDER", type := (.object "java/util/Comparator"), accessFlags := 25, slot := 4, constantValue := 0 }, { name := "LATIN1", type := .byte, accessFlags := 24, slot := 5, constantValue := 0 }, { name := "UTF16", type := .byte, accessFlags := 24, slot := 6, constantValue := 0 }]
  methods := #[k7m0, k7m1, k7m2, k7m3, k7m4, k7m5]
  instanceTypes := #[(.array .byte), .byte, .int, .boolean]
  staticTypes := #[.long, .boolean, (.array (.object "java/io/ObjectStreamField")), .char, (.object "java/util/Comparator"), .byte, .byte]
  resolved := Array.replicate 1451 none
  statics := some 0 }

def pool8 : Array CpInfo := pool [(1, .methodref 2 3), (0, .class_ 4), (0, .nameAndType 5 6), (0, u "java/lang/Object"), (0, u "<init>"), (0, u "()V"), (0, .class_ 8), (0, u "java/lang/Record")] 13

def k8c0 : Code := { maxStack := 1, maxLocals := 1, code := jdk_30_method_1_code, exceptionTable := #[], attributes := #[] }
def k8m0 : Method := { name := "<init>", desc := "()V", sig := { parameters := [], returnType := none }, accessFlags := 4, code := some k8c0 }
/-- java/lang/Record -/
def k8 : Class := { plain "java/lang/Record" (some 0) with
  accessFlags := 1057
  interfaces := #[]
  cf := some (fileOf pool8 7 #[] #[{ accessFlags := 4, nameIndex := 5, descriptorIndex := 6, attributes := #[] }] 1057 2 #[] #[])
  fields := #[]
  methods := #[k8m0]
  instanceTypes := #[]
  staticTypes := #[]
  resolved := Array.replicate 22 none
  statics := none }

def pool9 : Array CpInfo := pool [(1, .methodref 2 3), (0, .class_ 4), (0, .nameAndType 5 6), (0, u "java/lang/Record"), (0, u "<init>"), (0, u "()V"), (0, .fieldref 8 9), (0, .class_ 10), (0, .nameAndType 11 12), (0, u "com/example/treaty2/treaty2/service/Receipt"), (0, u "peerId"), (0, u "Ljava/lang/String;"), (0, .fieldref 8 14), (0, .nameAndType 15 16), (0, u "delivered"), (0, u "Z"), (0, .fieldref 8 18), (0, .nameAndType 19 12), (0, u "errorCode"), (0, .fieldref 8 21), (0, .nameAndType 22 12), (0, u "reason"), (0, .string 24), (0, u ""), (0, .methodref 8 26), (0, .nameAndType 5 27), (0, u "(Ljava/lang/String;ZLjava/lang/String;Ljava/lang/String;)V"), (15, u "(Ljava/lang/String;)Lcom/example/treaty2/treaty2/service/Receipt;"), (2, u "()Ljava/lang/String;"), (2, u "()Z")] 23

def k9c0 : Code := { maxStack := 2, maxLocals := 5, code := prog_62_method_1_code, exceptionTable := #[], attributes := #[] }
def k9m0 : Method := { name := "<init>", desc := "(Ljava/lang/String;ZLjava/lang/String;Ljava/lang/String;)V", sig := { parameters := [(.object "java/lang/String"), .boolean, (.object "java/lang/String"), (.object "java/lang/String")], returnType := none }, accessFlags := 1, code := some k9c0 }
def k9c1 : Code := { maxStack := 6, maxLocals := 1, code := prog_62_method_2_code, exceptionTable := #[], attributes := #[] }
def k9m1 : Method := { name := "delivered", desc := "(Ljava/lang/String;)Lcom/example/treaty2/treaty2/service/Receipt;", sig := { parameters := [(.object "java/lang/String")], returnType := some (.object "com/example/treaty2/treaty2/service/Receipt") }, accessFlags := 9, code := some k9c1 }
def k9c2 : Code := { maxStack := 1, maxLocals := 1, code := prog_62_method_7_code, exceptionTable := #[], attributes := #[] }
def k9m2 : Method := { name := "peerId", desc := "()Ljava/lang/String;", sig := { parameters := [], returnType := some (.object "java/lang/String") }, accessFlags := 1, code := some k9c2 }
def k9c3 : Code := { maxStack := 1, maxLocals := 1, code := prog_62_method_8_code, exceptionTable := #[], attributes := #[] }
def k9m3 : Method := { name := "delivered", desc := "()Z", sig := { parameters := [], returnType := some .boolean }, accessFlags := 1, code := some k9c3 }
def k9c4 : Code := { maxStack := 1, maxLocals := 1, code := prog_62_method_9_code, exceptionTable := #[], attributes := #[] }
def k9m4 : Method := { name := "errorCode", desc := "()Ljava/lang/String;", sig := { parameters := [], returnType := some (.object "java/lang/String") }, accessFlags := 1, code := some k9c4 }
def k9c5 : Code := { maxStack := 1, maxLocals := 1, code := prog_62_method_10_code, exceptionTable := #[], attributes := #[] }
def k9m5 : Method := { name := "reason", desc := "()Ljava/lang/String;", sig := { parameters := [], returnType := some (.object "java/lang/String") }, accessFlags := 1, code := some k9c5 }
/-- com/example/treaty2/treaty2/service/Receipt -/
def k9 : Class := { plain "com/example/treaty2/treaty2/service/Receipt" (some 8) with
  accessFlags := 49
  interfaces := #[]
  cf := some (fileOf pool9 8 #[] #[{ accessFlags := 1, nameIndex := 5, descriptorIndex := 27, attributes := #[] }, { accessFlags := 9, nameIndex := 15, descriptorIndex := 43, attributes := #[] }, { accessFlags := 1, nameIndex := 11, descriptorIndex := 46, attributes := #[] }, { accessFlags := 1, nameIndex := 15, descriptorIndex := 49, attributes := #[] }, { accessFlags := 1, nameIndex := 19, descriptorIndex := 46, attributes := #[] }, { accessFlags := 1, nameIndex := 22, descriptorIndex := 46, attributes := #[] }] 49 2 #[] #[{ accessFlags := 18, nameIndex := 11, descriptorIndex := 12, attributes := #[] }, { accessFlags := 18, nameIndex := 15, descriptorIndex := 16, attributes := #[] }, { accessFlags := 18, nameIndex := 19, descriptorIndex := 12, attributes := #[] }, { accessFlags := 18, nameIndex := 22, descriptorIndex := 12, attributes := #[] }])
  fields := #[{ name := "peerId", type := (.object "java/lang/String"), accessFlags := 18, slot := 0, constantValue := 0 }, { name := "delivered", type := .boolean, accessFlags := 18, slot := 1, constantValue := 0 }, { name := "errorCode", type := (.object "java/lang/String"), accessFlags := 18, slot := 2, constantValue := 0 }, { name := "reason", type := (.object "java/lang/String"), accessFlags := 18, slot := 3, constantValue := 0 }]
  methods := #[k9m0, k9m1, k9m2, k9m3, k9m4, k9m5]
  instanceTypes := #[(.object "java/lang/String"), .boolean, (.object "java/lang/String"), (.object "java/lang/String")]
  staticTypes := #[]
  resolved := Array.replicate 73 none
  statics := none }

def pool10 : Array CpInfo := pool [(6, .class_ 8), (1, u "java/lang/Object"), (0, u "<init>"), (0, u "()V"), (1, .class_ 14), (1, u "java/lang/StringUTF16"), (31, u "$assertionsDisabled"), (0, u "Z"), (13, u "HI_BYTE_SHIFT"), (0, u "I"), (2, u "LO_BYTE_SHIFT"), (49, .methodref 12 116), (0, .nameAndType 117 118), (0, u "compress"), (0, u "([CI[BII)I"), (3, u "([CII)[B"), (138, u "coderFromArrayLen"), (0, u "([BI)B"), (106, .class_ 371), (1, u "java/lang/StringUTF16$LinesSpliterator"), (58, u "MAX_LENGTH"), (196, .class_ 628), (0, u "java/lang/StringUTF16$CodePointsSpliterator"), (0, .class_ 630), (0, u "java/lang/StringUTF16$CharsSpliterator")] 4

def k10m0 : Method := { name := "<init>", desc := "()V", sig := { parameters := [], returnType := none }, accessFlags := 0, code := none }
def k10c1 : Code := { maxStack := 2, maxLocals := 2, code := jdk_52_method_15_code, exceptionTable := #[], attributes := #[] }
def k10m1 : Method := { name := "coderFromArrayLen", desc := "([BI)B", sig := { parameters := [(.array .byte), .int], returnType := some .byte }, accessFlags := 8, code := some k10c1 }
def k10c2 : Code := { maxStack := 5, maxLocals := 6, code := jdk_52_method_16_code, exceptionTable := #[], attributes := #[] }
def k10m2 : Method := { name := "compress", desc := "([CII)[B", sig := { parameters := [(.array .char), .int, .int], returnType := some (.array .byte) }, accessFlags := 9, code := some k10c2 }
def k10c3 : Code := { maxStack := 3, maxLocals := 7, code := jdk_52_method_21_code, exceptionTable := #[], attributes := #[] }
def k10m3 : Method := { name := "compress", desc := "([CI[BII)I", sig := { parameters := [(.array .char), .int, (.array .byte), .int, .int], returnType := some .int }, accessFlags := 9, code := some k10c3 }
/-- java/lang/StringUTF16 -/
def k10 : Class := { plain "java/lang/StringUTF16" (some 0) with
  accessFlags := 48
  interfaces := #[]
  cf := some (fileOf pool10 12 #[.nestMembers #[627, 629, 369]] #[{ accessFlags := 0, nameIndex := 9, descriptorIndex := 10, attributes := #[] }, { accessFlags := 8, nameIndex := 261, descriptorIndex := 262, attributes := #[] }, { accessFlags := 9, nameIndex := 117, descriptorIndex := 122, attributes := #[] }, { accessFlags := 9, nameIndex := 117, descriptorIndex := 118, attributes := #[] }] 48 6 #[] #[{ accessFlags := 26, nameIndex := 61, descriptorIndex := 62, attributes := #[] }, { accessFlags := 26, nameIndex := 65, descriptorIndex := 62, attributes := #[] }, { accessFlags := 24, nameIndex := 430, descriptorIndex := 62, attributes := #[] }, { accessFlags := 4120, nameIndex := 46, descriptorIndex := 47, attributes := #[] }])
  fields := #[{ name := "HI_BYTE_SHIFT", type := .int, accessFlags := 26, slot := 0, constantValue := 0 }, { name := "LO_BYTE_SHIFT", type := .int, accessFlags := 26, slot := 1, constantValue := 0 }, { name := "MAX_LENGTH", type := .int, accessFlags := 24, slot := 2, constantValue := 0 }, { name := "$assertionsDisabled", type := .boolean, accessFlags := 4120, slot := 3, constantValue := 0 }]
  methods := #[k10m0, k10m1, k10m2, k10m3]
  instanceTypes := #[]
  staticTypes := #[.int, .int, .int, .boolean]
  resolved := Array.replicate 635 none
  statics := none }

def pool11 : Array CpInfo := pool [(4, .class_ 6), (1, u "java/lang/Object"), (0, u "<init>"), (0, u "()V"), (5, .class_ 16), (1, u "java/lang/StringLatin1"), (73, u "canEncode"), (14, u "(C)Z"), (15, u "$assertionsDisabled"), (0, u "Z"), (98, .class_ 223), (1, u "java/lang/StringLatin1$LinesSpliterator"), (156, u "toBytes"), (1, u "(C)[B"), (7, .class_ 391), (0, u "java/lang/StringLatin1$CharsSpliterator")] 3

def k11m0 : Method := { name := "<init>", desc := "()V", sig := { parameters := [], returnType := none }, accessFlags := 0, code := none }
def k11c1 : Code := { maxStack := 2, maxLocals := 1, code := jdk_43_method_3_code, exceptionTable := #[], attributes := #[] }
def k11m1 : Method := { name := "canEncode", desc := "(C)Z", sig := { parameters := [.char], returnType := some .boolean }, accessFlags := 9, code := some k11c1 }
def k11c2 : Code := { maxStack := 4, maxLocals := 1, code := jdk_43_method_46_code, exceptionTable := #[], attributes := #[] }
def k11m2 : Method := { name := "toBytes", desc := "(C)[B", sig := { parameters := [.char], returnType := some (.array .byte) }, accessFlags := 9, code := some k11c2 }
/-- java/lang/StringLatin1 -/
def k11 : Class := { plain "java/lang/StringLatin1" (some 0) with
  accessFlags := 48
  interfaces := #[]
  cf := some (fileOf pool11 14 #[.nestMembers #[390, 221]] #[{ accessFlags := 0, nameIndex := 7, descriptorIndex := 8, attributes := #[] }, { accessFlags := 9, nameIndex := 90, descriptorIndex := 105, attributes := #[] }, { accessFlags := 9, nameIndex := 380, descriptorIndex := 382, attributes := #[] }] 48 4 #[] #[{ accessFlags := 4120, nameIndex := 121, descriptorIndex := 122, attributes := #[] }])
  fields := #[{ name := "$assertionsDisabled", type := .boolean, accessFlags := 4120, slot := 0, constantValue := 0 }]
  methods := #[k11m0, k11m1, k11m2]
  instanceTypes := #[]
  staticTypes := #[.boolean]
  resolved := Array.replicate 395 none
  statics := none }

def pool12 : Array CpInfo := pool [(2, .class_ 4), (1, u "java/lang/Object"), (0, u "<init>"), (0, u "()V"), (17, .class_ 26), (1, u "jdk/internal/util/Preconditions"), (28, .class_ 56), (0, u "jdk/internal/util/Preconditions$4"), (57, .class_ 115), (0, u "jdk/internal/util/Preconditions$1"), (7, u "SIOOBE_FORMATTER"), (0, u "Ljava/util/function/BiFunction;"), (0, .class_ 126), (0, u "jdk/internal/util/Preconditions$2"), (3, u "AIOOBE_FORMATTER"), (0, .class_ 132), (0, u "jdk/internal/util/Preconditions$3"), (3, u "IOOBE_FORMATTER")] 57

def k12m0 : Method := { name := "<init>", desc := "()V", sig := { parameters := [], returnType := none }, accessFlags := 1, code := none }
/-- jdk/internal/util/Preconditions -/
def k12 : Class := { plain "jdk/internal/util/Preconditions" (some 0) with
  accessFlags := 33
  interfaces := #[]
  cf := some (fileOf pool12 24 #[.nestMembers #[55, 131, 125, 114]] #[{ accessFlags := 1, nameIndex := 5, descriptorIndex := 6, attributes := #[] }] 33 2 #[] #[{ accessFlags := 25, nameIndex := 123, descriptorIndex := 124, attributes := #[] }, { accessFlags := 25, nameIndex := 130, descriptorIndex := 124, attributes := #[] }, { accessFlags := 25, nameIndex := 136, descriptorIndex := 124, attributes := #[] }])
  fields := #[{ name := "SIOOBE_FORMATTER", type := (.object "java/util/function/BiFunction"), accessFlags := 25, slot := 0, constantValue := 0 }, { name := "AIOOBE_FORMATTER", type := (.object "java/util/function/BiFunction"), accessFlags := 25, slot := 1, constantValue := 0 }, { name := "IOOBE_FORMATTER", type := (.object "java/util/function/BiFunction"), accessFlags := 25, slot := 2, constantValue := 0 }]
  methods := #[k12m0]
  instanceTypes := #[]
  staticTypes := #[(.object "java/util/function/BiFunction"), (.object "java/util/function/BiFunction"), (.object "java/util/function/BiFunction")]
  resolved := Array.replicate 194 none
  statics := some 1 }

def pool13 : Array CpInfo := pool [(9, u "<init>"), (6, .class_ 18), (1, u "java/lang/Object"), (0, u "()V"), (1, .class_ 23), (1, u "jdk/internal/util/ArraysSupport"), (0, u "LOG2_ARRAY_LONG_INDEX_SCALE"), (0, u "I"), (2, u "U"), (0, u "Ljdk/internal/misc/Unsafe;"), (8, u "BIG_ENDIAN"), (0, u "Z"), (8, u "LOG2_BYTE_BIT_SIZE"), (4, u "LOG2_ARRAY_INT_INDEX_SCALE"), (54, u "JLA"), (0, u "Ljdk/internal/access/JavaLangAccess;"), (11, u "LOG2_ARRAY_BOOLEAN_INDEX_SCALE"), (9, u "LOG2_ARRAY_BYTE_INDEX_SCALE"), (5, u "LOG2_ARRAY_CHAR_INDEX_SCALE"), (5, u "LOG2_ARRAY_SHORT_INDEX_SCALE"), (18, u "LOG2_ARRAY_FLOAT_INDEX_SCALE"), (24, u "LOG2_ARRAY_DOUBLE_INDEX_SCALE"), (89, u "T_BOOLEAN"), (2, u "T_CHAR"), (1, u "T_FLOAT"), (1, u "T_DOUBLE"), (1, u "T_BYTE"), (1, u "T_SHORT"), (1, u "T_INT"), (1, u "T_LONG"), (1, u "SOFT_MAX_ARRAY_LENGTH")] 83

def k13m0 : Method := { name := "<init>", desc := "()V", sig := { parameters := [], returnType := none }, accessFlags := 2, code := none }
/-- jdk/internal/util/ArraysSupport -/
def k13 : Class := { plain "jdk/internal/util/ArraysSupport" (some 0) with
  accessFlags := 33
  interfaces := #[]
  cf := some (fileOf pool13 21 #[] #[{ accessFlags := 2, nameIndex := 9, descriptorIndex := 19, attributes := #[] }] 33 16 #[] #[{ accessFlags := 24, nameIndex := 28, descriptorIndex := 29, attributes := #[] }, { accessFlags := 26, nameIndex := 38, descriptorIndex := 39, attributes := #[] }, { accessFlags := 25, nameIndex := 121, descriptorIndex := 25, attributes := #[] }, { accessFlags := 25, nameIndex := 131, descriptorIndex := 25, attributes := #[] }, { accessFlags := 25, nameIndex := 137, descriptorIndex := 25, attributes := #[] }, { accessFlags := 25, nameIndex := 143, descriptorIndex := 25, attributes := #[] }, { accessFlags := 25, nameIndex := 53, descriptorIndex := 25, attributes := #[] }, { accessFlags := 25, nameIndex := 24, descriptorIndex := 25, attributes := #[] }, { accessFlags := 25, nameIndex := 162, descriptorIndex := 25, attributes := #[] }, { accessFlags := 25, nameIndex := 187, descriptorIndex := 25, attributes := #[] }, { accessFlags := 26, nameIndex := 48, descriptorIndex := 25, attributes := #[] }, { accessFlags := 25, nameIndex := 277, descriptorIndex := 25, attributes := #[] }, { accessFlags := 25, nameIndex := 280, descriptorIndex := 25, attributes := #[] }, { accessFlags := 25, nameIndex := 282, descriptorIndex := 25, attributes := #[] }, { accessFlags := 25, nameIndex := 284, descriptorIndex := 25, attributes := #[] }, { accessFlags := 25, nameIndex := 286, descriptorIndex := 25, attributes := #[] }, { accessFlags := 25, nameIndex := 288, descriptorIndex := 25, attributes := #[] }, { accessFlags := 25, nameIndex := 290, descriptorIndex := 25, attributes := #[] }, { accessFlags := 25, nameIndex := 292, descriptorIndex := 25, attributes := #[] }, { accessFlags := 26, nameIndex := 108, descriptorIndex := 109, attributes := #[] }, { accessFlags := 25, nameIndex := 294, descriptorIndex := 25, attributes := #[] }])
  fields := #[{ name := "U", type := (.object "jdk/internal/misc/Unsafe"), accessFlags := 24, slot := 0, constantValue := 0 }, { name := "BIG_ENDIAN", type := .boolean, accessFlags := 26, slot := 1, constantValue := 0 }, { name := "LOG2_ARRAY_BOOLEAN_INDEX_SCALE", type := .int, accessFlags := 25, slot := 2, constantValue := 0 }, { name := "LOG2_ARRAY_BYTE_INDEX_SCALE", type := .int, accessFlags := 25, slot := 3, constantValue := 0 }, { name := "LOG2_ARRAY_CHAR_INDEX_SCALE", type := .int, accessFlags := 25, slot := 4, constantValue := 0 }, { name := "LOG2_ARRAY_SHORT_INDEX_SCALE", type := .int, accessFlags := 25, slot := 5, constantValue := 0 }, { name := "LOG2_ARRAY_INT_INDEX_SCALE", type := .int, accessFlags := 25, slot := 6, constantValue := 0 }, { name := "LOG2_ARRAY_LONG_INDEX_SCALE", type := .int, accessFlags := 25, slot := 7, constantValue := 0 }, { name := "LOG2_ARRAY_FLOAT_INDEX_SCALE", type := .int, accessFlags := 25, slot := 8, constantValue := 0 }, { name := "LOG2_ARRAY_DOUBLE_INDEX_SCALE", type := .int, accessFlags := 25, slot := 9, constantValue := 0 }, { name := "LOG2_BYTE_BIT_SIZE", type := .int, accessFlags := 26, slot := 10, constantValue := 0 }, { name := "T_BOOLEAN", type := .int, accessFlags := 25, slot := 11, constantValue := 0 }, { name := "T_CHAR", type := .int, accessFlags := 25, slot := 12, constantValue := 0 }, { name := "T_FLOAT", type := .int, accessFlags := 25, slot := 13, constantValue := 0 }, { name := "T_DOUBLE", type := .int, accessFlags := 25, slot := 14, constantValue := 0 }, { name := "T_BYTE", type := .int, accessFlags := 25, slot := 15, constantValue := 0 }, { name := "T_SHORT", type := .int, accessFlags := 25, slot := 16, constantValue := 0 }, { name := "T_INT", type := .int, accessFlags := 25, slot := 17, constantValue := 0 }, { name := "T_LONG", type := .int, accessFlags := 25, slot := 18, constantValue := 0 }, { name := "JLA", type := (.object "jdk/internal/access/JavaLangAccess"), accessFlags := 26, slot := 19, constantValue := 0 }, { name := "SOFT_MAX_ARRAY_LENGTH", type := .int, accessFlags := 25, slot := 20, constantValue := 0 }]
  methods := #[k13m0]
  instanceTypes := #[]
  staticTypes := #[(.object "jdk/internal/misc/Unsafe"), .boolean, .int, .int, .int, .int, .int, .int, .int, .int, .int, .int, .int, .int, .int, .int, .int, .int, .int, (.object "jdk/internal/access/JavaLangAccess"), .int]
  resolved := Array.replicate 378 none
  statics := none }

def pool14 : Array CpInfo := pool [(1, u "java/lang/Cloneable"), (0, .class_ 1), (0, u "java/lang/Object"), (0, .class_ 3)] 3

/-- java/lang/Cloneable -/
def k14 : Class := { plain "java/lang/Cloneable" (some 0) with
  accessFlags := 1537
  interfaces := #[]
  cf := some (fileOf pool14 2 #[] #[] 1537 4 #[] #[])
  fields := #[]
  methods := #[]
  instanceTypes := #[]
  staticTypes := #[]
  resolved := Array.replicate 8 none
  statics := none }

/-- the primitive byte -/
def k15 : Class := { plain "byte" none with kind := .primitive 'B', accessFlags := 0x411 }
/-- [B -/
def k16 : Class := { plain "[B" (some 0) with kind := .array 15 .byte, interfaces := #[14, 2], accessFlags := 1041 }

/-- the primitive char -/
def k17 : Class := { plain "char" none with kind := .primitive 'C', accessFlags := 0x411 }
/-- [C -/
def k18 : Class := { plain "[C" (some 0) with kind := .array 17 .char, interfaces := #[14, 2], accessFlags := 1041 }

/-- the primitive int -/
def k19 : Class := { plain "int" none with kind := .primitive 'I', accessFlags := 0x411 }
/-- [I -/
def k20 : Class := { plain "[I" (some 0) with kind := .array 19 .int, interfaces := #[14, 2], accessFlags := 1041 }

def heap : Heap := #[{ cls := 7, slots := #[.long 0, .int 1, .null, .int 0, .null, .int 0, .int 0], vm := .statics 7 },
  { cls := 12, slots := #[.null, .null, .null], vm := .statics 12 }]
def classes : Array Class := #[k0, k1, k2, k3, k4, k5, k6, k7, k8, k9, k10, k11, k12, k13, k14, k15, k16, k17, k18, k19, k20]
def interned : List (Array UInt16 × Addr) := []
def slotsUsed : Nat := 10
def theMethod : MethodId := ⟨1, 1⟩
def args0 : Array Value := #[.int 5, .int 7, .int 1, .int 3]
def aboutOver (below : List Frame) : State where
  vm := { classes := classes, interned := interned.toArray }
  heap := heap
  slotsUsed := slotsUsed
  threads := #[{ frames := .invoking theMethod args0 :: below }]
def below0 : List Frame := [.native { method := ⟨0, 0⟩, args := #[] }]
def about1 : State := aboutOver below0
def p0 : Program := .bare "" "" ""
def e0 : Env := launch0.env 0 0 0
theorem w_frames : about1.frames = Frame.invoking theMethod args0 :: below0 := rfl
set_option maxRecDepth 65536 in
theorem w_args : argsFit about1.vm theMethod args0 = true := by decide +kernel
set_option maxRecDepth 65536 in
theorem w_heap : heapFits about1 = true := by decide +kernel
set_option maxRecDepth 65536 in
theorem w_runnable : about1.curStatus? = some .runnable := by decide +kernel
set_option maxRecDepth 65536 in
theorem w_alone : about1.alone = true := by decide +kernel
set_option maxRecDepth 65536 in
theorem w_named : about1.methodNamed? x = some theMethod := by decide +kernel
set_option maxRecDepth 65536 in
theorem w_hears : about1.hears theMethod below0 = true := by decide +kernel
set_option maxRecDepth 65536 in
theorem w_ripe : about1.ripe theMethod args0 below0 = true := by decide +kernel
theorem w_running : about1.status = .running := rfl
set_option maxRecDepth 65536 in
theorem w_room : about1.hasRoom e0.platform room_1 = true :=
  launch0.hasRoom_least _ room_1 (by decide +kernel) (by decide +kernel) (by decide +kernel) (by decide +kernel) (by decide +kernel) (by decide +kernel)
theorem allAtoms_all (ts : List Jvm.Cond) (a : Array Jvm.Value) (st : Jvm.State) : (allAtoms ts).before a st = ts.all (fun c => c.before a st) := by
  induction ts with
  | nil => rfl
  | cons c t ih =>
    show (Jvm.Cond.and c (allAtoms t)).before a st = _
    rw [Jvm.Cond.before_and, ih, List.all_cons]
def words1 : List Jvm.Cond := Jvm.Cond.code x code maxLocals ret :: tables_1
/-- a 'code' word, met by the world's own term for the bytes: nothing is compared byte by byte -/
theorem code_word {y : MethodName} {bytes : ByteArray} {mx : Nat} {rt : Option FieldType} {a : Array Value} {s : State} {m : MethodId} {meth : Method} {c : Code} (h1 : s.methodNamed? y = some m) (h2 : s.vm.method? m = some meth) (h3 : meth.code = some c) (h4 : c.code = bytes)
    (h5 : (c.maxLocals == mx && c.exceptionTable.isEmpty && decide (c.maxStack ≤ mostOperands) && decide (meth.sig.returnType = rt) && !meth.locks && decide (parseMethodDescriptor y.desc = some meth.sig)) = true) : (Jvm.Cond.code y bytes mx rt).before a s = true := by
  simp only [Bool.and_eq_true, beq_iff_eq, Bool.not_eq_true', decide_eq_true_eq] at h5
  obtain ⟨⟨⟨⟨⟨g1, g2⟩, g3⟩, g4⟩, g5⟩, g6⟩ := h5
  simp [Cond.before, Cond.holds, Cond.value, h1, h2, h3, h4, g1, g2, g3, g4, g5, g6]
def isCode : Jvm.Cond → Bool
  | .code _ _ _ _ => true
  | _ => false
theorem all_split {L : List Jvm.Cond} {P : Jvm.Cond → Bool} (h1 : L.all (fun c => isCode c || P c) = true) (h2 : ∀ c ∈ L.filter isCode, P c = true) : L.all P = true := by
  refine List.all_eq_true.mpr fun c hc => ?_
  have h := List.all_eq_true.mp h1 c hc
  rcases Bool.eq_false_or_eq_true (isCode c) with hi | hi
  · exact h2 c (List.mem_filter.mpr ⟨hc, hi⟩)
  · simpa [hi] using h
set_option maxRecDepth 65536 in
theorem w_c0 : (Jvm.Cond.code x code maxLocals ret).before args0 about1 = true := code_word (m := ⟨1, 1⟩) (meth := k1m1) (c := k1c1) (by decide +kernel) rfl rfl rfl (by decide +kernel)
set_option maxRecDepth 65536 in
theorem w_c1 : (Jvm.Cond.code ({ cls := "com/example/treaty2/treaty2/service/ReceiptDeliveredPinLaw", name := "drawn", desc := "(IIII)Ljava/lang/String;" } : Jvm.MethodName) method_3_code (8 : Nat) (Option.some (Jvm.ClassFile.FieldType.object "java/lang/String"))).before args0 about1 = true := code_word (m := ⟨1, 2⟩) (meth := k1m2) (c := k1c2) (by decide +kernel) rfl rfl rfl (by decide +kernel)
set_option maxRecDepth 65536 in
theorem w_c2 : (Jvm.Cond.code ({ cls := "java/lang/String", name := "<init>", desc := "([C)V" } : Jvm.MethodName) jdk_42_method_3_code (2 : Nat) (Option.none : Option Jvm.ClassFile.FieldType)).before args0 about1 = true := code_word (m := ⟨7, 1⟩) (meth := k7m1) (c := k7c1) (by decide +kernel) rfl rfl rfl (by decide +kernel)
set_option maxRecDepth 65536 in
theorem w_c3 : (Jvm.Cond.code ({ cls := "java/lang/String", name := "<init>", desc := "([CIILjava/lang/Void;)V" } : Jvm.MethodName) jdk_42_method_149_code (6 : Nat) (Option.none : Option Jvm.ClassFile.FieldType)).before args0 about1 = true := code_word (m := ⟨7, 4⟩) (meth := k7m4) (c := k7c4) (by decide +kernel) rfl rfl rfl (by decide +kernel)
set_option maxRecDepth 65536 in
theorem w_c4 : (Jvm.Cond.code ({ cls := "java/lang/Object", name := "<init>", desc := "()V" } : Jvm.MethodName) object_method_1_code (1 : Nat) (Option.none : Option Jvm.ClassFile.FieldType)).before args0 about1 = true := code_word (m := ⟨0, 0⟩) (meth := k0m0) (c := k0c0) (by decide +kernel) rfl rfl rfl (by decide +kernel)
set_option maxRecDepth 65536 in
theorem w_c5 : (Jvm.Cond.code ({ cls := "com/example/treaty2/treaty2/service/Receipt", name := "delivered", desc := "(Ljava/lang/String;)Lcom/example/treaty2/treaty2/service/Receipt;" } : Jvm.MethodName) prog_62_method_2_code (1 : Nat) (Option.some (Jvm.ClassFile.FieldType.object "com/example/treaty2/treaty2/service/Receipt"))).before args0 about1 = true := code_word (m := ⟨9, 1⟩) (meth := k9m1) (c := k9c1) (by decide +kernel) rfl rfl rfl (by decide +kernel)
set_option maxRecDepth 65536 in
theorem w_c6 : (Jvm.Cond.code ({ cls := "com/example/treaty2/treaty2/service/Receipt", name := "<init>", desc := "(Ljava/lang/String;ZLjava/lang/String;Ljava/lang/String;)V" } : Jvm.MethodName) prog_62_method_1_code (5 : Nat) (Option.none : Option Jvm.ClassFile.FieldType)).before args0 about1 = true := code_word (m := ⟨9, 0⟩) (meth := k9m0) (c := k9c0) (by decide +kernel) rfl rfl rfl (by decide +kernel)
set_option maxRecDepth 65536 in
theorem w_c7 : (Jvm.Cond.code ({ cls := "java/lang/Record", name := "<init>", desc := "()V" } : Jvm.MethodName) jdk_30_method_1_code (1 : Nat) (Option.none : Option Jvm.ClassFile.FieldType)).before args0 about1 = true := code_word (m := ⟨8, 0⟩) (meth := k8m0) (c := k8c0) (by decide +kernel) rfl rfl rfl (by decide +kernel)
set_option maxRecDepth 65536 in
theorem w_c8 : (Jvm.Cond.code ({ cls := "com/example/treaty2/treaty2/service/Receipt", name := "reason", desc := "()Ljava/lang/String;" } : Jvm.MethodName) prog_62_method_10_code (1 : Nat) (Option.some (Jvm.ClassFile.FieldType.object "java/lang/String"))).before args0 about1 = true := code_word (m := ⟨9, 5⟩) (meth := k9m5) (c := k9c5) (by decide +kernel) rfl rfl rfl (by decide +kernel)
set_option maxRecDepth 65536 in
theorem w_c9 : (Jvm.Cond.code ({ cls := "com/example/treaty2/treaty2/service/Receipt", name := "peerId", desc := "()Ljava/lang/String;" } : Jvm.MethodName) prog_62_method_7_code (1 : Nat) (Option.some (Jvm.ClassFile.FieldType.object "java/lang/String"))).before args0 about1 = true := code_word (m := ⟨9, 2⟩) (meth := k9m2) (c := k9c2) (by decide +kernel) rfl rfl rfl (by decide +kernel)
set_option maxRecDepth 65536 in
theorem w_c10 : (Jvm.Cond.code ({ cls := "com/example/treaty2/treaty2/service/Receipt", name := "delivered", desc := "()Z" } : Jvm.MethodName) prog_62_method_8_code (1 : Nat) (Option.some Jvm.ClassFile.FieldType.boolean)).before args0 about1 = true := code_word (m := ⟨9, 3⟩) (meth := k9m3) (c := k9c3) (by decide +kernel) rfl rfl rfl (by decide +kernel)
set_option maxRecDepth 65536 in
theorem w_c11 : (Jvm.Cond.code ({ cls := "com/example/treaty2/treaty2/service/Receipt", name := "errorCode", desc := "()Ljava/lang/String;" } : Jvm.MethodName) prog_62_method_9_code (1 : Nat) (Option.some (Jvm.ClassFile.FieldType.object "java/lang/String"))).before args0 about1 = true := code_word (m := ⟨9, 4⟩) (meth := k9m4) (c := k9c4) (by decide +kernel) rfl rfl rfl (by decide +kernel)
set_option maxRecDepth 65536 in
theorem w_c12 : (Jvm.Cond.code ({ cls := "java/lang/String", name := "isEmpty", desc := "()Z" } : Jvm.MethodName) jdk_42_method_55_code (1 : Nat) (Option.some Jvm.ClassFile.FieldType.boolean)).before args0 about1 = true := code_word (m := ⟨7, 2⟩) (meth := k7m2) (c := k7c2) (by decide +kernel) rfl rfl rfl (by decide +kernel)
set_option maxRecDepth 65536 in
theorem w_c13 : (Jvm.Cond.code ({ cls := "java/lang/StringUTF16", name := "compress", desc := "([CII)[B" } : Jvm.MethodName) jdk_52_method_16_code (6 : Nat) (Option.some (Jvm.ClassFile.FieldType.array Jvm.ClassFile.FieldType.byte))).before args0 about1 = true := code_word (m := ⟨10, 2⟩) (meth := k10m2) (c := k10c2) (by decide +kernel) rfl rfl rfl (by decide +kernel)
set_option maxRecDepth 65536 in
theorem w_c14 : (Jvm.Cond.code ({ cls := "java/lang/StringUTF16", name := "compress", desc := "([CI[BII)I" } : Jvm.MethodName) jdk_52_method_21_code (7 : Nat) (Option.some Jvm.ClassFile.FieldType.int)).before args0 about1 = true := code_word (m := ⟨10, 3⟩) (meth := k10m3) (c := k10c3) (by decide +kernel) rfl rfl rfl (by decide +kernel)
set_option maxRecDepth 65536 in
theorem w_c15 : (Jvm.Cond.code ({ cls := "java/lang/StringUTF16", name := "coderFromArrayLen", desc := "([BI)B" } : Jvm.MethodName) jdk_52_method_15_code (2 : Nat) (Option.some Jvm.ClassFile.FieldType.byte)).before args0 about1 = true := code_word (m := ⟨10, 1⟩) (meth := k10m1) (c := k10c1) (by decide +kernel) rfl rfl rfl (by decide +kernel)
set_option maxRecDepth 65536 in
theorem w_c16 : (Jvm.Cond.code ({ cls := "java/lang/String", name := "valueOf", desc := "(C)Ljava/lang/String;" } : Jvm.MethodName) jdk_42_method_139_code (1 : Nat) (Option.some (Jvm.ClassFile.FieldType.object "java/lang/String"))).before args0 about1 = true := code_word (m := ⟨7, 3⟩) (meth := k7m3) (c := k7c3) (by decide +kernel) rfl rfl rfl (by decide +kernel)
set_option maxRecDepth 65536 in
theorem w_c17 : (Jvm.Cond.code ({ cls := "java/lang/StringLatin1", name := "canEncode", desc := "(C)Z" } : Jvm.MethodName) jdk_43_method_3_code (1 : Nat) (Option.some Jvm.ClassFile.FieldType.boolean)).before args0 about1 = true := code_word (m := ⟨11, 1⟩) (meth := k11m1) (c := k11c1) (by decide +kernel) rfl rfl rfl (by decide +kernel)
set_option maxRecDepth 65536 in
theorem w_c18 : (Jvm.Cond.code ({ cls := "java/lang/StringLatin1", name := "toBytes", desc := "(C)[B" } : Jvm.MethodName) jdk_43_method_46_code (1 : Nat) (Option.some (Jvm.ClassFile.FieldType.array Jvm.ClassFile.FieldType.byte))).before args0 about1 = true := code_word (m := ⟨11, 2⟩) (meth := k11m2) (c := k11c2) (by decide +kernel) rfl rfl rfl (by decide +kernel)
set_option maxRecDepth 65536 in
theorem w_c19 : (Jvm.Cond.code ({ cls := "java/lang/String", name := "<init>", desc := "([BB)V" } : Jvm.MethodName) jdk_42_method_151_code (3 : Nat) (Option.none : Option Jvm.ClassFile.FieldType)).before args0 about1 = true := code_word (m := ⟨7, 5⟩) (meth := k7m5) (c := k7c5) (by decide +kernel) rfl rfl rfl (by decide +kernel)
def codes1 : List Jvm.Cond := [Jvm.Cond.code x code maxLocals ret, Jvm.Cond.code ({ cls := "com/example/treaty2/treaty2/service/ReceiptDeliveredPinLaw", name := "drawn", desc := "(IIII)Ljava/lang/String;" } : Jvm.MethodName) method_3_code (8 : Nat) (Option.some (Jvm.ClassFile.FieldType.object "java/lang/String")), Jvm.Cond.code ({ cls := "java/lang/String", name := "<init>", desc := "([C)V" } : Jvm.MethodName) jdk_42_method_3_code (2 : Nat) (Option.none : Option Jvm.ClassFile.FieldType), Jvm.Cond.code ({ cls := "java/lang/String", name := "<init>", desc := "([CIILjava/lang/Void;)V" } : Jvm.MethodName) jdk_42_method_149_code (6 : Nat) (Option.none : Option Jvm.ClassFile.FieldType), Jvm.Cond.code ({ cls := "java/lang/Object", name := "<init>", desc := "()V" } : Jvm.MethodName) object_method_1_code (1 : Nat) (Option.none : Option Jvm.ClassFile.FieldType), Jvm.Cond.code ({ cls := "com/example/treaty2/treaty2/service/Receipt", name := "delivered", desc := "(Ljava/lang/String;)Lcom/example/treaty2/treaty2/service/Receipt;" } : Jvm.MethodName) prog_62_method_2_code (1 : Nat) (Option.some (Jvm.ClassFile.FieldType.object "com/example/treaty2/treaty2/service/Receipt")), Jvm.Cond.code ({ cls := "com/example/treaty2/treaty2/service/Receipt", name := "<init>", desc := "(Ljava/lang/String;ZLjava/lang/String;Ljava/lang/String;)V" } : Jvm.MethodName) prog_62_method_1_code (5 : Nat) (Option.none : Option Jvm.ClassFile.FieldType), Jvm.Cond.code ({ cls := "java/lang/Record", name := "<init>", desc := "()V" } : Jvm.MethodName) jdk_30_method_1_code (1 : Nat) (Option.none : Option Jvm.ClassFile.FieldType), Jvm.Cond.code ({ cls := "com/example/treaty2/treaty2/service/Receipt", name := "reason", desc := "()Ljava/lang/String;" } : Jvm.MethodName) prog_62_method_10_code (1 : Nat) (Option.some (Jvm.ClassFile.FieldType.object "java/lang/String")), Jvm.Cond.code ({ cls := "com/example/treaty2/treaty2/service/Receipt", name := "peerId", desc := "()Ljava/lang/String;" } : Jvm.MethodName) prog_62_method_7_code (1 : Nat) (Option.some (Jvm.ClassFile.FieldType.object "java/lang/String")), Jvm.Cond.code ({ cls := "com/example/treaty2/treaty2/service/Receipt", name := "delivered", desc := "()Z" } : Jvm.MethodName) prog_62_method_8_code (1 : Nat) (Option.some Jvm.ClassFile.FieldType.boolean), Jvm.Cond.code ({ cls := "com/example/treaty2/treaty2/service/Receipt", name := "errorCode", desc := "()Ljava/lang/String;" } : Jvm.MethodName) prog_62_method_9_code (1 : Nat) (Option.some (Jvm.ClassFile.FieldType.object "java/lang/String")), Jvm.Cond.code ({ cls := "java/lang/String", name := "isEmpty", desc := "()Z" } : Jvm.MethodName) jdk_42_method_55_code (1 : Nat) (Option.some Jvm.ClassFile.FieldType.boolean), Jvm.Cond.code ({ cls := "java/lang/StringUTF16", name := "compress", desc := "([CII)[B" } : Jvm.MethodName) jdk_52_method_16_code (6 : Nat) (Option.some (Jvm.ClassFile.FieldType.array Jvm.ClassFile.FieldType.byte)), Jvm.Cond.code ({ cls := "java/lang/StringUTF16", name := "compress", desc := "([CI[BII)I" } : Jvm.MethodName) jdk_52_method_21_code (7 : Nat) (Option.some Jvm.ClassFile.FieldType.int), Jvm.Cond.code ({ cls := "java/lang/StringUTF16", name := "coderFromArrayLen", desc := "([BI)B" } : Jvm.MethodName) jdk_52_method_15_code (2 : Nat) (Option.some Jvm.ClassFile.FieldType.byte), Jvm.Cond.code ({ cls := "java/lang/String", name := "valueOf", desc := "(C)Ljava/lang/String;" } : Jvm.MethodName) jdk_42_method_139_code (1 : Nat) (Option.some (Jvm.ClassFile.FieldType.object "java/lang/String")), Jvm.Cond.code ({ cls := "java/lang/StringLatin1", name := "canEncode", desc := "(C)Z" } : Jvm.MethodName) jdk_43_method_3_code (1 : Nat) (Option.some Jvm.ClassFile.FieldType.boolean), Jvm.Cond.code ({ cls := "java/lang/StringLatin1", name := "toBytes", desc := "(C)[B" } : Jvm.MethodName) jdk_43_method_46_code (1 : Nat) (Option.some (Jvm.ClassFile.FieldType.array Jvm.ClassFile.FieldType.byte)), Jvm.Cond.code ({ cls := "java/lang/String", name := "<init>", desc := "([BB)V" } : Jvm.MethodName) jdk_42_method_151_code (3 : Nat) (Option.none : Option Jvm.ClassFile.FieldType)]
set_option maxRecDepth 65536 in
theorem codes_eq : words1.filter isCode = codes1 := rfl
theorem w_codes : ∀ c ∈ words1.filter isCode, c.before args0 about1 = true := by
  rw [codes_eq]
  intro c hc
  simp only [codes1, List.mem_cons, List.not_mem_nil, or_false] at hc
  rcases hc with rfl | rfl | rfl | rfl | rfl | rfl | rfl | rfl | rfl | rfl | rfl | rfl | rfl | rfl | rfl | rfl | rfl | rfl | rfl | rfl
  · exact w_c0
  · exact w_c1
  · exact w_c2
  · exact w_c3
  · exact w_c4
  · exact w_c5
  · exact w_c6
  · exact w_c7
  · exact w_c8
  · exact w_c9
  · exact w_c10
  · exact w_c11
  · exact w_c12
  · exact w_c13
  · exact w_c14
  · exact w_c15
  · exact w_c16
  · exact w_c17
  · exact w_c18
  · exact w_c19
set_option maxRecDepth 65536 in
theorem w_t1 : (words1.take 24).all (fun c => isCode c || c.before args0 about1) = true := by decide +kernel
set_option maxRecDepth 65536 in
theorem w_t2 : ((words1.drop 24).take 24).all (fun c => isCode c || c.before args0 about1) = true := by decide +kernel
set_option maxRecDepth 65536 in
theorem w_t3 : (((words1.drop 24).drop 24).take 24).all (fun c => isCode c || c.before args0 about1) = true := by decide +kernel
set_option maxRecDepth 65536 in
theorem w_t4 : ((((words1.drop 24).drop 24).drop 24).take 24).all (fun c => isCode c || c.before args0 about1) = true := by decide +kernel
set_option maxRecDepth 65536 in
theorem w_t5 : ((((words1.drop 24).drop 24).drop 24).drop 24).all (fun c => isCode c || c.before args0 about1) = true := by decide +kernel
theorem w_tables : (allAtoms (Jvm.Cond.code x code maxLocals ret :: tables_1)).before args0 about1 = true := by
  rw [allAtoms_all]
  show words1.all (fun c => c.before args0 about1) = true
  refine all_split ?_ w_codes
  rw [← List.take_append_drop 24 words1, List.all_append, w_t1, ← List.take_append_drop 24 (words1.drop 24), List.all_append, w_t2, ← List.take_append_drop 24 ((words1.drop 24).drop 24), List.all_append, w_t3, ← List.take_append_drop 24 (((words1.drop 24).drop 24).drop 24), List.all_append, w_t4, w_t5]
  rfl
set_option maxRecDepth 65536 in
theorem w_rest : rest_1_c.before args0 about1 = true := by decide +kernel
set_option maxRecDepth 65536 in
theorem w_case : (Jvm.Cond.and given_1 narrow_1).before args0 about1 = true := by decide +kernel
set_option maxRecDepth 65536 in
theorem w_consts : constsHeld consts_1 about1 := Jvm.Lit.constsHeldB_iff.mp (by decide +kernel)
theorem w_applies : (headSpec (Jvm.Cond.code x code maxLocals ret :: tables_1) room_1).applies x e0.platform about1 = true :=
  (Spec.applies_iff w_frames).mpr ⟨w_running, w_runnable, w_alone, w_named, w_hears, w_ripe, w_room, w_tables⟩
theorem atStart : AtStart classFile x code maxLocals ret World_1 tables_1 room_1 Calls_1 rest_1 Pre_1 launch0 p0 e0 about1 theMethod args0 below0 :=
  ⟨lists_1, trivial, launch0.admits_env _ _ _, launch0.least_env, fairChoices_fair.cas, fairChoices_fair.clock, w_frames, w_args, w_heap, w_applies, ⟨w_consts, trivial⟩, w_rest, w_case⟩
end start1
theorem witness_1 : WitnessClaimed_1 := ⟨start1.p0, start1.e0, start1.about1, start1.theMethod, start1.args0, start1.below0, start1.atStart⟩
end Jvm.Pilot.@@N@@
