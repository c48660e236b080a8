import JvmDerived
import JvmDerived.Pilot.@@N@@Statement
import JvmDerived.Pilot.@@N@@Code
set_option linter.unusedVariables false
set_option linter.unusedSimpArgs false
namespace Jvm.OwnKit
open Sem ClassFile Op Lib Jvm.Stand Jvm.Free Jvm.LawKit Jvm.RoadKit
/-- from A the run comes to a state of which P holds -/
def Rch (p : Program) (e : Env) (below : List Frame) (A : State) (P : State → Prop) : Prop := ∃ B, Steps p.tables e below A B ∧ P B
/-- the end of a body: it returned v, and Q says what it left -/
def Fin1 (s : State) (below : List Frame) (Q : Option Value → Heap → List Loc → Prop) (k n : Nat) (B : State) : Prop := ∃ v L, B.status = .running ∧ Ended B below (.returned v) ∧ Q v B.heap L ∧ FrameEnd s (.returned v) B L k n
section Own
variable {p : Program} {l : Launch} {e : Env} {R : Room} {s : State} {m : MethodId} {args : Array Value} {below : List Frame} {meth : Method} {c : Code} {T : State} {locs : List Loc} {cells slots : Nat} {A A' : State} {P P' : State → Prop} {Z : State} {a0 : Array Value} {h : Heap}
theorem Rch.go (h1 : ∀ t, Steps p.tables e below A' t → Steps p.tables e below A t) (k : Rch p e below A' P) : Rch p e below A P := by
  obtain ⟨B, q1, q2⟩ := k; exact ⟨B, h1 _ q1, q2⟩
theorem Rch.of (h1 : Steps p.tables e below A A') (k : Rch p e below A' P) : Rch p e below A P := by
  obtain ⟨B, q1, q2⟩ := k; exact ⟨B, h1.trans q1, q2⟩
theorem Rch.here (h1 : P A) : Rch p e below A P := ⟨A, Steps.refl _, h1⟩
theorem Rch.bind (k : Rch p e below A P) (f : ∀ B, P B → Rch p e below B P') : Rch p e below A P' := by
  obtain ⟨B, q1, q2⟩ := k
  obtain ⟨D, q3, q4⟩ := f B q2
  exact ⟨D, q1.trans q3, q4⟩
theorem Rch.ret {Q : Option Value → Heap → List Loc → Prop} {k n : Nat} (X : Stand p l e R s m args below meth c T locs cells slots) (hlk : meth.locks = false) {v : Option Value} (hv : meth.sig.returnType = none → v = none)
    (hA : ∀ fs, (∀ (f : JFrame) (acts : List Action), f.method = m → f.locked = none → f.entered = [] → (doReturn e (T.setTop f) acts v).1 = T.setFrames fs) → Steps p.tables e below A (T.setFrames fs))
    (hQ : Q v T.heap locs) (hk : cells ≤ k) (hn : slots ≤ n) : Rch p e below A (Fin1 s below Q k n) := by
  obtain ⟨fs, hr, hrun, hended, hW, hsame⟩ := X.leave (v := v) hv hlk
  exact ⟨_, hA fs hr, v, locs, hrun, hended, hQ, ⟨_, rfl⟩, hW, hsame.mono hk hn⟩
theorem wider (X : Stand p l e R s m args below meth c T locs cells slots) {k n : Nat} (hk : cells ≤ k) (hn : slots ≤ n) : Stand p l e R s m args below meth c T locs k n := { X with same := X.same.mono hk hn }
theorem retI' (X : Stand p l e R s m args below meth c T locs cells slots) (hx : p.tables.exec = Jvm.exec) {pc : Nat} {Ls : Array Slot} {z : Int32} {rest : List Value} (hret : meth.sig.returnType = some .int) (hd : decode c.code pc = .ok (.ireturn, 1)) {fs : List Frame}
    (hl : ∀ (f : JFrame) (acts : List Action), f.method = m → f.locked = none → f.entered = [] → (doReturn e (T.setTop f) acts (some (.int z))).1 = T.setFrames fs) : Steps p.tables e below (T.setTop (mkF m pc Ls (.int z :: rest))) (T.setFrames fs) := by
  have hm' : T.vm.method? m = some meth := X.method'
  have hn : narrow .int (.int z) = .int z := rfl
  show Steps p.tables e below (T.setTop { method := m, pc := pc, locals := Ls, stack := _ :: rest, locked := none }) _
  jvm_step X.here [X.here.top, hx, hd, hm', hret, hn]
  first | (intro acts; rw [hl _ acts rfl rfl rfl]) | rw [hl _ _ rfl rfl rfl]
  exact Steps.refl _
theorem retR' (X : Stand p l e R s m args below meth c T locs cells slots) (hx : p.tables.exec = Jvm.exec) {pc : Nat} {Ls : Array Slot} {w : Value} {t : FieldType} {rest : List Value} (hret : meth.sig.returnType = some t) (ht : t.isReference = true) (hw : w.isRef = true) (hd : decode c.code pc = .ok (.areturn, 1)) {fs : List Frame}
    (hl : ∀ (f : JFrame) (acts : List Action), f.method = m → f.locked = none → f.entered = [] → (doReturn e (T.setTop f) acts (some w)).1 = T.setFrames fs) : Steps p.tables e below (T.setTop (mkF m pc Ls (w :: rest))) (T.setFrames fs) :=
  retOut X hx hret (by rcases ref_cases hw with rfl | ⟨a, rfl⟩ <;> cases t <;> first | rfl | cases ht) (Or.inr (Or.inr (Or.inr (Or.inr ⟨rfl, ht, hw⟩)))) hd hl
theorem own_body {y : MethodName} {bytes : ByteArray} {maxL : Nat} {ret : Option FieldType} {ws : List Jvm.Cond} {rm : Room} {as' : Array Value} {h0 : Heap} {Q : Option Value → Heap → List Loc → Prop} {k n : Nat} (hp : plainFor y = true)
    (body : ∀ (p : Program) (e : Env) (s : State) (m : MethodId) (below : List Frame) (meth : Method) (c : Code) (s₁ : State), Stand p l e rm s m as' below meth c s₁ [] 0 0 → p.tables.exec = Jvm.exec → c.code = bytes → c.maxLocals = maxL → s.vm.findClass y.cls = some m.cls → meth.name = y.name → meth.sig.returnType = ret → meth.locks = false → Z.Warmed39 s.vm → s₁.heap = h0 →
      Rch p e below (s₁.setTop (entryFrame m as' maxL)) (Fin1 s below Q k n)) :
    MetFree l y (head1 (Jvm.Cond.code y bytes maxL ret :: ws) rm) (fun a U => a = as' ∧ Z.Warmed39 U.vm ∧ U.heap = h0) (fun _ _ _ _ _ => True) (fun _ U o U' => ∃ v L, o = .returned v ∧ Q v U'.heap L ∧ FrameEnd U o U' L k n) := by
  refine MetFree.of_bodySF hp hisR ?_
  intro p e s m args below meth c s₁ Bd hml0 hP hK
  obtain ⟨rfl, hZ, hh⟩ := hP
  obtain ⟨B, hs, v, L, h1, h2, h3, h4⟩ := body p e s m below meth c s₁ (Stand.of_body Bd) Bd.exec Bd.bytes hml0 (findClass_of_methodNamed Bd.named) ((name_of_methodNamed Bd.named Bd.method).1) Bd.returns (BodyLoose.notSynchronized Bd) hZ (by rw [← hh, Bd.state]; rfl)
  exact ⟨B, _, hs, h1, h2, v, L, rfl, h3, h4⟩
abbrev Met1 (l : Launch) (y : MethodName) (bytes : ByteArray) (maxL : Nat) (ret : Option FieldType) (rm : Room) (Z : State) (as' : Array Value) (h : Heap) (Q : Option Value → Heap → List Loc → Prop) : Prop :=
  MetFree l y (head1 [Jvm.Cond.code y bytes maxL ret] rm) (fun a U => a = as' ∧ Z.Warmed39 U.vm ∧ U.heap = h) (fun _ _ _ _ _ => True) (fun _ U o U' => ∃ v L, o = .returned v ∧ Q v U'.heap L ∧ FrameEnd U o U' L rm.cells rm.slots)
/-- a static call by the callee's contract -/
theorem Rch.callS (X : Stand p l e R s m args below meth c T locs cells slots) (hx : p.tables.exec = Jvm.exec) (hZ : Z.Warmed39 s.vm) {own : String} {index : Nat} {y : MethodName} {bytes : ByteArray} {maxL : Nat} {ret : Option FieldType} {rm : Room} {as' : Array Value} {Q : Option Value → Heap → List Loc → Prop}
    (hown : s.vm.findClass own = some m.cls) (w1 : (Jvm.Cond.methodLink own index y).before a0 Z = true) (w2 : (Jvm.Cond.static y).before a0 Z = true) (w3 : (Jvm.Cond.initialized y.cls).before a0 Z = true) (w4 : (Jvm.Cond.code y bytes maxL ret).before a0 Z = true) (hy : y.cls ≠ "java/lang/invoke/MethodHandle" ∧ y.cls ≠ "java/lang/invoke/VarHandle")
    (hM : Met1 l y bytes maxL ret rm Z as' h Q) (W : Nat) (hf : rm.frames + 1 ≤ R.frames) (hl : W + (maxL + 11) + rm.locals ≤ R.locals) (hc : cells + rm.cells ≤ R.cells) (hs : slots + rm.slots ≤ R.slots) (eT : T.heap = h)
    {g : JFrame} (hg : g.method = m) (hsize : g.locals.size = c.maxLocals) (argsL rest : List Value) (has : argsL.toArray = as') (hlen : ∀ sig, parseMethodDescriptor y.desc = some sig → argsL.length = sig.parameters.length)
    (hstack : g.stack = argsL.reverse ++ rest) (hW : 2 * g.monitorRoom + (rest.map fun v => v.category).sum ≤ W) (hdg : decode c.code g.pc = .ok (.invokestatic index, 3))
    (k : ∀ v T' L, Stand p l e R s m args below meth c T' (locs ++ L) (cells + rm.cells) (slots + rm.slots) → Q v T'.heap L → Rch p e below (T'.setTop { g with pc := g.pc + 3, stack := v.toList ++ rest }) P) : Rch p e below (T.setTop g) P := by
  obtain ⟨v, _, ⟨T1, L1, k1, n1⟩, -, X1, ⟨Lc, hQ, l1, y1, z1⟩, st⟩ := Jvm.LawKit.callS X hx (y := y) hown (mvT hZ w1) (mvT hZ w2) (mvT hZ w3) (mvT hZ w4) hy (backOf (W := W) hM hZ w4 w3 hf hl) (g := g) hg hsize (argsL := argsL) (rest := rest) hlen hstack hW hdg (fun _ _ => ⟨has, eT, hc, hs⟩)
  dsimp only [Pt.U, Pt.locs, Pt.cells, Pt.slots] at X1 l1 y1 z1 st hQ
  subst l1 y1 z1
  exact Rch.go st (k v T1 Lc X1 hQ)
/-- a constructor by its contract -/
theorem Rch.callC (X : Stand p l e R s m args below meth c T locs cells slots) (hx : p.tables.exec = Jvm.exec) (hZ : Z.Warmed39 s.vm) {own : String} {index : Nat} {y : MethodName} {bytes : ByteArray} {maxL : Nat} {rm : Room} {as' : Array Value} {Q : Option Value → Heap → List Loc → Prop} (hy1 : y.name = "<init>")
    (hown : s.vm.findClass own = some m.cls) (w1 : (Jvm.Cond.methodLink own index y).before a0 Z = true) (w2 : (Jvm.Cond.instanceMethod y).before a0 Z = true) (w3 : (Jvm.Cond.initialized y.cls).before a0 Z = true) (w4 : (Jvm.Cond.code y bytes maxL none).before a0 Z = true) (hy : y.cls ≠ "java/lang/invoke/MethodHandle" ∧ y.cls ≠ "java/lang/invoke/VarHandle")
    (hM : Met1 l y bytes maxL none rm Z as' h Q) (W : Nat) (hf : rm.frames + 1 ≤ R.frames) (hl : W + (maxL + 11) + rm.locals ≤ R.locals) (hc : cells + rm.cells ≤ R.cells) (hs : slots + rm.slots ≤ R.slots) (eT : T.heap = h)
    {g : JFrame} (hg : g.method = m) (hsize : g.locals.size = c.maxLocals) (a : Addr) (argsL rest : List Value) (has : (.ref a :: argsL).toArray = as') (hlen : ∀ sig, parseMethodDescriptor y.desc = some sig → argsL.length = sig.parameters.length)
    (hstack : g.stack = argsL.reverse ++ .ref a :: rest) (hW : 2 * g.monitorRoom + (rest.map fun v => v.category).sum ≤ W) (hdg : decode c.code g.pc = .ok (.invokespecial index, 3))
    (k : ∀ v T' L, Stand p l e R s m args below meth c T' (locs ++ L) (cells + rm.cells) (slots + rm.slots) → Q v T'.heap L → Rch p e below (T'.setTop { g with pc := g.pc + 3, stack := v.toList ++ rest }) P) : Rch p e below (T.setTop g) P := by
  obtain ⟨v, _, ⟨T1, L1, k1, n1⟩, -, X1, ⟨Lc, hQ, l1, y1, z1⟩, st⟩ := X.specialBack hx (y := y) hy1 hown (mvT hZ w1) (mvT hZ w2) (mvT hZ w4) hy (backOf (W := W) hM hZ w4 w3 hf hl) (g := g) hg hsize (Steps.refl _) (a := a) (argsL := argsL) (rest := rest) hlen hstack hW hdg (fun _ _ => ⟨has, eT, hc, hs⟩)
  dsimp only [Pt.U, Pt.locs, Pt.cells, Pt.slots] at X1 l1 y1 z1 st hQ
  subst l1 y1 z1
  exact Rch.of st (k v T1 Lc X1 hQ)
/-- an instance method, selected by the receiver's class C, by the contract of the selected one -/
theorem Rch.callV (X : Stand p l e R s m args below meth c T locs cells slots) (hx : p.tables.exec = Jvm.exec) (hZ : Z.Warmed39 s.vm) {own C : String} {index : Nat} {y z : MethodName} {bytes : ByteArray} {maxL : Nat} {ret : Option FieldType} {rm : Room} {as' : Array Value} {Q : Option Value → Heap → List Loc → Prop}
    (hown : s.vm.findClass own = some m.cls) (w1 : (Jvm.Cond.methodLink own index y).before a0 Z = true) (w2 : (Jvm.Cond.declares y).before a0 Z = true) (hnf : NotFace s y) (w5 : (Jvm.Cond.selects C y z).before a0 Z = true) (w6 : (Jvm.Cond.instanceMethod z).before a0 Z = true) (w3 : (Jvm.Cond.initialized z.cls).before a0 Z = true) (w4 : (Jvm.Cond.code z bytes maxL ret).before a0 Z = true) (hy : y.cls ≠ "java/lang/invoke/MethodHandle" ∧ y.cls ≠ "java/lang/invoke/VarHandle")
    (hM : Met1 l z bytes maxL ret rm Z as' h Q) (W : Nat) (hf : rm.frames + 1 ≤ R.frames) (hl : W + (maxL + 11) + rm.locals ≤ R.locals) (hc : cells + rm.cells ≤ R.cells) (hs : slots + rm.slots ≤ R.slots) (eT : T.heap = h) {b : Addr} (hE : Exa Z h b C)
    {g : JFrame} (hg : g.method = m) (hsize : g.locals.size = c.maxLocals) (argsL rest : List Value) (has : (.ref b :: argsL).toArray = as') (hlen : ∀ sig, parseMethodDescriptor y.desc = some sig → argsL.length = sig.parameters.length)
    (hstack : g.stack = argsL.reverse ++ .ref b :: rest) (hW : 2 * g.monitorRoom + (rest.map fun v => v.category).sum ≤ W) (hdg : decode c.code g.pc = .ok (.invokevirtual index, 3))
    (k : ∀ v T' L, Stand p l e R s m args below meth c T' (locs ++ L) (cells + rm.cells) (slots + rm.slots) → Q v T'.heap L → Rch p e below (T'.setTop { g with pc := g.pc + 3, stack := v.toList ++ rest }) P) : Rch p e below (T.setTop g) P := by
  obtain ⟨cq, kq, q1, q2, q3⟩ := isOf hZ eT hE
  obtain ⟨v, _, ⟨T1, L1, k1, n1⟩, -, X1, ⟨Lc, hQ, l1, y1, z1⟩, st⟩ := X.virtualBack hx (y := y) (z := z) hown (mvT hZ w1) (mvT hZ w2) hnf (mvT hZ w5) (mvT hZ w6) hy (backOf (W := W) hM hZ w4 w3 hf hl) q1 q3 (g := g) hg hsize (Steps.refl _) (argsL := argsL) (rest := rest) hlen hstack hW hdg (fun _ _ => ⟨has, eT, hc, hs⟩)
  dsimp only [Pt.U, Pt.locs, Pt.cells, Pt.slots] at X1 l1 y1 z1 st hQ
  subst l1 y1 z1
  exact Rch.of st (k v T1 Lc X1 hQ)
/-- a private instance method, by invokevirtual -/
theorem Rch.callP (X : Stand p l e R s m args below meth c T locs cells slots) (hx : p.tables.exec = Jvm.exec) (hZ : Z.Warmed39 s.vm) {own C : String} {index : Nat} {y : MethodName} {bytes : ByteArray} {maxL : Nat} {ret : Option FieldType} {rm : Room} {as' : Array Value} {Q : Option Value → Heap → List Loc → Prop}
    (hown : s.vm.findClass own = some m.cls) (w1 : (Jvm.Cond.methodLink own index y).before a0 Z = true) (w6 : (Jvm.Cond.instanceMethod y).before a0 Z = true) (w5 : (Jvm.Cond.selects y.cls y y).before a0 Z = true) (w7 : (Jvm.Cond.privateMethod y).before a0 Z = true) (w3 : (Jvm.Cond.initialized y.cls).before a0 Z = true) (w4 : (Jvm.Cond.code y bytes maxL ret).before a0 Z = true) (hy : y.cls ≠ "java/lang/invoke/MethodHandle" ∧ y.cls ≠ "java/lang/invoke/VarHandle")
    (hM : Met1 l y bytes maxL ret rm Z as' h Q) (W : Nat) (hf : rm.frames + 1 ≤ R.frames) (hl : W + (maxL + 11) + rm.locals ≤ R.locals) (hc : cells + rm.cells ≤ R.cells) (hs : slots + rm.slots ≤ R.slots) (eT : T.heap = h) {b : Addr} (hE : Exa Z h b C)
    {g : JFrame} (hg : g.method = m) (hsize : g.locals.size = c.maxLocals) (argsL rest : List Value) (has : (.ref b :: argsL).toArray = as') (hlen : ∀ sig, parseMethodDescriptor y.desc = some sig → argsL.length = sig.parameters.length)
    (hstack : g.stack = argsL.reverse ++ .ref b :: rest) (hW : 2 * g.monitorRoom + (rest.map fun v => v.category).sum ≤ W) (hdg : decode c.code g.pc = .ok (.invokevirtual index, 3))
    (k : ∀ v T' L, Stand p l e R s m args below meth c T' (locs ++ L) (cells + rm.cells) (slots + rm.slots) → Q v T'.heap L → Rch p e below (T'.setTop { g with pc := g.pc + 3, stack := v.toList ++ rest }) P) : Rch p e below (T.setTop g) P := by
  obtain ⟨cq, q1, q2⟩ := hE.cell
  obtain ⟨v, _, ⟨T1, L1, k1, n1⟩, -, X1, ⟨Lc, hQ, l1, y1, z1⟩, st⟩ := X.privateBack hx (y := y) hown (mvT hZ w1) (mvT hZ w6) (mvT hZ w5) (Cond.privateMethod_at (mvP hZ w7 (args := #[]))) (mvT hZ w4) hy (backOf (W := W) hM hZ w4 w3 hf hl) (g := g) hg hsize (Steps.refl _) (a := b) (by rw [eT]; exact q1) q2 (argsL := argsL) (rest := rest) hlen hstack hW hdg (fun _ _ => ⟨has, eT, hc, hs⟩)
  dsimp only [Pt.U, Pt.locs, Pt.cells, Pt.slots] at X1 l1 y1 z1 st hQ
  subst l1 y1 z1
  exact Rch.of st (k v T1 Lc X1 hQ)
end Own
end Jvm.OwnKit
namespace Jvm.Pilot.@@N@@
open Jvm Jvm.ClassFile Sem Op Lib Jvm.Free Jvm.Stand Jvm.LawKit Jvm.RoadKit Bundle Jvm.OwnKit Jvm.Pilot.@@N@@.Jvm.D

theorem d1_0 : decode prog_20_method_1_code 0 = .ok (.aload_n 0, 1) := by decide +kernel
theorem d1_1 : decode prog_20_method_1_code 1 = .ok (.invokespecial 1, 3) := by decide +kernel
theorem d1_4 : decode prog_20_method_1_code 4 = .ok (.aload_n 0, 1) := by decide +kernel
theorem d1_5 : decode prog_20_method_1_code 5 = .ok (.lload_n 1, 1) := by decide +kernel
theorem d1_6 : decode prog_20_method_1_code 6 = .ok (.putfield 7, 3) := by decide +kernel
theorem d1_9 : decode prog_20_method_1_code 9 = .ok (.aload_n 0, 1) := by decide +kernel
theorem d1_10 : decode prog_20_method_1_code 10 = .ok (.lload_n 3, 1) := by decide +kernel
theorem d1_11 : decode prog_20_method_1_code 11 = .ok (.putfield 13, 3) := by decide +kernel
theorem d1_14 : decode prog_20_method_1_code 14 = .ok (.aload_n 0, 1) := by decide +kernel
theorem d1_15 : decode prog_20_method_1_code 15 = .ok (.iload 5, 2) := by decide +kernel
theorem d1_17 : decode prog_20_method_1_code 17 = .ok (.putfield 16, 3) := by decide +kernel
theorem d1_20 : decode prog_20_method_1_code 20 = .ok (.return_, 1) := by decide +kernel
theorem pn_1 : plainFor (⟨"com/example/urchin/urchin/service/Protocol$Span", "<init>", "(JJZ)V"⟩ : MethodName) = true := plainFor_of_name (by first | (simp [plainName, overriddenIn]; done) | decide +kernel)
theorem ef_1 (m : MethodId) (x0 : Addr) (x1 : Int64) (x2 : Int64) (x3 : Int32) : entryFrame m #[(.ref x0), (.long x1), (.long x2), (.int x3)] 6 = mkF m 0 #[.val (.ref x0), .val (.long x1), .second, .val (.long x2), .second, .val (.int x3)] [] := by first | (simp [entryFrame, mkF, argsToLocals, Value.category]; done) | rfl
def own_Q_rm1 (Z : State) (a1 : Addr) (q2 q3 : Int64) (p4 : Int32) (u_from u_to u_partial : Value) (h0 : Heap) (n0 : Nat) (v : Option Value) (h : Heap) (L : List Loc) : Prop := v = none ∧ Fr n0 L ∧ Keep h0 h [a1] ∧ Exa Z h a1 "com/example/urchin/urchin/service/Protocol$Span" ∧ Fld Z h a1 "com/example/urchin/urchin/service/Protocol$Span" "from" "J" (.long q2) ∧ Fld Z h a1 "com/example/urchin/urchin/service/Protocol$Span" "to" "J" (.long q3)
set_option maxRecDepth 65536 in
set_option maxHeartbeats 40000000 in
theorem rm1 (l : Launch) (Z : State) (a0 : Array Value) (hw : ∀ d ∈ tables_1, d.before a0 Z = true) (ws : List Jvm.Cond) (a1 : Addr) (q2 q3 : Int64) (p4 : Int32) (u_from u_to u_partial : Value) (h0 : Heap) (n0 : Nat) (Z0 : n0 ≤ h0.size) (E_a1 : Exa Z h0 a1 "com/example/urchin/urchin/service/Protocol$Span") (g_a1 : n0 ≤ a1) (F_from : Fld Z h0 a1 "com/example/urchin/urchin/service/Protocol$Span" "from" "J" u_from) (F_to : Fld Z h0 a1 "com/example/urchin/urchin/service/Protocol$Span" "to" "J" u_to) (F_partial : Fld Z h0 a1 "com/example/urchin/urchin/service/Protocol$Span" "partial" "Z" u_partial) :
    MetFree l (⟨"com/example/urchin/urchin/service/Protocol$Span", "<init>", "(JJZ)V"⟩ : MethodName) (head1 (Jvm.Cond.code (⟨"com/example/urchin/urchin/service/Protocol$Span", "<init>", "(JJZ)V"⟩ : MethodName) prog_20_method_1_code 6 none :: ws) ({ frames := 1, cells := 0, slots := 0, locals := 12 } : Room)) (fun a U => a = #[(.ref a1), (.long q2), (.long q3), (.int p4)] ∧ Z.Warmed39 U.vm ∧ U.heap = h0) (fun _ _ _ _ _ => True) (fun _ U o U' => ∃ v L, o = .returned v ∧ own_Q_rm1 Z a1 q2 q3 p4 u_from u_to u_partial h0 n0 v U'.heap L ∧ FrameEnd U o U' L ({ frames := 1, cells := 0, slots := 0, locals := 12 } : Room).cells ({ frames := 1, cells := 0, slots := 0, locals := 12 } : Room).slots) := by
  refine own_body (Q := (own_Q_rm1 Z a1 q2 q3 p4 u_from u_to u_partial h0 n0)) pn_1 ?_
  intro p e s m below meth c s₁ X0 hx hby hml hown hnm hret hlk hZ e0
  have N0 := Fr.nil n0
  refine Rch.go (fun t k => castTop (ef_1 m a1 q2 q3 p4) k) ?_
  have K0 := Keep.refl h0 [a1]
  show Rch p e below (s₁.setTop (mkF m 0 #[.val (.ref a1), .val (.long q2), .second, .val (.long q3), .second, .val (.int p4)] [])) _
  refine Rch.go (fun _ k => XS.aloadN X0.here hx rfl (hb hby d1_0) rfl rfl k) ?_
  show Rch p e below (s₁.setTop (mkF m 1 #[.val (.ref a1), .val (.long q2), .second, .val (.long q3), .second, .val (.int p4)] [(.ref a1)])) _
  obtain ⟨T1, X1, e1, st1⟩ := initO X0 hx hZ hown (hw _ (List.mem_of_getElem? (i := 7) rfl)) (hw _ (List.mem_of_getElem? (i := 8) rfl)) (hw _ (List.mem_of_getElem? (i := 9) rfl)) e0 (g := (mkF m 1 #[.val (.ref a1), .val (.long q2), .second, .val (.long q3), .second, .val (.int p4)] [(.ref a1)])) rfl (by rw [hml]; rfl) rfl (hb hby d1_1) (by decide) (W := 0) (by show 2 * 0 + _ ≤ _; exact Nat.le_of_eq rfl) (by decide)
  refine Rch.go st1 ?_
  show Rch p e below (T1.setTop (mkF m 4 #[.val (.ref a1), .val (.long q2), .second, .val (.long q3), .second, .val (.int p4)] [])) _
  refine Rch.go (fun _ k => XS.aloadN X1.here hx rfl (hb hby d1_4) rfl rfl k) ?_
  show Rch p e below (T1.setTop (mkF m 5 #[.val (.ref a1), .val (.long q2), .second, .val (.long q3), .second, .val (.int p4)] [(.ref a1)])) _
  refine Rch.go (fun _ k => XS.lloadN X1.here hx rfl (hb hby d1_5) rfl  k) ?_
  show Rch p e below (T1.setTop (mkF m 6 #[.val (.ref a1), .val (.long q2), .second, .val (.long q3), .second, .val (.int p4)] [(.long q2), (.ref a1)])) _
  obtain ⟨T2, h2, X2, e2, W2, st2⟩ := putF X1 hx hZ hown (host := "") (Or.inl (hw _ (List.mem_of_getElem? (i := 10) rfl))) Via.refl e1 F_from E_a1 (Or.inr ⟨(hw _ (List.mem_of_getElem? (i := 11) rfl)), rfl, hnm⟩) (hw _ (List.mem_of_getElem? (i := 2) rfl)) (ty := .long) (by decide) rfl rfl (g := (mkF m 6 #[.val (.ref a1), .val (.long q2), .second, .val (.long q3), .second, .val (.int p4)] [(.long q2), (.ref a1)])) rfl rfl (hb hby d1_6)
  have E_a1 := E_a1.wr W2
  have F_to := F_to.other W2 (Or.inr (slot_ne (Or.inr (hw _ (List.mem_of_getElem? (i := 13) rfl))) (Or.inr (hw _ (List.mem_of_getElem? (i := 11) rfl))) (by decide) (t := .long) (t' := .long) (by decide) (by decide)))
  have F_partial := F_partial.other W2 (Or.inr (slot_ne (Or.inr (hw _ (List.mem_of_getElem? (i := 15) rfl))) (Or.inr (hw _ (List.mem_of_getElem? (i := 11) rfl))) (by decide) (t := .boolean) (t' := .long) (by decide) (by decide)))
  have K0 := K0.wr W2 (Or.inl (List.mem_of_getElem? (i := 0) rfl))
  have Z0 := Nat.le_trans Z0 (Keep.of_wr W2).1
  have F_from := F_from.same W2
  have N2 := Fr.snoc X2 N0 g_a1
  refine Rch.go st2 ?_
  show Rch p e below (T2.setTop (mkF m 9 #[.val (.ref a1), .val (.long q2), .second, .val (.long q3), .second, .val (.int p4)] [])) _
  refine Rch.go (fun _ k => XS.aloadN X2.here hx rfl (hb hby d1_9) rfl rfl k) ?_
  show Rch p e below (T2.setTop (mkF m 10 #[.val (.ref a1), .val (.long q2), .second, .val (.long q3), .second, .val (.int p4)] [(.ref a1)])) _
  refine Rch.go (fun _ k => XS.lloadN X2.here hx rfl (hb hby d1_10) rfl  k) ?_
  show Rch p e below (T2.setTop (mkF m 11 #[.val (.ref a1), .val (.long q2), .second, .val (.long q3), .second, .val (.int p4)] [(.long q3), (.ref a1)])) _
  obtain ⟨T3, h3, X3, e3, W3, st3⟩ := putF X2 hx hZ hown (host := "") (Or.inl (hw _ (List.mem_of_getElem? (i := 12) rfl))) Via.refl e2 F_to E_a1 (Or.inr ⟨(hw _ (List.mem_of_getElem? (i := 13) rfl)), rfl, hnm⟩) (hw _ (List.mem_of_getElem? (i := 2) rfl)) (ty := .long) (by decide) rfl rfl (g := (mkF m 11 #[.val (.ref a1), .val (.long q2), .second, .val (.long q3), .second, .val (.int p4)] [(.long q3), (.ref a1)])) rfl rfl (hb hby d1_11)
  have E_a1 := E_a1.wr W3
  have F_from := F_from.other W3 (Or.inr (slot_ne (Or.inr (hw _ (List.mem_of_getElem? (i := 11) rfl))) (Or.inr (hw _ (List.mem_of_getElem? (i := 13) rfl))) (by decide) (t := .long) (t' := .long) (by decide) (by decide)))
  have F_partial := F_partial.other W3 (Or.inr (slot_ne (Or.inr (hw _ (List.mem_of_getElem? (i := 15) rfl))) (Or.inr (hw _ (List.mem_of_getElem? (i := 13) rfl))) (by decide) (t := .boolean) (t' := .long) (by decide) (by decide)))
  have K0 := K0.wr W3 (Or.inl (List.mem_of_getElem? (i := 0) rfl))
  have Z0 := Nat.le_trans Z0 (Keep.of_wr W3).1
  have F_to := F_to.same W3
  have N3 := Fr.snoc X3 N2 g_a1
  refine Rch.go st3 ?_
  show Rch p e below (T3.setTop (mkF m 14 #[.val (.ref a1), .val (.long q2), .second, .val (.long q3), .second, .val (.int p4)] [])) _
  refine Rch.go (fun _ k => XS.aloadN X3.here hx rfl (hb hby d1_14) rfl rfl k) ?_
  show Rch p e below (T3.setTop (mkF m 15 #[.val (.ref a1), .val (.long q2), .second, .val (.long q3), .second, .val (.int p4)] [(.ref a1)])) _
  refine Rch.go (fun _ k => XS.iload X3.here hx rfl (hb hby d1_15) rfl  k) ?_
  show Rch p e below (T3.setTop (mkF m 17 #[.val (.ref a1), .val (.long q2), .second, .val (.long q3), .second, .val (.int p4)] [(.int p4), (.ref a1)])) _
  obtain ⟨T4, h4, X4, e4, W4, st4⟩ := putFN X3 hx hZ hown (hw _ (List.mem_of_getElem? (i := 14) rfl)) Via.refl e3 F_partial E_a1 (Or.inr ⟨(hw _ (List.mem_of_getElem? (i := 15) rfl)), rfl, hnm⟩) (hw _ (List.mem_of_getElem? (i := 2) rfl)) (ty := .boolean) (v' := (.int (nar .boolean p4))) (by decide) rfl (fits_nar_bool _) (g := (mkF m 17 #[.val (.ref a1), .val (.long q2), .second, .val (.long q3), .second, .val (.int p4)] [(.int p4), (.ref a1)])) rfl rfl (hb hby d1_17)
  have E_a1 := E_a1.wr W4
  have F_from := F_from.other W4 (Or.inr (slot_ne (Or.inr (hw _ (List.mem_of_getElem? (i := 11) rfl))) (Or.inr (hw _ (List.mem_of_getElem? (i := 15) rfl))) (by decide) (t := .long) (t' := .boolean) (by decide) (by decide)))
  have F_to := F_to.other W4 (Or.inr (slot_ne (Or.inr (hw _ (List.mem_of_getElem? (i := 13) rfl))) (Or.inr (hw _ (List.mem_of_getElem? (i := 15) rfl))) (by decide) (t := .long) (t' := .boolean) (by decide) (by decide)))
  have K0 := K0.wr W4 (Or.inl (List.mem_of_getElem? (i := 0) rfl))
  have Z0 := Nat.le_trans Z0 (Keep.of_wr W4).1
  have F_partial := F_partial.same W4
  have N4 := Fr.snoc X4 N3 g_a1
  refine Rch.go st4 ?_
  show Rch p e below (T4.setTop (mkF m 20 #[.val (.ref a1), .val (.long q2), .second, .val (.long q3), .second, .val (.int p4)] [])) _
  exact Rch.ret X4 hlk (fun _ => rfl) (fun fs hr => X4.returnOut hx hret (hb hby d1_20) hr) (by rw [e4]; exact ⟨rfl, N4, K0, E_a1, F_from, F_to⟩) (by decide) (by decide)
theorem d3_0 : decode prog_20_method_4_code 0 = .ok (.aload_n 0, 1) := by decide +kernel
theorem d3_1 : decode prog_20_method_4_code 1 = .ok (.getfield 13, 3) := by decide +kernel
theorem d3_4 : decode prog_20_method_4_code 4 = .ok (.aload_n 0, 1) := by decide +kernel
theorem d3_5 : decode prog_20_method_4_code 5 = .ok (.getfield 7, 3) := by decide +kernel
theorem d3_8 : decode prog_20_method_4_code 8 = .ok (.lsub, 1) := by decide +kernel
theorem d3_9 : decode prog_20_method_4_code 9 = .ok (.lconst 1, 1) := by decide +kernel
theorem d3_10 : decode prog_20_method_4_code 10 = .ok (.ladd, 1) := by decide +kernel
theorem d3_11 : decode prog_20_method_4_code 11 = .ok (.lreturn, 1) := by decide +kernel
theorem pn_3 : plainFor (⟨"com/example/urchin/urchin/service/Protocol$Span", "length", "()J"⟩ : MethodName) = true := plainFor_of_name (by first | (simp [plainName, overriddenIn]; done) | decide +kernel)
theorem ef_3 (m : MethodId) (x0 : Addr) : entryFrame m #[(.ref x0)] 1 = mkF m 0 #[.val (.ref x0)] [] := by first | (simp [entryFrame, mkF, argsToLocals, Value.category]; done) | rfl
def own_Q_rm3 (Z : State) (a1 : Addr) (q2 q3 : Int64) (h0 : Heap) (n0 : Nat) (v : Option Value) (h : Heap) (L : List Loc) : Prop := v = some (.long ((q3 - q2) + (1 : Int64))) ∧ Fr n0 L ∧ h = h0
set_option maxRecDepth 65536 in
set_option maxHeartbeats 40000000 in
theorem rm3 (l : Launch) (Z : State) (a0 : Array Value) (hw : ∀ d ∈ tables_1, d.before a0 Z = true) (ws : List Jvm.Cond) (a1 : Addr) (q2 q3 : Int64) (h0 : Heap) (n0 : Nat) (Z0 : n0 ≤ h0.size) (F_from : Fld Z h0 a1 "com/example/urchin/urchin/service/Protocol$Span" "from" "J" (.long q2)) (F_to : Fld Z h0 a1 "com/example/urchin/urchin/service/Protocol$Span" "to" "J" (.long q3)) :
    MetFree l (⟨"com/example/urchin/urchin/service/Protocol$Span", "length", "()J"⟩ : MethodName) (head1 (Jvm.Cond.code (⟨"com/example/urchin/urchin/service/Protocol$Span", "length", "()J"⟩ : MethodName) prog_20_method_4_code 1 (some .long) :: ws) ({ frames := 0, cells := 0, slots := 0, locals := 0 } : Room)) (fun a U => a = #[(.ref a1)] ∧ Z.Warmed39 U.vm ∧ U.heap = h0) (fun _ _ _ _ _ => True) (fun _ U o U' => ∃ v L, o = .returned v ∧ own_Q_rm3 Z a1 q2 q3 h0 n0 v U'.heap L ∧ FrameEnd U o U' L ({ frames := 0, cells := 0, slots := 0, locals := 0 } : Room).cells ({ frames := 0, cells := 0, slots := 0, locals := 0 } : Room).slots) := by
  refine own_body (Q := (own_Q_rm3 Z a1 q2 q3 h0 n0)) pn_3 ?_
  intro p e s m below meth c s₁ X0 hx hby hml hown hnm hret hlk hZ e0
  have N0 := Fr.nil n0
  refine Rch.go (fun t k => castTop (ef_3 m a1) k) ?_
  show Rch p e below (s₁.setTop (mkF m 0 #[.val (.ref a1)] [])) _
  refine Rch.go (fun _ k => XS.aloadN X0.here hx rfl (hb hby d3_0) rfl rfl k) ?_
  show Rch p e below (s₁.setTop (mkF m 1 #[.val (.ref a1)] [(.ref a1)])) _
  obtain ⟨T1, X1, e1, st1⟩ := getF X0 hx hZ hown (host := "") (Or.inl (hw _ (List.mem_of_getElem? (i := 12) rfl))) Via.refl e0 F_to (g := (mkF m 1 #[.val (.ref a1)] [(.ref a1)])) rfl rfl (hb hby d3_1)
  refine Rch.go st1 ?_
  show Rch p e below (T1.setTop (mkF m 4 #[.val (.ref a1)] [(.long q3)])) _
  refine Rch.go (fun _ k => XS.aloadN X1.here hx rfl (hb hby d3_4) rfl rfl k) ?_
  show Rch p e below (T1.setTop (mkF m 5 #[.val (.ref a1)] [(.ref a1), (.long q3)])) _
  obtain ⟨T2, X2, e2, st2⟩ := getF X1 hx hZ hown (host := "") (Or.inl (hw _ (List.mem_of_getElem? (i := 10) rfl))) Via.refl e1 F_from (g := (mkF m 5 #[.val (.ref a1)] [(.ref a1), (.long q3)])) rfl rfl (hb hby d3_5)
  refine Rch.go st2 ?_
  show Rch p e below (T2.setTop (mkF m 8 #[.val (.ref a1)] [(.long q2), (.long q3)])) _
  refine Rch.go (fun _ k => XS.lsub X2.here hx rfl (hb hby d3_8) rfl k) ?_
  show Rch p e below (T2.setTop (mkF m 9 #[.val (.ref a1)] [(.long (q3 - q2))])) _
  refine Rch.go (fun _ k => XS.lconst X2.here hx rfl (hb hby d3_9) k) ?_
  show Rch p e below (T2.setTop (mkF m 10 #[.val (.ref a1)] [(.long (1 : Int64)), (.long (q3 - q2))])) _
  refine Rch.go (fun _ k => XS.ladd X2.here hx rfl (hb hby d3_10) rfl k) ?_
  show Rch p e below (T2.setTop (mkF m 11 #[.val (.ref a1)] [(.long ((q3 - q2) + (1 : Int64)))])) _
  exact Rch.ret X2 hlk (fun h => by rw [hret] at h; cases h) (fun fs hr => X2.lreturnOut hx hret (hb hby d3_11) hr) ⟨rfl, N0, e2⟩ (by decide) (by decide)
def own_f_L9 (q0 : Int64) (q1 : Int64) (p2 : Int32) : Int64 := (if (0 : Int32) < (lcmpW (q0 &&& (9223372036854775807 : Int64)) ((9223372036854775807 : Int64) - (q1 &&& (9223372036854775807 : Int64)))) then (((9223372036854775807 : Int64) - (q1 &&& (9223372036854775807 : Int64))) + (1 : Int64)) else (q0 &&& (9223372036854775807 : Int64)))
def own_g_S0 (q0 : Int64) (q1 : Int64) (p2 : Int32) : Int32 := (if (p2 &&& (1 : Int32)) = (0 : Int32) then (0 : Int32) else (1 : Int32))
theorem own_len (f n : Int64) : (((f + n) - (1 : Int64)) - f) + (1 : Int64) = n := by grind
theorem own_len0 (n : Int64) : ((n - (1 : Int64)) - (0 : Int64)) + (1 : Int64) = n := by grind
theorem pd0_0 : parseMethodDescriptor "(JJZ)V" = some ⟨[.long, .long, .boolean], none⟩ := by decide +kernel
theorem pd0_1 : parseMethodDescriptor "()J" = some ⟨[], some .long⟩ := by decide +kernel
theorem pn_0 : plainFor x = true := plainFor_of_name (by first | (simp [plainName, overriddenIn]; done) | decide +kernel)
theorem ef_0 (m : MethodId) (x0 : Int64) (x1 : Int64) (x2 : Int32) : entryFrame m #[(.long x0), (.long x1), (.int x2)] maxLocals = mkF m 0 #[.val (.long x0), .second, .val (.long x1), .second, .val (.int x2), .unset, .unset, .unset, .unset, .unset, .unset, .unset, .unset, .unset, .unset] [] := by first | (simp [entryFrame, mkF, argsToLocals, Value.category, maxLocals]; done) | rfl
def own_Q_rm0 (Z : State) (q0 q1 : Int64) (p2 : Int32) (h0 : Heap) (n0 : Nat) (v : Option Value) (h : Heap) (L : List Loc) : Prop := v = some (.int 1) ∧ Fr n0 L
set_option maxRecDepth 65536 in
set_option maxHeartbeats 40000000 in
theorem rm0 (l : Launch) (Z : State) (a0 : Array Value) (hw : ∀ d ∈ tables_1, d.before a0 Z = true) (ws : List Jvm.Cond) (q0 q1 : Int64) (p2 : Int32) (h0 : Heap) (n0 : Nat) (Z0 : n0 ≤ h0.size)  :
    MetFree l x (head1 (Jvm.Cond.code x code maxLocals ret :: ws) room_1) (fun a U => a = #[(.long q0), (.long q1), (.int p2)] ∧ Z.Warmed39 U.vm ∧ U.heap = h0) (fun _ _ _ _ _ => True) (fun _ U o U' => ∃ v L, o = .returned v ∧ own_Q_rm0 Z q0 q1 p2 h0 n0 v U'.heap L ∧ FrameEnd U o U' L 16 128) := by
  refine own_body (Q := (own_Q_rm0 Z q0 q1 p2 h0 n0)) pn_0 ?_
  intro p e s m below meth c s₁ X0 hx hby hml hown hnm hret hlk hZ e0
  have N0 := Fr.nil n0
  refine Rch.go (fun t k => castTop (ef_0 m q0 q1 p2) k) ?_
  show Rch p e below (s₁.setTop (mkF m 0 #[.val (.long q0), .second, .val (.long q1), .second, .val (.int p2), .unset, .unset, .unset, .unset, .unset, .unset, .unset, .unset, .unset, .unset] [])) _
  have hj2 : ∀ P', Rch p e below (s₁.setTop (mkF m 43 #[.val (.long q0), .second, .val (.long q1), .second, .val (.int p2), .val (.long (q1 &&& (9223372036854775807 : Int64))), .second, .val (.long (q0 &&& (9223372036854775807 : Int64))), .second, .val (.long (own_f_L9 q0 q1 p2)), .second, .unset, .unset, .unset, .unset] [])) P' → Rch p e below (s₁.setTop (mkF m 0 #[.val (.long q0), .second, .val (.long q1), .second, .val (.int p2), .unset, .unset, .unset, .unset, .unset, .unset, .unset, .unset, .unset, .unset] [])) P' := by
    intro P' kt
    refine Rch.go (fun _ k => XS.lloadN X0.here hx rfl (hb hby at_0) rfl  k) ?_
    show Rch p e below (s₁.setTop (mkF m 1 #[.val (.long q0), .second, .val (.long q1), .second, .val (.int p2), .unset, .unset, .unset, .unset, .unset, .unset, .unset, .unset, .unset, .unset] [(.long q1)])) _
    refine Rch.go (fun _ k => X0.ldc2Long hx hown (mvT hZ (hw _ (List.mem_of_getElem? (i := 0) rfl))) (g := (mkF m 1 #[.val (.long q0), .second, .val (.long q1), .second, .val (.int p2), .unset, .unset, .unset, .unset, .unset, .unset, .unset, .unset, .unset, .unset] [(.long q1)])) rfl (hb hby at_1) _ k) ?_
    show Rch p e below (s₁.setTop (mkF m 4 #[.val (.long q0), .second, .val (.long q1), .second, .val (.int p2), .unset, .unset, .unset, .unset, .unset, .unset, .unset, .unset, .unset, .unset] [(.long (9223372036854775807 : Int64)), (.long q1)])) _
    refine Rch.go (fun _ k => XS.land X0.here hx rfl (hb hby at_4) rfl k) ?_
    show Rch p e below (s₁.setTop (mkF m 5 #[.val (.long q0), .second, .val (.long q1), .second, .val (.int p2), .unset, .unset, .unset, .unset, .unset, .unset, .unset, .unset, .unset, .unset] [(.long (q1 &&& (9223372036854775807 : Int64)))])) _
    refine Rch.go (fun _ k => XS.lstore X0.here hx rfl (hb hby at_5) rfl (l' := #[.val (.long q0), .second, .val (.long q1), .second, .val (.int p2), .val (.long (q1 &&& (9223372036854775807 : Int64))), .second, .unset, .unset, .unset, .unset, .unset, .unset, .unset, .unset]) rfl k) ?_
    show Rch p e below (s₁.setTop (mkF m 7 #[.val (.long q0), .second, .val (.long q1), .second, .val (.int p2), .val (.long (q1 &&& (9223372036854775807 : Int64))), .second, .unset, .unset, .unset, .unset, .unset, .unset, .unset, .unset] [])) _
    refine Rch.go (fun _ k => XS.lloadN X0.here hx rfl (hb hby at_7) rfl  k) ?_
    show Rch p e below (s₁.setTop (mkF m 8 #[.val (.long q0), .second, .val (.long q1), .second, .val (.int p2), .val (.long (q1 &&& (9223372036854775807 : Int64))), .second, .unset, .unset, .unset, .unset, .unset, .unset, .unset, .unset] [(.long q0)])) _
    refine Rch.go (fun _ k => X0.ldc2Long hx hown (mvT hZ (hw _ (List.mem_of_getElem? (i := 0) rfl))) (g := (mkF m 8 #[.val (.long q0), .second, .val (.long q1), .second, .val (.int p2), .val (.long (q1 &&& (9223372036854775807 : Int64))), .second, .unset, .unset, .unset, .unset, .unset, .unset, .unset, .unset] [(.long q0)])) rfl (hb hby at_8) _ k) ?_
    show Rch p e below (s₁.setTop (mkF m 11 #[.val (.long q0), .second, .val (.long q1), .second, .val (.int p2), .val (.long (q1 &&& (9223372036854775807 : Int64))), .second, .unset, .unset, .unset, .unset, .unset, .unset, .unset, .unset] [(.long (9223372036854775807 : Int64)), (.long q0)])) _
    refine Rch.go (fun _ k => XS.land X0.here hx rfl (hb hby at_11) rfl k) ?_
    show Rch p e below (s₁.setTop (mkF m 12 #[.val (.long q0), .second, .val (.long q1), .second, .val (.int p2), .val (.long (q1 &&& (9223372036854775807 : Int64))), .second, .unset, .unset, .unset, .unset, .unset, .unset, .unset, .unset] [(.long (q0 &&& (9223372036854775807 : Int64)))])) _
    refine Rch.go (fun _ k => XS.lstore X0.here hx rfl (hb hby at_12) rfl (l' := #[.val (.long q0), .second, .val (.long q1), .second, .val (.int p2), .val (.long (q1 &&& (9223372036854775807 : Int64))), .second, .val (.long (q0 &&& (9223372036854775807 : Int64))), .second, .unset, .unset, .unset, .unset, .unset, .unset]) rfl k) ?_
    show Rch p e below (s₁.setTop (mkF m 14 #[.val (.long q0), .second, .val (.long q1), .second, .val (.int p2), .val (.long (q1 &&& (9223372036854775807 : Int64))), .second, .val (.long (q0 &&& (9223372036854775807 : Int64))), .second, .unset, .unset, .unset, .unset, .unset, .unset] [])) _
    refine Rch.go (fun _ k => XS.lload X0.here hx rfl (hb hby at_14) rfl  k) ?_
    show Rch p e below (s₁.setTop (mkF m 16 #[.val (.long q0), .second, .val (.long q1), .second, .val (.int p2), .val (.long (q1 &&& (9223372036854775807 : Int64))), .second, .val (.long (q0 &&& (9223372036854775807 : Int64))), .second, .unset, .unset, .unset, .unset, .unset, .unset] [(.long (q0 &&& (9223372036854775807 : Int64)))])) _
    refine Rch.go (fun _ k => X0.ldc2Long hx hown (mvT hZ (hw _ (List.mem_of_getElem? (i := 0) rfl))) (g := (mkF m 16 #[.val (.long q0), .second, .val (.long q1), .second, .val (.int p2), .val (.long (q1 &&& (9223372036854775807 : Int64))), .second, .val (.long (q0 &&& (9223372036854775807 : Int64))), .second, .unset, .unset, .unset, .unset, .unset, .unset] [(.long (q0 &&& (9223372036854775807 : Int64)))])) rfl (hb hby at_16) _ k) ?_
    show Rch p e below (s₁.setTop (mkF m 19 #[.val (.long q0), .second, .val (.long q1), .second, .val (.int p2), .val (.long (q1 &&& (9223372036854775807 : Int64))), .second, .val (.long (q0 &&& (9223372036854775807 : Int64))), .second, .unset, .unset, .unset, .unset, .unset, .unset] [(.long (9223372036854775807 : Int64)), (.long (q0 &&& (9223372036854775807 : Int64)))])) _
    refine Rch.go (fun _ k => XS.lload X0.here hx rfl (hb hby at_19) rfl  k) ?_
    show Rch p e below (s₁.setTop (mkF m 21 #[.val (.long q0), .second, .val (.long q1), .second, .val (.int p2), .val (.long (q1 &&& (9223372036854775807 : Int64))), .second, .val (.long (q0 &&& (9223372036854775807 : Int64))), .second, .unset, .unset, .unset, .unset, .unset, .unset] [(.long (q1 &&& (9223372036854775807 : Int64))), (.long (9223372036854775807 : Int64)), (.long (q0 &&& (9223372036854775807 : Int64)))])) _
    refine Rch.go (fun _ k => XS.lsub X0.here hx rfl (hb hby at_21) rfl k) ?_
    show Rch p e below (s₁.setTop (mkF m 22 #[.val (.long q0), .second, .val (.long q1), .second, .val (.int p2), .val (.long (q1 &&& (9223372036854775807 : Int64))), .second, .val (.long (q0 &&& (9223372036854775807 : Int64))), .second, .unset, .unset, .unset, .unset, .unset, .unset] [(.long ((9223372036854775807 : Int64) - (q1 &&& (9223372036854775807 : Int64)))), (.long (q0 &&& (9223372036854775807 : Int64)))])) _
    refine Rch.go (fun _ k => XS.lcmp X0.here hx rfl (hb hby at_22) rfl k) ?_
    show Rch p e below (s₁.setTop (mkF m 23 #[.val (.long q0), .second, .val (.long q1), .second, .val (.int p2), .val (.long (q1 &&& (9223372036854775807 : Int64))), .second, .val (.long (q0 &&& (9223372036854775807 : Int64))), .second, .unset, .unset, .unset, .unset, .unset, .unset] [(.int (lcmpW (q0 &&& (9223372036854775807 : Int64)) ((9223372036854775807 : Int64) - (q1 &&& (9223372036854775807 : Int64)))))])) _
    by_cases hc23_1 : (0 : Int32) < (lcmpW (q0 &&& (9223372036854775807 : Int64)) ((9223372036854775807 : Int64) - (q1 &&& (9223372036854775807 : Int64))))
    · refine Rch.go (fun _ k => XS.ifNo X0.here hx rfl (hb hby at_23) rfl ((if0 _ _).trans (tlt hc23_1).2.2.2) k) ?_
      show Rch p e below (s₁.setTop (mkF m 26 #[.val (.long q0), .second, .val (.long q1), .second, .val (.int p2), .val (.long (q1 &&& (9223372036854775807 : Int64))), .second, .val (.long (q0 &&& (9223372036854775807 : Int64))), .second, .unset, .unset, .unset, .unset, .unset, .unset] [])) _
      refine Rch.go (fun _ k => X0.ldc2Long hx hown (mvT hZ (hw _ (List.mem_of_getElem? (i := 0) rfl))) (g := (mkF m 26 #[.val (.long q0), .second, .val (.long q1), .second, .val (.int p2), .val (.long (q1 &&& (9223372036854775807 : Int64))), .second, .val (.long (q0 &&& (9223372036854775807 : Int64))), .second, .unset, .unset, .unset, .unset, .unset, .unset] [])) rfl (hb hby at_26) _ k) ?_
      show Rch p e below (s₁.setTop (mkF m 29 #[.val (.long q0), .second, .val (.long q1), .second, .val (.int p2), .val (.long (q1 &&& (9223372036854775807 : Int64))), .second, .val (.long (q0 &&& (9223372036854775807 : Int64))), .second, .unset, .unset, .unset, .unset, .unset, .unset] [(.long (9223372036854775807 : Int64))])) _
      refine Rch.go (fun _ k => XS.lload X0.here hx rfl (hb hby at_29) rfl  k) ?_
      show Rch p e below (s₁.setTop (mkF m 31 #[.val (.long q0), .second, .val (.long q1), .second, .val (.int p2), .val (.long (q1 &&& (9223372036854775807 : Int64))), .second, .val (.long (q0 &&& (9223372036854775807 : Int64))), .second, .unset, .unset, .unset, .unset, .unset, .unset] [(.long (q1 &&& (9223372036854775807 : Int64))), (.long (9223372036854775807 : Int64))])) _
      refine Rch.go (fun _ k => XS.lsub X0.here hx rfl (hb hby at_31) rfl k) ?_
      show Rch p e below (s₁.setTop (mkF m 32 #[.val (.long q0), .second, .val (.long q1), .second, .val (.int p2), .val (.long (q1 &&& (9223372036854775807 : Int64))), .second, .val (.long (q0 &&& (9223372036854775807 : Int64))), .second, .unset, .unset, .unset, .unset, .unset, .unset] [(.long ((9223372036854775807 : Int64) - (q1 &&& (9223372036854775807 : Int64))))])) _
      refine Rch.go (fun _ k => XS.lconst X0.here hx rfl (hb hby at_32) k) ?_
      show Rch p e below (s₁.setTop (mkF m 33 #[.val (.long q0), .second, .val (.long q1), .second, .val (.int p2), .val (.long (q1 &&& (9223372036854775807 : Int64))), .second, .val (.long (q0 &&& (9223372036854775807 : Int64))), .second, .unset, .unset, .unset, .unset, .unset, .unset] [(.long (1 : Int64)), (.long ((9223372036854775807 : Int64) - (q1 &&& (9223372036854775807 : Int64))))])) _
      refine Rch.go (fun _ k => XS.ladd X0.here hx rfl (hb hby at_33) rfl k) ?_
      show Rch p e below (s₁.setTop (mkF m 34 #[.val (.long q0), .second, .val (.long q1), .second, .val (.int p2), .val (.long (q1 &&& (9223372036854775807 : Int64))), .second, .val (.long (q0 &&& (9223372036854775807 : Int64))), .second, .unset, .unset, .unset, .unset, .unset, .unset] [(.long (((9223372036854775807 : Int64) - (q1 &&& (9223372036854775807 : Int64))) + (1 : Int64)))])) _
      refine Rch.go (fun _ k => XS.lstore X0.here hx rfl (hb hby at_34) rfl (l' := #[.val (.long q0), .second, .val (.long q1), .second, .val (.int p2), .val (.long (q1 &&& (9223372036854775807 : Int64))), .second, .val (.long (q0 &&& (9223372036854775807 : Int64))), .second, .val (.long (((9223372036854775807 : Int64) - (q1 &&& (9223372036854775807 : Int64))) + (1 : Int64))), .second, .unset, .unset, .unset, .unset]) rfl k) ?_
      show Rch p e below (s₁.setTop (mkF m 36 #[.val (.long q0), .second, .val (.long q1), .second, .val (.int p2), .val (.long (q1 &&& (9223372036854775807 : Int64))), .second, .val (.long (q0 &&& (9223372036854775807 : Int64))), .second, .val (.long (((9223372036854775807 : Int64) - (q1 &&& (9223372036854775807 : Int64))) + (1 : Int64))), .second, .unset, .unset, .unset, .unset] [])) _
      refine Rch.go (fun _ k => XS.goto X0.here hx rfl (pc0 := 36) (pc' := 43) rfl (hb hby at_36) (by decide) (by decide) k) ?_
      show Rch p e below (s₁.setTop (mkF m 43 #[.val (.long q0), .second, .val (.long q1), .second, .val (.int p2), .val (.long (q1 &&& (9223372036854775807 : Int64))), .second, .val (.long (q0 &&& (9223372036854775807 : Int64))), .second, .val (.long (((9223372036854775807 : Int64) - (q1 &&& (9223372036854775807 : Int64))) + (1 : Int64))), .second, .unset, .unset, .unset, .unset] [])) _
      rw [show own_f_L9 q0 q1 p2 = (((9223372036854775807 : Int64) - (q1 &&& (9223372036854775807 : Int64))) + (1 : Int64)) from by simp only [own_f_L9, if_pos hc23_1]] at kt
      exact kt
    · refine Rch.go (fun _ k => XS.ifYes X0.here hx rfl (pc0 := 23) (pc' := 39) rfl (hb hby at_23) rfl ((if0 _ _).trans (flt hc23_1).2.2.2) (by decide) (by decide) k) ?_
      show Rch p e below (s₁.setTop (mkF m 39 #[.val (.long q0), .second, .val (.long q1), .second, .val (.int p2), .val (.long (q1 &&& (9223372036854775807 : Int64))), .second, .val (.long (q0 &&& (9223372036854775807 : Int64))), .second, .unset, .unset, .unset, .unset, .unset, .unset] [])) _
      refine Rch.go (fun _ k => XS.lload X0.here hx rfl (hb hby at_39) rfl  k) ?_
      show Rch p e below (s₁.setTop (mkF m 41 #[.val (.long q0), .second, .val (.long q1), .second, .val (.int p2), .val (.long (q1 &&& (9223372036854775807 : Int64))), .second, .val (.long (q0 &&& (9223372036854775807 : Int64))), .second, .unset, .unset, .unset, .unset, .unset, .unset] [(.long (q0 &&& (9223372036854775807 : Int64)))])) _
      refine Rch.go (fun _ k => XS.lstore X0.here hx rfl (hb hby at_41) rfl (l' := #[.val (.long q0), .second, .val (.long q1), .second, .val (.int p2), .val (.long (q1 &&& (9223372036854775807 : Int64))), .second, .val (.long (q0 &&& (9223372036854775807 : Int64))), .second, .val (.long (q0 &&& (9223372036854775807 : Int64))), .second, .unset, .unset, .unset, .unset]) rfl k) ?_
      show Rch p e below (s₁.setTop (mkF m 43 #[.val (.long q0), .second, .val (.long q1), .second, .val (.int p2), .val (.long (q1 &&& (9223372036854775807 : Int64))), .second, .val (.long (q0 &&& (9223372036854775807 : Int64))), .second, .val (.long (q0 &&& (9223372036854775807 : Int64))), .second, .unset, .unset, .unset, .unset] [])) _
      rw [show own_f_L9 q0 q1 p2 = (q0 &&& (9223372036854775807 : Int64)) from by simp only [own_f_L9, if_neg hc23_1]] at kt
      exact kt
  refine hj2 _ ?_
  show Rch p e below (s₁.setTop (mkF m 43 #[.val (.long q0), .second, .val (.long q1), .second, .val (.int p2), .val (.long (q1 &&& (9223372036854775807 : Int64))), .second, .val (.long (q0 &&& (9223372036854775807 : Int64))), .second, .val (.long (own_f_L9 q0 q1 p2)), .second, .unset, .unset, .unset, .unset] [])) _
  generalize hfv : (own_f_L9 q0 q1 p2) = fv
  generalize hnv : (q1 &&& (9223372036854775807 : Int64)) = nv
  refine Rch.go (fun _ k => XS.lload X0.here hx rfl (hb hby at_43) rfl  k) ?_
  show Rch p e below (s₁.setTop (mkF m 45 #[.val (.long q0), .second, .val (.long q1), .second, .val (.int p2), .val (.long nv), .second, .val (.long (q0 &&& (9223372036854775807 : Int64))), .second, .val (.long fv), .second, .unset, .unset, .unset, .unset] [(.long fv)])) _
  refine Rch.go (fun _ k => XS.lload X0.here hx rfl (hb hby at_45) rfl  k) ?_
  show Rch p e below (s₁.setTop (mkF m 47 #[.val (.long q0), .second, .val (.long q1), .second, .val (.int p2), .val (.long nv), .second, .val (.long (q0 &&& (9223372036854775807 : Int64))), .second, .val (.long fv), .second, .unset, .unset, .unset, .unset] [(.long nv), (.long fv)])) _
  refine Rch.go (fun _ k => XS.ladd X0.here hx rfl (hb hby at_47) rfl k) ?_
  show Rch p e below (s₁.setTop (mkF m 48 #[.val (.long q0), .second, .val (.long q1), .second, .val (.int p2), .val (.long nv), .second, .val (.long (q0 &&& (9223372036854775807 : Int64))), .second, .val (.long fv), .second, .unset, .unset, .unset, .unset] [(.long (fv + nv))])) _
  refine Rch.go (fun _ k => XS.lconst X0.here hx rfl (hb hby at_48) k) ?_
  show Rch p e below (s₁.setTop (mkF m 49 #[.val (.long q0), .second, .val (.long q1), .second, .val (.int p2), .val (.long nv), .second, .val (.long (q0 &&& (9223372036854775807 : Int64))), .second, .val (.long fv), .second, .unset, .unset, .unset, .unset] [(.long (1 : Int64)), (.long (fv + nv))])) _
  refine Rch.go (fun _ k => XS.lsub X0.here hx rfl (hb hby at_49) rfl k) ?_
  show Rch p e below (s₁.setTop (mkF m 50 #[.val (.long q0), .second, .val (.long q1), .second, .val (.int p2), .val (.long nv), .second, .val (.long (q0 &&& (9223372036854775807 : Int64))), .second, .val (.long fv), .second, .unset, .unset, .unset, .unset] [(.long ((fv + nv) - (1 : Int64)))])) _
  refine Rch.go (fun _ k => XS.lstore X0.here hx rfl (hb hby at_50) rfl (l' := #[.val (.long q0), .second, .val (.long q1), .second, .val (.int p2), .val (.long nv), .second, .val (.long (q0 &&& (9223372036854775807 : Int64))), .second, .val (.long fv), .second, .val (.long ((fv + nv) - (1 : Int64))), .second, .unset, .unset]) rfl k) ?_
  show Rch p e below (s₁.setTop (mkF m 52 #[.val (.long q0), .second, .val (.long q1), .second, .val (.int p2), .val (.long nv), .second, .val (.long (q0 &&& (9223372036854775807 : Int64))), .second, .val (.long fv), .second, .val (.long ((fv + nv) - (1 : Int64))), .second, .unset, .unset] [])) _
  obtain ⟨T3, h3, X3, e3, E3, A3, D3, -, st3⟩ := newO X0 hx hZ hown (hw _ (List.mem_of_getElem? (i := 1) rfl)) (hw _ (List.mem_of_getElem? (i := 2) rfl)) (hw _ (List.mem_of_getElem? (i := 3) rfl)) e0 (g := (mkF m 52 #[.val (.long q0), .second, .val (.long q1), .second, .val (.int p2), .val (.long nv), .second, .val (.long (q0 &&& (9223372036854775807 : Int64))), .second, .val (.long fv), .second, .val (.long ((fv + nv) - (1 : Int64))), .second, .unset, .unset] [])) rfl (hb hby at_52) (by decide) (by decide)
  obtain ⟨b3, g3⟩ : ∃ z, z = h0.size := ⟨_, rfl⟩
  rw [← g3] at A3 D3 st3
  have g_b3 : n0 ≤ b3 := Nat.le_trans Z0 (Nat.le_of_eq g3.symm)
  have Z0 := Nat.le_trans Z0 E3.1
  have E_b3 := A3
  have F_from_b3 : Fld Z h3 b3 "com/example/urchin/urchin/service/Protocol$Span" "from" "J" (.long (0 : Int64)) := D3 (Or.inr (hw _ (List.mem_of_getElem? (i := 11) rfl))) (ty := .long) (by decide)
  have F_to_b3 : Fld Z h3 b3 "com/example/urchin/urchin/service/Protocol$Span" "to" "J" (.long (0 : Int64)) := D3 (Or.inr (hw _ (List.mem_of_getElem? (i := 13) rfl))) (ty := .long) (by decide)
  have F_partial_b3 : Fld Z h3 b3 "com/example/urchin/urchin/service/Protocol$Span" "partial" "Z" (.int (0 : Int32)) := D3 (Or.inr (hw _ (List.mem_of_getElem? (i := 15) rfl))) (ty := .boolean) (by decide)
  refine Rch.go st3 ?_
  show Rch p e below (T3.setTop (mkF m 55 #[.val (.long q0), .second, .val (.long q1), .second, .val (.int p2), .val (.long nv), .second, .val (.long (q0 &&& (9223372036854775807 : Int64))), .second, .val (.long fv), .second, .val (.long ((fv + nv) - (1 : Int64))), .second, .unset, .unset] [(.ref b3)])) _
  refine Rch.go (fun _ k => XS.dup X3.here hx rfl (hb hby at_55) rfl rfl k) ?_
  show Rch p e below (T3.setTop (mkF m 56 #[.val (.long q0), .second, .val (.long q1), .second, .val (.int p2), .val (.long nv), .second, .val (.long (q0 &&& (9223372036854775807 : Int64))), .second, .val (.long fv), .second, .val (.long ((fv + nv) - (1 : Int64))), .second, .unset, .unset] [(.ref b3), (.ref b3)])) _
  refine Rch.go (fun _ k => XS.lload X3.here hx rfl (hb hby at_56) rfl  k) ?_
  show Rch p e below (T3.setTop (mkF m 58 #[.val (.long q0), .second, .val (.long q1), .second, .val (.int p2), .val (.long nv), .second, .val (.long (q0 &&& (9223372036854775807 : Int64))), .second, .val (.long fv), .second, .val (.long ((fv + nv) - (1 : Int64))), .second, .unset, .unset] [(.long fv), (.ref b3), (.ref b3)])) _
  refine Rch.go (fun _ k => XS.lload X3.here hx rfl (hb hby at_58) rfl  k) ?_
  show Rch p e below (T3.setTop (mkF m 60 #[.val (.long q0), .second, .val (.long q1), .second, .val (.int p2), .val (.long nv), .second, .val (.long (q0 &&& (9223372036854775807 : Int64))), .second, .val (.long fv), .second, .val (.long ((fv + nv) - (1 : Int64))), .second, .unset, .unset] [(.long ((fv + nv) - (1 : Int64))), (.long fv), (.ref b3), (.ref b3)])) _
  have hj5 : ∀ P', Rch p e below (T3.setTop (mkF m 72 #[.val (.long q0), .second, .val (.long q1), .second, .val (.int p2), .val (.long nv), .second, .val (.long (q0 &&& (9223372036854775807 : Int64))), .second, .val (.long fv), .second, .val (.long ((fv + nv) - (1 : Int64))), .second, .unset, .unset] [(.int (own_g_S0 q0 q1 p2)), (.long ((fv + nv) - (1 : Int64))), (.long fv), (.ref b3), (.ref b3)])) P' → Rch p e below (T3.setTop (mkF m 60 #[.val (.long q0), .second, .val (.long q1), .second, .val (.int p2), .val (.long nv), .second, .val (.long (q0 &&& (9223372036854775807 : Int64))), .second, .val (.long fv), .second, .val (.long ((fv + nv) - (1 : Int64))), .second, .unset, .unset] [(.long ((fv + nv) - (1 : Int64))), (.long fv), (.ref b3), (.ref b3)])) P' := by
    intro P' kt
    refine Rch.go (fun _ k => XS.iload X3.here hx rfl (hb hby at_60) rfl  k) ?_
    show Rch p e below (T3.setTop (mkF m 62 #[.val (.long q0), .second, .val (.long q1), .second, .val (.int p2), .val (.long nv), .second, .val (.long (q0 &&& (9223372036854775807 : Int64))), .second, .val (.long fv), .second, .val (.long ((fv + nv) - (1 : Int64))), .second, .unset, .unset] [(.int p2), (.long ((fv + nv) - (1 : Int64))), (.long fv), (.ref b3), (.ref b3)])) _
    refine Rch.go (fun _ k => XS.iconst X3.here hx rfl (hb hby at_62) k) ?_
    show Rch p e below (T3.setTop (mkF m 63 #[.val (.long q0), .second, .val (.long q1), .second, .val (.int p2), .val (.long nv), .second, .val (.long (q0 &&& (9223372036854775807 : Int64))), .second, .val (.long fv), .second, .val (.long ((fv + nv) - (1 : Int64))), .second, .unset, .unset] [(.int (1 : Int32)), (.int p2), (.long ((fv + nv) - (1 : Int64))), (.long fv), (.ref b3), (.ref b3)])) _
    refine Rch.go (fun _ k => XS.iand X3.here hx rfl (hb hby at_63) rfl k) ?_
    show Rch p e below (T3.setTop (mkF m 64 #[.val (.long q0), .second, .val (.long q1), .second, .val (.int p2), .val (.long nv), .second, .val (.long (q0 &&& (9223372036854775807 : Int64))), .second, .val (.long fv), .second, .val (.long ((fv + nv) - (1 : Int64))), .second, .unset, .unset] [(.int (p2 &&& (1 : Int32))), (.long ((fv + nv) - (1 : Int64))), (.long fv), (.ref b3), (.ref b3)])) _
    by_cases hc64_4 : (p2 &&& (1 : Int32)) = (0 : Int32)
    · refine Rch.go (fun _ k => XS.ifYes X3.here hx rfl (pc0 := 64) (pc' := 71) rfl (hb hby at_64) rfl ((if0 _ _).trans (teq hc64_4).1) (by decide) (by decide) k) ?_
      show Rch p e below (T3.setTop (mkF m 71 #[.val (.long q0), .second, .val (.long q1), .second, .val (.int p2), .val (.long nv), .second, .val (.long (q0 &&& (9223372036854775807 : Int64))), .second, .val (.long fv), .second, .val (.long ((fv + nv) - (1 : Int64))), .second, .unset, .unset] [(.long ((fv + nv) - (1 : Int64))), (.long fv), (.ref b3), (.ref b3)])) _
      refine Rch.go (fun _ k => XS.iconst X3.here hx rfl (hb hby at_71) k) ?_
      show Rch p e below (T3.setTop (mkF m 72 #[.val (.long q0), .second, .val (.long q1), .second, .val (.int p2), .val (.long nv), .second, .val (.long (q0 &&& (9223372036854775807 : Int64))), .second, .val (.long fv), .second, .val (.long ((fv + nv) - (1 : Int64))), .second, .unset, .unset] [(.int (0 : Int32)), (.long ((fv + nv) - (1 : Int64))), (.long fv), (.ref b3), (.ref b3)])) _
      rw [show own_g_S0 q0 q1 p2 = (0 : Int32) from by simp only [own_g_S0, if_pos hc64_4]] at kt
      exact kt
    · refine Rch.go (fun _ k => XS.ifNo X3.here hx rfl (hb hby at_64) rfl ((if0 _ _).trans (feq hc64_4).1) k) ?_
      show Rch p e below (T3.setTop (mkF m 67 #[.val (.long q0), .second, .val (.long q1), .second, .val (.int p2), .val (.long nv), .second, .val (.long (q0 &&& (9223372036854775807 : Int64))), .second, .val (.long fv), .second, .val (.long ((fv + nv) - (1 : Int64))), .second, .unset, .unset] [(.long ((fv + nv) - (1 : Int64))), (.long fv), (.ref b3), (.ref b3)])) _
      refine Rch.go (fun _ k => XS.iconst X3.here hx rfl (hb hby at_67) k) ?_
      show Rch p e below (T3.setTop (mkF m 68 #[.val (.long q0), .second, .val (.long q1), .second, .val (.int p2), .val (.long nv), .second, .val (.long (q0 &&& (9223372036854775807 : Int64))), .second, .val (.long fv), .second, .val (.long ((fv + nv) - (1 : Int64))), .second, .unset, .unset] [(.int (1 : Int32)), (.long ((fv + nv) - (1 : Int64))), (.long fv), (.ref b3), (.ref b3)])) _
      refine Rch.go (fun _ k => XS.goto X3.here hx rfl (pc0 := 68) (pc' := 72) rfl (hb hby at_68) (by decide) (by decide) k) ?_
      show Rch p e below (T3.setTop (mkF m 72 #[.val (.long q0), .second, .val (.long q1), .second, .val (.int p2), .val (.long nv), .second, .val (.long (q0 &&& (9223372036854775807 : Int64))), .second, .val (.long fv), .second, .val (.long ((fv + nv) - (1 : Int64))), .second, .unset, .unset] [(.int (1 : Int32)), (.long ((fv + nv) - (1 : Int64))), (.long fv), (.ref b3), (.ref b3)])) _
      rw [show own_g_S0 q0 q1 p2 = (1 : Int32) from by simp only [own_g_S0, if_neg hc64_4]] at kt
      exact kt
  refine hj5 _ ?_
  show Rch p e below (T3.setTop (mkF m 72 #[.val (.long q0), .second, .val (.long q1), .second, .val (.int p2), .val (.long nv), .second, .val (.long (q0 &&& (9223372036854775807 : Int64))), .second, .val (.long fv), .second, .val (.long ((fv + nv) - (1 : Int64))), .second, .unset, .unset] [(.int (own_g_S0 q0 q1 p2)), (.long ((fv + nv) - (1 : Int64))), (.long fv), (.ref b3), (.ref b3)])) _
  generalize hgv : (own_g_S0 q0 q1 p2) = gv
  show Rch p e below (T3.setTop (mkF m 72 #[.val (.long q0), .second, .val (.long q1), .second, .val (.int p2), .val (.long nv), .second, .val (.long (q0 &&& (9223372036854775807 : Int64))), .second, .val (.long fv), .second, .val (.long ((fv + nv) - (1 : Int64))), .second, .unset, .unset] [(.int gv), (.long ((fv + nv) - (1 : Int64))), (.long fv), (.ref b3), (.ref b3)])) _
  refine Rch.callC X3 hx hZ rfl hown (hw _ (List.mem_of_getElem? (i := 4) rfl)) (hw _ (List.mem_of_getElem? (i := 5) rfl)) (hw _ (List.mem_of_getElem? (i := 3) rfl)) (hw _ (List.mem_of_getElem? (i := 6) rfl)) (by decide) (rm1 l Z a0 hw [] b3 fv ((fv + nv) - (1 : Int64)) gv (.long (0 : Int64)) (.long (0 : Int64)) (.int (0 : Int32)) h3 n0 Z0 E_b3 g_b3 F_from_b3 F_to_b3 F_partial_b3) 1 (by decide) (by decide) (by decide) (by decide) e3 (g := (mkF m 72 #[.val (.long q0), .second, .val (.long q1), .second, .val (.int p2), .val (.long nv), .second, .val (.long (q0 &&& (9223372036854775807 : Int64))), .second, .val (.long fv), .second, .val (.long ((fv + nv) - (1 : Int64))), .second, .unset, .unset] [(.int gv), (.long ((fv + nv) - (1 : Int64))), (.long fv), (.ref b3), (.ref b3)])) rfl (by rw [hml]; rfl) b3 [(.long fv), (.long ((fv + nv) - (1 : Int64))), (.int gv)] [(.ref b3)] rfl (lenOf pd0_0 rfl) rfl (by show 2 * 0 + _ ≤ _; exact Nat.le_of_eq rfl) (hb hby at_72) ?_
  intro v6 T6 L6 X6 hQ6
  obtain ⟨rfl, N6q, K6, _, Fa_b3, Fb_b3⟩ := hQ6
  have E_b3 := E_b3.keep K6
  have Z0 := Nat.le_trans Z0 K6.1
  have N6 := Fr.app N0 N6q
  show Rch p e below (T6.setTop (mkF m 75 #[.val (.long q0), .second, .val (.long q1), .second, .val (.int p2), .val (.long nv), .second, .val (.long (q0 &&& (9223372036854775807 : Int64))), .second, .val (.long fv), .second, .val (.long ((fv + nv) - (1 : Int64))), .second, .unset, .unset] [(.ref b3)])) _
  refine Rch.go (fun _ k => XS.astore X6.here hx rfl (hb hby at_75) rfl rfl (l' := #[.val (.long q0), .second, .val (.long q1), .second, .val (.int p2), .val (.long nv), .second, .val (.long (q0 &&& (9223372036854775807 : Int64))), .second, .val (.long fv), .second, .val (.long ((fv + nv) - (1 : Int64))), .second, .val (.ref b3), .unset]) rfl k) ?_
  show Rch p e below (T6.setTop (mkF m 77 #[.val (.long q0), .second, .val (.long q1), .second, .val (.int p2), .val (.long nv), .second, .val (.long (q0 &&& (9223372036854775807 : Int64))), .second, .val (.long fv), .second, .val (.long ((fv + nv) - (1 : Int64))), .second, .val (.ref b3), .unset] [])) _
  obtain ⟨T7, h7, X7, e7, E7, A7, D7, -, st7⟩ := newO X6 hx hZ hown (hw _ (List.mem_of_getElem? (i := 1) rfl)) (hw _ (List.mem_of_getElem? (i := 2) rfl)) (hw _ (List.mem_of_getElem? (i := 3) rfl)) rfl (g := (mkF m 77 #[.val (.long q0), .second, .val (.long q1), .second, .val (.int p2), .val (.long nv), .second, .val (.long (q0 &&& (9223372036854775807 : Int64))), .second, .val (.long fv), .second, .val (.long ((fv + nv) - (1 : Int64))), .second, .val (.ref b3), .unset] [])) rfl (hb hby at_77) (by decide) (by decide)
  obtain ⟨b7, g7⟩ : ∃ z, z = T6.heap.size := ⟨_, rfl⟩
  rw [← g7] at A7 D7 st7
  have ne_b3_b7 : b3 ≠ b7 := Nat.ne_of_lt (Nat.lt_of_lt_of_le Fa_b3.lt (Nat.le_of_eq g7.symm))
  have g_b7 : n0 ≤ b7 := Nat.le_trans Z0 (Nat.le_of_eq g7.symm)
  have E_b3 := E_b3.ext E7
  have Fa_b3 := Fa_b3.ext E7
  have Fb_b3 := Fb_b3.ext E7
  have Z0 := Nat.le_trans Z0 E7.1
  have E_b7 := A7
  have F_from_b7 : Fld Z h7 b7 "com/example/urchin/urchin/service/Protocol$Span" "from" "J" (.long (0 : Int64)) := D7 (Or.inr (hw _ (List.mem_of_getElem? (i := 11) rfl))) (ty := .long) (by decide)
  have F_to_b7 : Fld Z h7 b7 "com/example/urchin/urchin/service/Protocol$Span" "to" "J" (.long (0 : Int64)) := D7 (Or.inr (hw _ (List.mem_of_getElem? (i := 13) rfl))) (ty := .long) (by decide)
  have F_partial_b7 : Fld Z h7 b7 "com/example/urchin/urchin/service/Protocol$Span" "partial" "Z" (.int (0 : Int32)) := D7 (Or.inr (hw _ (List.mem_of_getElem? (i := 15) rfl))) (ty := .boolean) (by decide)
  refine Rch.go st7 ?_
  show Rch p e below (T7.setTop (mkF m 80 #[.val (.long q0), .second, .val (.long q1), .second, .val (.int p2), .val (.long nv), .second, .val (.long (q0 &&& (9223372036854775807 : Int64))), .second, .val (.long fv), .second, .val (.long ((fv + nv) - (1 : Int64))), .second, .val (.ref b3), .unset] [(.ref b7)])) _
  refine Rch.go (fun _ k => XS.dup X7.here hx rfl (hb hby at_80) rfl rfl k) ?_
  show Rch p e below (T7.setTop (mkF m 81 #[.val (.long q0), .second, .val (.long q1), .second, .val (.int p2), .val (.long nv), .second, .val (.long (q0 &&& (9223372036854775807 : Int64))), .second, .val (.long fv), .second, .val (.long ((fv + nv) - (1 : Int64))), .second, .val (.ref b3), .unset] [(.ref b7), (.ref b7)])) _
  refine Rch.go (fun _ k => XS.lconst X7.here hx rfl (hb hby at_81) k) ?_
  show Rch p e below (T7.setTop (mkF m 82 #[.val (.long q0), .second, .val (.long q1), .second, .val (.int p2), .val (.long nv), .second, .val (.long (q0 &&& (9223372036854775807 : Int64))), .second, .val (.long fv), .second, .val (.long ((fv + nv) - (1 : Int64))), .second, .val (.ref b3), .unset] [(.long (0 : Int64)), (.ref b7), (.ref b7)])) _
  refine Rch.go (fun _ k => XS.lload X7.here hx rfl (hb hby at_82) rfl  k) ?_
  show Rch p e below (T7.setTop (mkF m 84 #[.val (.long q0), .second, .val (.long q1), .second, .val (.int p2), .val (.long nv), .second, .val (.long (q0 &&& (9223372036854775807 : Int64))), .second, .val (.long fv), .second, .val (.long ((fv + nv) - (1 : Int64))), .second, .val (.ref b3), .unset] [(.long nv), (.long (0 : Int64)), (.ref b7), (.ref b7)])) _
  refine Rch.go (fun _ k => XS.lconst X7.here hx rfl (hb hby at_84) k) ?_
  show Rch p e below (T7.setTop (mkF m 85 #[.val (.long q0), .second, .val (.long q1), .second, .val (.int p2), .val (.long nv), .second, .val (.long (q0 &&& (9223372036854775807 : Int64))), .second, .val (.long fv), .second, .val (.long ((fv + nv) - (1 : Int64))), .second, .val (.ref b3), .unset] [(.long (1 : Int64)), (.long nv), (.long (0 : Int64)), (.ref b7), (.ref b7)])) _
  refine Rch.go (fun _ k => XS.lsub X7.here hx rfl (hb hby at_85) rfl k) ?_
  show Rch p e below (T7.setTop (mkF m 86 #[.val (.long q0), .second, .val (.long q1), .second, .val (.int p2), .val (.long nv), .second, .val (.long (q0 &&& (9223372036854775807 : Int64))), .second, .val (.long fv), .second, .val (.long ((fv + nv) - (1 : Int64))), .second, .val (.ref b3), .unset] [(.long (nv - (1 : Int64))), (.long (0 : Int64)), (.ref b7), (.ref b7)])) _
  refine Rch.go (fun _ k => XS.iconst X7.here hx rfl (hb hby at_86) k) ?_
  show Rch p e below (T7.setTop (mkF m 87 #[.val (.long q0), .second, .val (.long q1), .second, .val (.int p2), .val (.long nv), .second, .val (.long (q0 &&& (9223372036854775807 : Int64))), .second, .val (.long fv), .second, .val (.long ((fv + nv) - (1 : Int64))), .second, .val (.ref b3), .unset] [(.int (0 : Int32)), (.long (nv - (1 : Int64))), (.long (0 : Int64)), (.ref b7), (.ref b7)])) _
  refine Rch.callC X7 hx hZ rfl hown (hw _ (List.mem_of_getElem? (i := 4) rfl)) (hw _ (List.mem_of_getElem? (i := 5) rfl)) (hw _ (List.mem_of_getElem? (i := 3) rfl)) (hw _ (List.mem_of_getElem? (i := 6) rfl)) (by decide) (rm1 l Z a0 hw [] b7 (0 : Int64) (nv - (1 : Int64)) (0 : Int32) (.long (0 : Int64)) (.long (0 : Int64)) (.int (0 : Int32)) h7 n0 Z0 E_b7 g_b7 F_from_b7 F_to_b7 F_partial_b7) 1 (by decide) (by decide) (by decide) (by decide) e7 (g := (mkF m 87 #[.val (.long q0), .second, .val (.long q1), .second, .val (.int p2), .val (.long nv), .second, .val (.long (q0 &&& (9223372036854775807 : Int64))), .second, .val (.long fv), .second, .val (.long ((fv + nv) - (1 : Int64))), .second, .val (.ref b3), .unset] [(.int (0 : Int32)), (.long (nv - (1 : Int64))), (.long (0 : Int64)), (.ref b7), (.ref b7)])) rfl (by rw [hml]; rfl) b7 [(.long (0 : Int64)), (.long (nv - (1 : Int64))), (.int (0 : Int32))] [(.ref b7)] rfl (lenOf pd0_0 rfl) rfl (by show 2 * 0 + _ ≤ _; exact Nat.le_of_eq rfl) (hb hby at_87) ?_
  intro v8 T8 L8 X8 hQ8
  obtain ⟨rfl, N8q, K8, _, Fa_b7, Fb_b7⟩ := hQ8
  have E_b3 := E_b3.keep K8
  have Fa_b3 := Fa_b3.keep K8 (ninS ne_b3_b7 nin0)
  have Fb_b3 := Fb_b3.keep K8 (ninS ne_b3_b7 nin0)
  have E_b7 := E_b7.keep K8
  have Z0 := Nat.le_trans Z0 K8.1
  have N8 := Fr.app N6 N8q
  show Rch p e below (T8.setTop (mkF m 90 #[.val (.long q0), .second, .val (.long q1), .second, .val (.int p2), .val (.long nv), .second, .val (.long (q0 &&& (9223372036854775807 : Int64))), .second, .val (.long fv), .second, .val (.long ((fv + nv) - (1 : Int64))), .second, .val (.ref b3), .unset] [(.ref b7)])) _
  refine Rch.go (fun _ k => XS.astore X8.here hx rfl (hb hby at_90) rfl rfl (l' := #[.val (.long q0), .second, .val (.long q1), .second, .val (.int p2), .val (.long nv), .second, .val (.long (q0 &&& (9223372036854775807 : Int64))), .second, .val (.long fv), .second, .val (.long ((fv + nv) - (1 : Int64))), .second, .val (.ref b3), .val (.ref b7)]) rfl k) ?_
  show Rch p e below (T8.setTop (mkF m 92 #[.val (.long q0), .second, .val (.long q1), .second, .val (.int p2), .val (.long nv), .second, .val (.long (q0 &&& (9223372036854775807 : Int64))), .second, .val (.long fv), .second, .val (.long ((fv + nv) - (1 : Int64))), .second, .val (.ref b3), .val (.ref b7)] [])) _
  refine Rch.go (fun _ k => XS.aload X8.here hx rfl (hb hby at_92) rfl rfl k) ?_
  show Rch p e below (T8.setTop (mkF m 94 #[.val (.long q0), .second, .val (.long q1), .second, .val (.int p2), .val (.long nv), .second, .val (.long (q0 &&& (9223372036854775807 : Int64))), .second, .val (.long fv), .second, .val (.long ((fv + nv) - (1 : Int64))), .second, .val (.ref b3), .val (.ref b7)] [(.ref b3)])) _
  refine Rch.callV X8 hx hZ hown (hw _ (List.mem_of_getElem? (i := 16) rfl)) (hw _ (List.mem_of_getElem? (i := 17) rfl)) (notFace_of_selects (args := #[]) (mvT hZ (hw _ (List.mem_of_getElem? (i := 19) rfl)))) (hw _ (List.mem_of_getElem? (i := 19) rfl)) (hw _ (List.mem_of_getElem? (i := 18) rfl)) (hw _ (List.mem_of_getElem? (i := 3) rfl)) (hw _ (List.mem_of_getElem? (i := 20) rfl)) (by decide) (rm3 l Z a0 hw [] b3 fv ((fv + nv) - (1 : Int64)) T8.heap n0 Z0 Fa_b3 Fb_b3) 0 (by decide) (by decide) (by decide) (by decide) rfl E_b3 (g := (mkF m 94 #[.val (.long q0), .second, .val (.long q1), .second, .val (.int p2), .val (.long nv), .second, .val (.long (q0 &&& (9223372036854775807 : Int64))), .second, .val (.long fv), .second, .val (.long ((fv + nv) - (1 : Int64))), .second, .val (.ref b3), .val (.ref b7)] [(.ref b3)])) rfl (by rw [hml]; rfl) [] [] rfl (lenOf pd0_1 rfl) rfl (by show 2 * 0 + _ ≤ _; exact Nat.le_of_eq rfl) (hb hby at_94) ?_
  intro v9 T9 L9 X9 hQ9
  obtain ⟨rfl, N9q, e9⟩ := hQ9
  have N9 := Fr.app N8 N9q
  show Rch p e below (T9.setTop (mkF m 97 #[.val (.long q0), .second, .val (.long q1), .second, .val (.int p2), .val (.long nv), .second, .val (.long (q0 &&& (9223372036854775807 : Int64))), .second, .val (.long fv), .second, .val (.long ((fv + nv) - (1 : Int64))), .second, .val (.ref b3), .val (.ref b7)] [(.long ((((fv + nv) - (1 : Int64)) - fv) + (1 : Int64)))])) _
  refine Rch.go (fun _ k => XS.lload X9.here hx rfl (hb hby at_97) rfl  k) ?_
  show Rch p e below (T9.setTop (mkF m 99 #[.val (.long q0), .second, .val (.long q1), .second, .val (.int p2), .val (.long nv), .second, .val (.long (q0 &&& (9223372036854775807 : Int64))), .second, .val (.long fv), .second, .val (.long ((fv + nv) - (1 : Int64))), .second, .val (.ref b3), .val (.ref b7)] [(.long nv), (.long ((((fv + nv) - (1 : Int64)) - fv) + (1 : Int64)))])) _
  refine Rch.go (fun _ k => XS.lcmp X9.here hx rfl (hb hby at_99) rfl k) ?_
  show Rch p e below (T9.setTop (mkF m 100 #[.val (.long q0), .second, .val (.long q1), .second, .val (.int p2), .val (.long nv), .second, .val (.long (q0 &&& (9223372036854775807 : Int64))), .second, .val (.long fv), .second, .val (.long ((fv + nv) - (1 : Int64))), .second, .val (.ref b3), .val (.ref b7)] [(.int (lcmpW ((((fv + nv) - (1 : Int64)) - fv) + (1 : Int64)) nv))])) _
  refine Rch.go (fun _ k => XS.ifNo X9.here hx rfl (hb hby at_100) rfl ((if0 _ _).trans (teq ((lw_eq _ _).mpr (own_len fv nv))).2) k) ?_
  show Rch p e below (T9.setTop (mkF m 103 #[.val (.long q0), .second, .val (.long q1), .second, .val (.int p2), .val (.long nv), .second, .val (.long (q0 &&& (9223372036854775807 : Int64))), .second, .val (.long fv), .second, .val (.long ((fv + nv) - (1 : Int64))), .second, .val (.ref b3), .val (.ref b7)] [])) _
  refine Rch.go (fun _ k => XS.aload X9.here hx rfl (hb hby at_103) rfl rfl k) ?_
  show Rch p e below (T9.setTop (mkF m 105 #[.val (.long q0), .second, .val (.long q1), .second, .val (.int p2), .val (.long nv), .second, .val (.long (q0 &&& (9223372036854775807 : Int64))), .second, .val (.long fv), .second, .val (.long ((fv + nv) - (1 : Int64))), .second, .val (.ref b3), .val (.ref b7)] [(.ref b7)])) _
  refine Rch.callV X9 hx hZ hown (hw _ (List.mem_of_getElem? (i := 16) rfl)) (hw _ (List.mem_of_getElem? (i := 17) rfl)) (notFace_of_selects (args := #[]) (mvT hZ (hw _ (List.mem_of_getElem? (i := 19) rfl)))) (hw _ (List.mem_of_getElem? (i := 19) rfl)) (hw _ (List.mem_of_getElem? (i := 18) rfl)) (hw _ (List.mem_of_getElem? (i := 3) rfl)) (hw _ (List.mem_of_getElem? (i := 20) rfl)) (by decide) (rm3 l Z a0 hw [] b7 (0 : Int64) (nv - (1 : Int64)) T8.heap n0 Z0 Fa_b7 Fb_b7) 0 (by decide) (by decide) (by decide) (by decide) e9 E_b7 (g := (mkF m 105 #[.val (.long q0), .second, .val (.long q1), .second, .val (.int p2), .val (.long nv), .second, .val (.long (q0 &&& (9223372036854775807 : Int64))), .second, .val (.long fv), .second, .val (.long ((fv + nv) - (1 : Int64))), .second, .val (.ref b3), .val (.ref b7)] [(.ref b7)])) rfl (by rw [hml]; rfl) [] [] rfl (lenOf pd0_1 rfl) rfl (by show 2 * 0 + _ ≤ _; exact Nat.le_of_eq rfl) (hb hby at_105) ?_
  intro v10 T10 L10 X10 hQ10
  obtain ⟨rfl, N10q, e10⟩ := hQ10
  have N10 := Fr.app N9 N10q
  show Rch p e below (T10.setTop (mkF m 108 #[.val (.long q0), .second, .val (.long q1), .second, .val (.int p2), .val (.long nv), .second, .val (.long (q0 &&& (9223372036854775807 : Int64))), .second, .val (.long fv), .second, .val (.long ((fv + nv) - (1 : Int64))), .second, .val (.ref b3), .val (.ref b7)] [(.long (((nv - (1 : Int64)) - (0 : Int64)) + (1 : Int64)))])) _
  refine Rch.go (fun _ k => XS.lload X10.here hx rfl (hb hby at_108) rfl  k) ?_
  show Rch p e below (T10.setTop (mkF m 110 #[.val (.long q0), .second, .val (.long q1), .second, .val (.int p2), .val (.long nv), .second, .val (.long (q0 &&& (9223372036854775807 : Int64))), .second, .val (.long fv), .second, .val (.long ((fv + nv) - (1 : Int64))), .second, .val (.ref b3), .val (.ref b7)] [(.long nv), (.long (((nv - (1 : Int64)) - (0 : Int64)) + (1 : Int64)))])) _
  refine Rch.go (fun _ k => XS.lcmp X10.here hx rfl (hb hby at_110) rfl k) ?_
  show Rch p e below (T10.setTop (mkF m 111 #[.val (.long q0), .second, .val (.long q1), .second, .val (.int p2), .val (.long nv), .second, .val (.long (q0 &&& (9223372036854775807 : Int64))), .second, .val (.long fv), .second, .val (.long ((fv + nv) - (1 : Int64))), .second, .val (.ref b3), .val (.ref b7)] [(.int (lcmpW (((nv - (1 : Int64)) - (0 : Int64)) + (1 : Int64)) nv))])) _
  refine Rch.go (fun _ k => XS.ifNo X10.here hx rfl (hb hby at_111) rfl ((if0 _ _).trans (teq ((lw_eq _ _).mpr (own_len0 nv))).2) k) ?_
  show Rch p e below (T10.setTop (mkF m 114 #[.val (.long q0), .second, .val (.long q1), .second, .val (.int p2), .val (.long nv), .second, .val (.long (q0 &&& (9223372036854775807 : Int64))), .second, .val (.long fv), .second, .val (.long ((fv + nv) - (1 : Int64))), .second, .val (.ref b3), .val (.ref b7)] [])) _
  refine Rch.go (fun _ k => XS.iconst X10.here hx rfl (hb hby at_114) k) ?_
  show Rch p e below (T10.setTop (mkF m 115 #[.val (.long q0), .second, .val (.long q1), .second, .val (.int p2), .val (.long nv), .second, .val (.long (q0 &&& (9223372036854775807 : Int64))), .second, .val (.long fv), .second, .val (.long ((fv + nv) - (1 : Int64))), .second, .val (.ref b3), .val (.ref b7)] [(.int (1 : Int32))])) _
  refine Rch.go (fun _ k => XS.goto X10.here hx rfl (pc0 := 115) (pc' := 119) rfl (hb hby at_115) (by decide) (by decide) k) ?_
  show Rch p e below (T10.setTop (mkF m 119 #[.val (.long q0), .second, .val (.long q1), .second, .val (.int p2), .val (.long nv), .second, .val (.long (q0 &&& (9223372036854775807 : Int64))), .second, .val (.long fv), .second, .val (.long ((fv + nv) - (1 : Int64))), .second, .val (.ref b3), .val (.ref b7)] [(.int (1 : Int32))])) _
  exact Rch.ret X10 hlk (fun h => by rw [hret] at h; cases h) (fun fs hr => retN X10 hx (t := .boolean) hret (by simp) (hb hby at_119) hr) ⟨rfl, N10⟩ (by decide) (by decide)
set_option maxRecDepth 65536 in
set_option maxHeartbeats 40000000 in
theorem comes_1 {Post : Tables → Env → Array Value → State → Outcome → State → Prop} (hpost : ∀ tb e args s v u, (limb_1_1.after args s (.returned v) u = true ∧ limb_1_2.after args s (.returned v) u = true ∧ True) → FrameEnd s (.returned v) u (Jvm.fieldLocs frame_1_writes args s ++ Jvm.arrayLocs frame_1_arrays args s ++ Jvm.staticLocs frame_1_statics s) 16 128 → Post tb e args s (.returned v) u) :
    ArmFor flags0 classFile x code maxLocals ret World_1 tables_1 room_1 Calls_1 rest_1 Pre_1 Post := by
  intro l hfl _ _ p e ha hc hk s m args below hf hA hF happ hP
  obtain ⟨hcalls, hrest, hpre⟩ := hP
  obtain ⟨-, -, -, hnamed, -, -, -, hat⟩ := (Spec.applies_iff hf).mp happ
  obtain ⟨hg, hn⟩ := and_e (Cond.before_iff.mp (show (Jvm.Cond.and given_1 narrow_1).before args s = true from hpre))
  obtain ⟨hcount, q0⟩ := and_e hg
  obtain ⟨b0, q1⟩ := and_e q0
  obtain ⟨b1, q2⟩ := and_e q1
  obtain ⟨w0, w1, w2, rfl⟩ : ∃ w0 w1 w2 : Value, args = #[w0, w1, w2] := by
    have hs : args.size = 3 := by simpa [Cond.value, given_1] using hcount
    obtain ⟨L⟩ := args
    match L, hs with
    | [w0, w1, w2], _ => exact ⟨w0, w1, w2, rfl⟩
  have hw := fun d (hd : d ∈ tables_1) => atoms_spec (ws := Jvm.Cond.code x code maxLocals ret :: tables_1) hat d (List.mem_cons_of_mem _ hd)
  have hfit : Fit s := fun {y c} hc i hi => by
    obtain ⟨ha, rfl⟩ := Array.getElem?_eq_some_iff.mp hc
    have q := List.all_eq_true.mp ((Array.all_eq_true_iff_forall_mem.mp hF) _ (Array.getElem_mem ha)) i (List.mem_range.mpr hi)
    simpa [Array.getElem?_eq_getElem hi] using q
  obtain ⟨i0, ei0⟩ := isL_v b0
  obtain rfl : w0 = (.long i0) := Option.some.inj ei0
  obtain ⟨i1, ei1⟩ := isL_v b1
  obtain rfl : w1 = (.long i1) := Option.some.inj ei1
  obtain ⟨i2, ei2⟩ := is_v q2
  obtain rfl : w2 = (.int i2) := Option.some.inj ei2
  obtain ⟨n, o, h1, h2, h3, _, L, rfl, ⟨rfl, N⟩, hq⟩ := rm0 l s _ hw tables_1 i0 i1 i2 s.heap s.heap.size (Nat.le_refl _)  p e ha hc hk s m _ below hf ((Spec.applies_iff_loose hf).mp happ).1 ⟨rfl, State.Warmed39.refl s, rfl⟩ trivial
  refine ⟨n, _, h1, h2, h3, hpost _ _ _ _ _ _ ⟨Cond.after_iff.mpr rfl, Cond.after_iff.mpr (eq_i res_at (Term.int_eval (1)) rfl), trivial⟩ ⟨hq.1, hq.2.1, (hq.2.2.sift fun y hy => Or.inr (N y hy)).mono (by decide) (by decide)⟩⟩
theorem main_1_1 : Claimed_1_1 := comes_1 fun _ _ _ _ _ _ h hF => ⟨h.1, hF⟩
theorem main_1_2 : Claimed_1_2 := comes_1 fun _ _ _ _ _ _ h hF => ⟨h.2.1, hF⟩
end Jvm.Pilot.@@N@@
namespace Jvm.Pilot.@@N@@
open Jvm Jvm.ClassFile Sem Op Lib Jvm.Free Jvm.Stand Jvm.Pilot.@@N@@.Jvm.D
/-! MADE BY PROGRAM (witnessworld.py) out of the Statement's table words and the real class files: 9 classes; the members and pool entries that the words name. The judged class is class 1, her method 1. -/
namespace start1
open Jvm.ClassFile
def u (s : String) : CpInfo := .utf8 (stringToUtf16 s)
/-- a pool by its gaps: so many unusable entries, then the entry; so many at the end -/
def gap : Nat → List CpInfo → List CpInfo
  | 0, r => r
  | n + 1, r => .unusable :: gap n r
def poolList (es : List (Nat × CpInfo)) (last : Nat) : List CpInfo := es.foldr (fun e r => gap e.1 (e.2 :: r)) (gap last [])
def pool (es : List (Nat × CpInfo)) (last : Nat) : Array CpInfo := ⟨poolList es last⟩
def fileOf (pool : Array CpInfo) (this : Nat) (attrs : Array Attribute := #[]) (ms : Array MethodInfo := #[]) (fl : Nat := 33) (sup : Nat := 0) (ifs : Array Nat := #[]) (fds : Array FieldInfo := #[]) : ClassFile where
  minorVersion := 0
  majorVersion := 65
  constantPool := pool
  accessFlags := fl
  thisClass := this
  superClass := sup
  interfaces := ifs
  fields := fds
  methods := ms
  attributes := attrs
def plain (name : String) (sup : Option ClassId) : Class where
  name := name
  kind := .ordinary
  loader := none
  accessFlags := 33
  super := sup
  interfaces := #[]
  cf := none
  fields := #[]
  methods := #[]
  instanceTypes := #[]
  staticTypes := #[]
  resolved := #[]
  callSites := []
  init := .initialized
  statics := none
  mirror := none

def pool0 : Array CpInfo := pool [(5, u "<init>"), (0, u "()V"), (1, .class_ 10), (1, u "java/lang/Object")] 113

def k0c0 : Code := { maxStack := 0, maxLocals := 1, code := object_method_1_code, exceptionTable := #[], attributes := #[] }
def k0m0 : Method := { name := "<init>", desc := "()V", sig := { parameters := [], returnType := none }, accessFlags := 1, code := some k0c0 }
/-- java/lang/Object -/
def k0 : Class := { plain "java/lang/Object" none with
  accessFlags := 33
  interfaces := #[]
  cf := some (fileOf pool0 8 #[] #[{ accessFlags := 1, nameIndex := 5, descriptorIndex := 6, attributes := #[] }] 33 0 #[] #[])
  fields := #[]
  methods := #[k0m0]
  instanceTypes := #[]
  staticTypes := #[]
  resolved := Array.replicate 124 none
  statics := none }

def pool1 : Array CpInfo := pool [(2, .class_ 4), (1, u "java/lang/Object"), (0, u "<init>"), (0, u "()V"), (2, .long 9223372036854775807), (1, .class_ 12), (0, u "com/example/urchin/urchin/service/Protocol$Span"), (0, .methodref 11 14), (0, .nameAndType 5 15), (0, u "(JJZ)V"), (0, .methodref 11 17), (0, .nameAndType 18 19), (0, u "length"), (0, u "()J"), (0, .class_ 21), (0, u "com/example/urchin/urchin/service/SpanLengthPinLaw"), (2, u "law"), (0, u "(JJI)Z")] 7

def k1m0 : Method := { name := "<init>", desc := "()V", sig := { parameters := [], returnType := none }, accessFlags := 2, code := none }
def k1c1 : Code := { maxStack := 8, maxLocals := 15, code := code, exceptionTable := #[], attributes := #[] }
def k1m1 : Method := { name := "law", desc := "(JJI)Z", sig := { parameters := [.long, .long, .int], returnType := some .boolean }, accessFlags := 9, code := some k1c1 }
/-- com/example/urchin/urchin/service/SpanLengthPinLaw -/
def k1 : Class := { plain "com/example/urchin/urchin/service/SpanLengthPinLaw" (some 0) with
  accessFlags := 49
  interfaces := #[]
  cf := some (fileOf pool1 20 #[] #[{ accessFlags := 2, nameIndex := 5, descriptorIndex := 6, attributes := #[] }, { accessFlags := 9, nameIndex := 24, descriptorIndex := 25, attributes := #[] }] 49 2 #[] #[])
  fields := #[]
  methods := #[k1m0, k1m1]
  instanceTypes := #[]
  staticTypes := #[]
  resolved := Array.replicate 33 none
  statics := none }

def pool2 : Array CpInfo := pool [(1, .methodref 2 3), (0, .class_ 4), (0, .nameAndType 5 6), (0, u "java/lang/Object"), (0, u "<init>"), (0, u "()V"), (0, .fieldref 8 9), (0, .class_ 10), (0, .nameAndType 11 12), (0, u "com/example/urchin/urchin/service/Protocol$Span"), (0, u "from"), (0, u "J"), (0, .fieldref 8 14), (0, .nameAndType 15 12), (0, u "to"), (0, .fieldref 8 17), (0, .nameAndType 18 19), (0, u "partial"), (0, u "Z"), (0, u "(JJZ)V"), (2, u "()J"), (0, u "length"), (4, .class_ 30), (0, u "com/example/urchin/urchin/service/Protocol")] 2

def k2c0 : Code := { maxStack := 3, maxLocals := 6, code := prog_20_method_1_code, exceptionTable := #[], attributes := #[] }
def k2m0 : Method := { name := "<init>", desc := "(JJZ)V", sig := { parameters := [.long, .long, .boolean], returnType := none }, accessFlags := 0, code := some k2c0 }
def k2c1 : Code := { maxStack := 4, maxLocals := 1, code := prog_20_method_4_code, exceptionTable := #[], attributes := #[] }
def k2m1 : Method := { name := "length", desc := "()J", sig := { parameters := [], returnType := some .long }, accessFlags := 0, code := some k2c1 }
/-- com/example/urchin/urchin/service/Protocol$Span -/
def k2 : Class := { plain "com/example/urchin/urchin/service/Protocol$Span" (some 0) with
  accessFlags := 32
  interfaces := #[]
  cf := some (fileOf pool2 8 #[.nestHost 29] #[{ accessFlags := 0, nameIndex := 5, descriptorIndex := 20, attributes := #[] }, { accessFlags := 0, nameIndex := 24, descriptorIndex := 23, attributes := #[] }] 32 2 #[] #[{ accessFlags := 18, nameIndex := 11, descriptorIndex := 12, attributes := #[] }, { accessFlags := 18, nameIndex := 15, descriptorIndex := 12, attributes := #[] }, { accessFlags := 18, nameIndex := 18, descriptorIndex := 19, attributes := #[] }])
  fields := #[{ name := "from", type := .long, accessFlags := 18, slot := 0, constantValue := 0 }, { name := "to", type := .long, accessFlags := 18, slot := 1, constantValue := 0 }, { name := "partial", type := .boolean, accessFlags := 18, slot := 2, constantValue := 0 }]
  methods := #[k2m0, k2m1]
  instanceTypes := #[.long, .long, .boolean]
  staticTypes := #[]
  resolved := Array.replicate 33 none
  statics := none }

def pool3 : Array CpInfo := pool [(1, u "java/lang/Cloneable"), (0, .class_ 1), (0, u "java/lang/Object"), (0, .class_ 3)] 3

/-- java/lang/Cloneable -/
def k3 : Class := { plain "java/lang/Cloneable" (some 0) with
  accessFlags := 1537
  interfaces := #[]
  cf := some (fileOf pool3 2 #[] #[] 1537 4 #[] #[])
  fields := #[]
  methods := #[]
  instanceTypes := #[]
  staticTypes := #[]
  resolved := Array.replicate 8 none
  statics := none }

def pool4 : Array CpInfo := pool [(1, u "java/io/Serializable"), (0, .class_ 1), (0, u "java/lang/Object"), (0, .class_ 3)] 3

/-- java/io/Serializable -/
def k4 : Class := { plain "java/io/Serializable" (some 0) with
  accessFlags := 1537
  interfaces := #[]
  cf := some (fileOf pool4 2 #[] #[] 1537 4 #[] #[])
  fields := #[]
  methods := #[]
  instanceTypes := #[]
  staticTypes := #[]
  resolved := Array.replicate 8 none
  statics := none }

/-- the primitive byte -/
def k5 : Class := { plain "byte" none with kind := .primitive 'B', accessFlags := 0x411 }
/-- [B -/
def k6 : Class := { plain "[B" (some 0) with kind := .array 5 .byte, interfaces := #[3, 4], accessFlags := 1041 }

/-- the primitive int -/
def k7 : Class := { plain "int" none with kind := .primitive 'I', accessFlags := 0x411 }
/-- [I -/
def k8 : Class := { plain "[I" (some 0) with kind := .array 7 .int, interfaces := #[3, 4], accessFlags := 1041 }

def heap : Heap := #[]
def classes : Array Class := #[k0, k1, k2, k3, k4, k5, k6, k7, k8]
def interned : List (Array UInt16 × Addr) := []
def slotsUsed : Nat := 0
def theMethod : MethodId := ⟨1, 1⟩
def args0 : Array Value := #[.long 5, .long 7, .int 1]
def aboutOver (below : List Frame) : State where
  vm := { classes := classes, interned := interned.toArray }
  heap := heap
  slotsUsed := slotsUsed
  threads := #[{ frames := .invoking theMethod args0 :: below }]
def below0 : List Frame := [.native { method := ⟨0, 0⟩, args := #[] }]
def about1 : State := aboutOver below0
def p0 : Program := .bare "" "" ""
def e0 : Env := launch0.env 0 0 0
theorem w_frames : about1.frames = Frame.invoking theMethod args0 :: below0 := rfl
set_option maxRecDepth 65536 in
theorem w_args : argsFit about1.vm theMethod args0 = true := by decide +kernel
set_option maxRecDepth 65536 in
theorem w_heap : heapFits about1 = true := by decide +kernel
set_option maxRecDepth 65536 in
theorem w_runnable : about1.curStatus? = some .runnable := by decide +kernel
set_option maxRecDepth 65536 in
theorem w_alone : about1.alone = true := by decide +kernel
set_option maxRecDepth 65536 in
theorem w_named : about1.methodNamed? x = some theMethod := by decide +kernel
set_option maxRecDepth 65536 in
theorem w_hears : about1.hears theMethod below0 = true := by decide +kernel
set_option maxRecDepth 65536 in
theorem w_ripe : about1.ripe theMethod args0 below0 = true := by decide +kernel
theorem w_running : about1.status = .running := rfl
set_option maxRecDepth 65536 in
theorem w_room : about1.hasRoom e0.platform room_1 = true :=
  launch0.hasRoom_least _ room_1 (by decide +kernel) (by decide +kernel) (by decide +kernel) (by decide +kernel) (by decide +kernel) (by decide +kernel)
theorem allAtoms_all (ts : List Jvm.Cond) (a : Array Jvm.Value) (st : Jvm.State) : (allAtoms ts).before a st = ts.all (fun c => c.before a st) := by
  induction ts with
  | nil => rfl
  | cons c t ih =>
    show (Jvm.Cond.and c (allAtoms t)).before a st = _
    rw [Jvm.Cond.before_and, ih, List.all_cons]
def words1 : List Jvm.Cond := Jvm.Cond.code x code maxLocals ret :: tables_1
/-- a 'code' word, met by the world's own term for the bytes: nothing is compared byte by byte -/
theorem code_word {y : MethodName} {bytes : ByteArray} {mx : Nat} {rt : Option FieldType} {a : Array Value} {s : State} {m : MethodId} {meth : Method} {c : Code} (h1 : s.methodNamed? y = some m) (h2 : s.vm.method? m = some meth) (h3 : meth.code = some c) (h4 : c.code = bytes)
    (h5 : (c.maxLocals == mx && c.exceptionTable.isEmpty && decide (c.maxStack ≤ mostOperands) && decide (meth.sig.returnType = rt) && !meth.locks && decide (parseMethodDescriptor y.desc = some meth.sig)) = true) : (Jvm.Cond.code y bytes mx rt).before a s = true := by
  simp only [Bool.and_eq_true, beq_iff_eq, Bool.not_eq_true', decide_eq_true_eq] at h5
  obtain ⟨⟨⟨⟨⟨g1, g2⟩, g3⟩, g4⟩, g5⟩, g6⟩ := h5
  simp [Cond.before, Cond.holds, Cond.value, h1, h2, h3, h4, g1, g2, g3, g4, g5, g6]
def isCode : Jvm.Cond → Bool
  | .code _ _ _ _ => true
  | _ => false
theorem all_split {L : List Jvm.Cond} {P : Jvm.Cond → Bool} (h1 : L.all (fun c => isCode c || P c) = true) (h2 : ∀ c ∈ L.filter isCode, P c = true) : L.all P = true := by
  refine List.all_eq_true.mpr fun c hc => ?_
  have h := List.all_eq_true.mp h1 c hc
  rcases Bool.eq_false_or_eq_true (isCode c) with hi | hi
  · exact h2 c (List.mem_filter.mpr ⟨hc, hi⟩)
  · simpa [hi] using h
set_option maxRecDepth 65536 in
theorem w_c0 : (Jvm.Cond.code x code maxLocals ret).before args0 about1 = true := code_word (m := ⟨1, 1⟩) (meth := k1m1) (c := k1c1) (by decide +kernel) rfl rfl rfl (by decide +kernel)
set_option maxRecDepth 65536 in
theorem w_c1 : (Jvm.Cond.code ({ cls := "com/example/urchin/urchin/service/Protocol$Span", name := "<init>", desc := "(JJZ)V" } : Jvm.MethodName) prog_20_method_1_code (6 : Nat) (Option.none : Option Jvm.ClassFile.FieldType)).before args0 about1 = true := code_word (m := ⟨2, 0⟩) (meth := k2m0) (c := k2c0) (by decide +kernel) rfl rfl rfl (by decide +kernel)
set_option maxRecDepth 65536 in
theorem w_c2 : (Jvm.Cond.code ({ cls := "java/lang/Object", name := "<init>", desc := "()V" } : Jvm.MethodName) object_method_1_code (1 : Nat) (Option.none : Option Jvm.ClassFile.FieldType)).before args0 about1 = true := code_word (m := ⟨0, 0⟩) (meth := k0m0) (c := k0c0) (by decide +kernel) rfl rfl rfl (by decide +kernel)
set_option maxRecDepth 65536 in
theorem w_c3 : (Jvm.Cond.code ({ cls := "com/example/urchin/urchin/service/Protocol$Span", name := "length", desc := "()J" } : Jvm.MethodName) prog_20_method_4_code (1 : Nat) (Option.some Jvm.ClassFile.FieldType.long)).before args0 about1 = true := code_word (m := ⟨2, 1⟩) (meth := k2m1) (c := k2c1) (by decide +kernel) rfl rfl rfl (by decide +kernel)
def codes1 : List Jvm.Cond := [Jvm.Cond.code x code maxLocals ret, Jvm.Cond.code ({ cls := "com/example/urchin/urchin/service/Protocol$Span", name := "<init>", desc := "(JJZ)V" } : Jvm.MethodName) prog_20_method_1_code (6 : Nat) (Option.none : Option Jvm.ClassFile.FieldType), Jvm.Cond.code ({ cls := "java/lang/Object", name := "<init>", desc := "()V" } : Jvm.MethodName) object_method_1_code (1 : Nat) (Option.none : Option Jvm.ClassFile.FieldType), Jvm.Cond.code ({ cls := "com/example/urchin/urchin/service/Protocol$Span", name := "length", desc := "()J" } : Jvm.MethodName) prog_20_method_4_code (1 : Nat) (Option.some Jvm.ClassFile.FieldType.long)]
set_option maxRecDepth 65536 in
theorem codes_eq : words1.filter isCode = codes1 := rfl
theorem w_codes : ∀ c ∈ words1.filter isCode, c.before args0 about1 = true := by
  rw [codes_eq]
  intro c hc
  simp only [codes1, List.mem_cons, List.not_mem_nil, or_false] at hc
  rcases hc with rfl | rfl | rfl | rfl
  · exact w_c0
  · exact w_c1
  · exact w_c2
  · exact w_c3
set_option maxRecDepth 65536 in
theorem w_t1 : words1.all (fun c => isCode c || c.before args0 about1) = true := by decide +kernel
theorem w_tables : (allAtoms (Jvm.Cond.code x code maxLocals ret :: tables_1)).before args0 about1 = true := by
  rw [allAtoms_all]
  show words1.all (fun c => c.before args0 about1) = true
  refine all_split ?_ w_codes
  rw [w_t1]
set_option maxRecDepth 65536 in
theorem w_case : (Jvm.Cond.and given_1 narrow_1).before args0 about1 = true := by decide +kernel
theorem w_applies : (headSpec (Jvm.Cond.code x code maxLocals ret :: tables_1) room_1).applies x e0.platform about1 = true :=
  (Spec.applies_iff w_frames).mpr ⟨w_running, w_runnable, w_alone, w_named, w_hears, w_ripe, w_room, w_tables⟩
theorem atStart : AtStart classFile x code maxLocals ret World_1 tables_1 room_1 Calls_1 rest_1 Pre_1 launch0 p0 e0 about1 theMethod args0 below0 :=
  ⟨lists_1, trivial, launch0.admits_env _ _ _, launch0.least_env, fairChoices_fair.cas, fairChoices_fair.clock, w_frames, w_args, w_heap, w_applies, trivial, trivial, w_case⟩
end start1
theorem witness_1 : WitnessClaimed_1 := ⟨start1.p0, start1.e0, start1.about1, start1.theMethod, start1.args0, start1.below0, start1.atStart⟩
end Jvm.Pilot.@@N@@
