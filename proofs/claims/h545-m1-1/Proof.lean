import JvmDerived
import JvmDerived.Pilot.@@N@@Statement
import JvmDerived.Pilot.@@N@@Code
set_option linter.unusedVariables false
set_option linter.unusedSimpArgs false
namespace Jvm.OwnKit
open Sem ClassFile Op Lib Jvm.Stand Jvm.Free Jvm.LawKit Jvm.RoadKit
/-- from A the run comes to a state of which P holds -/
def Rch (p : Program) (e : Env) (below : List Frame) (A : State) (P : State → Prop) : Prop := ∃ B, Steps p.tables e below A B ∧ P B
/-- the end of a body: it returned v, and Q says what it left -/
def Fin1 (s : State) (below : List Frame) (Q : Option Value → Heap → List Loc → Prop) (k n : Nat) (B : State) : Prop := ∃ v L, B.status = .running ∧ Ended B below (.returned v) ∧ Q v B.heap L ∧ FrameEnd s (.returned v) B L k n
section Own
variable {p : Program} {l : Launch} {e : Env} {R : Room} {s : State} {m : MethodId} {args : Array Value} {below : List Frame} {meth : Method} {c : Code} {T : State} {locs : List Loc} {cells slots : Nat} {A A' : State} {P P' : State → Prop} {Z : State} {a0 : Array Value} {h : Heap}
theorem Rch.go (h1 : ∀ t, Steps p.tables e below A' t → Steps p.tables e below A t) (k : Rch p e below A' P) : Rch p e below A P := by
  obtain ⟨B, q1, q2⟩ := k; exact ⟨B, h1 _ q1, q2⟩
theorem Rch.of (h1 : Steps p.tables e below A A') (k : Rch p e below A' P) : Rch p e below A P := by
  obtain ⟨B, q1, q2⟩ := k; exact ⟨B, h1.trans q1, q2⟩
theorem Rch.here (h1 : P A) : Rch p e below A P := ⟨A, Steps.refl _, h1⟩
theorem Rch.bind (k : Rch p e below A P) (f : ∀ B, P B → Rch p e below B P') : Rch p e below A P' := by
  obtain ⟨B, q1, q2⟩ := k
  obtain ⟨D, q3, q4⟩ := f B q2
  exact ⟨D, q1.trans q3, q4⟩
theorem Rch.ret {Q : Option Value → Heap → List Loc → Prop} {k n : Nat} (X : Stand p l e R s m args below meth c T locs cells slots) (hlk : meth.locks = false) {v : Option Value} (hv : meth.sig.returnType = none → v = none)
    (hA : ∀ fs, (∀ (f : JFrame) (acts : List Action), f.method = m → f.locked = none → f.entered = [] → (doReturn e (T.setTop f) acts v).1 = T.setFrames fs) → Steps p.tables e below A (T.setFrames fs))
    (hQ : Q v T.heap locs) (hk : cells ≤ k) (hn : slots ≤ n) : Rch p e below A (Fin1 s below Q k n) := by
  obtain ⟨fs, hr, hrun, hended, hW, hsame⟩ := X.leave (v := v) hv hlk
  exact ⟨_, hA fs hr, v, locs, hrun, hended, hQ, ⟨_, rfl⟩, hW, hsame.mono hk hn⟩
theorem wider (X : Stand p l e R s m args below meth c T locs cells slots) {k n : Nat} (hk : cells ≤ k) (hn : slots ≤ n) : Stand p l e R s m args below meth c T locs k n := { X with same := X.same.mono hk hn }
theorem retI' (X : Stand p l e R s m args below meth c T locs cells slots) (hx : p.tables.exec = Jvm.exec) {pc : Nat} {Ls : Array Slot} {z : Int32} {rest : List Value} (hret : meth.sig.returnType = some .int) (hd : decode c.code pc = .ok (.ireturn, 1)) {fs : List Frame}
    (hl : ∀ (f : JFrame) (acts : List Action), f.method = m → f.locked = none → f.entered = [] → (doReturn e (T.setTop f) acts (some (.int z))).1 = T.setFrames fs) : Steps p.tables e below (T.setTop (mkF m pc Ls (.int z :: rest))) (T.setFrames fs) := by
  have hm' : T.vm.method? m = some meth := X.method'
  have hn : narrow .int (.int z) = .int z := rfl
  show Steps p.tables e below (T.setTop { method := m, pc := pc, locals := Ls, stack := _ :: rest, locked := none }) _
  jvm_step X.here [X.here.top, hx, hd, hm', hret, hn]
  first | (intro acts; rw [hl _ acts rfl rfl rfl]) | rw [hl _ _ rfl rfl rfl]
  exact Steps.refl _
theorem retR' (X : Stand p l e R s m args below meth c T locs cells slots) (hx : p.tables.exec = Jvm.exec) {pc : Nat} {Ls : Array Slot} {w : Value} {t : FieldType} {rest : List Value} (hret : meth.sig.returnType = some t) (ht : t.isReference = true) (hw : w.isRef = true) (hd : decode c.code pc = .ok (.areturn, 1)) {fs : List Frame}
    (hl : ∀ (f : JFrame) (acts : List Action), f.method = m → f.locked = none → f.entered = [] → (doReturn e (T.setTop f) acts (some w)).1 = T.setFrames fs) : Steps p.tables e below (T.setTop (mkF m pc Ls (w :: rest))) (T.setFrames fs) :=
  retOut X hx hret (by rcases ref_cases hw with rfl | ⟨a, rfl⟩ <;> cases t <;> first | rfl | cases ht) (Or.inr (Or.inr (Or.inr (Or.inr ⟨rfl, ht, hw⟩)))) hd hl
theorem own_body {y : MethodName} {bytes : ByteArray} {maxL : Nat} {ret : Option FieldType} {ws : List Jvm.Cond} {rm : Room} {as' : Array Value} {h0 : Heap} {Q : Option Value → Heap → List Loc → Prop} {k n : Nat} (hp : plainFor y = true)
    (body : ∀ (p : Program) (e : Env) (s : State) (m : MethodId) (below : List Frame) (meth : Method) (c : Code) (s₁ : State), Stand p l e rm s m as' below meth c s₁ [] 0 0 → p.tables.exec = Jvm.exec → c.code = bytes → c.maxLocals = maxL → s.vm.findClass y.cls = some m.cls → meth.name = y.name → meth.sig.returnType = ret → meth.locks = false → Z.Warmed39 s.vm → s₁.heap = h0 →
      Rch p e below (s₁.setTop (entryFrame m as' maxL)) (Fin1 s below Q k n)) :
    MetFree l y (head1 (Jvm.Cond.code y bytes maxL ret :: ws) rm) (fun a U => a = as' ∧ Z.Warmed39 U.vm ∧ U.heap = h0) (fun _ _ _ _ _ => True) (fun _ U o U' => ∃ v L, o = .returned v ∧ Q v U'.heap L ∧ FrameEnd U o U' L k n) := by
  refine MetFree.of_bodySF hp hisR ?_
  intro p e s m args below meth c s₁ Bd hml0 hP hK
  obtain ⟨rfl, hZ, hh⟩ := hP
  obtain ⟨B, hs, v, L, h1, h2, h3, h4⟩ := body p e s m below meth c s₁ (Stand.of_body Bd) Bd.exec Bd.bytes hml0 (findClass_of_methodNamed Bd.named) ((name_of_methodNamed Bd.named Bd.method).1) Bd.returns (BodyLoose.notSynchronized Bd) hZ (by rw [← hh, Bd.state]; rfl)
  exact ⟨B, _, hs, h1, h2, v, L, rfl, h3, h4⟩
abbrev Met1 (l : Launch) (y : MethodName) (bytes : ByteArray) (maxL : Nat) (ret : Option FieldType) (rm : Room) (Z : State) (as' : Array Value) (h : Heap) (Q : Option Value → Heap → List Loc → Prop) : Prop :=
  MetFree l y (head1 [Jvm.Cond.code y bytes maxL ret] rm) (fun a U => a = as' ∧ Z.Warmed39 U.vm ∧ U.heap = h) (fun _ _ _ _ _ => True) (fun _ U o U' => ∃ v L, o = .returned v ∧ Q v U'.heap L ∧ FrameEnd U o U' L rm.cells rm.slots)
/-- a static call by the callee's contract -/
theorem Rch.callS (X : Stand p l e R s m args below meth c T locs cells slots) (hx : p.tables.exec = Jvm.exec) (hZ : Z.Warmed39 s.vm) {own : String} {index : Nat} {y : MethodName} {bytes : ByteArray} {maxL : Nat} {ret : Option FieldType} {rm : Room} {as' : Array Value} {Q : Option Value → Heap → List Loc → Prop}
    (hown : s.vm.findClass own = some m.cls) (w1 : (Jvm.Cond.methodLink own index y).before a0 Z = true) (w2 : (Jvm.Cond.static y).before a0 Z = true) (w3 : (Jvm.Cond.initialized y.cls).before a0 Z = true) (w4 : (Jvm.Cond.code y bytes maxL ret).before a0 Z = true) (hy : y.cls ≠ "java/lang/invoke/MethodHandle" ∧ y.cls ≠ "java/lang/invoke/VarHandle")
    (hM : Met1 l y bytes maxL ret rm Z as' h Q) (W : Nat) (hf : rm.frames + 1 ≤ R.frames) (hl : W + (maxL + 11) + rm.locals ≤ R.locals) (hc : cells + rm.cells ≤ R.cells) (hs : slots + rm.slots ≤ R.slots) (eT : T.heap = h)
    {g : JFrame} (hg : g.method = m) (hsize : g.locals.size = c.maxLocals) (argsL rest : List Value) (has : argsL.toArray = as') (hlen : ∀ sig, parseMethodDescriptor y.desc = some sig → argsL.length = sig.parameters.length)
    (hstack : g.stack = argsL.reverse ++ rest) (hW : 2 * g.monitorRoom + (rest.map fun v => v.category).sum ≤ W) (hdg : decode c.code g.pc = .ok (.invokestatic index, 3))
    (k : ∀ v T' L, Stand p l e R s m args below meth c T' (locs ++ L) (cells + rm.cells) (slots + rm.slots) → Q v T'.heap L → Rch p e below (T'.setTop { g with pc := g.pc + 3, stack := v.toList ++ rest }) P) : Rch p e below (T.setTop g) P := by
  obtain ⟨v, _, ⟨T1, L1, k1, n1⟩, -, X1, ⟨Lc, hQ, l1, y1, z1⟩, st⟩ := Jvm.LawKit.callS X hx (y := y) hown (mvT hZ w1) (mvT hZ w2) (mvT hZ w3) (mvT hZ w4) hy (backOf (W := W) hM hZ w4 w3 hf hl) (g := g) hg hsize (argsL := argsL) (rest := rest) hlen hstack hW hdg (fun _ _ => ⟨has, eT, hc, hs⟩)
  dsimp only [Pt.U, Pt.locs, Pt.cells, Pt.slots] at X1 l1 y1 z1 st hQ
  subst l1 y1 z1
  exact Rch.go st (k v T1 Lc X1 hQ)
/-- a constructor by its contract -/
theorem Rch.callC (X : Stand p l e R s m args below meth c T locs cells slots) (hx : p.tables.exec = Jvm.exec) (hZ : Z.Warmed39 s.vm) {own : String} {index : Nat} {y : MethodName} {bytes : ByteArray} {maxL : Nat} {rm : Room} {as' : Array Value} {Q : Option Value → Heap → List Loc → Prop} (hy1 : y.name = "<init>")
    (hown : s.vm.findClass own = some m.cls) (w1 : (Jvm.Cond.methodLink own index y).before a0 Z = true) (w2 : (Jvm.Cond.instanceMethod y).before a0 Z = true) (w3 : (Jvm.Cond.initialized y.cls).before a0 Z = true) (w4 : (Jvm.Cond.code y bytes maxL none).before a0 Z = true) (hy : y.cls ≠ "java/lang/invoke/MethodHandle" ∧ y.cls ≠ "java/lang/invoke/VarHandle")
    (hM : Met1 l y bytes maxL none rm Z as' h Q) (W : Nat) (hf : rm.frames + 1 ≤ R.frames) (hl : W + (maxL + 11) + rm.locals ≤ R.locals) (hc : cells + rm.cells ≤ R.cells) (hs : slots + rm.slots ≤ R.slots) (eT : T.heap = h)
    {g : JFrame} (hg : g.method = m) (hsize : g.locals.size = c.maxLocals) (a : Addr) (argsL rest : List Value) (has : (.ref a :: argsL).toArray = as') (hlen : ∀ sig, parseMethodDescriptor y.desc = some sig → argsL.length = sig.parameters.length)
    (hstack : g.stack = argsL.reverse ++ .ref a :: rest) (hW : 2 * g.monitorRoom + (rest.map fun v => v.category).sum ≤ W) (hdg : decode c.code g.pc = .ok (.invokespecial index, 3))
    (k : ∀ v T' L, Stand p l e R s m args below meth c T' (locs ++ L) (cells + rm.cells) (slots + rm.slots) → Q v T'.heap L → Rch p e below (T'.setTop { g with pc := g.pc + 3, stack := v.toList ++ rest }) P) : Rch p e below (T.setTop g) P := by
  obtain ⟨v, _, ⟨T1, L1, k1, n1⟩, -, X1, ⟨Lc, hQ, l1, y1, z1⟩, st⟩ := X.specialBack hx (y := y) hy1 hown (mvT hZ w1) (mvT hZ w2) (mvT hZ w4) hy (backOf (W := W) hM hZ w4 w3 hf hl) (g := g) hg hsize (Steps.refl _) (a := a) (argsL := argsL) (rest := rest) hlen hstack hW hdg (fun _ _ => ⟨has, eT, hc, hs⟩)
  dsimp only [Pt.U, Pt.locs, Pt.cells, Pt.slots] at X1 l1 y1 z1 st hQ
  subst l1 y1 z1
  exact Rch.of st (k v T1 Lc X1 hQ)
/-- an instance method, selected by the receiver's class C, by the contract of the selected one -/
theorem Rch.callV (X : Stand p l e R s m args below meth c T locs cells slots) (hx : p.tables.exec = Jvm.exec) (hZ : Z.Warmed39 s.vm) {own C : String} {index : Nat} {y z : MethodName} {bytes : ByteArray} {maxL : Nat} {ret : Option FieldType} {rm : Room} {as' : Array Value} {Q : Option Value → Heap → List Loc → Prop}
    (hown : s.vm.findClass own = some m.cls) (w1 : (Jvm.Cond.methodLink own index y).before a0 Z = true) (w2 : (Jvm.Cond.declares y).before a0 Z = true) (hnf : NotFace s y) (w5 : (Jvm.Cond.selects C y z).before a0 Z = true) (w6 : (Jvm.Cond.instanceMethod z).before a0 Z = true) (w3 : (Jvm.Cond.initialized z.cls).before a0 Z = true) (w4 : (Jvm.Cond.code z bytes maxL ret).before a0 Z = true) (hy : y.cls ≠ "java/lang/invoke/MethodHandle" ∧ y.cls ≠ "java/lang/invoke/VarHandle")
    (hM : Met1 l z bytes maxL ret rm Z as' h Q) (W : Nat) (hf : rm.frames + 1 ≤ R.frames) (hl : W + (maxL + 11) + rm.locals ≤ R.locals) (hc : cells + rm.cells ≤ R.cells) (hs : slots + rm.slots ≤ R.slots) (eT : T.heap = h) {b : Addr} (hE : Exa Z h b C)
    {g : JFrame} (hg : g.method = m) (hsize : g.locals.size = c.maxLocals) (argsL rest : List Value) (has : (.ref b :: argsL).toArray = as') (hlen : ∀ sig, parseMethodDescriptor y.desc = some sig → argsL.length = sig.parameters.length)
    (hstack : g.stack = argsL.reverse ++ .ref b :: rest) (hW : 2 * g.monitorRoom + (rest.map fun v => v.category).sum ≤ W) (hdg : decode c.code g.pc = .ok (.invokevirtual index, 3))
    (k : ∀ v T' L, Stand p l e R s m args below meth c T' (locs ++ L) (cells + rm.cells) (slots + rm.slots) → Q v T'.heap L → Rch p e below (T'.setTop { g with pc := g.pc + 3, stack := v.toList ++ rest }) P) : Rch p e below (T.setTop g) P := by
  obtain ⟨cq, kq, q1, q2, q3⟩ := isOf hZ eT hE
  obtain ⟨v, _, ⟨T1, L1, k1, n1⟩, -, X1, ⟨Lc, hQ, l1, y1, z1⟩, st⟩ := X.virtualBack hx (y := y) (z := z) hown (mvT hZ w1) (mvT hZ w2) hnf (mvT hZ w5) (mvT hZ w6) hy (backOf (W := W) hM hZ w4 w3 hf hl) q1 q3 (g := g) hg hsize (Steps.refl _) (argsL := argsL) (rest := rest) hlen hstack hW hdg (fun _ _ => ⟨has, eT, hc, hs⟩)
  dsimp only [Pt.U, Pt.locs, Pt.cells, Pt.slots] at X1 l1 y1 z1 st hQ
  subst l1 y1 z1
  exact Rch.of st (k v T1 Lc X1 hQ)
/-- a private instance method, by invokevirtual -/
theorem Rch.callP (X : Stand p l e R s m args below meth c T locs cells slots) (hx : p.tables.exec = Jvm.exec) (hZ : Z.Warmed39 s.vm) {own C : String} {index : Nat} {y : MethodName} {bytes : ByteArray} {maxL : Nat} {ret : Option FieldType} {rm : Room} {as' : Array Value} {Q : Option Value → Heap → List Loc → Prop}
    (hown : s.vm.findClass own = some m.cls) (w1 : (Jvm.Cond.methodLink own index y).before a0 Z = true) (w6 : (Jvm.Cond.instanceMethod y).before a0 Z = true) (w5 : (Jvm.Cond.selects y.cls y y).before a0 Z = true) (w7 : (Jvm.Cond.privateMethod y).before a0 Z = true) (w3 : (Jvm.Cond.initialized y.cls).before a0 Z = true) (w4 : (Jvm.Cond.code y bytes maxL ret).before a0 Z = true) (hy : y.cls ≠ "java/lang/invoke/MethodHandle" ∧ y.cls ≠ "java/lang/invoke/VarHandle")
    (hM : Met1 l y bytes maxL ret rm Z as' h Q) (W : Nat) (hf : rm.frames + 1 ≤ R.frames) (hl : W + (maxL + 11) + rm.locals ≤ R.locals) (hc : cells + rm.cells ≤ R.cells) (hs : slots + rm.slots ≤ R.slots) (eT : T.heap = h) {b : Addr} (hE : Exa Z h b C)
    {g : JFrame} (hg : g.method = m) (hsize : g.locals.size = c.maxLocals) (argsL rest : List Value) (has : (.ref b :: argsL).toArray = as') (hlen : ∀ sig, parseMethodDescriptor y.desc = some sig → argsL.length = sig.parameters.length)
    (hstack : g.stack = argsL.reverse ++ .ref b :: rest) (hW : 2 * g.monitorRoom + (rest.map fun v => v.category).sum ≤ W) (hdg : decode c.code g.pc = .ok (.invokevirtual index, 3))
    (k : ∀ v T' L, Stand p l e R s m args below meth c T' (locs ++ L) (cells + rm.cells) (slots + rm.slots) → Q v T'.heap L → Rch p e below (T'.setTop { g with pc := g.pc + 3, stack := v.toList ++ rest }) P) : Rch p e below (T.setTop g) P := by
  obtain ⟨cq, q1, q2⟩ := hE.cell
  obtain ⟨v, _, ⟨T1, L1, k1, n1⟩, -, X1, ⟨Lc, hQ, l1, y1, z1⟩, st⟩ := X.privateBack hx (y := y) hown (mvT hZ w1) (mvT hZ w6) (mvT hZ w5) (Cond.privateMethod_at (mvP hZ w7 (args := #[]))) (mvT hZ w4) hy (backOf (W := W) hM hZ w4 w3 hf hl) (g := g) hg hsize (Steps.refl _) (a := b) (by rw [eT]; exact q1) q2 (argsL := argsL) (rest := rest) hlen hstack hW hdg (fun _ _ => ⟨has, eT, hc, hs⟩)
  dsimp only [Pt.U, Pt.locs, Pt.cells, Pt.slots] at X1 l1 y1 z1 st hQ
  subst l1 y1 z1
  exact Rch.of st (k v T1 Lc X1 hQ)
end Own
end Jvm.OwnKit
namespace Jvm.Pilot.@@N@@
open Jvm Jvm.ClassFile Sem Op Lib Jvm.Free Jvm.Stand Jvm.LawKit Jvm.RoadKit Bundle Jvm.OwnKit Jvm.Pilot.@@N@@.Jvm.D

theorem d2_0 : decode jdk_30_method_1_code 0 = .ok (.aload_n 0, 1) := by decide +kernel
theorem d2_1 : decode jdk_30_method_1_code 1 = .ok (.invokespecial 1, 3) := by decide +kernel
theorem d2_4 : decode jdk_30_method_1_code 4 = .ok (.return_, 1) := by decide +kernel
theorem pn_2 : plainFor (⟨"java/lang/Record", "<init>", "()V"⟩ : MethodName) = true := plainFor_of_name (by first | (simp [plainName, overriddenIn]; done) | decide +kernel)
theorem ef_2 (m : MethodId) (x0 : Addr) : entryFrame m #[(.ref x0)] 1 = mkF m 0 #[.val (.ref x0)] [] := by first | (simp [entryFrame, mkF, argsToLocals, Value.category]; done) | rfl
def own_Q_rm2 (Z : State) (a1 : Addr) (h0 : Heap) (n0 : Nat) (v : Option Value) (h : Heap) (L : List Loc) : Prop := v = none ∧ Fr n0 L ∧ h = h0
set_option maxRecDepth 65536 in
set_option maxHeartbeats 40000000 in
theorem rm2 (l : Launch) (Z : State) (a0 : Array Value) (hw : ∀ d ∈ tables_1, d.before a0 Z = true) (ws : List Jvm.Cond) (a1 : Addr) (h0 : Heap) (n0 : Nat) (Z0 : n0 ≤ h0.size)  :
    MetFree l (⟨"java/lang/Record", "<init>", "()V"⟩ : MethodName) (head1 (Jvm.Cond.code (⟨"java/lang/Record", "<init>", "()V"⟩ : MethodName) jdk_30_method_1_code 1 none :: ws) ({ frames := 1, cells := 0, slots := 0, locals := 12 } : Room)) (fun a U => a = #[(.ref a1)] ∧ Z.Warmed39 U.vm ∧ U.heap = h0) (fun _ _ _ _ _ => True) (fun _ U o U' => ∃ v L, o = .returned v ∧ own_Q_rm2 Z a1 h0 n0 v U'.heap L ∧ FrameEnd U o U' L ({ frames := 1, cells := 0, slots := 0, locals := 12 } : Room).cells ({ frames := 1, cells := 0, slots := 0, locals := 12 } : Room).slots) := by
  refine own_body (Q := (own_Q_rm2 Z a1 h0 n0)) pn_2 ?_
  intro p e s m below meth c s₁ X0 hx hby hml hown hnm hret hlk hZ e0
  have N0 := Fr.nil n0
  refine Rch.go (fun t k => castTop (ef_2 m a1) k) ?_
  show Rch p e below (s₁.setTop (mkF m 0 #[.val (.ref a1)] [])) _
  refine Rch.go (fun _ k => XS.aloadN X0.here hx rfl (hb hby d2_0) rfl rfl k) ?_
  show Rch p e below (s₁.setTop (mkF m 1 #[.val (.ref a1)] [(.ref a1)])) _
  obtain ⟨T1, X1, e1, st1⟩ := initO X0 hx hZ hown (hw _ (List.mem_of_getElem? (i := 11) rfl)) (hw _ (List.mem_of_getElem? (i := 12) rfl)) (hw _ (List.mem_of_getElem? (i := 13) rfl)) e0 (g := (mkF m 1 #[.val (.ref a1)] [(.ref a1)])) rfl (by rw [hml]; rfl) rfl (hb hby d2_1) (by decide) (W := 0) (by show 2 * 0 + _ ≤ _; exact Nat.le_of_eq rfl) (by decide)
  refine Rch.go st1 ?_
  show Rch p e below (T1.setTop (mkF m 4 #[.val (.ref a1)] [])) _
  exact Rch.ret X1 hlk (fun _ => rfl) (fun fs hr => X1.returnOut hx hret (hb hby d2_4) hr) ⟨rfl, N0, e1⟩ (by decide) (by decide)
theorem d1_0 : decode prog_47_method_1_code 0 = .ok (.aload_n 0, 1) := by decide +kernel
theorem d1_1 : decode prog_47_method_1_code 1 = .ok (.invokespecial 1, 3) := by decide +kernel
theorem d1_4 : decode prog_47_method_1_code 4 = .ok (.aload_n 0, 1) := by decide +kernel
theorem d1_5 : decode prog_47_method_1_code 5 = .ok (.lload_n 1, 1) := by decide +kernel
theorem d1_6 : decode prog_47_method_1_code 6 = .ok (.putfield 7, 3) := by decide +kernel
theorem d1_9 : decode prog_47_method_1_code 9 = .ok (.aload_n 0, 1) := by decide +kernel
theorem d1_10 : decode prog_47_method_1_code 10 = .ok (.lload_n 3, 1) := by decide +kernel
theorem d1_11 : decode prog_47_method_1_code 11 = .ok (.putfield 13, 3) := by decide +kernel
theorem d1_14 : decode prog_47_method_1_code 14 = .ok (.aload_n 0, 1) := by decide +kernel
theorem d1_15 : decode prog_47_method_1_code 15 = .ok (.lload 5, 2) := by decide +kernel
theorem d1_17 : decode prog_47_method_1_code 17 = .ok (.putfield 16, 3) := by decide +kernel
theorem d1_20 : decode prog_47_method_1_code 20 = .ok (.return_, 1) := by decide +kernel
theorem pd1_0 : parseMethodDescriptor "()V" = some ⟨[], none⟩ := by decide +kernel
theorem pn_1 : plainFor (⟨"com/example/mirrorwright/mirrorwright/sim/Replay$Result", "<init>", "(JJJ)V"⟩ : MethodName) = true := plainFor_of_name (by first | (simp [plainName, overriddenIn]; done) | decide +kernel)
theorem ef_1 (m : MethodId) (x0 : Addr) (x1 : Int64) (x2 : Int64) (x3 : Int64) : entryFrame m #[(.ref x0), (.long x1), (.long x2), (.long x3)] 7 = mkF m 0 #[.val (.ref x0), .val (.long x1), .second, .val (.long x2), .second, .val (.long x3), .second] [] := by first | (simp [entryFrame, mkF, argsToLocals, Value.category]; done) | rfl
def own_Q_rm1 (Z : State) (a1 : Addr) (q2 q3 q4 : Int64) (u_local u_remote u_origin : Value) (h0 : Heap) (n0 : Nat) (v : Option Value) (h : Heap) (L : List Loc) : Prop := v = none ∧ Fr n0 L ∧ Keep h0 h [a1] ∧ Exa Z h a1 "com/example/mirrorwright/mirrorwright/sim/Replay$Result" ∧ Fld Z h a1 "com/example/mirrorwright/mirrorwright/sim/Replay$Result" "local" "J" (.long q2) ∧ Fld Z h a1 "com/example/mirrorwright/mirrorwright/sim/Replay$Result" "remote" "J" (.long q3) ∧ Fld Z h a1 "com/example/mirrorwright/mirrorwright/sim/Replay$Result" "origin" "J" (.long q4)
set_option maxRecDepth 65536 in
set_option maxHeartbeats 40000000 in
theorem rm1 (l : Launch) (Z : State) (a0 : Array Value) (hw : ∀ d ∈ tables_1, d.before a0 Z = true) (ws : List Jvm.Cond) (a1 : Addr) (q2 q3 q4 : Int64) (u_local u_remote u_origin : Value) (h0 : Heap) (n0 : Nat) (Z0 : n0 ≤ h0.size) (E_a1 : Exa Z h0 a1 "com/example/mirrorwright/mirrorwright/sim/Replay$Result") (g_a1 : n0 ≤ a1) (F_local : Fld Z h0 a1 "com/example/mirrorwright/mirrorwright/sim/Replay$Result" "local" "J" u_local) (F_remote : Fld Z h0 a1 "com/example/mirrorwright/mirrorwright/sim/Replay$Result" "remote" "J" u_remote) (F_origin : Fld Z h0 a1 "com/example/mirrorwright/mirrorwright/sim/Replay$Result" "origin" "J" u_origin) :
    MetFree l (⟨"com/example/mirrorwright/mirrorwright/sim/Replay$Result", "<init>", "(JJJ)V"⟩ : MethodName) (head1 (Jvm.Cond.code (⟨"com/example/mirrorwright/mirrorwright/sim/Replay$Result", "<init>", "(JJJ)V"⟩ : MethodName) prog_47_method_1_code 7 none :: ws) ({ frames := 2, cells := 0, slots := 0, locals := 24 } : Room)) (fun a U => a = #[(.ref a1), (.long q2), (.long q3), (.long q4)] ∧ Z.Warmed39 U.vm ∧ U.heap = h0) (fun _ _ _ _ _ => True) (fun _ U o U' => ∃ v L, o = .returned v ∧ own_Q_rm1 Z a1 q2 q3 q4 u_local u_remote u_origin h0 n0 v U'.heap L ∧ FrameEnd U o U' L ({ frames := 2, cells := 0, slots := 0, locals := 24 } : Room).cells ({ frames := 2, cells := 0, slots := 0, locals := 24 } : Room).slots) := by
  refine own_body (Q := (own_Q_rm1 Z a1 q2 q3 q4 u_local u_remote u_origin h0 n0)) pn_1 ?_
  intro p e s m below meth c s₁ X0 hx hby hml hown hnm hret hlk hZ e0
  have N0 := Fr.nil n0
  refine Rch.go (fun t k => castTop (ef_1 m a1 q2 q3 q4) k) ?_
  have K0 := Keep.refl h0 [a1]
  show Rch p e below (s₁.setTop (mkF m 0 #[.val (.ref a1), .val (.long q2), .second, .val (.long q3), .second, .val (.long q4), .second] [])) _
  refine Rch.go (fun _ k => XS.aloadN X0.here hx rfl (hb hby d1_0) rfl rfl k) ?_
  show Rch p e below (s₁.setTop (mkF m 1 #[.val (.ref a1), .val (.long q2), .second, .val (.long q3), .second, .val (.long q4), .second] [(.ref a1)])) _
  refine Rch.callC X0 hx hZ rfl hown (hw _ (List.mem_of_getElem? (i := 6) rfl)) (hw _ (List.mem_of_getElem? (i := 7) rfl)) (hw _ (List.mem_of_getElem? (i := 9) rfl)) (hw _ (List.mem_of_getElem? (i := 10) rfl)) (by decide) (rm2 l Z a0 hw [] a1 h0 n0 Z0) 0 (by decide) (by decide) (by decide) (by decide) e0 (g := (mkF m 1 #[.val (.ref a1), .val (.long q2), .second, .val (.long q3), .second, .val (.long q4), .second] [(.ref a1)])) rfl (by rw [hml]; rfl) a1 [] [] rfl (lenOf pd1_0 rfl) rfl (by show 2 * 0 + _ ≤ _; exact Nat.le_of_eq rfl) (hb hby d1_1) ?_
  intro v1 T1 L1 X1 hQ1
  obtain ⟨rfl, N1q, e1⟩ := hQ1
  have N1 := Fr.app N0 N1q
  show Rch p e below (T1.setTop (mkF m 4 #[.val (.ref a1), .val (.long q2), .second, .val (.long q3), .second, .val (.long q4), .second] [])) _
  refine Rch.go (fun _ k => XS.aloadN X1.here hx rfl (hb hby d1_4) rfl rfl k) ?_
  show Rch p e below (T1.setTop (mkF m 5 #[.val (.ref a1), .val (.long q2), .second, .val (.long q3), .second, .val (.long q4), .second] [(.ref a1)])) _
  refine Rch.go (fun _ k => XS.lloadN X1.here hx rfl (hb hby d1_5) rfl  k) ?_
  show Rch p e below (T1.setTop (mkF m 6 #[.val (.ref a1), .val (.long q2), .second, .val (.long q3), .second, .val (.long q4), .second] [(.long q2), (.ref a1)])) _
  obtain ⟨T2, h2, X2, e2, W2, st2⟩ := putF X1 hx hZ hown (host := "") (Or.inl (hw _ (List.mem_of_getElem? (i := 14) rfl))) Via.refl e1 F_local E_a1 (Or.inr ⟨(hw _ (List.mem_of_getElem? (i := 15) rfl)), rfl, hnm⟩) (hw _ (List.mem_of_getElem? (i := 1) rfl)) (ty := .long) (by decide) rfl rfl (g := (mkF m 6 #[.val (.ref a1), .val (.long q2), .second, .val (.long q3), .second, .val (.long q4), .second] [(.long q2), (.ref a1)])) rfl rfl (hb hby d1_6)
  have E_a1 := E_a1.wr W2
  have F_remote := F_remote.other W2 (Or.inr (slot_ne (Or.inr (hw _ (List.mem_of_getElem? (i := 17) rfl))) (Or.inr (hw _ (List.mem_of_getElem? (i := 15) rfl))) (by decide) (t := .long) (t' := .long) (by decide) (by decide)))
  have F_origin := F_origin.other W2 (Or.inr (slot_ne (Or.inr (hw _ (List.mem_of_getElem? (i := 19) rfl))) (Or.inr (hw _ (List.mem_of_getElem? (i := 15) rfl))) (by decide) (t := .long) (t' := .long) (by decide) (by decide)))
  have K0 := K0.wr W2 (Or.inl (List.mem_of_getElem? (i := 0) rfl))
  have Z0 := Nat.le_trans Z0 (Keep.of_wr W2).1
  have F_local := F_local.same W2
  have N2 := Fr.snoc X2 N1 g_a1
  refine Rch.go st2 ?_
  show Rch p e below (T2.setTop (mkF m 9 #[.val (.ref a1), .val (.long q2), .second, .val (.long q3), .second, .val (.long q4), .second] [])) _
  refine Rch.go (fun _ k => XS.aloadN X2.here hx rfl (hb hby d1_9) rfl rfl k) ?_
  show Rch p e below (T2.setTop (mkF m 10 #[.val (.ref a1), .val (.long q2), .second, .val (.long q3), .second, .val (.long q4), .second] [(.ref a1)])) _
  refine Rch.go (fun _ k => XS.lloadN X2.here hx rfl (hb hby d1_10) rfl  k) ?_
  show Rch p e below (T2.setTop (mkF m 11 #[.val (.ref a1), .val (.long q2), .second, .val (.long q3), .second, .val (.long q4), .second] [(.long q3), (.ref a1)])) _
  obtain ⟨T3, h3, X3, e3, W3, st3⟩ := putF X2 hx hZ hown (host := "") (Or.inl (hw _ (List.mem_of_getElem? (i := 16) rfl))) Via.refl e2 F_remote E_a1 (Or.inr ⟨(hw _ (List.mem_of_getElem? (i := 17) rfl)), rfl, hnm⟩) (hw _ (List.mem_of_getElem? (i := 1) rfl)) (ty := .long) (by decide) rfl rfl (g := (mkF m 11 #[.val (.ref a1), .val (.long q2), .second, .val (.long q3), .second, .val (.long q4), .second] [(.long q3), (.ref a1)])) rfl rfl (hb hby d1_11)
  have E_a1 := E_a1.wr W3
  have F_local := F_local.other W3 (Or.inr (slot_ne (Or.inr (hw _ (List.mem_of_getElem? (i := 15) rfl))) (Or.inr (hw _ (List.mem_of_getElem? (i := 17) rfl))) (by decide) (t := .long) (t' := .long) (by decide) (by decide)))
  have F_origin := F_origin.other W3 (Or.inr (slot_ne (Or.inr (hw _ (List.mem_of_getElem? (i := 19) rfl))) (Or.inr (hw _ (List.mem_of_getElem? (i := 17) rfl))) (by decide) (t := .long) (t' := .long) (by decide) (by decide)))
  have K0 := K0.wr W3 (Or.inl (List.mem_of_getElem? (i := 0) rfl))
  have Z0 := Nat.le_trans Z0 (Keep.of_wr W3).1
  have F_remote := F_remote.same W3
  have N3 := Fr.snoc X3 N2 g_a1
  refine Rch.go st3 ?_
  show Rch p e below (T3.setTop (mkF m 14 #[.val (.ref a1), .val (.long q2), .second, .val (.long q3), .second, .val (.long q4), .second] [])) _
  refine Rch.go (fun _ k => XS.aloadN X3.here hx rfl (hb hby d1_14) rfl rfl k) ?_
  show Rch p e below (T3.setTop (mkF m 15 #[.val (.ref a1), .val (.long q2), .second, .val (.long q3), .second, .val (.long q4), .second] [(.ref a1)])) _
  refine Rch.go (fun _ k => XS.lload X3.here hx rfl (hb hby d1_15) rfl  k) ?_
  show Rch p e below (T3.setTop (mkF m 17 #[.val (.ref a1), .val (.long q2), .second, .val (.long q3), .second, .val (.long q4), .second] [(.long q4), (.ref a1)])) _
  obtain ⟨T4, h4, X4, e4, W4, st4⟩ := putF X3 hx hZ hown (host := "") (Or.inl (hw _ (List.mem_of_getElem? (i := 18) rfl))) Via.refl e3 F_origin E_a1 (Or.inr ⟨(hw _ (List.mem_of_getElem? (i := 19) rfl)), rfl, hnm⟩) (hw _ (List.mem_of_getElem? (i := 1) rfl)) (ty := .long) (by decide) rfl rfl (g := (mkF m 17 #[.val (.ref a1), .val (.long q2), .second, .val (.long q3), .second, .val (.long q4), .second] [(.long q4), (.ref a1)])) rfl rfl (hb hby d1_17)
  have E_a1 := E_a1.wr W4
  have F_local := F_local.other W4 (Or.inr (slot_ne (Or.inr (hw _ (List.mem_of_getElem? (i := 15) rfl))) (Or.inr (hw _ (List.mem_of_getElem? (i := 19) rfl))) (by decide) (t := .long) (t' := .long) (by decide) (by decide)))
  have F_remote := F_remote.other W4 (Or.inr (slot_ne (Or.inr (hw _ (List.mem_of_getElem? (i := 17) rfl))) (Or.inr (hw _ (List.mem_of_getElem? (i := 19) rfl))) (by decide) (t := .long) (t' := .long) (by decide) (by decide)))
  have K0 := K0.wr W4 (Or.inl (List.mem_of_getElem? (i := 0) rfl))
  have Z0 := Nat.le_trans Z0 (Keep.of_wr W4).1
  have F_origin := F_origin.same W4
  have N4 := Fr.snoc X4 N3 g_a1
  refine Rch.go st4 ?_
  show Rch p e below (T4.setTop (mkF m 20 #[.val (.ref a1), .val (.long q2), .second, .val (.long q3), .second, .val (.long q4), .second] [])) _
  exact Rch.ret X4 hlk (fun _ => rfl) (fun fs hr => X4.returnOut hx hret (hb hby d1_20) hr) (by rw [e4]; exact ⟨rfl, N4, K0, E_a1, F_local, F_remote, F_origin⟩) (by decide) (by decide)
theorem d4_0 : decode prog_47_method_2_code 0 = .ok (.new 8, 3) := by decide +kernel
theorem d4_3 : decode prog_47_method_2_code 3 = .ok (.dup, 1) := by decide +kernel
theorem d4_4 : decode prog_47_method_2_code 4 = .ok (.aload_n 0, 1) := by decide +kernel
theorem d4_5 : decode prog_47_method_2_code 5 = .ok (.getfield 7, 3) := by decide +kernel
theorem d4_8 : decode prog_47_method_2_code 8 = .ok (.aload_n 1, 1) := by decide +kernel
theorem d4_9 : decode prog_47_method_2_code 9 = .ok (.getfield 7, 3) := by decide +kernel
theorem d4_12 : decode prog_47_method_2_code 12 = .ok (.ladd, 1) := by decide +kernel
theorem d4_13 : decode prog_47_method_2_code 13 = .ok (.aload_n 0, 1) := by decide +kernel
theorem d4_14 : decode prog_47_method_2_code 14 = .ok (.getfield 13, 3) := by decide +kernel
theorem d4_17 : decode prog_47_method_2_code 17 = .ok (.aload_n 1, 1) := by decide +kernel
theorem d4_18 : decode prog_47_method_2_code 18 = .ok (.getfield 13, 3) := by decide +kernel
theorem d4_21 : decode prog_47_method_2_code 21 = .ok (.ladd, 1) := by decide +kernel
theorem d4_22 : decode prog_47_method_2_code 22 = .ok (.aload_n 0, 1) := by decide +kernel
theorem d4_23 : decode prog_47_method_2_code 23 = .ok (.getfield 16, 3) := by decide +kernel
theorem d4_26 : decode prog_47_method_2_code 26 = .ok (.aload_n 1, 1) := by decide +kernel
theorem d4_27 : decode prog_47_method_2_code 27 = .ok (.getfield 16, 3) := by decide +kernel
theorem d4_30 : decode prog_47_method_2_code 30 = .ok (.ladd, 1) := by decide +kernel
theorem d4_31 : decode prog_47_method_2_code 31 = .ok (.invokespecial 19, 3) := by decide +kernel
theorem d4_34 : decode prog_47_method_2_code 34 = .ok (.areturn, 1) := by decide +kernel
theorem pd4_0 : parseMethodDescriptor "(JJJ)V" = some ⟨[.long, .long, .long], none⟩ := by decide +kernel
theorem pn_4 : plainFor (⟨"com/example/mirrorwright/mirrorwright/sim/Replay$Result", "plus", "(Lcom/example/mirrorwright/mirrorwright/sim/Replay$Result;)Lcom/example/mirrorwright/mirrorwright/sim/Replay$Result;"⟩ : MethodName) = true := plainFor_of_name (by first | (simp [plainName, overriddenIn]; done) | decide +kernel)
theorem ef_4 (m : MethodId) (x0 : Addr) (x1 : Addr) : entryFrame m #[(.ref x0), (.ref x1)] 2 = mkF m 0 #[.val (.ref x0), .val (.ref x1)] [] := by first | (simp [entryFrame, mkF, argsToLocals, Value.category]; done) | rfl
def own_Q_rm4 (Z : State) (a1 a2 : Addr) (r_local r_remote r_origin s_local s_remote s_origin : Int64) (h0 : Heap) (n0 : Nat) (v : Option Value) (h : Heap) (L : List Loc) : Prop := ∃ b : Addr, v = some (.ref b) ∧ Fr n0 L ∧ Keep h0 h [] ∧ n0 ≤ b ∧ h0.size ≤ b ∧ Exa Z h b "com/example/mirrorwright/mirrorwright/sim/Replay$Result" ∧ Fld Z h b "com/example/mirrorwright/mirrorwright/sim/Replay$Result" "local" "J" (.long (r_local + s_local)) ∧ Fld Z h b "com/example/mirrorwright/mirrorwright/sim/Replay$Result" "remote" "J" (.long (r_remote + s_remote)) ∧ Fld Z h b "com/example/mirrorwright/mirrorwright/sim/Replay$Result" "origin" "J" (.long (r_origin + s_origin))
set_option maxRecDepth 65536 in
set_option maxHeartbeats 40000000 in
theorem rm4 (l : Launch) (Z : State) (a0 : Array Value) (hw : ∀ d ∈ tables_1, d.before a0 Z = true) (ws : List Jvm.Cond) (a1 a2 : Addr) (r_local r_remote r_origin s_local s_remote s_origin : Int64) (h0 : Heap) (n0 : Nat) (Z0 : n0 ≤ h0.size) (F_local_a1 : Fld Z h0 a1 "com/example/mirrorwright/mirrorwright/sim/Replay$Result" "local" "J" (.long r_local)) (F_remote_a1 : Fld Z h0 a1 "com/example/mirrorwright/mirrorwright/sim/Replay$Result" "remote" "J" (.long r_remote)) (F_origin_a1 : Fld Z h0 a1 "com/example/mirrorwright/mirrorwright/sim/Replay$Result" "origin" "J" (.long r_origin)) (F_local_a2 : Fld Z h0 a2 "com/example/mirrorwright/mirrorwright/sim/Replay$Result" "local" "J" (.long s_local)) (F_remote_a2 : Fld Z h0 a2 "com/example/mirrorwright/mirrorwright/sim/Replay$Result" "remote" "J" (.long s_remote)) (F_origin_a2 : Fld Z h0 a2 "com/example/mirrorwright/mirrorwright/sim/Replay$Result" "origin" "J" (.long s_origin)) :
    MetFree l (⟨"com/example/mirrorwright/mirrorwright/sim/Replay$Result", "plus", "(Lcom/example/mirrorwright/mirrorwright/sim/Replay$Result;)Lcom/example/mirrorwright/mirrorwright/sim/Replay$Result;"⟩ : MethodName) (head1 (Jvm.Cond.code (⟨"com/example/mirrorwright/mirrorwright/sim/Replay$Result", "plus", "(Lcom/example/mirrorwright/mirrorwright/sim/Replay$Result;)Lcom/example/mirrorwright/mirrorwright/sim/Replay$Result;"⟩ : MethodName) prog_47_method_2_code 2 (some (.object "com/example/mirrorwright/mirrorwright/sim/Replay$Result")) :: ws) ({ frames := 3, cells := 1, slots := 3, locals := 43 } : Room)) (fun a U => a = #[(.ref a1), (.ref a2)] ∧ Z.Warmed39 U.vm ∧ U.heap = h0) (fun _ _ _ _ _ => True) (fun _ U o U' => ∃ v L, o = .returned v ∧ own_Q_rm4 Z a1 a2 r_local r_remote r_origin s_local s_remote s_origin h0 n0 v U'.heap L ∧ FrameEnd U o U' L ({ frames := 3, cells := 1, slots := 3, locals := 43 } : Room).cells ({ frames := 3, cells := 1, slots := 3, locals := 43 } : Room).slots) := by
  refine own_body (Q := (own_Q_rm4 Z a1 a2 r_local r_remote r_origin s_local s_remote s_origin h0 n0)) pn_4 ?_
  intro p e s m below meth c s₁ X0 hx hby hml hown hnm hret hlk hZ e0
  have N0 := Fr.nil n0
  refine Rch.go (fun t k => castTop (ef_4 m a1 a2) k) ?_
  have K0 := Keep.refl h0 []
  show Rch p e below (s₁.setTop (mkF m 0 #[.val (.ref a1), .val (.ref a2)] [])) _
  obtain ⟨T1, h1, X1, e1, E1, A1, D1, -, st1⟩ := newO X0 hx hZ hown (hw _ (List.mem_of_getElem? (i := 25) rfl)) (hw _ (List.mem_of_getElem? (i := 1) rfl)) (hw _ (List.mem_of_getElem? (i := 2) rfl)) e0 (g := (mkF m 0 #[.val (.ref a1), .val (.ref a2)] [])) rfl (hb hby d4_0) (by decide) (by decide)
  obtain ⟨b1, g1⟩ : ∃ z, z = h0.size := ⟨_, rfl⟩
  rw [← g1] at A1 D1 st1
  have ne_a1_b1 : a1 ≠ b1 := Nat.ne_of_lt (Nat.lt_of_lt_of_le F_local_a1.lt (Nat.le_of_eq g1.symm))
  have ne_a2_b1 : a2 ≠ b1 := Nat.ne_of_lt (Nat.lt_of_lt_of_le F_local_a2.lt (Nat.le_of_eq g1.symm))
  have g_b1 : n0 ≤ b1 := Nat.le_trans Z0 (Nat.le_of_eq g1.symm)
  have sz_b1 : h0.size ≤ b1 := Nat.le_trans K0.1 (Nat.le_of_eq g1.symm)
  have F_local_a1 := F_local_a1.ext E1
  have F_remote_a1 := F_remote_a1.ext E1
  have F_origin_a1 := F_origin_a1.ext E1
  have F_local_a2 := F_local_a2.ext E1
  have F_remote_a2 := F_remote_a2.ext E1
  have F_origin_a2 := F_origin_a2.ext E1
  have K0 := K0.ext E1
  have Z0 := Nat.le_trans Z0 E1.1
  have E_b1 := A1
  have F_local_b1 : Fld Z h1 b1 "com/example/mirrorwright/mirrorwright/sim/Replay$Result" "local" "J" (.long (0 : Int64)) := D1 (Or.inr (hw _ (List.mem_of_getElem? (i := 15) rfl))) (ty := .long) (by decide)
  have F_remote_b1 : Fld Z h1 b1 "com/example/mirrorwright/mirrorwright/sim/Replay$Result" "remote" "J" (.long (0 : Int64)) := D1 (Or.inr (hw _ (List.mem_of_getElem? (i := 17) rfl))) (ty := .long) (by decide)
  have F_origin_b1 : Fld Z h1 b1 "com/example/mirrorwright/mirrorwright/sim/Replay$Result" "origin" "J" (.long (0 : Int64)) := D1 (Or.inr (hw _ (List.mem_of_getElem? (i := 19) rfl))) (ty := .long) (by decide)
  refine Rch.go st1 ?_
  show Rch p e below (T1.setTop (mkF m 3 #[.val (.ref a1), .val (.ref a2)] [(.ref b1)])) _
  refine Rch.go (fun _ k => XS.dup X1.here hx rfl (hb hby d4_3) rfl rfl k) ?_
  show Rch p e below (T1.setTop (mkF m 4 #[.val (.ref a1), .val (.ref a2)] [(.ref b1), (.ref b1)])) _
  refine Rch.go (fun _ k => XS.aloadN X1.here hx rfl (hb hby d4_4) rfl rfl k) ?_
  show Rch p e below (T1.setTop (mkF m 5 #[.val (.ref a1), .val (.ref a2)] [(.ref a1), (.ref b1), (.ref b1)])) _
  obtain ⟨T2, X2, e2, st2⟩ := getF X1 hx hZ hown (host := "") (Or.inl (hw _ (List.mem_of_getElem? (i := 14) rfl))) Via.refl e1 F_local_a1 (g := (mkF m 5 #[.val (.ref a1), .val (.ref a2)] [(.ref a1), (.ref b1), (.ref b1)])) rfl rfl (hb hby d4_5)
  refine Rch.go st2 ?_
  show Rch p e below (T2.setTop (mkF m 8 #[.val (.ref a1), .val (.ref a2)] [(.long r_local), (.ref b1), (.ref b1)])) _
  refine Rch.go (fun _ k => XS.aloadN X2.here hx rfl (hb hby d4_8) rfl rfl k) ?_
  show Rch p e below (T2.setTop (mkF m 9 #[.val (.ref a1), .val (.ref a2)] [(.ref a2), (.long r_local), (.ref b1), (.ref b1)])) _
  obtain ⟨T3, X3, e3, st3⟩ := getF X2 hx hZ hown (host := "") (Or.inl (hw _ (List.mem_of_getElem? (i := 14) rfl))) Via.refl e2 F_local_a2 (g := (mkF m 9 #[.val (.ref a1), .val (.ref a2)] [(.ref a2), (.long r_local), (.ref b1), (.ref b1)])) rfl rfl (hb hby d4_9)
  refine Rch.go st3 ?_
  show Rch p e below (T3.setTop (mkF m 12 #[.val (.ref a1), .val (.ref a2)] [(.long s_local), (.long r_local), (.ref b1), (.ref b1)])) _
  refine Rch.go (fun _ k => XS.ladd X3.here hx rfl (hb hby d4_12) rfl k) ?_
  show Rch p e below (T3.setTop (mkF m 13 #[.val (.ref a1), .val (.ref a2)] [(.long (r_local + s_local)), (.ref b1), (.ref b1)])) _
  refine Rch.go (fun _ k => XS.aloadN X3.here hx rfl (hb hby d4_13) rfl rfl k) ?_
  show Rch p e below (T3.setTop (mkF m 14 #[.val (.ref a1), .val (.ref a2)] [(.ref a1), (.long (r_local + s_local)), (.ref b1), (.ref b1)])) _
  obtain ⟨T4, X4, e4, st4⟩ := getF X3 hx hZ hown (host := "") (Or.inl (hw _ (List.mem_of_getElem? (i := 16) rfl))) Via.refl e3 F_remote_a1 (g := (mkF m 14 #[.val (.ref a1), .val (.ref a2)] [(.ref a1), (.long (r_local + s_local)), (.ref b1), (.ref b1)])) rfl rfl (hb hby d4_14)
  refine Rch.go st4 ?_
  show Rch p e below (T4.setTop (mkF m 17 #[.val (.ref a1), .val (.ref a2)] [(.long r_remote), (.long (r_local + s_local)), (.ref b1), (.ref b1)])) _
  refine Rch.go (fun _ k => XS.aloadN X4.here hx rfl (hb hby d4_17) rfl rfl k) ?_
  show Rch p e below (T4.setTop (mkF m 18 #[.val (.ref a1), .val (.ref a2)] [(.ref a2), (.long r_remote), (.long (r_local + s_local)), (.ref b1), (.ref b1)])) _
  obtain ⟨T5, X5, e5, st5⟩ := getF X4 hx hZ hown (host := "") (Or.inl (hw _ (List.mem_of_getElem? (i := 16) rfl))) Via.refl e4 F_remote_a2 (g := (mkF m 18 #[.val (.ref a1), .val (.ref a2)] [(.ref a2), (.long r_remote), (.long (r_local + s_local)), (.ref b1), (.ref b1)])) rfl rfl (hb hby d4_18)
  refine Rch.go st5 ?_
  show Rch p e below (T5.setTop (mkF m 21 #[.val (.ref a1), .val (.ref a2)] [(.long s_remote), (.long r_remote), (.long (r_local + s_local)), (.ref b1), (.ref b1)])) _
  refine Rch.go (fun _ k => XS.ladd X5.here hx rfl (hb hby d4_21) rfl k) ?_
  show Rch p e below (T5.setTop (mkF m 22 #[.val (.ref a1), .val (.ref a2)] [(.long (r_remote + s_remote)), (.long (r_local + s_local)), (.ref b1), (.ref b1)])) _
  refine Rch.go (fun _ k => XS.aloadN X5.here hx rfl (hb hby d4_22) rfl rfl k) ?_
  show Rch p e below (T5.setTop (mkF m 23 #[.val (.ref a1), .val (.ref a2)] [(.ref a1), (.long (r_remote + s_remote)), (.long (r_local + s_local)), (.ref b1), (.ref b1)])) _
  obtain ⟨T6, X6, e6, st6⟩ := getF X5 hx hZ hown (host := "") (Or.inl (hw _ (List.mem_of_getElem? (i := 18) rfl))) Via.refl e5 F_origin_a1 (g := (mkF m 23 #[.val (.ref a1), .val (.ref a2)] [(.ref a1), (.long (r_remote + s_remote)), (.long (r_local + s_local)), (.ref b1), (.ref b1)])) rfl rfl (hb hby d4_23)
  refine Rch.go st6 ?_
  show Rch p e below (T6.setTop (mkF m 26 #[.val (.ref a1), .val (.ref a2)] [(.long r_origin), (.long (r_remote + s_remote)), (.long (r_local + s_local)), (.ref b1), (.ref b1)])) _
  refine Rch.go (fun _ k => XS.aloadN X6.here hx rfl (hb hby d4_26) rfl rfl k) ?_
  show Rch p e below (T6.setTop (mkF m 27 #[.val (.ref a1), .val (.ref a2)] [(.ref a2), (.long r_origin), (.long (r_remote + s_remote)), (.long (r_local + s_local)), (.ref b1), (.ref b1)])) _
  obtain ⟨T7, X7, e7, st7⟩ := getF X6 hx hZ hown (host := "") (Or.inl (hw _ (List.mem_of_getElem? (i := 18) rfl))) Via.refl e6 F_origin_a2 (g := (mkF m 27 #[.val (.ref a1), .val (.ref a2)] [(.ref a2), (.long r_origin), (.long (r_remote + s_remote)), (.long (r_local + s_local)), (.ref b1), (.ref b1)])) rfl rfl (hb hby d4_27)
  refine Rch.go st7 ?_
  show Rch p e below (T7.setTop (mkF m 30 #[.val (.ref a1), .val (.ref a2)] [(.long s_origin), (.long r_origin), (.long (r_remote + s_remote)), (.long (r_local + s_local)), (.ref b1), (.ref b1)])) _
  refine Rch.go (fun _ k => XS.ladd X7.here hx rfl (hb hby d4_30) rfl k) ?_
  show Rch p e below (T7.setTop (mkF m 31 #[.val (.ref a1), .val (.ref a2)] [(.long (r_origin + s_origin)), (.long (r_remote + s_remote)), (.long (r_local + s_local)), (.ref b1), (.ref b1)])) _
  refine Rch.callC X7 hx hZ rfl hown (hw _ (List.mem_of_getElem? (i := 26) rfl)) (hw _ (List.mem_of_getElem? (i := 4) rfl)) (hw _ (List.mem_of_getElem? (i := 2) rfl)) (hw _ (List.mem_of_getElem? (i := 5) rfl)) (by decide) (rm1 l Z a0 hw [] b1 (r_local + s_local) (r_remote + s_remote) (r_origin + s_origin) (.long (0 : Int64)) (.long (0 : Int64)) (.long (0 : Int64)) h1 n0 Z0 E_b1 g_b1 F_local_b1 F_remote_b1 F_origin_b1) 1 (by decide) (by decide) (by decide) (by decide) e7 (g := (mkF m 31 #[.val (.ref a1), .val (.ref a2)] [(.long (r_origin + s_origin)), (.long (r_remote + s_remote)), (.long (r_local + s_local)), (.ref b1), (.ref b1)])) rfl (by rw [hml]; rfl) b1 [(.long (r_local + s_local)), (.long (r_remote + s_remote)), (.long (r_origin + s_origin))] [(.ref b1)] rfl (lenOf pd4_0 rfl) rfl (by show 2 * 0 + _ ≤ _; exact Nat.le_of_eq rfl) (hb hby d4_31) ?_
  intro v8 T8 L8 X8 hQ8
  obtain ⟨rfl, N8q, K8, _, Flocal_b1, Fremote_b1, Forigin_b1⟩ := hQ8
  have F_local_a1 := F_local_a1.keep K8 (ninS ne_a1_b1 nin0)
  have F_remote_a1 := F_remote_a1.keep K8 (ninS ne_a1_b1 nin0)
  have F_origin_a1 := F_origin_a1.keep K8 (ninS ne_a1_b1 nin0)
  have F_local_a2 := F_local_a2.keep K8 (ninS ne_a2_b1 nin0)
  have F_remote_a2 := F_remote_a2.keep K8 (ninS ne_a2_b1 nin0)
  have F_origin_a2 := F_origin_a2.keep K8 (ninS ne_a2_b1 nin0)
  have E_b1 := E_b1.keep K8
  have K0 := K0.trans K8 (allS (Or.inr sz_b1) all0)
  have Z0 := Nat.le_trans Z0 K8.1
  have N8 := Fr.app N0 N8q
  show Rch p e below (T8.setTop (mkF m 34 #[.val (.ref a1), .val (.ref a2)] [(.ref b1)])) _
  exact Rch.ret X8 hlk (fun h => by rw [hret] at h; cases h) (fun fs hr => retR' X8 hx hret rfl rfl (hb hby d4_34) hr) ⟨b1, rfl, N8, K0, g_b1, sz_b1, E_b1, Flocal_b1, Fremote_b1, Forigin_b1⟩ (by decide) (by decide)
theorem d5_0 : decode prog_47_method_3_code 0 = .ok (.aload_n 0, 1) := by decide +kernel
theorem d5_1 : decode prog_47_method_3_code 1 = .ok (.getfield 7, 3) := by decide +kernel
theorem d5_4 : decode prog_47_method_3_code 4 = .ok (.aload_n 0, 1) := by decide +kernel
theorem d5_5 : decode prog_47_method_3_code 5 = .ok (.getfield 13, 3) := by decide +kernel
theorem d5_8 : decode prog_47_method_3_code 8 = .ok (.ladd, 1) := by decide +kernel
theorem d5_9 : decode prog_47_method_3_code 9 = .ok (.aload_n 0, 1) := by decide +kernel
theorem d5_10 : decode prog_47_method_3_code 10 = .ok (.getfield 16, 3) := by decide +kernel
theorem d5_13 : decode prog_47_method_3_code 13 = .ok (.ladd, 1) := by decide +kernel
theorem d5_14 : decode prog_47_method_3_code 14 = .ok (.lreturn, 1) := by decide +kernel
theorem pn_5 : plainFor (⟨"com/example/mirrorwright/mirrorwright/sim/Replay$Result", "requests", "()J"⟩ : MethodName) = true := plainFor_of_name (by first | (simp [plainName, overriddenIn]; done) | decide +kernel)
theorem ef_5 (m : MethodId) (x0 : Addr) : entryFrame m #[(.ref x0)] 1 = mkF m 0 #[.val (.ref x0)] [] := by first | (simp [entryFrame, mkF, argsToLocals, Value.category]; done) | rfl
def own_Q_rm5 (Z : State) (a1 : Addr) (r_local r_remote r_origin : Int64) (h0 : Heap) (n0 : Nat) (v : Option Value) (h : Heap) (L : List Loc) : Prop := v = some (.long ((r_local + r_remote) + r_origin)) ∧ Fr n0 L ∧ h = h0
set_option maxRecDepth 65536 in
set_option maxHeartbeats 40000000 in
theorem rm5 (l : Launch) (Z : State) (a0 : Array Value) (hw : ∀ d ∈ tables_1, d.before a0 Z = true) (ws : List Jvm.Cond) (a1 : Addr) (r_local r_remote r_origin : Int64) (h0 : Heap) (n0 : Nat) (Z0 : n0 ≤ h0.size) (F_local : Fld Z h0 a1 "com/example/mirrorwright/mirrorwright/sim/Replay$Result" "local" "J" (.long r_local)) (F_remote : Fld Z h0 a1 "com/example/mirrorwright/mirrorwright/sim/Replay$Result" "remote" "J" (.long r_remote)) (F_origin : Fld Z h0 a1 "com/example/mirrorwright/mirrorwright/sim/Replay$Result" "origin" "J" (.long r_origin)) :
    MetFree l (⟨"com/example/mirrorwright/mirrorwright/sim/Replay$Result", "requests", "()J"⟩ : MethodName) (head1 (Jvm.Cond.code (⟨"com/example/mirrorwright/mirrorwright/sim/Replay$Result", "requests", "()J"⟩ : MethodName) prog_47_method_3_code 1 (some .long) :: ws) ({ frames := 0, cells := 0, slots := 0, locals := 0 } : Room)) (fun a U => a = #[(.ref a1)] ∧ Z.Warmed39 U.vm ∧ U.heap = h0) (fun _ _ _ _ _ => True) (fun _ U o U' => ∃ v L, o = .returned v ∧ own_Q_rm5 Z a1 r_local r_remote r_origin h0 n0 v U'.heap L ∧ FrameEnd U o U' L ({ frames := 0, cells := 0, slots := 0, locals := 0 } : Room).cells ({ frames := 0, cells := 0, slots := 0, locals := 0 } : Room).slots) := by
  refine own_body (Q := (own_Q_rm5 Z a1 r_local r_remote r_origin h0 n0)) pn_5 ?_
  intro p e s m below meth c s₁ X0 hx hby hml hown hnm hret hlk hZ e0
  have N0 := Fr.nil n0
  refine Rch.go (fun t k => castTop (ef_5 m a1) k) ?_
  show Rch p e below (s₁.setTop (mkF m 0 #[.val (.ref a1)] [])) _
  refine Rch.go (fun _ k => XS.aloadN X0.here hx rfl (hb hby d5_0) rfl rfl k) ?_
  show Rch p e below (s₁.setTop (mkF m 1 #[.val (.ref a1)] [(.ref a1)])) _
  obtain ⟨T1, X1, e1, st1⟩ := getF X0 hx hZ hown (host := "") (Or.inl (hw _ (List.mem_of_getElem? (i := 14) rfl))) Via.refl e0 F_local (g := (mkF m 1 #[.val (.ref a1)] [(.ref a1)])) rfl rfl (hb hby d5_1)
  refine Rch.go st1 ?_
  show Rch p e below (T1.setTop (mkF m 4 #[.val (.ref a1)] [(.long r_local)])) _
  refine Rch.go (fun _ k => XS.aloadN X1.here hx rfl (hb hby d5_4) rfl rfl k) ?_
  show Rch p e below (T1.setTop (mkF m 5 #[.val (.ref a1)] [(.ref a1), (.long r_local)])) _
  obtain ⟨T2, X2, e2, st2⟩ := getF X1 hx hZ hown (host := "") (Or.inl (hw _ (List.mem_of_getElem? (i := 16) rfl))) Via.refl e1 F_remote (g := (mkF m 5 #[.val (.ref a1)] [(.ref a1), (.long r_local)])) rfl rfl (hb hby d5_5)
  refine Rch.go st2 ?_
  show Rch p e below (T2.setTop (mkF m 8 #[.val (.ref a1)] [(.long r_remote), (.long r_local)])) _
  refine Rch.go (fun _ k => XS.ladd X2.here hx rfl (hb hby d5_8) rfl k) ?_
  show Rch p e below (T2.setTop (mkF m 9 #[.val (.ref a1)] [(.long (r_local + r_remote))])) _
  refine Rch.go (fun _ k => XS.aloadN X2.here hx rfl (hb hby d5_9) rfl rfl k) ?_
  show Rch p e below (T2.setTop (mkF m 10 #[.val (.ref a1)] [(.ref a1), (.long (r_local + r_remote))])) _
  obtain ⟨T3, X3, e3, st3⟩ := getF X2 hx hZ hown (host := "") (Or.inl (hw _ (List.mem_of_getElem? (i := 18) rfl))) Via.refl e2 F_origin (g := (mkF m 10 #[.val (.ref a1)] [(.ref a1), (.long (r_local + r_remote))])) rfl rfl (hb hby d5_10)
  refine Rch.go st3 ?_
  show Rch p e below (T3.setTop (mkF m 13 #[.val (.ref a1)] [(.long r_origin), (.long (r_local + r_remote))])) _
  refine Rch.go (fun _ k => XS.ladd X3.here hx rfl (hb hby d5_13) rfl k) ?_
  show Rch p e below (T3.setTop (mkF m 14 #[.val (.ref a1)] [(.long ((r_local + r_remote) + r_origin))])) _
  exact Rch.ret X3 hlk (fun h => by rw [hret] at h; cases h) (fun fs hr => X3.lreturnOut hx hret (hb hby d5_14) hr) ⟨rfl, N0, e3⟩ (by decide) (by decide)
theorem own_sum (a b c d e f : Int64) : (((a + d) + (b + e)) + (c + f)) = (((a + b) + c) + ((d + e) + f)) := by grind
theorem own_zero : (((0 : Int64) + (0 : Int64)) + (0 : Int64)) = (0 : Int64) := by decide
theorem own_fld {args : Array Value} {s : State} {C f : String} {t : Term} {nn : Addr} {z : Int64} (ev : t.eval args s none [] s = some (.ref nn)) (h : (Jvm.Cond.eq (Jvm.Term.field t C f "J") (Jvm.Term.long z)).value args s none s [] = some true) : Fld s s.heap nn C f "J" (.long z) := by
  refine Fld.start ?_
  have e1 : (Jvm.Term.field t C f "J").eval args s none [] s = s.fieldOf? nn C f "J" := by simp only [Term.eval, ev]; rfl
  simp only [Cond.value] at h
  rw [e1, show (Jvm.Term.long z).eval args s none [] s = some (.long z) from rfl] at h
  cases hv : s.fieldOf? nn C f "J" with
  | none => rw [hv] at h; cases h
  | some v =>
    rw [hv] at h
    cases v <;> simp at h ⊢
    exact h
theorem pd0_0 : parseMethodDescriptor "(JJJ)V" = some ⟨[.long, .long, .long], none⟩ := by decide +kernel
theorem pd0_1 : parseMethodDescriptor "(Lcom/example/mirrorwright/mirrorwright/sim/Replay$Result;)Lcom/example/mirrorwright/mirrorwright/sim/Replay$Result;" = some ⟨[(.object "com/example/mirrorwright/mirrorwright/sim/Replay$Result")], some (.object "com/example/mirrorwright/mirrorwright/sim/Replay$Result")⟩ := by decide +kernel
theorem pd0_2 : parseMethodDescriptor "()J" = some ⟨[], some .long⟩ := by decide +kernel
theorem pn_0 : plainFor x = true := plainFor_of_name (by first | (simp [plainName, overriddenIn]; done) | decide +kernel)
theorem ef_0 (m : MethodId) (x0 : Int64) (x1 : Int64) (x2 : Int64) (x3 : Int64) (x4 : Int64) (x5 : Int64) : entryFrame m #[(.long x0), (.long x1), (.long x2), (.long x3), (.long x4), (.long x5)] maxLocals = mkF m 0 #[.val (.long x0), .second, .val (.long x1), .second, .val (.long x2), .second, .val (.long x3), .second, .val (.long x4), .second, .val (.long x5), .second, .unset, .unset, .unset, .unset, .unset, .unset, .unset, .unset, .unset, .unset, .unset, .unset, .unset, .unset] [] := by first | (simp [entryFrame, mkF, argsToLocals, Value.category, maxLocals]; done) | rfl
def own_Q_rm0 (Z : State) (q0 q1 q2 q3 q4 q5 : Int64) (h0 : Heap) (n0 : Nat) (v : Option Value) (h : Heap) (L : List Loc) : Prop := v = some (.int 1) ∧ Fr n0 L
set_option maxRecDepth 65536 in
set_option maxHeartbeats 40000000 in
theorem rm0 (l : Launch) (Z : State) (a0 : Array Value) (hw : ∀ d ∈ tables_1, d.before a0 Z = true) (ws : List Jvm.Cond) (q0 q1 q2 q3 q4 q5 : Int64) (h0 : Heap) (n0 : Nat) (Z0 : n0 ≤ h0.size) (O0 : Old Z n0 h0) (nn : Addr) (S0 : Sta Z Z.heap "com/example/mirrorwright/mirrorwright/sim/Replay$Result" "NONE" "Lcom/example/mirrorwright/mirrorwright/sim/Replay$Result;" (.ref nn)) (E_nn : Exa Z h0 nn "com/example/mirrorwright/mirrorwright/sim/Replay$Result") (Flocal_nn : Fld Z h0 nn "com/example/mirrorwright/mirrorwright/sim/Replay$Result" "local" "J" (.long (0 : Int64))) (Fremote_nn : Fld Z h0 nn "com/example/mirrorwright/mirrorwright/sim/Replay$Result" "remote" "J" (.long (0 : Int64))) (Forigin_nn : Fld Z h0 nn "com/example/mirrorwright/mirrorwright/sim/Replay$Result" "origin" "J" (.long (0 : Int64))) :
    MetFree l x (head1 (Jvm.Cond.code x code maxLocals ret :: ws) room_1) (fun a U => a = #[(.long q0), (.long q1), (.long q2), (.long q3), (.long q4), (.long q5)] ∧ Z.Warmed39 U.vm ∧ U.heap = h0) (fun _ _ _ _ _ => True) (fun _ U o U' => ∃ v L, o = .returned v ∧ own_Q_rm0 Z q0 q1 q2 q3 q4 q5 h0 n0 v U'.heap L ∧ FrameEnd U o U' L 16 128) := by
  refine own_body (Q := (own_Q_rm0 Z q0 q1 q2 q3 q4 q5 h0 n0)) pn_0 ?_
  intro p e s m below meth c s₁ X0 hx hby hml hown hnm hret hlk hZ e0
  have N0 := Fr.nil n0
  refine Rch.go (fun t k => castTop (ef_0 m q0 q1 q2 q3 q4 q5) k) ?_
  have O0 : Old Z n0 h0 := O0
  show Rch p e below (s₁.setTop (mkF m 0 #[.val (.long q0), .second, .val (.long q1), .second, .val (.long q2), .second, .val (.long q3), .second, .val (.long q4), .second, .val (.long q5), .second, .unset, .unset, .unset, .unset, .unset, .unset, .unset, .unset, .unset, .unset, .unset, .unset, .unset, .unset] [])) _
  obtain ⟨T1, h1, X1, e1, E1, A1, D1, -, st1⟩ := newO X0 hx hZ hown (hw _ (List.mem_of_getElem? (i := 0) rfl)) (hw _ (List.mem_of_getElem? (i := 1) rfl)) (hw _ (List.mem_of_getElem? (i := 2) rfl)) e0 (g := (mkF m 0 #[.val (.long q0), .second, .val (.long q1), .second, .val (.long q2), .second, .val (.long q3), .second, .val (.long q4), .second, .val (.long q5), .second, .unset, .unset, .unset, .unset, .unset, .unset, .unset, .unset, .unset, .unset, .unset, .unset, .unset, .unset] [])) rfl (hb hby at_0) (by decide) (by decide)
  obtain ⟨b1, g1⟩ : ∃ z, z = h0.size := ⟨_, rfl⟩
  rw [← g1] at A1 D1 st1
  have ne_nn_b1 : nn ≠ b1 := Nat.ne_of_lt (Nat.lt_of_lt_of_le Flocal_nn.lt (Nat.le_of_eq g1.symm))
  have g_b1 : n0 ≤ b1 := Nat.le_trans Z0 (Nat.le_of_eq g1.symm)
  have E_nn := E_nn.ext E1
  have Flocal_nn := Flocal_nn.ext E1
  have Fremote_nn := Fremote_nn.ext E1
  have Forigin_nn := Forigin_nn.ext E1
  have Z0 := Nat.le_trans Z0 E1.1
  have E_b1 := A1
  have F_local_b1 : Fld Z h1 b1 "com/example/mirrorwright/mirrorwright/sim/Replay$Result" "local" "J" (.long (0 : Int64)) := D1 (Or.inr (hw _ (List.mem_of_getElem? (i := 15) rfl))) (ty := .long) (by decide)
  have F_remote_b1 : Fld Z h1 b1 "com/example/mirrorwright/mirrorwright/sim/Replay$Result" "remote" "J" (.long (0 : Int64)) := D1 (Or.inr (hw _ (List.mem_of_getElem? (i := 17) rfl))) (ty := .long) (by decide)
  have F_origin_b1 : Fld Z h1 b1 "com/example/mirrorwright/mirrorwright/sim/Replay$Result" "origin" "J" (.long (0 : Int64)) := D1 (Or.inr (hw _ (List.mem_of_getElem? (i := 19) rfl))) (ty := .long) (by decide)
  have O0 := O0.ext E1
  refine Rch.go st1 ?_
  show Rch p e below (T1.setTop (mkF m 3 #[.val (.long q0), .second, .val (.long q1), .second, .val (.long q2), .second, .val (.long q3), .second, .val (.long q4), .second, .val (.long q5), .second, .unset, .unset, .unset, .unset, .unset, .unset, .unset, .unset, .unset, .unset, .unset, .unset, .unset, .unset] [(.ref b1)])) _
  refine Rch.go (fun _ k => XS.dup X1.here hx rfl (hb hby at_3) rfl rfl k) ?_
  show Rch p e below (T1.setTop (mkF m 4 #[.val (.long q0), .second, .val (.long q1), .second, .val (.long q2), .second, .val (.long q3), .second, .val (.long q4), .second, .val (.long q5), .second, .unset, .unset, .unset, .unset, .unset, .unset, .unset, .unset, .unset, .unset, .unset, .unset, .unset, .unset] [(.ref b1), (.ref b1)])) _
  refine Rch.go (fun _ k => XS.lloadN X1.here hx rfl (hb hby at_4) rfl  k) ?_
  show Rch p e below (T1.setTop (mkF m 5 #[.val (.long q0), .second, .val (.long q1), .second, .val (.long q2), .second, .val (.long q3), .second, .val (.long q4), .second, .val (.long q5), .second, .unset, .unset, .unset, .unset, .unset, .unset, .unset, .unset, .unset, .unset, .unset, .unset, .unset, .unset] [(.long q0), (.ref b1), (.ref b1)])) _
  refine Rch.go (fun _ k => XS.lloadN X1.here hx rfl (hb hby at_5) rfl  k) ?_
  show Rch p e below (T1.setTop (mkF m 6 #[.val (.long q0), .second, .val (.long q1), .second, .val (.long q2), .second, .val (.long q3), .second, .val (.long q4), .second, .val (.long q5), .second, .unset, .unset, .unset, .unset, .unset, .unset, .unset, .unset, .unset, .unset, .unset, .unset, .unset, .unset] [(.long q1), (.long q0), (.ref b1), (.ref b1)])) _
  refine Rch.go (fun _ k => XS.lload X1.here hx rfl (hb hby at_6) rfl  k) ?_
  show Rch p e below (T1.setTop (mkF m 8 #[.val (.long q0), .second, .val (.long q1), .second, .val (.long q2), .second, .val (.long q3), .second, .val (.long q4), .second, .val (.long q5), .second, .unset, .unset, .unset, .unset, .unset, .unset, .unset, .unset, .unset, .unset, .unset, .unset, .unset, .unset] [(.long q2), (.long q1), (.long q0), (.ref b1), (.ref b1)])) _
  refine Rch.callC X1 hx hZ rfl hown (hw _ (List.mem_of_getElem? (i := 3) rfl)) (hw _ (List.mem_of_getElem? (i := 4) rfl)) (hw _ (List.mem_of_getElem? (i := 2) rfl)) (hw _ (List.mem_of_getElem? (i := 5) rfl)) (by decide) (rm1 l Z a0 hw [] b1 q0 q1 q2 (.long (0 : Int64)) (.long (0 : Int64)) (.long (0 : Int64)) h1 n0 Z0 E_b1 g_b1 F_local_b1 F_remote_b1 F_origin_b1) 1 (by decide) (by decide) (by decide) (by decide) e1 (g := (mkF m 8 #[.val (.long q0), .second, .val (.long q1), .second, .val (.long q2), .second, .val (.long q3), .second, .val (.long q4), .second, .val (.long q5), .second, .unset, .unset, .unset, .unset, .unset, .unset, .unset, .unset, .unset, .unset, .unset, .unset, .unset, .unset] [(.long q2), (.long q1), (.long q0), (.ref b1), (.ref b1)])) rfl (by rw [hml]; rfl) b1 [(.long q0), (.long q1), (.long q2)] [(.ref b1)] rfl (lenOf pd0_0 rfl) rfl (by show 2 * 0 + _ ≤ _; exact Nat.le_of_eq rfl) (hb hby at_8) ?_
  intro v2 T2 L2 X2 hQ2
  obtain ⟨rfl, N2q, K2, _, Flocal_b1, Fremote_b1, Forigin_b1⟩ := hQ2
  have E_nn := E_nn.keep K2
  have Flocal_nn := Flocal_nn.keep K2 (ninS ne_nn_b1 nin0)
  have Fremote_nn := Fremote_nn.keep K2 (ninS ne_nn_b1 nin0)
  have Forigin_nn := Forigin_nn.keep K2 (ninS ne_nn_b1 nin0)
  have E_b1 := E_b1.keep K2
  have Z0 := Nat.le_trans Z0 K2.1
  have N2 := Fr.app N0 N2q
  have O0 := O0.keep K2 (allS g_b1 all0)
  show Rch p e below (T2.setTop (mkF m 11 #[.val (.long q0), .second, .val (.long q1), .second, .val (.long q2), .second, .val (.long q3), .second, .val (.long q4), .second, .val (.long q5), .second, .unset, .unset, .unset, .unset, .unset, .unset, .unset, .unset, .unset, .unset, .unset, .unset, .unset, .unset] [(.ref b1)])) _
  refine Rch.go (fun _ k => XS.astore X2.here hx rfl (hb hby at_11) rfl rfl (l' := #[.val (.long q0), .second, .val (.long q1), .second, .val (.long q2), .second, .val (.long q3), .second, .val (.long q4), .second, .val (.long q5), .second, .val (.ref b1), .unset, .unset, .unset, .unset, .unset, .unset, .unset, .unset, .unset, .unset, .unset, .unset, .unset]) rfl k) ?_
  show Rch p e below (T2.setTop (mkF m 13 #[.val (.long q0), .second, .val (.long q1), .second, .val (.long q2), .second, .val (.long q3), .second, .val (.long q4), .second, .val (.long q5), .second, .val (.ref b1), .unset, .unset, .unset, .unset, .unset, .unset, .unset, .unset, .unset, .unset, .unset, .unset, .unset] [])) _
  obtain ⟨T3, h3, X3, e3, E3, A3, D3, -, st3⟩ := newO X2 hx hZ hown (hw _ (List.mem_of_getElem? (i := 0) rfl)) (hw _ (List.mem_of_getElem? (i := 1) rfl)) (hw _ (List.mem_of_getElem? (i := 2) rfl)) rfl (g := (mkF m 13 #[.val (.long q0), .second, .val (.long q1), .second, .val (.long q2), .second, .val (.long q3), .second, .val (.long q4), .second, .val (.long q5), .second, .val (.ref b1), .unset, .unset, .unset, .unset, .unset, .unset, .unset, .unset, .unset, .unset, .unset, .unset, .unset] [])) rfl (hb hby at_13) (by decide) (by decide)
  obtain ⟨b3, g3⟩ : ∃ z, z = T2.heap.size := ⟨_, rfl⟩
  rw [← g3] at A3 D3 st3
  have ne_nn_b3 : nn ≠ b3 := Nat.ne_of_lt (Nat.lt_of_lt_of_le Flocal_nn.lt (Nat.le_of_eq g3.symm))
  have ne_b1_b3 : b1 ≠ b3 := Nat.ne_of_lt (Nat.lt_of_lt_of_le Flocal_b1.lt (Nat.le_of_eq g3.symm))
  have g_b3 : n0 ≤ b3 := Nat.le_trans Z0 (Nat.le_of_eq g3.symm)
  have E_nn := E_nn.ext E3
  have Flocal_nn := Flocal_nn.ext E3
  have Fremote_nn := Fremote_nn.ext E3
  have Forigin_nn := Forigin_nn.ext E3
  have E_b1 := E_b1.ext E3
  have Flocal_b1 := Flocal_b1.ext E3
  have Fremote_b1 := Fremote_b1.ext E3
  have Forigin_b1 := Forigin_b1.ext E3
  have Z0 := Nat.le_trans Z0 E3.1
  have E_b3 := A3
  have F_local_b3 : Fld Z h3 b3 "com/example/mirrorwright/mirrorwright/sim/Replay$Result" "local" "J" (.long (0 : Int64)) := D3 (Or.inr (hw _ (List.mem_of_getElem? (i := 15) rfl))) (ty := .long) (by decide)
  have F_remote_b3 : Fld Z h3 b3 "com/example/mirrorwright/mirrorwright/sim/Replay$Result" "remote" "J" (.long (0 : Int64)) := D3 (Or.inr (hw _ (List.mem_of_getElem? (i := 17) rfl))) (ty := .long) (by decide)
  have F_origin_b3 : Fld Z h3 b3 "com/example/mirrorwright/mirrorwright/sim/Replay$Result" "origin" "J" (.long (0 : Int64)) := D3 (Or.inr (hw _ (List.mem_of_getElem? (i := 19) rfl))) (ty := .long) (by decide)
  have O0 := O0.ext E3
  refine Rch.go st3 ?_
  show Rch p e below (T3.setTop (mkF m 16 #[.val (.long q0), .second, .val (.long q1), .second, .val (.long q2), .second, .val (.long q3), .second, .val (.long q4), .second, .val (.long q5), .second, .val (.ref b1), .unset, .unset, .unset, .unset, .unset, .unset, .unset, .unset, .unset, .unset, .unset, .unset, .unset] [(.ref b3)])) _
  refine Rch.go (fun _ k => XS.dup X3.here hx rfl (hb hby at_16) rfl rfl k) ?_
  show Rch p e below (T3.setTop (mkF m 17 #[.val (.long q0), .second, .val (.long q1), .second, .val (.long q2), .second, .val (.long q3), .second, .val (.long q4), .second, .val (.long q5), .second, .val (.ref b1), .unset, .unset, .unset, .unset, .unset, .unset, .unset, .unset, .unset, .unset, .unset, .unset, .unset] [(.ref b3), (.ref b3)])) _
  refine Rch.go (fun _ k => XS.lload X3.here hx rfl (hb hby at_17) rfl  k) ?_
  show Rch p e below (T3.setTop (mkF m 19 #[.val (.long q0), .second, .val (.long q1), .second, .val (.long q2), .second, .val (.long q3), .second, .val (.long q4), .second, .val (.long q5), .second, .val (.ref b1), .unset, .unset, .unset, .unset, .unset, .unset, .unset, .unset, .unset, .unset, .unset, .unset, .unset] [(.long q3), (.ref b3), (.ref b3)])) _
  refine Rch.go (fun _ k => XS.lload X3.here hx rfl (hb hby at_19) rfl  k) ?_
  show Rch p e below (T3.setTop (mkF m 21 #[.val (.long q0), .second, .val (.long q1), .second, .val (.long q2), .second, .val (.long q3), .second, .val (.long q4), .second, .val (.long q5), .second, .val (.ref b1), .unset, .unset, .unset, .unset, .unset, .unset, .unset, .unset, .unset, .unset, .unset, .unset, .unset] [(.long q4), (.long q3), (.ref b3), (.ref b3)])) _
  refine Rch.go (fun _ k => XS.lload X3.here hx rfl (hb hby at_21) rfl  k) ?_
  show Rch p e below (T3.setTop (mkF m 23 #[.val (.long q0), .second, .val (.long q1), .second, .val (.long q2), .second, .val (.long q3), .second, .val (.long q4), .second, .val (.long q5), .second, .val (.ref b1), .unset, .unset, .unset, .unset, .unset, .unset, .unset, .unset, .unset, .unset, .unset, .unset, .unset] [(.long q5), (.long q4), (.long q3), (.ref b3), (.ref b3)])) _
  refine Rch.callC X3 hx hZ rfl hown (hw _ (List.mem_of_getElem? (i := 3) rfl)) (hw _ (List.mem_of_getElem? (i := 4) rfl)) (hw _ (List.mem_of_getElem? (i := 2) rfl)) (hw _ (List.mem_of_getElem? (i := 5) rfl)) (by decide) (rm1 l Z a0 hw [] b3 q3 q4 q5 (.long (0 : Int64)) (.long (0 : Int64)) (.long (0 : Int64)) h3 n0 Z0 E_b3 g_b3 F_local_b3 F_remote_b3 F_origin_b3) 1 (by decide) (by decide) (by decide) (by decide) e3 (g := (mkF m 23 #[.val (.long q0), .second, .val (.long q1), .second, .val (.long q2), .second, .val (.long q3), .second, .val (.long q4), .second, .val (.long q5), .second, .val (.ref b1), .unset, .unset, .unset, .unset, .unset, .unset, .unset, .unset, .unset, .unset, .unset, .unset, .unset] [(.long q5), (.long q4), (.long q3), (.ref b3), (.ref b3)])) rfl (by rw [hml]; rfl) b3 [(.long q3), (.long q4), (.long q5)] [(.ref b3)] rfl (lenOf pd0_0 rfl) rfl (by show 2 * 0 + _ ≤ _; exact Nat.le_of_eq rfl) (hb hby at_23) ?_
  intro v4 T4 L4 X4 hQ4
  obtain ⟨rfl, N4q, K4, _, Flocal_b3, Fremote_b3, Forigin_b3⟩ := hQ4
  have E_nn := E_nn.keep K4
  have Flocal_nn := Flocal_nn.keep K4 (ninS ne_nn_b3 nin0)
  have Fremote_nn := Fremote_nn.keep K4 (ninS ne_nn_b3 nin0)
  have Forigin_nn := Forigin_nn.keep K4 (ninS ne_nn_b3 nin0)
  have E_b1 := E_b1.keep K4
  have Flocal_b1 := Flocal_b1.keep K4 (ninS ne_b1_b3 nin0)
  have Fremote_b1 := Fremote_b1.keep K4 (ninS ne_b1_b3 nin0)
  have Forigin_b1 := Forigin_b1.keep K4 (ninS ne_b1_b3 nin0)
  have E_b3 := E_b3.keep K4
  have Z0 := Nat.le_trans Z0 K4.1
  have N4 := Fr.app N2 N4q
  have O0 := O0.keep K4 (allS g_b3 all0)
  show Rch p e below (T4.setTop (mkF m 26 #[.val (.long q0), .second, .val (.long q1), .second, .val (.long q2), .second, .val (.long q3), .second, .val (.long q4), .second, .val (.long q5), .second, .val (.ref b1), .unset, .unset, .unset, .unset, .unset, .unset, .unset, .unset, .unset, .unset, .unset, .unset, .unset] [(.ref b3)])) _
  refine Rch.go (fun _ k => XS.astore X4.here hx rfl (hb hby at_26) rfl rfl (l' := #[.val (.long q0), .second, .val (.long q1), .second, .val (.long q2), .second, .val (.long q3), .second, .val (.long q4), .second, .val (.long q5), .second, .val (.ref b1), .val (.ref b3), .unset, .unset, .unset, .unset, .unset, .unset, .unset, .unset, .unset, .unset, .unset, .unset]) rfl k) ?_
  show Rch p e below (T4.setTop (mkF m 28 #[.val (.long q0), .second, .val (.long q1), .second, .val (.long q2), .second, .val (.long q3), .second, .val (.long q4), .second, .val (.long q5), .second, .val (.ref b1), .val (.ref b3), .unset, .unset, .unset, .unset, .unset, .unset, .unset, .unset, .unset, .unset, .unset, .unset] [])) _
  refine Rch.go (fun _ k => XS.aload X4.here hx rfl (hb hby at_28) rfl rfl k) ?_
  show Rch p e below (T4.setTop (mkF m 30 #[.val (.long q0), .second, .val (.long q1), .second, .val (.long q2), .second, .val (.long q3), .second, .val (.long q4), .second, .val (.long q5), .second, .val (.ref b1), .val (.ref b3), .unset, .unset, .unset, .unset, .unset, .unset, .unset, .unset, .unset, .unset, .unset, .unset] [(.ref b1)])) _
  refine Rch.go (fun _ k => XS.aload X4.here hx rfl (hb hby at_30) rfl rfl k) ?_
  show Rch p e below (T4.setTop (mkF m 32 #[.val (.long q0), .second, .val (.long q1), .second, .val (.long q2), .second, .val (.long q3), .second, .val (.long q4), .second, .val (.long q5), .second, .val (.ref b1), .val (.ref b3), .unset, .unset, .unset, .unset, .unset, .unset, .unset, .unset, .unset, .unset, .unset, .unset] [(.ref b3), (.ref b1)])) _
  refine Rch.callV X4 hx hZ hown (hw _ (List.mem_of_getElem? (i := 20) rfl)) (hw _ (List.mem_of_getElem? (i := 21) rfl)) (notFace_of_selects (args := #[]) (mvT hZ (hw _ (List.mem_of_getElem? (i := 23) rfl)))) (hw _ (List.mem_of_getElem? (i := 23) rfl)) (hw _ (List.mem_of_getElem? (i := 22) rfl)) (hw _ (List.mem_of_getElem? (i := 2) rfl)) (hw _ (List.mem_of_getElem? (i := 24) rfl)) (by decide) (rm4 l Z a0 hw [] b1 b3 q0 q1 q2 q3 q4 q5 T4.heap n0 Z0 Flocal_b1 Fremote_b1 Forigin_b1 Flocal_b3 Fremote_b3 Forigin_b3) 0 (by decide) (by decide) (by decide) (by decide) rfl E_b1 (g := (mkF m 32 #[.val (.long q0), .second, .val (.long q1), .second, .val (.long q2), .second, .val (.long q3), .second, .val (.long q4), .second, .val (.long q5), .second, .val (.ref b1), .val (.ref b3), .unset, .unset, .unset, .unset, .unset, .unset, .unset, .unset, .unset, .unset, .unset, .unset] [(.ref b3), (.ref b1)])) rfl (by rw [hml]; rfl) [(.ref b3)] [] rfl (lenOf pd0_1 rfl) rfl (by show 2 * 0 + _ ≤ _; exact Nat.le_of_eq rfl) (hb hby at_32) ?_
  intro v5 T5 L5 X5 hQ5
  obtain ⟨b5, rfl, N5q, K5, g_b5, sz_b5, E_b5, Flocal_b5, Fremote_b5, Forigin_b5⟩ := hQ5
  have O0 := O0.keep K5 all0
  have E_nn := E_nn.keep K5
  have Flocal_nn := Flocal_nn.keep K5 nin0
  have Fremote_nn := Fremote_nn.keep K5 nin0
  have Forigin_nn := Forigin_nn.keep K5 nin0
  have E_b1 := E_b1.keep K5
  have Flocal_b1 := Flocal_b1.keep K5 nin0
  have Fremote_b1 := Fremote_b1.keep K5 nin0
  have Forigin_b1 := Forigin_b1.keep K5 nin0
  have E_b3 := E_b3.keep K5
  have Flocal_b3 := Flocal_b3.keep K5 nin0
  have Fremote_b3 := Fremote_b3.keep K5 nin0
  have Forigin_b3 := Forigin_b3.keep K5 nin0
  have Z0 := Nat.le_trans Z0 K5.1
  have N5 := Fr.app N4 N5q
  show Rch p e below (T5.setTop (mkF m 35 #[.val (.long q0), .second, .val (.long q1), .second, .val (.long q2), .second, .val (.long q3), .second, .val (.long q4), .second, .val (.long q5), .second, .val (.ref b1), .val (.ref b3), .unset, .unset, .unset, .unset, .unset, .unset, .unset, .unset, .unset, .unset, .unset, .unset] [(.ref b5)])) _
  refine Rch.go (fun _ k => XS.astore X5.here hx rfl (hb hby at_35) rfl rfl (l' := #[.val (.long q0), .second, .val (.long q1), .second, .val (.long q2), .second, .val (.long q3), .second, .val (.long q4), .second, .val (.long q5), .second, .val (.ref b1), .val (.ref b3), .val (.ref b5), .unset, .unset, .unset, .unset, .unset, .unset, .unset, .unset, .unset, .unset, .unset]) rfl k) ?_
  show Rch p e below (T5.setTop (mkF m 37 #[.val (.long q0), .second, .val (.long q1), .second, .val (.long q2), .second, .val (.long q3), .second, .val (.long q4), .second, .val (.long q5), .second, .val (.ref b1), .val (.ref b3), .val (.ref b5), .unset, .unset, .unset, .unset, .unset, .unset, .unset, .unset, .unset, .unset, .unset] [])) _
  refine Rch.go (fun _ k => XS.aload X5.here hx rfl (hb hby at_37) rfl rfl k) ?_
  show Rch p e below (T5.setTop (mkF m 39 #[.val (.long q0), .second, .val (.long q1), .second, .val (.long q2), .second, .val (.long q3), .second, .val (.long q4), .second, .val (.long q5), .second, .val (.ref b1), .val (.ref b3), .val (.ref b5), .unset, .unset, .unset, .unset, .unset, .unset, .unset, .unset, .unset, .unset, .unset] [(.ref b1)])) _
  refine Rch.callV X5 hx hZ hown (hw _ (List.mem_of_getElem? (i := 27) rfl)) (hw _ (List.mem_of_getElem? (i := 28) rfl)) (notFace_of_selects (args := #[]) (mvT hZ (hw _ (List.mem_of_getElem? (i := 30) rfl)))) (hw _ (List.mem_of_getElem? (i := 30) rfl)) (hw _ (List.mem_of_getElem? (i := 29) rfl)) (hw _ (List.mem_of_getElem? (i := 2) rfl)) (hw _ (List.mem_of_getElem? (i := 31) rfl)) (by decide) (rm5 l Z a0 hw [] b1 q0 q1 q2 T5.heap n0 Z0 Flocal_b1 Fremote_b1 Forigin_b1) 0 (by decide) (by decide) (by decide) (by decide) rfl E_b1 (g := (mkF m 39 #[.val (.long q0), .second, .val (.long q1), .second, .val (.long q2), .second, .val (.long q3), .second, .val (.long q4), .second, .val (.long q5), .second, .val (.ref b1), .val (.ref b3), .val (.ref b5), .unset, .unset, .unset, .unset, .unset, .unset, .unset, .unset, .unset, .unset, .unset] [(.ref b1)])) rfl (by rw [hml]; rfl) [] [] rfl (lenOf pd0_2 rfl) rfl (by show 2 * 0 + _ ≤ _; exact Nat.le_of_eq rfl) (hb hby at_39) ?_
  intro v6 T6 L6 X6 hQ6
  obtain ⟨rfl, N6q, e6⟩ := hQ6
  have N6 := Fr.app N5 N6q
  show Rch p e below (T6.setTop (mkF m 42 #[.val (.long q0), .second, .val (.long q1), .second, .val (.long q2), .second, .val (.long q3), .second, .val (.long q4), .second, .val (.long q5), .second, .val (.ref b1), .val (.ref b3), .val (.ref b5), .unset, .unset, .unset, .unset, .unset, .unset, .unset, .unset, .unset, .unset, .unset] [(.long ((q0 + q1) + q2))])) _
  refine Rch.go (fun _ k => XS.lstore X6.here hx rfl (hb hby at_42) rfl (l' := #[.val (.long q0), .second, .val (.long q1), .second, .val (.long q2), .second, .val (.long q3), .second, .val (.long q4), .second, .val (.long q5), .second, .val (.ref b1), .val (.ref b3), .val (.ref b5), .val (.long ((q0 + q1) + q2)), .second, .unset, .unset, .unset, .unset, .unset, .unset, .unset, .unset, .unset]) rfl k) ?_
  show Rch p e below (T6.setTop (mkF m 44 #[.val (.long q0), .second, .val (.long q1), .second, .val (.long q2), .second, .val (.long q3), .second, .val (.long q4), .second, .val (.long q5), .second, .val (.ref b1), .val (.ref b3), .val (.ref b5), .val (.long ((q0 + q1) + q2)), .second, .unset, .unset, .unset, .unset, .unset, .unset, .unset, .unset, .unset] [])) _
  refine Rch.go (fun _ k => XS.aload X6.here hx rfl (hb hby at_44) rfl rfl k) ?_
  show Rch p e below (T6.setTop (mkF m 46 #[.val (.long q0), .second, .val (.long q1), .second, .val (.long q2), .second, .val (.long q3), .second, .val (.long q4), .second, .val (.long q5), .second, .val (.ref b1), .val (.ref b3), .val (.ref b5), .val (.long ((q0 + q1) + q2)), .second, .unset, .unset, .unset, .unset, .unset, .unset, .unset, .unset, .unset] [(.ref b3)])) _
  refine Rch.callV X6 hx hZ hown (hw _ (List.mem_of_getElem? (i := 27) rfl)) (hw _ (List.mem_of_getElem? (i := 28) rfl)) (notFace_of_selects (args := #[]) (mvT hZ (hw _ (List.mem_of_getElem? (i := 30) rfl)))) (hw _ (List.mem_of_getElem? (i := 30) rfl)) (hw _ (List.mem_of_getElem? (i := 29) rfl)) (hw _ (List.mem_of_getElem? (i := 2) rfl)) (hw _ (List.mem_of_getElem? (i := 31) rfl)) (by decide) (rm5 l Z a0 hw [] b3 q3 q4 q5 T5.heap n0 Z0 Flocal_b3 Fremote_b3 Forigin_b3) 0 (by decide) (by decide) (by decide) (by decide) e6 E_b3 (g := (mkF m 46 #[.val (.long q0), .second, .val (.long q1), .second, .val (.long q2), .second, .val (.long q3), .second, .val (.long q4), .second, .val (.long q5), .second, .val (.ref b1), .val (.ref b3), .val (.ref b5), .val (.long ((q0 + q1) + q2)), .second, .unset, .unset, .unset, .unset, .unset, .unset, .unset, .unset, .unset] [(.ref b3)])) rfl (by rw [hml]; rfl) [] [] rfl (lenOf pd0_2 rfl) rfl (by show 2 * 0 + _ ≤ _; exact Nat.le_of_eq rfl) (hb hby at_46) ?_
  intro v7 T7 L7 X7 hQ7
  obtain ⟨rfl, N7q, e7⟩ := hQ7
  have N7 := Fr.app N6 N7q
  show Rch p e below (T7.setTop (mkF m 49 #[.val (.long q0), .second, .val (.long q1), .second, .val (.long q2), .second, .val (.long q3), .second, .val (.long q4), .second, .val (.long q5), .second, .val (.ref b1), .val (.ref b3), .val (.ref b5), .val (.long ((q0 + q1) + q2)), .second, .unset, .unset, .unset, .unset, .unset, .unset, .unset, .unset, .unset] [(.long ((q3 + q4) + q5))])) _
  refine Rch.go (fun _ k => XS.lstore X7.here hx rfl (hb hby at_49) rfl (l' := #[.val (.long q0), .second, .val (.long q1), .second, .val (.long q2), .second, .val (.long q3), .second, .val (.long q4), .second, .val (.long q5), .second, .val (.ref b1), .val (.ref b3), .val (.ref b5), .val (.long ((q0 + q1) + q2)), .second, .val (.long ((q3 + q4) + q5)), .second, .unset, .unset, .unset, .unset, .unset, .unset, .unset]) rfl k) ?_
  show Rch p e below (T7.setTop (mkF m 51 #[.val (.long q0), .second, .val (.long q1), .second, .val (.long q2), .second, .val (.long q3), .second, .val (.long q4), .second, .val (.long q5), .second, .val (.ref b1), .val (.ref b3), .val (.ref b5), .val (.long ((q0 + q1) + q2)), .second, .val (.long ((q3 + q4) + q5)), .second, .unset, .unset, .unset, .unset, .unset, .unset, .unset] [])) _
  refine Rch.go (fun _ k => XS.aload X7.here hx rfl (hb hby at_51) rfl rfl k) ?_
  show Rch p e below (T7.setTop (mkF m 53 #[.val (.long q0), .second, .val (.long q1), .second, .val (.long q2), .second, .val (.long q3), .second, .val (.long q4), .second, .val (.long q5), .second, .val (.ref b1), .val (.ref b3), .val (.ref b5), .val (.long ((q0 + q1) + q2)), .second, .val (.long ((q3 + q4) + q5)), .second, .unset, .unset, .unset, .unset, .unset, .unset, .unset] [(.ref b5)])) _
  refine Rch.callV X7 hx hZ hown (hw _ (List.mem_of_getElem? (i := 27) rfl)) (hw _ (List.mem_of_getElem? (i := 28) rfl)) (notFace_of_selects (args := #[]) (mvT hZ (hw _ (List.mem_of_getElem? (i := 30) rfl)))) (hw _ (List.mem_of_getElem? (i := 30) rfl)) (hw _ (List.mem_of_getElem? (i := 29) rfl)) (hw _ (List.mem_of_getElem? (i := 2) rfl)) (hw _ (List.mem_of_getElem? (i := 31) rfl)) (by decide) (rm5 l Z a0 hw [] b5 (q0 + q3) (q1 + q4) (q2 + q5) T5.heap n0 Z0 Flocal_b5 Fremote_b5 Forigin_b5) 0 (by decide) (by decide) (by decide) (by decide) e7 E_b5 (g := (mkF m 53 #[.val (.long q0), .second, .val (.long q1), .second, .val (.long q2), .second, .val (.long q3), .second, .val (.long q4), .second, .val (.long q5), .second, .val (.ref b1), .val (.ref b3), .val (.ref b5), .val (.long ((q0 + q1) + q2)), .second, .val (.long ((q3 + q4) + q5)), .second, .unset, .unset, .unset, .unset, .unset, .unset, .unset] [(.ref b5)])) rfl (by rw [hml]; rfl) [] [] rfl (lenOf pd0_2 rfl) rfl (by show 2 * 0 + _ ≤ _; exact Nat.le_of_eq rfl) (hb hby at_53) ?_
  intro v8 T8 L8 X8 hQ8
  obtain ⟨rfl, N8q, e8⟩ := hQ8
  have N8 := Fr.app N7 N8q
  show Rch p e below (T8.setTop (mkF m 56 #[.val (.long q0), .second, .val (.long q1), .second, .val (.long q2), .second, .val (.long q3), .second, .val (.long q4), .second, .val (.long q5), .second, .val (.ref b1), .val (.ref b3), .val (.ref b5), .val (.long ((q0 + q1) + q2)), .second, .val (.long ((q3 + q4) + q5)), .second, .unset, .unset, .unset, .unset, .unset, .unset, .unset] [(.long (((q0 + q3) + (q1 + q4)) + (q2 + q5)))])) _
  refine Rch.go (fun _ k => XS.lstore X8.here hx rfl (hb hby at_56) rfl (l' := #[.val (.long q0), .second, .val (.long q1), .second, .val (.long q2), .second, .val (.long q3), .second, .val (.long q4), .second, .val (.long q5), .second, .val (.ref b1), .val (.ref b3), .val (.ref b5), .val (.long ((q0 + q1) + q2)), .second, .val (.long ((q3 + q4) + q5)), .second, .val (.long (((q0 + q3) + (q1 + q4)) + (q2 + q5))), .second, .unset, .unset, .unset, .unset, .unset]) rfl k) ?_
  show Rch p e below (T8.setTop (mkF m 58 #[.val (.long q0), .second, .val (.long q1), .second, .val (.long q2), .second, .val (.long q3), .second, .val (.long q4), .second, .val (.long q5), .second, .val (.ref b1), .val (.ref b3), .val (.ref b5), .val (.long ((q0 + q1) + q2)), .second, .val (.long ((q3 + q4) + q5)), .second, .val (.long (((q0 + q3) + (q1 + q4)) + (q2 + q5))), .second, .unset, .unset, .unset, .unset, .unset] [])) _
  have S_none : Sta Z T5.heap "com/example/mirrorwright/mirrorwright/sim/Replay$Result" "NONE" "Lcom/example/mirrorwright/mirrorwright/sim/Replay$Result;" (.ref nn) := S0.ext O0.2
  obtain ⟨T9, X9, e9, st9⟩ := getS2 X8 hx hZ hown (host := "") (Or.inl (hw _ (List.mem_of_getElem? (i := 32) rfl))) Via.refl e8 S_none (g := (mkF m 58 #[.val (.long q0), .second, .val (.long q1), .second, .val (.long q2), .second, .val (.long q3), .second, .val (.long q4), .second, .val (.long q5), .second, .val (.ref b1), .val (.ref b3), .val (.ref b5), .val (.long ((q0 + q1) + q2)), .second, .val (.long ((q3 + q4) + q5)), .second, .val (.long (((q0 + q3) + (q1 + q4)) + (q2 + q5))), .second, .unset, .unset, .unset, .unset, .unset] [])) rfl (hb hby at_58)
  refine Rch.go st9 ?_
  show Rch p e below (T9.setTop (mkF m 61 #[.val (.long q0), .second, .val (.long q1), .second, .val (.long q2), .second, .val (.long q3), .second, .val (.long q4), .second, .val (.long q5), .second, .val (.ref b1), .val (.ref b3), .val (.ref b5), .val (.long ((q0 + q1) + q2)), .second, .val (.long ((q3 + q4) + q5)), .second, .val (.long (((q0 + q3) + (q1 + q4)) + (q2 + q5))), .second, .unset, .unset, .unset, .unset, .unset] [(.ref nn)])) _
  refine Rch.callV X9 hx hZ hown (hw _ (List.mem_of_getElem? (i := 27) rfl)) (hw _ (List.mem_of_getElem? (i := 28) rfl)) (notFace_of_selects (args := #[]) (mvT hZ (hw _ (List.mem_of_getElem? (i := 30) rfl)))) (hw _ (List.mem_of_getElem? (i := 30) rfl)) (hw _ (List.mem_of_getElem? (i := 29) rfl)) (hw _ (List.mem_of_getElem? (i := 2) rfl)) (hw _ (List.mem_of_getElem? (i := 31) rfl)) (by decide) (rm5 l Z a0 hw [] nn (0 : Int64) (0 : Int64) (0 : Int64) T5.heap n0 Z0 Flocal_nn Fremote_nn Forigin_nn) 0 (by decide) (by decide) (by decide) (by decide) e9 E_nn (g := (mkF m 61 #[.val (.long q0), .second, .val (.long q1), .second, .val (.long q2), .second, .val (.long q3), .second, .val (.long q4), .second, .val (.long q5), .second, .val (.ref b1), .val (.ref b3), .val (.ref b5), .val (.long ((q0 + q1) + q2)), .second, .val (.long ((q3 + q4) + q5)), .second, .val (.long (((q0 + q3) + (q1 + q4)) + (q2 + q5))), .second, .unset, .unset, .unset, .unset, .unset] [(.ref nn)])) rfl (by rw [hml]; rfl) [] [] rfl (lenOf pd0_2 rfl) rfl (by show 2 * 0 + _ ≤ _; exact Nat.le_of_eq rfl) (hb hby at_61) ?_
  intro v10 T10 L10 X10 hQ10
  obtain ⟨rfl, N10q, e10⟩ := hQ10
  have N10 := Fr.app N8 N10q
  show Rch p e below (T10.setTop (mkF m 64 #[.val (.long q0), .second, .val (.long q1), .second, .val (.long q2), .second, .val (.long q3), .second, .val (.long q4), .second, .val (.long q5), .second, .val (.ref b1), .val (.ref b3), .val (.ref b5), .val (.long ((q0 + q1) + q2)), .second, .val (.long ((q3 + q4) + q5)), .second, .val (.long (((q0 + q3) + (q1 + q4)) + (q2 + q5))), .second, .unset, .unset, .unset, .unset, .unset] [(.long (((0 : Int64) + (0 : Int64)) + (0 : Int64)))])) _
  refine Rch.go (fun _ k => XS.lstore X10.here hx rfl (hb hby at_64) rfl (l' := #[.val (.long q0), .second, .val (.long q1), .second, .val (.long q2), .second, .val (.long q3), .second, .val (.long q4), .second, .val (.long q5), .second, .val (.ref b1), .val (.ref b3), .val (.ref b5), .val (.long ((q0 + q1) + q2)), .second, .val (.long ((q3 + q4) + q5)), .second, .val (.long (((q0 + q3) + (q1 + q4)) + (q2 + q5))), .second, .val (.long (((0 : Int64) + (0 : Int64)) + (0 : Int64))), .second, .unset, .unset, .unset]) rfl k) ?_
  show Rch p e below (T10.setTop (mkF m 66 #[.val (.long q0), .second, .val (.long q1), .second, .val (.long q2), .second, .val (.long q3), .second, .val (.long q4), .second, .val (.long q5), .second, .val (.ref b1), .val (.ref b3), .val (.ref b5), .val (.long ((q0 + q1) + q2)), .second, .val (.long ((q3 + q4) + q5)), .second, .val (.long (((q0 + q3) + (q1 + q4)) + (q2 + q5))), .second, .val (.long (((0 : Int64) + (0 : Int64)) + (0 : Int64))), .second, .unset, .unset, .unset] [])) _
  refine Rch.go (fun _ k => XS.lload X10.here hx rfl (hb hby at_66) rfl  k) ?_
  show Rch p e below (T10.setTop (mkF m 68 #[.val (.long q0), .second, .val (.long q1), .second, .val (.long q2), .second, .val (.long q3), .second, .val (.long q4), .second, .val (.long q5), .second, .val (.ref b1), .val (.ref b3), .val (.ref b5), .val (.long ((q0 + q1) + q2)), .second, .val (.long ((q3 + q4) + q5)), .second, .val (.long (((q0 + q3) + (q1 + q4)) + (q2 + q5))), .second, .val (.long (((0 : Int64) + (0 : Int64)) + (0 : Int64))), .second, .unset, .unset, .unset] [(.long ((q0 + q1) + q2))])) _
  refine Rch.go (fun _ k => XS.lloadN X10.here hx rfl (hb hby at_68) rfl  k) ?_
  show Rch p e below (T10.setTop (mkF m 69 #[.val (.long q0), .second, .val (.long q1), .second, .val (.long q2), .second, .val (.long q3), .second, .val (.long q4), .second, .val (.long q5), .second, .val (.ref b1), .val (.ref b3), .val (.ref b5), .val (.long ((q0 + q1) + q2)), .second, .val (.long ((q3 + q4) + q5)), .second, .val (.long (((q0 + q3) + (q1 + q4)) + (q2 + q5))), .second, .val (.long (((0 : Int64) + (0 : Int64)) + (0 : Int64))), .second, .unset, .unset, .unset] [(.long q0), (.long ((q0 + q1) + q2))])) _
  refine Rch.go (fun _ k => XS.lloadN X10.here hx rfl (hb hby at_69) rfl  k) ?_
  show Rch p e below (T10.setTop (mkF m 70 #[.val (.long q0), .second, .val (.long q1), .second, .val (.long q2), .second, .val (.long q3), .second, .val (.long q4), .second, .val (.long q5), .second, .val (.ref b1), .val (.ref b3), .val (.ref b5), .val (.long ((q0 + q1) + q2)), .second, .val (.long ((q3 + q4) + q5)), .second, .val (.long (((q0 + q3) + (q1 + q4)) + (q2 + q5))), .second, .val (.long (((0 : Int64) + (0 : Int64)) + (0 : Int64))), .second, .unset, .unset, .unset] [(.long q1), (.long q0), (.long ((q0 + q1) + q2))])) _
  refine Rch.go (fun _ k => XS.ladd X10.here hx rfl (hb hby at_70) rfl k) ?_
  show Rch p e below (T10.setTop (mkF m 71 #[.val (.long q0), .second, .val (.long q1), .second, .val (.long q2), .second, .val (.long q3), .second, .val (.long q4), .second, .val (.long q5), .second, .val (.ref b1), .val (.ref b3), .val (.ref b5), .val (.long ((q0 + q1) + q2)), .second, .val (.long ((q3 + q4) + q5)), .second, .val (.long (((q0 + q3) + (q1 + q4)) + (q2 + q5))), .second, .val (.long (((0 : Int64) + (0 : Int64)) + (0 : Int64))), .second, .unset, .unset, .unset] [(.long (q0 + q1)), (.long ((q0 + q1) + q2))])) _
  refine Rch.go (fun _ k => XS.lload X10.here hx rfl (hb hby at_71) rfl  k) ?_
  show Rch p e below (T10.setTop (mkF m 73 #[.val (.long q0), .second, .val (.long q1), .second, .val (.long q2), .second, .val (.long q3), .second, .val (.long q4), .second, .val (.long q5), .second, .val (.ref b1), .val (.ref b3), .val (.ref b5), .val (.long ((q0 + q1) + q2)), .second, .val (.long ((q3 + q4) + q5)), .second, .val (.long (((q0 + q3) + (q1 + q4)) + (q2 + q5))), .second, .val (.long (((0 : Int64) + (0 : Int64)) + (0 : Int64))), .second, .unset, .unset, .unset] [(.long q2), (.long (q0 + q1)), (.long ((q0 + q1) + q2))])) _
  refine Rch.go (fun _ k => XS.ladd X10.here hx rfl (hb hby at_73) rfl k) ?_
  show Rch p e below (T10.setTop (mkF m 74 #[.val (.long q0), .second, .val (.long q1), .second, .val (.long q2), .second, .val (.long q3), .second, .val (.long q4), .second, .val (.long q5), .second, .val (.ref b1), .val (.ref b3), .val (.ref b5), .val (.long ((q0 + q1) + q2)), .second, .val (.long ((q3 + q4) + q5)), .second, .val (.long (((q0 + q3) + (q1 + q4)) + (q2 + q5))), .second, .val (.long (((0 : Int64) + (0 : Int64)) + (0 : Int64))), .second, .unset, .unset, .unset] [(.long ((q0 + q1) + q2)), (.long ((q0 + q1) + q2))])) _
  refine Rch.go (fun _ k => XS.lcmp X10.here hx rfl (hb hby at_74) rfl k) ?_
  show Rch p e below (T10.setTop (mkF m 75 #[.val (.long q0), .second, .val (.long q1), .second, .val (.long q2), .second, .val (.long q3), .second, .val (.long q4), .second, .val (.long q5), .second, .val (.ref b1), .val (.ref b3), .val (.ref b5), .val (.long ((q0 + q1) + q2)), .second, .val (.long ((q3 + q4) + q5)), .second, .val (.long (((q0 + q3) + (q1 + q4)) + (q2 + q5))), .second, .val (.long (((0 : Int64) + (0 : Int64)) + (0 : Int64))), .second, .unset, .unset, .unset] [(.int (lcmpW ((q0 + q1) + q2) ((q0 + q1) + q2)))])) _
  refine Rch.go (fun _ k => XS.ifNo X10.here hx rfl (hb hby at_75) rfl ((if0 _ _).trans (teq ((lw_eq _ _).mpr rfl)).2) k) ?_
  show Rch p e below (T10.setTop (mkF m 78 #[.val (.long q0), .second, .val (.long q1), .second, .val (.long q2), .second, .val (.long q3), .second, .val (.long q4), .second, .val (.long q5), .second, .val (.ref b1), .val (.ref b3), .val (.ref b5), .val (.long ((q0 + q1) + q2)), .second, .val (.long ((q3 + q4) + q5)), .second, .val (.long (((q0 + q3) + (q1 + q4)) + (q2 + q5))), .second, .val (.long (((0 : Int64) + (0 : Int64)) + (0 : Int64))), .second, .unset, .unset, .unset] [])) _
  refine Rch.go (fun _ k => XS.lload X10.here hx rfl (hb hby at_78) rfl  k) ?_
  show Rch p e below (T10.setTop (mkF m 80 #[.val (.long q0), .second, .val (.long q1), .second, .val (.long q2), .second, .val (.long q3), .second, .val (.long q4), .second, .val (.long q5), .second, .val (.ref b1), .val (.ref b3), .val (.ref b5), .val (.long ((q0 + q1) + q2)), .second, .val (.long ((q3 + q4) + q5)), .second, .val (.long (((q0 + q3) + (q1 + q4)) + (q2 + q5))), .second, .val (.long (((0 : Int64) + (0 : Int64)) + (0 : Int64))), .second, .unset, .unset, .unset] [(.long ((q3 + q4) + q5))])) _
  refine Rch.go (fun _ k => XS.lload X10.here hx rfl (hb hby at_80) rfl  k) ?_
  show Rch p e below (T10.setTop (mkF m 82 #[.val (.long q0), .second, .val (.long q1), .second, .val (.long q2), .second, .val (.long q3), .second, .val (.long q4), .second, .val (.long q5), .second, .val (.ref b1), .val (.ref b3), .val (.ref b5), .val (.long ((q0 + q1) + q2)), .second, .val (.long ((q3 + q4) + q5)), .second, .val (.long (((q0 + q3) + (q1 + q4)) + (q2 + q5))), .second, .val (.long (((0 : Int64) + (0 : Int64)) + (0 : Int64))), .second, .unset, .unset, .unset] [(.long q3), (.long ((q3 + q4) + q5))])) _
  refine Rch.go (fun _ k => XS.lload X10.here hx rfl (hb hby at_82) rfl  k) ?_
  show Rch p e below (T10.setTop (mkF m 84 #[.val (.long q0), .second, .val (.long q1), .second, .val (.long q2), .second, .val (.long q3), .second, .val (.long q4), .second, .val (.long q5), .second, .val (.ref b1), .val (.ref b3), .val (.ref b5), .val (.long ((q0 + q1) + q2)), .second, .val (.long ((q3 + q4) + q5)), .second, .val (.long (((q0 + q3) + (q1 + q4)) + (q2 + q5))), .second, .val (.long (((0 : Int64) + (0 : Int64)) + (0 : Int64))), .second, .unset, .unset, .unset] [(.long q4), (.long q3), (.long ((q3 + q4) + q5))])) _
  refine Rch.go (fun _ k => XS.ladd X10.here hx rfl (hb hby at_84) rfl k) ?_
  show Rch p e below (T10.setTop (mkF m 85 #[.val (.long q0), .second, .val (.long q1), .second, .val (.long q2), .second, .val (.long q3), .second, .val (.long q4), .second, .val (.long q5), .second, .val (.ref b1), .val (.ref b3), .val (.ref b5), .val (.long ((q0 + q1) + q2)), .second, .val (.long ((q3 + q4) + q5)), .second, .val (.long (((q0 + q3) + (q1 + q4)) + (q2 + q5))), .second, .val (.long (((0 : Int64) + (0 : Int64)) + (0 : Int64))), .second, .unset, .unset, .unset] [(.long (q3 + q4)), (.long ((q3 + q4) + q5))])) _
  refine Rch.go (fun _ k => XS.lload X10.here hx rfl (hb hby at_85) rfl  k) ?_
  show Rch p e below (T10.setTop (mkF m 87 #[.val (.long q0), .second, .val (.long q1), .second, .val (.long q2), .second, .val (.long q3), .second, .val (.long q4), .second, .val (.long q5), .second, .val (.ref b1), .val (.ref b3), .val (.ref b5), .val (.long ((q0 + q1) + q2)), .second, .val (.long ((q3 + q4) + q5)), .second, .val (.long (((q0 + q3) + (q1 + q4)) + (q2 + q5))), .second, .val (.long (((0 : Int64) + (0 : Int64)) + (0 : Int64))), .second, .unset, .unset, .unset] [(.long q5), (.long (q3 + q4)), (.long ((q3 + q4) + q5))])) _
  refine Rch.go (fun _ k => XS.ladd X10.here hx rfl (hb hby at_87) rfl k) ?_
  show Rch p e below (T10.setTop (mkF m 88 #[.val (.long q0), .second, .val (.long q1), .second, .val (.long q2), .second, .val (.long q3), .second, .val (.long q4), .second, .val (.long q5), .second, .val (.ref b1), .val (.ref b3), .val (.ref b5), .val (.long ((q0 + q1) + q2)), .second, .val (.long ((q3 + q4) + q5)), .second, .val (.long (((q0 + q3) + (q1 + q4)) + (q2 + q5))), .second, .val (.long (((0 : Int64) + (0 : Int64)) + (0 : Int64))), .second, .unset, .unset, .unset] [(.long ((q3 + q4) + q5)), (.long ((q3 + q4) + q5))])) _
  refine Rch.go (fun _ k => XS.lcmp X10.here hx rfl (hb hby at_88) rfl k) ?_
  show Rch p e below (T10.setTop (mkF m 89 #[.val (.long q0), .second, .val (.long q1), .second, .val (.long q2), .second, .val (.long q3), .second, .val (.long q4), .second, .val (.long q5), .second, .val (.ref b1), .val (.ref b3), .val (.ref b5), .val (.long ((q0 + q1) + q2)), .second, .val (.long ((q3 + q4) + q5)), .second, .val (.long (((q0 + q3) + (q1 + q4)) + (q2 + q5))), .second, .val (.long (((0 : Int64) + (0 : Int64)) + (0 : Int64))), .second, .unset, .unset, .unset] [(.int (lcmpW ((q3 + q4) + q5) ((q3 + q4) + q5)))])) _
  refine Rch.go (fun _ k => XS.ifNo X10.here hx rfl (hb hby at_89) rfl ((if0 _ _).trans (teq ((lw_eq _ _).mpr rfl)).2) k) ?_
  show Rch p e below (T10.setTop (mkF m 92 #[.val (.long q0), .second, .val (.long q1), .second, .val (.long q2), .second, .val (.long q3), .second, .val (.long q4), .second, .val (.long q5), .second, .val (.ref b1), .val (.ref b3), .val (.ref b5), .val (.long ((q0 + q1) + q2)), .second, .val (.long ((q3 + q4) + q5)), .second, .val (.long (((q0 + q3) + (q1 + q4)) + (q2 + q5))), .second, .val (.long (((0 : Int64) + (0 : Int64)) + (0 : Int64))), .second, .unset, .unset, .unset] [])) _
  refine Rch.go (fun _ k => XS.iconst X10.here hx rfl (hb hby at_92) k) ?_
  show Rch p e below (T10.setTop (mkF m 93 #[.val (.long q0), .second, .val (.long q1), .second, .val (.long q2), .second, .val (.long q3), .second, .val (.long q4), .second, .val (.long q5), .second, .val (.ref b1), .val (.ref b3), .val (.ref b5), .val (.long ((q0 + q1) + q2)), .second, .val (.long ((q3 + q4) + q5)), .second, .val (.long (((q0 + q3) + (q1 + q4)) + (q2 + q5))), .second, .val (.long (((0 : Int64) + (0 : Int64)) + (0 : Int64))), .second, .unset, .unset, .unset] [(.int (1 : Int32))])) _
  refine Rch.go (fun _ k => XS.goto X10.here hx rfl (pc0 := 93) (pc' := 97) rfl (hb hby at_93) (by decide) (by decide) k) ?_
  show Rch p e below (T10.setTop (mkF m 97 #[.val (.long q0), .second, .val (.long q1), .second, .val (.long q2), .second, .val (.long q3), .second, .val (.long q4), .second, .val (.long q5), .second, .val (.ref b1), .val (.ref b3), .val (.ref b5), .val (.long ((q0 + q1) + q2)), .second, .val (.long ((q3 + q4) + q5)), .second, .val (.long (((q0 + q3) + (q1 + q4)) + (q2 + q5))), .second, .val (.long (((0 : Int64) + (0 : Int64)) + (0 : Int64))), .second, .unset, .unset, .unset] [(.int (1 : Int32))])) _
  refine Rch.go (fun _ k => XS.istore X10.here hx rfl (hb hby at_97) rfl (l' := #[.val (.long q0), .second, .val (.long q1), .second, .val (.long q2), .second, .val (.long q3), .second, .val (.long q4), .second, .val (.long q5), .second, .val (.ref b1), .val (.ref b3), .val (.ref b5), .val (.long ((q0 + q1) + q2)), .second, .val (.long ((q3 + q4) + q5)), .second, .val (.long (((q0 + q3) + (q1 + q4)) + (q2 + q5))), .second, .val (.long (((0 : Int64) + (0 : Int64)) + (0 : Int64))), .second, .val (.int (1 : Int32)), .unset, .unset]) rfl k) ?_
  show Rch p e below (T10.setTop (mkF m 99 #[.val (.long q0), .second, .val (.long q1), .second, .val (.long q2), .second, .val (.long q3), .second, .val (.long q4), .second, .val (.long q5), .second, .val (.ref b1), .val (.ref b3), .val (.ref b5), .val (.long ((q0 + q1) + q2)), .second, .val (.long ((q3 + q4) + q5)), .second, .val (.long (((q0 + q3) + (q1 + q4)) + (q2 + q5))), .second, .val (.long (((0 : Int64) + (0 : Int64)) + (0 : Int64))), .second, .val (.int (1 : Int32)), .unset, .unset] [])) _
  refine Rch.go (fun _ k => XS.lload X10.here hx rfl (hb hby at_99) rfl  k) ?_
  show Rch p e below (T10.setTop (mkF m 101 #[.val (.long q0), .second, .val (.long q1), .second, .val (.long q2), .second, .val (.long q3), .second, .val (.long q4), .second, .val (.long q5), .second, .val (.ref b1), .val (.ref b3), .val (.ref b5), .val (.long ((q0 + q1) + q2)), .second, .val (.long ((q3 + q4) + q5)), .second, .val (.long (((q0 + q3) + (q1 + q4)) + (q2 + q5))), .second, .val (.long (((0 : Int64) + (0 : Int64)) + (0 : Int64))), .second, .val (.int (1 : Int32)), .unset, .unset] [(.long (((q0 + q3) + (q1 + q4)) + (q2 + q5)))])) _
  refine Rch.go (fun _ k => XS.lload X10.here hx rfl (hb hby at_101) rfl  k) ?_
  show Rch p e below (T10.setTop (mkF m 103 #[.val (.long q0), .second, .val (.long q1), .second, .val (.long q2), .second, .val (.long q3), .second, .val (.long q4), .second, .val (.long q5), .second, .val (.ref b1), .val (.ref b3), .val (.ref b5), .val (.long ((q0 + q1) + q2)), .second, .val (.long ((q3 + q4) + q5)), .second, .val (.long (((q0 + q3) + (q1 + q4)) + (q2 + q5))), .second, .val (.long (((0 : Int64) + (0 : Int64)) + (0 : Int64))), .second, .val (.int (1 : Int32)), .unset, .unset] [(.long ((q0 + q1) + q2)), (.long (((q0 + q3) + (q1 + q4)) + (q2 + q5)))])) _
  refine Rch.go (fun _ k => XS.lload X10.here hx rfl (hb hby at_103) rfl  k) ?_
  show Rch p e below (T10.setTop (mkF m 105 #[.val (.long q0), .second, .val (.long q1), .second, .val (.long q2), .second, .val (.long q3), .second, .val (.long q4), .second, .val (.long q5), .second, .val (.ref b1), .val (.ref b3), .val (.ref b5), .val (.long ((q0 + q1) + q2)), .second, .val (.long ((q3 + q4) + q5)), .second, .val (.long (((q0 + q3) + (q1 + q4)) + (q2 + q5))), .second, .val (.long (((0 : Int64) + (0 : Int64)) + (0 : Int64))), .second, .val (.int (1 : Int32)), .unset, .unset] [(.long ((q3 + q4) + q5)), (.long ((q0 + q1) + q2)), (.long (((q0 + q3) + (q1 + q4)) + (q2 + q5)))])) _
  refine Rch.go (fun _ k => XS.ladd X10.here hx rfl (hb hby at_105) rfl k) ?_
  show Rch p e below (T10.setTop (mkF m 106 #[.val (.long q0), .second, .val (.long q1), .second, .val (.long q2), .second, .val (.long q3), .second, .val (.long q4), .second, .val (.long q5), .second, .val (.ref b1), .val (.ref b3), .val (.ref b5), .val (.long ((q0 + q1) + q2)), .second, .val (.long ((q3 + q4) + q5)), .second, .val (.long (((q0 + q3) + (q1 + q4)) + (q2 + q5))), .second, .val (.long (((0 : Int64) + (0 : Int64)) + (0 : Int64))), .second, .val (.int (1 : Int32)), .unset, .unset] [(.long (((q0 + q1) + q2) + ((q3 + q4) + q5))), (.long (((q0 + q3) + (q1 + q4)) + (q2 + q5)))])) _
  refine Rch.go (fun _ k => XS.lcmp X10.here hx rfl (hb hby at_106) rfl k) ?_
  show Rch p e below (T10.setTop (mkF m 107 #[.val (.long q0), .second, .val (.long q1), .second, .val (.long q2), .second, .val (.long q3), .second, .val (.long q4), .second, .val (.long q5), .second, .val (.ref b1), .val (.ref b3), .val (.ref b5), .val (.long ((q0 + q1) + q2)), .second, .val (.long ((q3 + q4) + q5)), .second, .val (.long (((q0 + q3) + (q1 + q4)) + (q2 + q5))), .second, .val (.long (((0 : Int64) + (0 : Int64)) + (0 : Int64))), .second, .val (.int (1 : Int32)), .unset, .unset] [(.int (lcmpW (((q0 + q3) + (q1 + q4)) + (q2 + q5)) (((q0 + q1) + q2) + ((q3 + q4) + q5))))])) _
  refine Rch.go (fun _ k => XS.ifNo X10.here hx rfl (hb hby at_107) rfl ((if0 _ _).trans (teq ((lw_eq _ _).mpr (own_sum q0 q1 q2 q3 q4 q5))).2) k) ?_
  show Rch p e below (T10.setTop (mkF m 110 #[.val (.long q0), .second, .val (.long q1), .second, .val (.long q2), .second, .val (.long q3), .second, .val (.long q4), .second, .val (.long q5), .second, .val (.ref b1), .val (.ref b3), .val (.ref b5), .val (.long ((q0 + q1) + q2)), .second, .val (.long ((q3 + q4) + q5)), .second, .val (.long (((q0 + q3) + (q1 + q4)) + (q2 + q5))), .second, .val (.long (((0 : Int64) + (0 : Int64)) + (0 : Int64))), .second, .val (.int (1 : Int32)), .unset, .unset] [])) _
  refine Rch.go (fun _ k => XS.iconst X10.here hx rfl (hb hby at_110) k) ?_
  show Rch p e below (T10.setTop (mkF m 111 #[.val (.long q0), .second, .val (.long q1), .second, .val (.long q2), .second, .val (.long q3), .second, .val (.long q4), .second, .val (.long q5), .second, .val (.ref b1), .val (.ref b3), .val (.ref b5), .val (.long ((q0 + q1) + q2)), .second, .val (.long ((q3 + q4) + q5)), .second, .val (.long (((q0 + q3) + (q1 + q4)) + (q2 + q5))), .second, .val (.long (((0 : Int64) + (0 : Int64)) + (0 : Int64))), .second, .val (.int (1 : Int32)), .unset, .unset] [(.int (1 : Int32))])) _
  refine Rch.go (fun _ k => XS.goto X10.here hx rfl (pc0 := 111) (pc' := 115) rfl (hb hby at_111) (by decide) (by decide) k) ?_
  show Rch p e below (T10.setTop (mkF m 115 #[.val (.long q0), .second, .val (.long q1), .second, .val (.long q2), .second, .val (.long q3), .second, .val (.long q4), .second, .val (.long q5), .second, .val (.ref b1), .val (.ref b3), .val (.ref b5), .val (.long ((q0 + q1) + q2)), .second, .val (.long ((q3 + q4) + q5)), .second, .val (.long (((q0 + q3) + (q1 + q4)) + (q2 + q5))), .second, .val (.long (((0 : Int64) + (0 : Int64)) + (0 : Int64))), .second, .val (.int (1 : Int32)), .unset, .unset] [(.int (1 : Int32))])) _
  refine Rch.go (fun _ k => XS.istore X10.here hx rfl (hb hby at_115) rfl (l' := #[.val (.long q0), .second, .val (.long q1), .second, .val (.long q2), .second, .val (.long q3), .second, .val (.long q4), .second, .val (.long q5), .second, .val (.ref b1), .val (.ref b3), .val (.ref b5), .val (.long ((q0 + q1) + q2)), .second, .val (.long ((q3 + q4) + q5)), .second, .val (.long (((q0 + q3) + (q1 + q4)) + (q2 + q5))), .second, .val (.long (((0 : Int64) + (0 : Int64)) + (0 : Int64))), .second, .val (.int (1 : Int32)), .val (.int (1 : Int32)), .unset]) rfl k) ?_
  show Rch p e below (T10.setTop (mkF m 117 #[.val (.long q0), .second, .val (.long q1), .second, .val (.long q2), .second, .val (.long q3), .second, .val (.long q4), .second, .val (.long q5), .second, .val (.ref b1), .val (.ref b3), .val (.ref b5), .val (.long ((q0 + q1) + q2)), .second, .val (.long ((q3 + q4) + q5)), .second, .val (.long (((q0 + q3) + (q1 + q4)) + (q2 + q5))), .second, .val (.long (((0 : Int64) + (0 : Int64)) + (0 : Int64))), .second, .val (.int (1 : Int32)), .val (.int (1 : Int32)), .unset] [])) _
  refine Rch.go (fun _ k => XS.lload X10.here hx rfl (hb hby at_117) rfl  k) ?_
  show Rch p e below (T10.setTop (mkF m 119 #[.val (.long q0), .second, .val (.long q1), .second, .val (.long q2), .second, .val (.long q3), .second, .val (.long q4), .second, .val (.long q5), .second, .val (.ref b1), .val (.ref b3), .val (.ref b5), .val (.long ((q0 + q1) + q2)), .second, .val (.long ((q3 + q4) + q5)), .second, .val (.long (((q0 + q3) + (q1 + q4)) + (q2 + q5))), .second, .val (.long (((0 : Int64) + (0 : Int64)) + (0 : Int64))), .second, .val (.int (1 : Int32)), .val (.int (1 : Int32)), .unset] [(.long (((0 : Int64) + (0 : Int64)) + (0 : Int64)))])) _
  refine Rch.go (fun _ k => XS.lconst X10.here hx rfl (hb hby at_119) k) ?_
  show Rch p e below (T10.setTop (mkF m 120 #[.val (.long q0), .second, .val (.long q1), .second, .val (.long q2), .second, .val (.long q3), .second, .val (.long q4), .second, .val (.long q5), .second, .val (.ref b1), .val (.ref b3), .val (.ref b5), .val (.long ((q0 + q1) + q2)), .second, .val (.long ((q3 + q4) + q5)), .second, .val (.long (((q0 + q3) + (q1 + q4)) + (q2 + q5))), .second, .val (.long (((0 : Int64) + (0 : Int64)) + (0 : Int64))), .second, .val (.int (1 : Int32)), .val (.int (1 : Int32)), .unset] [(.long (0 : Int64)), (.long (((0 : Int64) + (0 : Int64)) + (0 : Int64)))])) _
  refine Rch.go (fun _ k => XS.lcmp X10.here hx rfl (hb hby at_120) rfl k) ?_
  show Rch p e below (T10.setTop (mkF m 121 #[.val (.long q0), .second, .val (.long q1), .second, .val (.long q2), .second, .val (.long q3), .second, .val (.long q4), .second, .val (.long q5), .second, .val (.ref b1), .val (.ref b3), .val (.ref b5), .val (.long ((q0 + q1) + q2)), .second, .val (.long ((q3 + q4) + q5)), .second, .val (.long (((q0 + q3) + (q1 + q4)) + (q2 + q5))), .second, .val (.long (((0 : Int64) + (0 : Int64)) + (0 : Int64))), .second, .val (.int (1 : Int32)), .val (.int (1 : Int32)), .unset] [(.int (lcmpW (((0 : Int64) + (0 : Int64)) + (0 : Int64)) (0 : Int64)))])) _
  refine Rch.go (fun _ k => XS.ifNo X10.here hx rfl (hb hby at_121) rfl ((if0 _ _).trans (teq ((lw_eq _ _).mpr own_zero)).2) k) ?_
  show Rch p e below (T10.setTop (mkF m 124 #[.val (.long q0), .second, .val (.long q1), .second, .val (.long q2), .second, .val (.long q3), .second, .val (.long q4), .second, .val (.long q5), .second, .val (.ref b1), .val (.ref b3), .val (.ref b5), .val (.long ((q0 + q1) + q2)), .second, .val (.long ((q3 + q4) + q5)), .second, .val (.long (((q0 + q3) + (q1 + q4)) + (q2 + q5))), .second, .val (.long (((0 : Int64) + (0 : Int64)) + (0 : Int64))), .second, .val (.int (1 : Int32)), .val (.int (1 : Int32)), .unset] [])) _
  refine Rch.go (fun _ k => XS.iconst X10.here hx rfl (hb hby at_124) k) ?_
  show Rch p e below (T10.setTop (mkF m 125 #[.val (.long q0), .second, .val (.long q1), .second, .val (.long q2), .second, .val (.long q3), .second, .val (.long q4), .second, .val (.long q5), .second, .val (.ref b1), .val (.ref b3), .val (.ref b5), .val (.long ((q0 + q1) + q2)), .second, .val (.long ((q3 + q4) + q5)), .second, .val (.long (((q0 + q3) + (q1 + q4)) + (q2 + q5))), .second, .val (.long (((0 : Int64) + (0 : Int64)) + (0 : Int64))), .second, .val (.int (1 : Int32)), .val (.int (1 : Int32)), .unset] [(.int (1 : Int32))])) _
  refine Rch.go (fun _ k => XS.goto X10.here hx rfl (pc0 := 125) (pc' := 129) rfl (hb hby at_125) (by decide) (by decide) k) ?_
  show Rch p e below (T10.setTop (mkF m 129 #[.val (.long q0), .second, .val (.long q1), .second, .val (.long q2), .second, .val (.long q3), .second, .val (.long q4), .second, .val (.long q5), .second, .val (.ref b1), .val (.ref b3), .val (.ref b5), .val (.long ((q0 + q1) + q2)), .second, .val (.long ((q3 + q4) + q5)), .second, .val (.long (((q0 + q3) + (q1 + q4)) + (q2 + q5))), .second, .val (.long (((0 : Int64) + (0 : Int64)) + (0 : Int64))), .second, .val (.int (1 : Int32)), .val (.int (1 : Int32)), .unset] [(.int (1 : Int32))])) _
  refine Rch.go (fun _ k => XS.istore X10.here hx rfl (hb hby at_129) rfl (l' := #[.val (.long q0), .second, .val (.long q1), .second, .val (.long q2), .second, .val (.long q3), .second, .val (.long q4), .second, .val (.long q5), .second, .val (.ref b1), .val (.ref b3), .val (.ref b5), .val (.long ((q0 + q1) + q2)), .second, .val (.long ((q3 + q4) + q5)), .second, .val (.long (((q0 + q3) + (q1 + q4)) + (q2 + q5))), .second, .val (.long (((0 : Int64) + (0 : Int64)) + (0 : Int64))), .second, .val (.int (1 : Int32)), .val (.int (1 : Int32)), .val (.int (1 : Int32))]) rfl k) ?_
  show Rch p e below (T10.setTop (mkF m 131 #[.val (.long q0), .second, .val (.long q1), .second, .val (.long q2), .second, .val (.long q3), .second, .val (.long q4), .second, .val (.long q5), .second, .val (.ref b1), .val (.ref b3), .val (.ref b5), .val (.long ((q0 + q1) + q2)), .second, .val (.long ((q3 + q4) + q5)), .second, .val (.long (((q0 + q3) + (q1 + q4)) + (q2 + q5))), .second, .val (.long (((0 : Int64) + (0 : Int64)) + (0 : Int64))), .second, .val (.int (1 : Int32)), .val (.int (1 : Int32)), .val (.int (1 : Int32))] [])) _
  refine Rch.go (fun _ k => XS.iload X10.here hx rfl (hb hby at_131) rfl  k) ?_
  show Rch p e below (T10.setTop (mkF m 133 #[.val (.long q0), .second, .val (.long q1), .second, .val (.long q2), .second, .val (.long q3), .second, .val (.long q4), .second, .val (.long q5), .second, .val (.ref b1), .val (.ref b3), .val (.ref b5), .val (.long ((q0 + q1) + q2)), .second, .val (.long ((q3 + q4) + q5)), .second, .val (.long (((q0 + q3) + (q1 + q4)) + (q2 + q5))), .second, .val (.long (((0 : Int64) + (0 : Int64)) + (0 : Int64))), .second, .val (.int (1 : Int32)), .val (.int (1 : Int32)), .val (.int (1 : Int32))] [(.int (1 : Int32))])) _
  refine Rch.go (fun _ k => XS.ifNo X10.here hx rfl (hb hby at_133) rfl ((if0 _ _).trans (feq (by decide)).1) k) ?_
  show Rch p e below (T10.setTop (mkF m 136 #[.val (.long q0), .second, .val (.long q1), .second, .val (.long q2), .second, .val (.long q3), .second, .val (.long q4), .second, .val (.long q5), .second, .val (.ref b1), .val (.ref b3), .val (.ref b5), .val (.long ((q0 + q1) + q2)), .second, .val (.long ((q3 + q4) + q5)), .second, .val (.long (((q0 + q3) + (q1 + q4)) + (q2 + q5))), .second, .val (.long (((0 : Int64) + (0 : Int64)) + (0 : Int64))), .second, .val (.int (1 : Int32)), .val (.int (1 : Int32)), .val (.int (1 : Int32))] [])) _
  refine Rch.go (fun _ k => XS.iload X10.here hx rfl (hb hby at_136) rfl  k) ?_
  show Rch p e below (T10.setTop (mkF m 138 #[.val (.long q0), .second, .val (.long q1), .second, .val (.long q2), .second, .val (.long q3), .second, .val (.long q4), .second, .val (.long q5), .second, .val (.ref b1), .val (.ref b3), .val (.ref b5), .val (.long ((q0 + q1) + q2)), .second, .val (.long ((q3 + q4) + q5)), .second, .val (.long (((q0 + q3) + (q1 + q4)) + (q2 + q5))), .second, .val (.long (((0 : Int64) + (0 : Int64)) + (0 : Int64))), .second, .val (.int (1 : Int32)), .val (.int (1 : Int32)), .val (.int (1 : Int32))] [(.int (1 : Int32))])) _
  refine Rch.go (fun _ k => XS.ifNo X10.here hx rfl (hb hby at_138) rfl ((if0 _ _).trans (feq (by decide)).1) k) ?_
  show Rch p e below (T10.setTop (mkF m 141 #[.val (.long q0), .second, .val (.long q1), .second, .val (.long q2), .second, .val (.long q3), .second, .val (.long q4), .second, .val (.long q5), .second, .val (.ref b1), .val (.ref b3), .val (.ref b5), .val (.long ((q0 + q1) + q2)), .second, .val (.long ((q3 + q4) + q5)), .second, .val (.long (((q0 + q3) + (q1 + q4)) + (q2 + q5))), .second, .val (.long (((0 : Int64) + (0 : Int64)) + (0 : Int64))), .second, .val (.int (1 : Int32)), .val (.int (1 : Int32)), .val (.int (1 : Int32))] [])) _
  refine Rch.go (fun _ k => XS.iload X10.here hx rfl (hb hby at_141) rfl  k) ?_
  show Rch p e below (T10.setTop (mkF m 143 #[.val (.long q0), .second, .val (.long q1), .second, .val (.long q2), .second, .val (.long q3), .second, .val (.long q4), .second, .val (.long q5), .second, .val (.ref b1), .val (.ref b3), .val (.ref b5), .val (.long ((q0 + q1) + q2)), .second, .val (.long ((q3 + q4) + q5)), .second, .val (.long (((q0 + q3) + (q1 + q4)) + (q2 + q5))), .second, .val (.long (((0 : Int64) + (0 : Int64)) + (0 : Int64))), .second, .val (.int (1 : Int32)), .val (.int (1 : Int32)), .val (.int (1 : Int32))] [(.int (1 : Int32))])) _
  refine Rch.go (fun _ k => XS.ifNo X10.here hx rfl (hb hby at_143) rfl ((if0 _ _).trans (feq (by decide)).1) k) ?_
  show Rch p e below (T10.setTop (mkF m 146 #[.val (.long q0), .second, .val (.long q1), .second, .val (.long q2), .second, .val (.long q3), .second, .val (.long q4), .second, .val (.long q5), .second, .val (.ref b1), .val (.ref b3), .val (.ref b5), .val (.long ((q0 + q1) + q2)), .second, .val (.long ((q3 + q4) + q5)), .second, .val (.long (((q0 + q3) + (q1 + q4)) + (q2 + q5))), .second, .val (.long (((0 : Int64) + (0 : Int64)) + (0 : Int64))), .second, .val (.int (1 : Int32)), .val (.int (1 : Int32)), .val (.int (1 : Int32))] [])) _
  refine Rch.go (fun _ k => XS.iconst X10.here hx rfl (hb hby at_146) k) ?_
  show Rch p e below (T10.setTop (mkF m 147 #[.val (.long q0), .second, .val (.long q1), .second, .val (.long q2), .second, .val (.long q3), .second, .val (.long q4), .second, .val (.long q5), .second, .val (.ref b1), .val (.ref b3), .val (.ref b5), .val (.long ((q0 + q1) + q2)), .second, .val (.long ((q3 + q4) + q5)), .second, .val (.long (((q0 + q3) + (q1 + q4)) + (q2 + q5))), .second, .val (.long (((0 : Int64) + (0 : Int64)) + (0 : Int64))), .second, .val (.int (1 : Int32)), .val (.int (1 : Int32)), .val (.int (1 : Int32))] [(.int (1 : Int32))])) _
  refine Rch.go (fun _ k => XS.goto X10.here hx rfl (pc0 := 147) (pc' := 151) rfl (hb hby at_147) (by decide) (by decide) k) ?_
  show Rch p e below (T10.setTop (mkF m 151 #[.val (.long q0), .second, .val (.long q1), .second, .val (.long q2), .second, .val (.long q3), .second, .val (.long q4), .second, .val (.long q5), .second, .val (.ref b1), .val (.ref b3), .val (.ref b5), .val (.long ((q0 + q1) + q2)), .second, .val (.long ((q3 + q4) + q5)), .second, .val (.long (((q0 + q3) + (q1 + q4)) + (q2 + q5))), .second, .val (.long (((0 : Int64) + (0 : Int64)) + (0 : Int64))), .second, .val (.int (1 : Int32)), .val (.int (1 : Int32)), .val (.int (1 : Int32))] [(.int (1 : Int32))])) _
  exact Rch.ret X10 hlk (fun h => by rw [hret] at h; cases h) (fun fs hr => retN X10 hx (t := .boolean) hret (by simp) (hb hby at_151) hr) ⟨rfl, N10⟩ (by decide) (by decide)
set_option maxRecDepth 65536 in
set_option maxHeartbeats 40000000 in
theorem comes_1 {Post : Tables → Env → Array Value → State → Outcome → State → Prop} (hpost : ∀ tb e args s v u, (limb_1_1.after args s (.returned v) u = true ∧ limb_1_2.after args s (.returned v) u = true ∧ True) → FrameEnd s (.returned v) u (Jvm.fieldLocs frame_1_writes args s ++ Jvm.arrayLocs frame_1_arrays args s ++ Jvm.staticLocs frame_1_statics s) 16 128 → Post tb e args s (.returned v) u) :
    ArmFor flags0 classFile x code maxLocals ret World_1 tables_1 room_1 Calls_1 rest_1 Pre_1 Post := by
  intro l hfl _ _ p e ha hc hk s m args below hf hA hF happ hP
  obtain ⟨hcalls, hrest, hpre⟩ := hP
  obtain ⟨-, -, -, hnamed, -, -, -, hat⟩ := (Spec.applies_iff hf).mp happ
  obtain ⟨hg, hn⟩ := and_e (Cond.before_iff.mp (show (Jvm.Cond.and given_1 narrow_1).before args s = true from hpre))
  obtain ⟨hcount, q0⟩ := and_e hg
  obtain ⟨b0, q1⟩ := and_e q0
  obtain ⟨b1, q2⟩ := and_e q1
  obtain ⟨b2, q3⟩ := and_e q2
  obtain ⟨b3, q4⟩ := and_e q3
  obtain ⟨b4, q5⟩ := and_e q4
  obtain ⟨w0, w1, w2, w3, w4, w5, rfl⟩ : ∃ w0 w1 w2 w3 w4 w5 : Value, args = #[w0, w1, w2, w3, w4, w5] := by
    have hs : args.size = 6 := by simpa [Cond.value, given_1] using hcount
    obtain ⟨L⟩ := args
    match L, hs with
    | [w0, w1, w2, w3, w4, w5], _ => exact ⟨w0, w1, w2, w3, w4, w5, rfl⟩
  have hw := fun d (hd : d ∈ tables_1) => atoms_spec (ws := Jvm.Cond.code x code maxLocals ret :: tables_1) hat d (List.mem_cons_of_mem _ hd)
  have hfit : Fit s := fun {y c} hc i hi => by
    obtain ⟨ha, rfl⟩ := Array.getElem?_eq_some_iff.mp hc
    have q := List.all_eq_true.mp ((Array.all_eq_true_iff_forall_mem.mp hF) _ (Array.getElem_mem ha)) i (List.mem_range.mpr hi)
    simpa [Array.getElem?_eq_getElem hi] using q
  obtain ⟨i0, ei0⟩ := isL_v b0
  obtain rfl : w0 = (.long i0) := Option.some.inj ei0
  obtain ⟨i1, ei1⟩ := isL_v b1
  obtain rfl : w1 = (.long i1) := Option.some.inj ei1
  obtain ⟨i2, ei2⟩ := isL_v b2
  obtain rfl : w2 = (.long i2) := Option.some.inj ei2
  obtain ⟨i3, ei3⟩ := isL_v b3
  obtain rfl : w3 = (.long i3) := Option.some.inj ei3
  obtain ⟨i4, ei4⟩ := isL_v b4
  obtain rfl : w4 = (.long i4) := Option.some.inj ei4
  obtain ⟨i5, ei5⟩ := isL_v q5
  obtain rfl : w5 = (.long i5) := Option.some.inj ei5
  obtain ⟨hx1, hn1⟩ := and_e hn
  obtain ⟨hx2, hn2⟩ := and_e hn1
  obtain ⟨hx3, hx4⟩ := and_e hn2
  obtain ⟨nn, _, cell, k, ev, _⟩ := Cond.exactly_spec (Cond.before_iff.mpr hx1)
  have S0 := Sta.start ev (Or.inr ⟨(hw _ (List.mem_of_getElem? (i := 2) rfl)), (hw _ (List.mem_of_getElem? (i := 33) rfl))⟩)
  have E0 := Exa.start ev hx1
  have Flocal := own_fld (f := "local") ev hx2
  have Fremote := own_fld (f := "remote") ev hx3
  have Forigin := own_fld (f := "origin") ev hx4
  obtain ⟨n, o, h1, h2, h3, _, L, rfl, ⟨rfl, N⟩, hq⟩ := rm0 l s _ hw tables_1 i0 i1 i2 i3 i4 i5 s.heap s.heap.size (Nat.le_refl _) (Old.start s) nn S0 E0 Flocal Fremote Forigin p e ha hc hk s m _ below hf ((Spec.applies_iff_loose hf).mp happ).1 ⟨rfl, State.Warmed39.refl s, rfl⟩ trivial
  refine ⟨n, _, h1, h2, h3, hpost _ _ _ _ _ _ ⟨Cond.after_iff.mpr rfl, Cond.after_iff.mpr (eq_i res_at (Term.int_eval (1)) rfl), trivial⟩ ⟨hq.1, hq.2.1, (hq.2.2.sift fun y hy => Or.inr (N y hy)).mono (by decide) (by decide)⟩⟩
theorem main_1_1 : Claimed_1_1 := comes_1 fun _ _ _ _ _ _ h hF => ⟨h.1, hF⟩
theorem main_1_2 : Claimed_1_2 := comes_1 fun _ _ _ _ _ _ h hF => ⟨h.2.1, hF⟩
end Jvm.Pilot.@@N@@
namespace Jvm.Pilot.@@N@@
open Jvm Jvm.ClassFile Sem Op Lib Jvm.Free Jvm.Stand Jvm.Pilot.@@N@@.Jvm.D
/-! MADE BY PROGRAM (witnessworld.py) out of the Statement's table words and the real class files: 10 classes; the members and pool entries that the words name. The judged class is class 1, her method 1. -/
namespace start1
open Jvm.ClassFile
def u (s : String) : CpInfo := .utf8 (stringToUtf16 s)
/-- a pool by its gaps: so many unusable entries, then the entry; so many at the end -/
def gap : Nat → List CpInfo → List CpInfo
  | 0, r => r
  | n + 1, r => .unusable :: gap n r
def poolList (es : List (Nat × CpInfo)) (last : Nat) : List CpInfo := es.foldr (fun e r => gap e.1 (e.2 :: r)) (gap last [])
def pool (es : List (Nat × CpInfo)) (last : Nat) : Array CpInfo := ⟨poolList es last⟩
def fileOf (pool : Array CpInfo) (this : Nat) (attrs : Array Attribute := #[]) (ms : Array MethodInfo := #[]) (fl : Nat := 33) (sup : Nat := 0) (ifs : Array Nat := #[]) (fds : Array FieldInfo := #[]) : ClassFile where
  minorVersion := 0
  majorVersion := 65
  constantPool := pool
  accessFlags := fl
  thisClass := this
  superClass := sup
  interfaces := ifs
  fields := fds
  methods := ms
  attributes := attrs
def plain (name : String) (sup : Option ClassId) : Class where
  name := name
  kind := .ordinary
  loader := none
  accessFlags := 33
  super := sup
  interfaces := #[]
  cf := none
  fields := #[]
  methods := #[]
  instanceTypes := #[]
  staticTypes := #[]
  resolved := #[]
  callSites := []
  init := .initialized
  statics := none
  mirror := none

def pool0 : Array CpInfo := pool [(5, u "<init>"), (0, u "()V"), (1, .class_ 10), (1, u "java/lang/Object")] 113

def k0c0 : Code := { maxStack := 0, maxLocals := 1, code := object_method_1_code, exceptionTable := #[], attributes := #[] }
def k0m0 : Method := { name := "<init>", desc := "()V", sig := { parameters := [], returnType := none }, accessFlags := 1, code := some k0c0 }
/-- java/lang/Object -/
def k0 : Class := { plain "java/lang/Object" none with
  accessFlags := 33
  interfaces := #[]
  cf := some (fileOf pool0 8 #[] #[{ accessFlags := 1, nameIndex := 5, descriptorIndex := 6, attributes := #[] }] 33 0 #[] #[])
  fields := #[]
  methods := #[k0m0]
  instanceTypes := #[]
  staticTypes := #[]
  resolved := Array.replicate 124 none
  statics := none }

def pool1 : Array CpInfo := pool [(2, .class_ 4), (1, u "java/lang/Object"), (0, u "<init>"), (0, u "()V"), (0, .class_ 8), (0, u "com/example/mirrorwright/mirrorwright/sim/Replay$Result"), (0, .methodref 7 10), (0, .nameAndType 5 11), (0, u "(JJJ)V"), (0, .methodref 7 13), (0, .nameAndType 14 15), (0, u "plus"), (0, u "(Lcom/example/mirrorwright/mirrorwright/sim/Replay$Result;)Lcom/example/mirrorwright/mirrorwright/sim/Replay$Result;"), (0, .methodref 7 17), (0, .nameAndType 18 19), (0, u "requests"), (0, u "()J"), (0, .fieldref 7 21), (0, .nameAndType 22 23), (0, u "NONE"), (0, u "Lcom/example/mirrorwright/mirrorwright/sim/Replay$Result;"), (0, .class_ 25), (0, u "com/example/mirrorwright/mirrorwright/sim/ReplayRequestsPinLaw"), (2, u "law"), (0, u "(JJJJJJ)Z")] 7

def k1m0 : Method := { name := "<init>", desc := "()V", sig := { parameters := [], returnType := none }, accessFlags := 2, code := none }
def k1c1 : Code := { maxStack := 8, maxLocals := 26, code := code, exceptionTable := #[], attributes := #[] }
def k1m1 : Method := { name := "law", desc := "(JJJJJJ)Z", sig := { parameters := [.long, .long, .long, .long, .long, .long], returnType := some .boolean }, accessFlags := 9, code := some k1c1 }
/-- com/example/mirrorwright/mirrorwright/sim/ReplayRequestsPinLaw -/
def k1 : Class := { plain "com/example/mirrorwright/mirrorwright/sim/ReplayRequestsPinLaw" (some 0) with
  accessFlags := 49
  interfaces := #[]
  cf := some (fileOf pool1 24 #[] #[{ accessFlags := 2, nameIndex := 5, descriptorIndex := 6, attributes := #[] }, { accessFlags := 9, nameIndex := 28, descriptorIndex := 29, attributes := #[] }] 49 2 #[] #[])
  fields := #[]
  methods := #[k1m0, k1m1]
  instanceTypes := #[]
  staticTypes := #[]
  resolved := Array.replicate 37 none
  statics := none }

def pool2 : Array CpInfo := pool [(1, .methodref 2 3), (0, .class_ 4), (0, .nameAndType 5 6), (0, u "java/lang/Object"), (0, u "<init>"), (0, u "()V"), (0, .class_ 8), (0, u "java/lang/Record")] 13

def k2c0 : Code := { maxStack := 1, maxLocals := 1, code := jdk_30_method_1_code, exceptionTable := #[], attributes := #[] }
def k2m0 : Method := { name := "<init>", desc := "()V", sig := { parameters := [], returnType := none }, accessFlags := 4, code := some k2c0 }
/-- java/lang/Record -/
def k2 : Class := { plain "java/lang/Record" (some 0) with
  accessFlags := 1057
  interfaces := #[]
  cf := some (fileOf pool2 7 #[] #[{ accessFlags := 4, nameIndex := 5, descriptorIndex := 6, attributes := #[] }] 1057 2 #[] #[])
  fields := #[]
  methods := #[k2m0]
  instanceTypes := #[]
  staticTypes := #[]
  resolved := Array.replicate 22 none
  statics := none }

def pool3 : Array CpInfo := pool [(1, .methodref 2 3), (0, .class_ 4), (0, .nameAndType 5 6), (0, u "java/lang/Record"), (0, u "<init>"), (0, u "()V"), (0, .fieldref 8 9), (0, .class_ 10), (0, .nameAndType 11 12), (0, u "com/example/mirrorwright/mirrorwright/sim/Replay$Result"), (0, u "local"), (0, u "J"), (0, .fieldref 8 14), (0, .nameAndType 15 12), (0, u "remote"), (0, .fieldref 8 17), (0, .nameAndType 18 12), (0, u "origin"), (0, .methodref 8 20), (0, .nameAndType 5 21), (0, u "(JJJ)V"), (8, u "requests"), (0, u "()J"), (14, u "NONE"), (0, u "Lcom/example/mirrorwright/mirrorwright/sim/Replay$Result;"), (3, u "plus"), (0, u "(Lcom/example/mirrorwright/mirrorwright/sim/Replay$Result;)Lcom/example/mirrorwright/mirrorwright/sim/Replay$Result;"), (9, .class_ 63), (0, u "com/example/mirrorwright/mirrorwright/sim/Replay")] 21

def k3c0 : Code := { maxStack := 3, maxLocals := 7, code := prog_47_method_1_code, exceptionTable := #[], attributes := #[] }
def k3m0 : Method := { name := "<init>", desc := "(JJJ)V", sig := { parameters := [.long, .long, .long], returnType := none }, accessFlags := 1, code := some k3c0 }
def k3c1 : Code := { maxStack := 10, maxLocals := 2, code := prog_47_method_2_code, exceptionTable := #[], attributes := #[] }
def k3m1 : Method := { name := "plus", desc := "(Lcom/example/mirrorwright/mirrorwright/sim/Replay$Result;)Lcom/example/mirrorwright/mirrorwright/sim/Replay$Result;", sig := { parameters := [(.object "com/example/mirrorwright/mirrorwright/sim/Replay$Result")], returnType := some (.object "com/example/mirrorwright/mirrorwright/sim/Replay$Result") }, accessFlags := 1, code := some k3c1 }
def k3c2 : Code := { maxStack := 4, maxLocals := 1, code := prog_47_method_3_code, exceptionTable := #[], attributes := #[] }
def k3m2 : Method := { name := "requests", desc := "()J", sig := { parameters := [], returnType := some .long }, accessFlags := 1, code := some k3c2 }
/-- com/example/mirrorwright/mirrorwright/sim/Replay$Result -/
def k3 : Class := { plain "com/example/mirrorwright/mirrorwright/sim/Replay$Result" (some 2) with
  accessFlags := 49
  interfaces := #[]
  cf := some (fileOf pool3 8 #[.nestHost 62] #[{ accessFlags := 1, nameIndex := 5, descriptorIndex := 21, attributes := #[] }, { accessFlags := 1, nameIndex := 51, descriptorIndex := 52, attributes := #[] }, { accessFlags := 1, nameIndex := 30, descriptorIndex := 31, attributes := #[] }] 49 2 #[] #[{ accessFlags := 18, nameIndex := 11, descriptorIndex := 12, attributes := #[] }, { accessFlags := 18, nameIndex := 15, descriptorIndex := 12, attributes := #[] }, { accessFlags := 18, nameIndex := 18, descriptorIndex := 12, attributes := #[] }, { accessFlags := 25, nameIndex := 46, descriptorIndex := 47, attributes := #[] }])
  fields := #[{ name := "local", type := .long, accessFlags := 18, slot := 0, constantValue := 0 }, { name := "remote", type := .long, accessFlags := 18, slot := 1, constantValue := 0 }, { name := "origin", type := .long, accessFlags := 18, slot := 2, constantValue := 0 }, { name := "NONE", type := (.object "com/example/mirrorwright/mirrorwright/sim/Replay$Result"), accessFlags := 25, slot := 0, constantValue := 0 }]
  methods := #[k3m0, k3m1, k3m2]
  instanceTypes := #[.long, .long, .long]
  staticTypes := #[(.object "com/example/mirrorwright/mirrorwright/sim/Replay$Result")]
  resolved := Array.replicate 85 none
  statics := some 0 }

def pool4 : Array CpInfo := pool [(1, u "java/lang/Cloneable"), (0, .class_ 1), (0, u "java/lang/Object"), (0, .class_ 3)] 3

/-- java/lang/Cloneable -/
def k4 : Class := { plain "java/lang/Cloneable" (some 0) with
  accessFlags := 1537
  interfaces := #[]
  cf := some (fileOf pool4 2 #[] #[] 1537 4 #[] #[])
  fields := #[]
  methods := #[]
  instanceTypes := #[]
  staticTypes := #[]
  resolved := Array.replicate 8 none
  statics := none }

def pool5 : Array CpInfo := pool [(1, u "java/io/Serializable"), (0, .class_ 1), (0, u "java/lang/Object"), (0, .class_ 3)] 3

/-- java/io/Serializable -/
def k5 : Class := { plain "java/io/Serializable" (some 0) with
  accessFlags := 1537
  interfaces := #[]
  cf := some (fileOf pool5 2 #[] #[] 1537 4 #[] #[])
  fields := #[]
  methods := #[]
  instanceTypes := #[]
  staticTypes := #[]
  resolved := Array.replicate 8 none
  statics := none }

/-- the primitive byte -/
def k6 : Class := { plain "byte" none with kind := .primitive 'B', accessFlags := 0x411 }
/-- [B -/
def k7 : Class := { plain "[B" (some 0) with kind := .array 6 .byte, interfaces := #[4, 5], accessFlags := 1041 }

/-- the primitive int -/
def k8 : Class := { plain "int" none with kind := .primitive 'I', accessFlags := 0x411 }
/-- [I -/
def k9 : Class := { plain "[I" (some 0) with kind := .array 8 .int, interfaces := #[4, 5], accessFlags := 1041 }

def heap : Heap := #[{ cls := 3, slots := #[.ref 1], vm := .statics 3 },
  { cls := 3, slots := #[.long 0, .long 0, .long 0], vm := .none }]
def classes : Array Class := #[k0, k1, k2, k3, k4, k5, k6, k7, k8, k9]
def interned : List (Array UInt16 × Addr) := []
def slotsUsed : Nat := 4
def theMethod : MethodId := ⟨1, 1⟩
def args0 : Array Value := #[.long 1, .long 2, .long 3, .long 4, .long 5, .long 6]
def aboutOver (below : List Frame) : State where
  vm := { classes := classes, interned := interned.toArray }
  heap := heap
  slotsUsed := slotsUsed
  threads := #[{ frames := .invoking theMethod args0 :: below }]
def below0 : List Frame := [.native { method := ⟨0, 0⟩, args := #[] }]
def about1 : State := aboutOver below0
def p0 : Program := .bare "" "" ""
def e0 : Env := launch0.env 0 0 0
theorem w_frames : about1.frames = Frame.invoking theMethod args0 :: below0 := rfl
set_option maxRecDepth 65536 in
theorem w_args : argsFit about1.vm theMethod args0 = true := by decide +kernel
set_option maxRecDepth 65536 in
theorem w_heap : heapFits about1 = true := by decide +kernel
set_option maxRecDepth 65536 in
theorem w_runnable : about1.curStatus? = some .runnable := by decide +kernel
set_option maxRecDepth 65536 in
theorem w_alone : about1.alone = true := by decide +kernel
set_option maxRecDepth 65536 in
theorem w_named : about1.methodNamed? x = some theMethod := by decide +kernel
set_option maxRecDepth 65536 in
theorem w_hears : about1.hears theMethod below0 = true := by decide +kernel
set_option maxRecDepth 65536 in
theorem w_ripe : about1.ripe theMethod args0 below0 = true := by decide +kernel
theorem w_running : about1.status = .running := rfl
set_option maxRecDepth 65536 in
theorem w_room : about1.hasRoom e0.platform room_1 = true :=
  launch0.hasRoom_least _ room_1 (by decide +kernel) (by decide +kernel) (by decide +kernel) (by decide +kernel) (by decide +kernel) (by decide +kernel)
theorem allAtoms_all (ts : List Jvm.Cond) (a : Array Jvm.Value) (st : Jvm.State) : (allAtoms ts).before a st = ts.all (fun c => c.before a st) := by
  induction ts with
  | nil => rfl
  | cons c t ih =>
    show (Jvm.Cond.and c (allAtoms t)).before a st = _
    rw [Jvm.Cond.before_and, ih, List.all_cons]
def words1 : List Jvm.Cond := Jvm.Cond.code x code maxLocals ret :: tables_1
/-- a 'code' word, met by the world's own term for the bytes: nothing is compared byte by byte -/
theorem code_word {y : MethodName} {bytes : ByteArray} {mx : Nat} {rt : Option FieldType} {a : Array Value} {s : State} {m : MethodId} {meth : Method} {c : Code} (h1 : s.methodNamed? y = some m) (h2 : s.vm.method? m = some meth) (h3 : meth.code = some c) (h4 : c.code = bytes)
    (h5 : (c.maxLocals == mx && c.exceptionTable.isEmpty && decide (c.maxStack ≤ mostOperands) && decide (meth.sig.returnType = rt) && !meth.locks && decide (parseMethodDescriptor y.desc = some meth.sig)) = true) : (Jvm.Cond.code y bytes mx rt).before a s = true := by
  simp only [Bool.and_eq_true, beq_iff_eq, Bool.not_eq_true', decide_eq_true_eq] at h5
  obtain ⟨⟨⟨⟨⟨g1, g2⟩, g3⟩, g4⟩, g5⟩, g6⟩ := h5
  simp [Cond.before, Cond.holds, Cond.value, h1, h2, h3, h4, g1, g2, g3, g4, g5, g6]
def isCode : Jvm.Cond → Bool
  | .code _ _ _ _ => true
  | _ => false
theorem all_split {L : List Jvm.Cond} {P : Jvm.Cond → Bool} (h1 : L.all (fun c => isCode c || P c) = true) (h2 : ∀ c ∈ L.filter isCode, P c = true) : L.all P = true := by
  refine List.all_eq_true.mpr fun c hc => ?_
  have h := List.all_eq_true.mp h1 c hc
  rcases Bool.eq_false_or_eq_true (isCode c) with hi | hi
  · exact h2 c (List.mem_filter.mpr ⟨hc, hi⟩)
  · simpa [hi] using h
set_option maxRecDepth 65536 in
theorem w_c0 : (Jvm.Cond.code x code maxLocals ret).before args0 about1 = true := code_word (m := ⟨1, 1⟩) (meth := k1m1) (c := k1c1) (by decide +kernel) rfl rfl rfl (by decide +kernel)
set_option maxRecDepth 65536 in
theorem w_c1 : (Jvm.Cond.code ({ cls := "com/example/mirrorwright/mirrorwright/sim/Replay$Result", name := "<init>", desc := "(JJJ)V" } : Jvm.MethodName) prog_47_method_1_code (7 : Nat) (Option.none : Option Jvm.ClassFile.FieldType)).before args0 about1 = true := code_word (m := ⟨3, 0⟩) (meth := k3m0) (c := k3c0) (by decide +kernel) rfl rfl rfl (by decide +kernel)
set_option maxRecDepth 65536 in
theorem w_c2 : (Jvm.Cond.code ({ cls := "java/lang/Record", name := "<init>", desc := "()V" } : Jvm.MethodName) jdk_30_method_1_code (1 : Nat) (Option.none : Option Jvm.ClassFile.FieldType)).before args0 about1 = true := code_word (m := ⟨2, 0⟩) (meth := k2m0) (c := k2c0) (by decide +kernel) rfl rfl rfl (by decide +kernel)
set_option maxRecDepth 65536 in
theorem w_c3 : (Jvm.Cond.code ({ cls := "java/lang/Object", name := "<init>", desc := "()V" } : Jvm.MethodName) object_method_1_code (1 : Nat) (Option.none : Option Jvm.ClassFile.FieldType)).before args0 about1 = true := code_word (m := ⟨0, 0⟩) (meth := k0m0) (c := k0c0) (by decide +kernel) rfl rfl rfl (by decide +kernel)
set_option maxRecDepth 65536 in
theorem w_c4 : (Jvm.Cond.code ({ cls := "com/example/mirrorwright/mirrorwright/sim/Replay$Result", name := "plus", desc := "(Lcom/example/mirrorwright/mirrorwright/sim/Replay$Result;)Lcom/example/mirrorwright/mirrorwright/sim/Replay$Result;" } : Jvm.MethodName) prog_47_method_2_code (2 : Nat) (Option.some (Jvm.ClassFile.FieldType.object "com/example/mirrorwright/mirrorwright/sim/Replay$Result"))).before args0 about1 = true := code_word (m := ⟨3, 1⟩) (meth := k3m1) (c := k3c1) (by decide +kernel) rfl rfl rfl (by decide +kernel)
set_option maxRecDepth 65536 in
theorem w_c5 : (Jvm.Cond.code ({ cls := "com/example/mirrorwright/mirrorwright/sim/Replay$Result", name := "requests", desc := "()J" } : Jvm.MethodName) prog_47_method_3_code (1 : Nat) (Option.some Jvm.ClassFile.FieldType.long)).before args0 about1 = true := code_word (m := ⟨3, 2⟩) (meth := k3m2) (c := k3c2) (by decide +kernel) rfl rfl rfl (by decide +kernel)
def codes1 : List Jvm.Cond := [Jvm.Cond.code x code maxLocals ret, Jvm.Cond.code ({ cls := "com/example/mirrorwright/mirrorwright/sim/Replay$Result", name := "<init>", desc := "(JJJ)V" } : Jvm.MethodName) prog_47_method_1_code (7 : Nat) (Option.none : Option Jvm.ClassFile.FieldType), Jvm.Cond.code ({ cls := "java/lang/Record", name := "<init>", desc := "()V" } : Jvm.MethodName) jdk_30_method_1_code (1 : Nat) (Option.none : Option Jvm.ClassFile.FieldType), Jvm.Cond.code ({ cls := "java/lang/Object", name := "<init>", desc := "()V" } : Jvm.MethodName) object_method_1_code (1 : Nat) (Option.none : Option Jvm.ClassFile.FieldType), Jvm.Cond.code ({ cls := "com/example/mirrorwright/mirrorwright/sim/Replay$Result", name := "plus", desc := "(Lcom/example/mirrorwright/mirrorwright/sim/Replay$Result;)Lcom/example/mirrorwright/mirrorwright/sim/Replay$Result;" } : Jvm.MethodName) prog_47_method_2_code (2 : Nat) (Option.some (Jvm.ClassFile.FieldType.object "com/example/mirrorwright/mirrorwright/sim/Replay$Result")), Jvm.Cond.code ({ cls := "com/example/mirrorwright/mirrorwright/sim/Replay$Result", name := "requests", desc := "()J" } : Jvm.MethodName) prog_47_method_3_code (1 : Nat) (Option.some Jvm.ClassFile.FieldType.long)]
set_option maxRecDepth 65536 in
theorem codes_eq : words1.filter isCode = codes1 := rfl
theorem w_codes : ∀ c ∈ words1.filter isCode, c.before args0 about1 = true := by
  rw [codes_eq]
  intro c hc
  simp only [codes1, List.mem_cons, List.not_mem_nil, or_false] at hc
  rcases hc with rfl | rfl | rfl | rfl | rfl | rfl
  · exact w_c0
  · exact w_c1
  · exact w_c2
  · exact w_c3
  · exact w_c4
  · exact w_c5
set_option maxRecDepth 65536 in
theorem w_t1 : (words1.take 24).all (fun c => isCode c || c.before args0 about1) = true := by decide +kernel
set_option maxRecDepth 65536 in
theorem w_t2 : (words1.drop 24).all (fun c => isCode c || c.before args0 about1) = true := by decide +kernel
theorem w_tables : (allAtoms (Jvm.Cond.code x code maxLocals ret :: tables_1)).before args0 about1 = true := by
  rw [allAtoms_all]
  show words1.all (fun c => c.before args0 about1) = true
  refine all_split ?_ w_codes
  rw [← List.take_append_drop 24 words1, List.all_append, w_t1, w_t2]
  rfl
set_option maxRecDepth 65536 in
theorem w_case : (Jvm.Cond.and given_1 narrow_1).before args0 about1 = true := by decide +kernel
theorem w_applies : (headSpec (Jvm.Cond.code x code maxLocals ret :: tables_1) room_1).applies x e0.platform about1 = true :=
  (Spec.applies_iff w_frames).mpr ⟨w_running, w_runnable, w_alone, w_named, w_hears, w_ripe, w_room, w_tables⟩
theorem atStart : AtStart classFile x code maxLocals ret World_1 tables_1 room_1 Calls_1 rest_1 Pre_1 launch0 p0 e0 about1 theMethod args0 below0 :=
  ⟨lists_1, trivial, launch0.admits_env _ _ _, launch0.least_env, fairChoices_fair.cas, fairChoices_fair.clock, w_frames, w_args, w_heap, w_applies, trivial, trivial, w_case⟩
end start1
theorem witness_1 : WitnessClaimed_1 := ⟨start1.p0, start1.e0, start1.about1, start1.theMethod, start1.args0, start1.below0, start1.atStart⟩
end Jvm.Pilot.@@N@@
