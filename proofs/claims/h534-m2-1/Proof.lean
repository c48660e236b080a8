import JvmDerived
import JvmDerived.Pilot.@@N@@Statement
import JvmDerived.Pilot.@@N@@Code
set_option linter.unusedVariables false
set_option linter.unusedSimpArgs false
namespace Jvm.OwnKit
open Sem ClassFile Op Lib Jvm.Stand Jvm.Free Jvm.LawKit Jvm.RoadKit
/-- from A the run comes to a state of which P holds -/
def Rch (p : Program) (e : Env) (below : List Frame) (A : State) (P : State → Prop) : Prop := ∃ B, Steps p.tables e below A B ∧ P B
/-- the end of a body: it returned v, and Q says what it left -/
def Fin1 (s : State) (below : List Frame) (Q : Option Value → Heap → List Loc → Prop) (k n : Nat) (B : State) : Prop := ∃ v L, B.status = .running ∧ Ended B below (.returned v) ∧ Q v B.heap L ∧ FrameEnd s (.returned v) B L k n
section Own
variable {p : Program} {l : Launch} {e : Env} {R : Room} {s : State} {m : MethodId} {args : Array Value} {below : List Frame} {meth : Method} {c : Code} {T : State} {locs : List Loc} {cells slots : Nat} {A A' : State} {P P' : State → Prop} {Z : State} {a0 : Array Value} {h : Heap}
theorem Rch.go (h1 : ∀ t, Steps p.tables e below A' t → Steps p.tables e below A t) (k : Rch p e below A' P) : Rch p e below A P := by
  obtain ⟨B, q1, q2⟩ := k; exact ⟨B, h1 _ q1, q2⟩
theorem Rch.of (h1 : Steps p.tables e below A A') (k : Rch p e below A' P) : Rch p e below A P := by
  obtain ⟨B, q1, q2⟩ := k; exact ⟨B, h1.trans q1, q2⟩
theorem Rch.here (h1 : P A) : Rch p e below A P := ⟨A, Steps.refl _, h1⟩
theorem Rch.bind (k : Rch p e below A P) (f : ∀ B, P B → Rch p e below B P') : Rch p e below A P' := by
  obtain ⟨B, q1, q2⟩ := k
  obtain ⟨D, q3, q4⟩ := f B q2
  exact ⟨D, q1.trans q3, q4⟩
theorem Rch.ret {Q : Option Value → Heap → List Loc → Prop} {k n : Nat} (X : Stand p l e R s m args below meth c T locs cells slots) (hlk : meth.locks = false) {v : Option Value} (hv : meth.sig.returnType = none → v = none)
    (hA : ∀ fs, (∀ (f : JFrame) (acts : List Action), f.method = m → f.locked = none → f.entered = [] → (doReturn e (T.setTop f) acts v).1 = T.setFrames fs) → Steps p.tables e below A (T.setFrames fs))
    (hQ : Q v T.heap locs) (hk : cells ≤ k) (hn : slots ≤ n) : Rch p e below A (Fin1 s below Q k n) := by
  obtain ⟨fs, hr, hrun, hended, hW, hsame⟩ := X.leave (v := v) hv hlk
  exact ⟨_, hA fs hr, v, locs, hrun, hended, hQ, ⟨_, rfl⟩, hW, hsame.mono hk hn⟩
theorem wider (X : Stand p l e R s m args below meth c T locs cells slots) {k n : Nat} (hk : cells ≤ k) (hn : slots ≤ n) : Stand p l e R s m args below meth c T locs k n := { X with same := X.same.mono hk hn }
theorem retI' (X : Stand p l e R s m args below meth c T locs cells slots) (hx : p.tables.exec = Jvm.exec) {pc : Nat} {Ls : Array Slot} {z : Int32} {rest : List Value} (hret : meth.sig.returnType = some .int) (hd : decode c.code pc = .ok (.ireturn, 1)) {fs : List Frame}
    (hl : ∀ (f : JFrame) (acts : List Action), f.method = m → f.locked = none → f.entered = [] → (doReturn e (T.setTop f) acts (some (.int z))).1 = T.setFrames fs) : Steps p.tables e below (T.setTop (mkF m pc Ls (.int z :: rest))) (T.setFrames fs) := by
  have hm' : T.vm.method? m = some meth := X.method'
  have hn : narrow .int (.int z) = .int z := rfl
  show Steps p.tables e below (T.setTop { method := m, pc := pc, locals := Ls, stack := _ :: rest, locked := none }) _
  jvm_step X.here [X.here.top, hx, hd, hm', hret, hn]
  first | (intro acts; rw [hl _ acts rfl rfl rfl]) | rw [hl _ _ rfl rfl rfl]
  exact Steps.refl _
theorem retR' (X : Stand p l e R s m args below meth c T locs cells slots) (hx : p.tables.exec = Jvm.exec) {pc : Nat} {Ls : Array Slot} {w : Value} {t : FieldType} {rest : List Value} (hret : meth.sig.returnType = some t) (ht : t.isReference = true) (hw : w.isRef = true) (hd : decode c.code pc = .ok (.areturn, 1)) {fs : List Frame}
    (hl : ∀ (f : JFrame) (acts : List Action), f.method = m → f.locked = none → f.entered = [] → (doReturn e (T.setTop f) acts (some w)).1 = T.setFrames fs) : Steps p.tables e below (T.setTop (mkF m pc Ls (w :: rest))) (T.setFrames fs) :=
  retOut X hx hret (by rcases ref_cases hw with rfl | ⟨a, rfl⟩ <;> cases t <;> first | rfl | cases ht) (Or.inr (Or.inr (Or.inr (Or.inr ⟨rfl, ht, hw⟩)))) hd hl
theorem own_body {y : MethodName} {bytes : ByteArray} {maxL : Nat} {ret : Option FieldType} {ws : List Jvm.Cond} {rm : Room} {as' : Array Value} {h0 : Heap} {Q : Option Value → Heap → List Loc → Prop} {k n : Nat} (hp : plainFor y = true)
    (body : ∀ (p : Program) (e : Env) (s : State) (m : MethodId) (below : List Frame) (meth : Method) (c : Code) (s₁ : State), Stand p l e rm s m as' below meth c s₁ [] 0 0 → p.tables.exec = Jvm.exec → c.code = bytes → c.maxLocals = maxL → s.vm.findClass y.cls = some m.cls → meth.name = y.name → meth.sig.returnType = ret → meth.locks = false → Z.Warmed39 s.vm → s₁.heap = h0 →
      Rch p e below (s₁.setTop (entryFrame m as' maxL)) (Fin1 s below Q k n)) :
    MetFree l y (head1 (Jvm.Cond.code y bytes maxL ret :: ws) rm) (fun a U => a = as' ∧ Z.Warmed39 U.vm ∧ U.heap = h0) (fun _ _ _ _ _ => True) (fun _ U o U' => ∃ v L, o = .returned v ∧ Q v U'.heap L ∧ FrameEnd U o U' L k n) := by
  refine MetFree.of_bodySF hp hisR ?_
  intro p e s m args below meth c s₁ Bd hml0 hP hK
  obtain ⟨rfl, hZ, hh⟩ := hP
  obtain ⟨B, hs, v, L, h1, h2, h3, h4⟩ := body p e s m below meth c s₁ (Stand.of_body Bd) Bd.exec Bd.bytes hml0 (findClass_of_methodNamed Bd.named) ((name_of_methodNamed Bd.named Bd.method).1) Bd.returns (BodyLoose.notSynchronized Bd) hZ (by rw [← hh, Bd.state]; rfl)
  exact ⟨B, _, hs, h1, h2, v, L, rfl, h3, h4⟩
abbrev Met1 (l : Launch) (y : MethodName) (bytes : ByteArray) (maxL : Nat) (ret : Option FieldType) (rm : Room) (Z : State) (as' : Array Value) (h : Heap) (Q : Option Value → Heap → List Loc → Prop) : Prop :=
  MetFree l y (head1 [Jvm.Cond.code y bytes maxL ret] rm) (fun a U => a = as' ∧ Z.Warmed39 U.vm ∧ U.heap = h) (fun _ _ _ _ _ => True) (fun _ U o U' => ∃ v L, o = .returned v ∧ Q v U'.heap L ∧ FrameEnd U o U' L rm.cells rm.slots)
/-- a static call by the callee's contract -/
theorem Rch.callS (X : Stand p l e R s m args below meth c T locs cells slots) (hx : p.tables.exec = Jvm.exec) (hZ : Z.Warmed39 s.vm) {own : String} {index : Nat} {y : MethodName} {bytes : ByteArray} {maxL : Nat} {ret : Option FieldType} {rm : Room} {as' : Array Value} {Q : Option Value → Heap → List Loc → Prop}
    (hown : s.vm.findClass own = some m.cls) (w1 : (Jvm.Cond.methodLink own index y).before a0 Z = true) (w2 : (Jvm.Cond.static y).before a0 Z = true) (w3 : (Jvm.Cond.initialized y.cls).before a0 Z = true) (w4 : (Jvm.Cond.code y bytes maxL ret).before a0 Z = true) (hy : y.cls ≠ "java/lang/invoke/MethodHandle" ∧ y.cls ≠ "java/lang/invoke/VarHandle")
    (hM : Met1 l y bytes maxL ret rm Z as' h Q) (W : Nat) (hf : rm.frames + 1 ≤ R.frames) (hl : W + (maxL + 11) + rm.locals ≤ R.locals) (hc : cells + rm.cells ≤ R.cells) (hs : slots + rm.slots ≤ R.slots) (eT : T.heap = h)
    {g : JFrame} (hg : g.method = m) (hsize : g.locals.size = c.maxLocals) (argsL rest : List Value) (has : argsL.toArray = as') (hlen : ∀ sig, parseMethodDescriptor y.desc = some sig → argsL.length = sig.parameters.length)
    (hstack : g.stack = argsL.reverse ++ rest) (hW : 2 * g.monitorRoom + (rest.map fun v => v.category).sum ≤ W) (hdg : decode c.code g.pc = .ok (.invokestatic index, 3))
    (k : ∀ v T' L, Stand p l e R s m args below meth c T' (locs ++ L) (cells + rm.cells) (slots + rm.slots) → Q v T'.heap L → Rch p e below (T'.setTop { g with pc := g.pc + 3, stack := v.toList ++ rest }) P) : Rch p e below (T.setTop g) P := by
  obtain ⟨v, _, ⟨T1, L1, k1, n1⟩, -, X1, ⟨Lc, hQ, l1, y1, z1⟩, st⟩ := Jvm.LawKit.callS X hx (y := y) hown (mvT hZ w1) (mvT hZ w2) (mvT hZ w3) (mvT hZ w4) hy (backOf (W := W) hM hZ w4 w3 hf hl) (g := g) hg hsize (argsL := argsL) (rest := rest) hlen hstack hW hdg (fun _ _ => ⟨has, eT, hc, hs⟩)
  dsimp only [Pt.U, Pt.locs, Pt.cells, Pt.slots] at X1 l1 y1 z1 st hQ
  subst l1 y1 z1
  exact Rch.go st (k v T1 Lc X1 hQ)
/-- a constructor by its contract -/
theorem Rch.callC (X : Stand p l e R s m args below meth c T locs cells slots) (hx : p.tables.exec = Jvm.exec) (hZ : Z.Warmed39 s.vm) {own : String} {index : Nat} {y : MethodName} {bytes : ByteArray} {maxL : Nat} {rm : Room} {as' : Array Value} {Q : Option Value → Heap → List Loc → Prop} (hy1 : y.name = "<init>")
    (hown : s.vm.findClass own = some m.cls) (w1 : (Jvm.Cond.methodLink own index y).before a0 Z = true) (w2 : (Jvm.Cond.instanceMethod y).before a0 Z = true) (w3 : (Jvm.Cond.initialized y.cls).before a0 Z = true) (w4 : (Jvm.Cond.code y bytes maxL none).before a0 Z = true) (hy : y.cls ≠ "java/lang/invoke/MethodHandle" ∧ y.cls ≠ "java/lang/invoke/VarHandle")
    (hM : Met1 l y bytes maxL none rm Z as' h Q) (W : Nat) (hf : rm.frames + 1 ≤ R.frames) (hl : W + (maxL + 11) + rm.locals ≤ R.locals) (hc : cells + rm.cells ≤ R.cells) (hs : slots + rm.slots ≤ R.slots) (eT : T.heap = h)
    {g : JFrame} (hg : g.method = m) (hsize : g.locals.size = c.maxLocals) (a : Addr) (argsL rest : List Value) (has : (.ref a :: argsL).toArray = as') (hlen : ∀ sig, parseMethodDescriptor y.desc = some sig → argsL.length = sig.parameters.length)
    (hstack : g.stack = argsL.reverse ++ .ref a :: rest) (hW : 2 * g.monitorRoom + (rest.map fun v => v.category).sum ≤ W) (hdg : decode c.code g.pc = .ok (.invokespecial index, 3))
    (k : ∀ v T' L, Stand p l e R s m args below meth c T' (locs ++ L) (cells + rm.cells) (slots + rm.slots) → Q v T'.heap L → Rch p e below (T'.setTop { g with pc := g.pc + 3, stack := v.toList ++ rest }) P) : Rch p e below (T.setTop g) P := by
  obtain ⟨v, _, ⟨T1, L1, k1, n1⟩, -, X1, ⟨Lc, hQ, l1, y1, z1⟩, st⟩ := X.specialBack hx (y := y) hy1 hown (mvT hZ w1) (mvT hZ w2) (mvT hZ w4) hy (backOf (W := W) hM hZ w4 w3 hf hl) (g := g) hg hsize (Steps.refl _) (a := a) (argsL := argsL) (rest := rest) hlen hstack hW hdg (fun _ _ => ⟨has, eT, hc, hs⟩)
  dsimp only [Pt.U, Pt.locs, Pt.cells, Pt.slots] at X1 l1 y1 z1 st hQ
  subst l1 y1 z1
  exact Rch.of st (k v T1 Lc X1 hQ)
/-- an instance method, selected by the receiver's class C, by the contract of the selected one -/
theorem Rch.callV (X : Stand p l e R s m args below meth c T locs cells slots) (hx : p.tables.exec = Jvm.exec) (hZ : Z.Warmed39 s.vm) {own C : String} {index : Nat} {y z : MethodName} {bytes : ByteArray} {maxL : Nat} {ret : Option FieldType} {rm : Room} {as' : Array Value} {Q : Option Value → Heap → List Loc → Prop}
    (hown : s.vm.findClass own = some m.cls) (w1 : (Jvm.Cond.methodLink own index y).before a0 Z = true) (w2 : (Jvm.Cond.declares y).before a0 Z = true) (hnf : NotFace s y) (w5 : (Jvm.Cond.selects C y z).before a0 Z = true) (w6 : (Jvm.Cond.instanceMethod z).before a0 Z = true) (w3 : (Jvm.Cond.initialized z.cls).before a0 Z = true) (w4 : (Jvm.Cond.code z bytes maxL ret).before a0 Z = true) (hy : y.cls ≠ "java/lang/invoke/MethodHandle" ∧ y.cls ≠ "java/lang/invoke/VarHandle")
    (hM : Met1 l z bytes maxL ret rm Z as' h Q) (W : Nat) (hf : rm.frames + 1 ≤ R.frames) (hl : W + (maxL + 11) + rm.locals ≤ R.locals) (hc : cells + rm.cells ≤ R.cells) (hs : slots + rm.slots ≤ R.slots) (eT : T.heap = h) {b : Addr} (hE : Exa Z h b C)
    {g : JFrame} (hg : g.method = m) (hsize : g.locals.size = c.maxLocals) (argsL rest : List Value) (has : (.ref b :: argsL).toArray = as') (hlen : ∀ sig, parseMethodDescriptor y.desc = some sig → argsL.length = sig.parameters.length)
    (hstack : g.stack = argsL.reverse ++ .ref b :: rest) (hW : 2 * g.monitorRoom + (rest.map fun v => v.category).sum ≤ W) (hdg : decode c.code g.pc = .ok (.invokevirtual index, 3))
    (k : ∀ v T' L, Stand p l e R s m args below meth c T' (locs ++ L) (cells + rm.cells) (slots + rm.slots) → Q v T'.heap L → Rch p e below (T'.setTop { g with pc := g.pc + 3, stack := v.toList ++ rest }) P) : Rch p e below (T.setTop g) P := by
  obtain ⟨cq, kq, q1, q2, q3⟩ := isOf hZ eT hE
  obtain ⟨v, _, ⟨T1, L1, k1, n1⟩, -, X1, ⟨Lc, hQ, l1, y1, z1⟩, st⟩ := X.virtualBack hx (y := y) (z := z) hown (mvT hZ w1) (mvT hZ w2) hnf (mvT hZ w5) (mvT hZ w6) hy (backOf (W := W) hM hZ w4 w3 hf hl) q1 q3 (g := g) hg hsize (Steps.refl _) (argsL := argsL) (rest := rest) hlen hstack hW hdg (fun _ _ => ⟨has, eT, hc, hs⟩)
  dsimp only [Pt.U, Pt.locs, Pt.cells, Pt.slots] at X1 l1 y1 z1 st hQ
  subst l1 y1 z1
  exact Rch.of st (k v T1 Lc X1 hQ)
/-- a private instance method, by invokevirtual -/
theorem Rch.callP (X : Stand p l e R s m args below meth c T locs cells slots) (hx : p.tables.exec = Jvm.exec) (hZ : Z.Warmed39 s.vm) {own C : String} {index : Nat} {y : MethodName} {bytes : ByteArray} {maxL : Nat} {ret : Option FieldType} {rm : Room} {as' : Array Value} {Q : Option Value → Heap → List Loc → Prop}
    (hown : s.vm.findClass own = some m.cls) (w1 : (Jvm.Cond.methodLink own index y).before a0 Z = true) (w6 : (Jvm.Cond.instanceMethod y).before a0 Z = true) (w5 : (Jvm.Cond.selects y.cls y y).before a0 Z = true) (w7 : (Jvm.Cond.privateMethod y).before a0 Z = true) (w3 : (Jvm.Cond.initialized y.cls).before a0 Z = true) (w4 : (Jvm.Cond.code y bytes maxL ret).before a0 Z = true) (hy : y.cls ≠ "java/lang/invoke/MethodHandle" ∧ y.cls ≠ "java/lang/invoke/VarHandle")
    (hM : Met1 l y bytes maxL ret rm Z as' h Q) (W : Nat) (hf : rm.frames + 1 ≤ R.frames) (hl : W + (maxL + 11) + rm.locals ≤ R.locals) (hc : cells + rm.cells ≤ R.cells) (hs : slots + rm.slots ≤ R.slots) (eT : T.heap = h) {b : Addr} (hE : Exa Z h b C)
    {g : JFrame} (hg : g.method = m) (hsize : g.locals.size = c.maxLocals) (argsL rest : List Value) (has : (.ref b :: argsL).toArray = as') (hlen : ∀ sig, parseMethodDescriptor y.desc = some sig → argsL.length = sig.parameters.length)
    (hstack : g.stack = argsL.reverse ++ .ref b :: rest) (hW : 2 * g.monitorRoom + (rest.map fun v => v.category).sum ≤ W) (hdg : decode c.code g.pc = .ok (.invokevirtual index, 3))
    (k : ∀ v T' L, Stand p l e R s m args below meth c T' (locs ++ L) (cells + rm.cells) (slots + rm.slots) → Q v T'.heap L → Rch p e below (T'.setTop { g with pc := g.pc + 3, stack := v.toList ++ rest }) P) : Rch p e below (T.setTop g) P := by
  obtain ⟨cq, q1, q2⟩ := hE.cell
  obtain ⟨v, _, ⟨T1, L1, k1, n1⟩, -, X1, ⟨Lc, hQ, l1, y1, z1⟩, st⟩ := X.privateBack hx (y := y) hown (mvT hZ w1) (mvT hZ w6) (mvT hZ w5) (Cond.privateMethod_at (mvP hZ w7 (args := #[]))) (mvT hZ w4) hy (backOf (W := W) hM hZ w4 w3 hf hl) (g := g) hg hsize (Steps.refl _) (a := b) (by rw [eT]; exact q1) q2 (argsL := argsL) (rest := rest) hlen hstack hW hdg (fun _ _ => ⟨has, eT, hc, hs⟩)
  dsimp only [Pt.U, Pt.locs, Pt.cells, Pt.slots] at X1 l1 y1 z1 st hQ
  subst l1 y1 z1
  exact Rch.of st (k v T1 Lc X1 hQ)
end Own
end Jvm.OwnKit
namespace Jvm.OwnKit
open Sem ClassFile Op Lib Jvm.Stand Jvm.Free Jvm.LawKit Jvm.RoadKit
/-- two places are unlike (behind a name, so that arithmetic doesn't split on it) -/
def NeA (a b : Addr) : Prop := a ≠ b
/-- the byte[] at a has n places, and place j holds f j -/
def BA (Z : State) (h : Heap) (a : Addr) (n : Nat) (f : Nat → Int32) : Prop := ∃ c : Cell, Arr Z h a c .byte ∧ c.slots.size = n ∧ ∀ j, j < n → c.slots[j]? = some (.int (f j))
def updI (f : Nat → Int32) (k : Nat) (x : Int32) : Nat → Int32 := fun j => if j = k then x else f j
section OwnB
variable {Z : State} {h h' : Heap} {a b : Addr} {n : Nat} {f g : Nat → Int32} {sl : Nat} {v : Value} {ws : List Addr}
theorem BA.lt (F : BA Z h a n f) : a < h.size := by obtain ⟨c, A, -⟩ := F; exact A.lt
theorem BA.ext (F : BA Z h a n f) (E : Ext h h') : BA Z h' a n f := by obtain ⟨c, A, r⟩ := F; exact ⟨c, A.ext E, r⟩
theorem BA.other (F : BA Z h b n f) (W : Wr h h' a sl v) (q : b ≠ a) : BA Z h' b n f := by obtain ⟨c, A, r⟩ := F; exact ⟨c, A.other W q, r⟩
theorem BA.keep (F : BA Z h a n f) (K : Keep h h' ws) (q : a ∉ ws) : BA Z h' a n f := by obtain ⟨c, A, r⟩ := F; exact ⟨c, ⟨K.2.1 a c A.1 q, A.2⟩, r⟩
theorem BA.congr (F : BA Z h a n f) (q : ∀ j, j < n → f j = g j) : BA Z h a n g := by obtain ⟨c, A, S, r⟩ := F; exact ⟨c, A, S, fun j hj => by rw [← q j hj]; exact r j hj⟩
theorem BA.new {cA : ClassId} {z : Int32} (A : Arr Z h a (newA cA .byte z) .byte) (q : z.toNatClampNeg = n) : BA Z h a n (fun _ => 0) :=
  ⟨_, A, by rw [sz_new]; exact q, fun j hj => by rw [← q] at hj; simp [newA, hj, defaultValue]⟩
theorem BA.set (F : BA Z h a n f) {j x : Int32} {k : Nat} (hj : j.toNatClampNeg = k) (hk : k < n) (W : Wr h h' a j.toNatClampNeg (.int x)) : BA Z h' a n (updI f k x) := by
  obtain ⟨c, A, S, r⟩ := F
  refine ⟨_, A.same W, by rw [sz_set]; exact S, fun i hi => ?_⟩
  rw [hj]
  by_cases u : i = k
  · subst u; simp [Cell.setSlot, updI, S, hi]
  · have := r i hi
    simp only [Cell.setSlot, updI, if_neg u]
    rw [Array.getElem?_setIfInBounds_ne (Ne.symm u)]; exact this
theorem inb {c : Cell} {j : Int32} {k : Nat} (S : c.slots.size = n) (hn : ¬ j < 0) (hj : j.toNatClampNeg = k) (hk : k < n) : ¬ (j < 0 ∨ c.slots.size ≤ j.toNatClampNeg) := fun q => q.elim hn fun q => by rw [S, hj] at q; omega
theorem natOf {k : Nat} (hk : k < 2 ^ 31) : ¬ Int32.ofNat k < 0 ∧ (Int32.ofNat k).toNatClampNeg = k ∧ (Int32.ofNat k).toInt = k := by
  have e : (Int32.ofNat k).toInt = k := Int32.toInt_ofNat_of_lt (by omega)
  refine ⟨?_, ?_, e⟩
  · rw [Int32.lt_iff_toInt_lt, e, show (0 : Int32).toInt = 0 from rfl]; omega
  · rw [Int32.toNatClampNeg, e]; rfl
theorem ofNat_lt {i k : Nat} (hi : i < 2 ^ 31) (hk : k < 2 ^ 31) : Int32.ofNat i < Int32.ofNat k ↔ i < k := by
  rw [Int32.lt_iff_toInt_lt, (natOf hi).2.2, (natOf hk).2.2]; omega
theorem ofNat_inj {i k : Nat} (hi : i < 2 ^ 31) (hk : k < 2 ^ 31) : Int32.ofNat i = Int32.ofNat k ↔ i = k := by
  refine ⟨fun q => ?_, fun q => by rw [q]⟩
  have := congrArg Int32.toInt q
  rw [(natOf hi).2.2, (natOf hk).2.2] at this; omega
theorem ofNat_succ (i : Nat) : Int32.ofNat i + (1 : Int32) = Int32.ofNat (i + 1) := (Int32.ofNat_add i 1).symm
theorem mask_of (x : Int32) (k : Nat) (hk : k < 2 ^ 31) : ∃ n : Nat, n ≤ k ∧ (x &&& Int32.ofNat k) = Int32.ofNat n := by
  refine ⟨(x &&& Int32.ofNat k).toBitVec.toNat, ?_, ?_⟩
  · simp only [Int32.toBitVec_and, BitVec.toNat_and, Int32.toBitVec_ofNat, BitVec.toNat_ofNat]
    exact Nat.le_trans Nat.and_le_right (Nat.mod_le _ _)
  · apply Int32.toBitVec_inj.mp
    show _ = BitVec.ofNat 32 _
    rw [BitVec.ofNat_toNat]; simp
theorem nar_nar (x : Int32) : nar .byte (nar .byte x) = nar .byte x := by simp [nar]
end OwnB
end Jvm.OwnKit
namespace Jvm.OwnKit
open Jvm.FP.Core
/-- a whole number that isn't below zero, as its datum -/
theorem l2d_val {a : Int64} (h0 : 0 ≤ a.toInt) (h1 : a.toInt < 9007199254740992) : ∃ c q, val64 (l2d a) = .fin false c q ∧ Jvm.FP.Core.fits b64 (.fin false c q) ∧ c * 2 ^ q.toNat = a.toInt.toNat * 2 ^ (-q).toNat := by
  have hw : Whole a.toInt (val64 (l2d a)) := l2d_int (by omega)
  have hf := val64_fits (l2d a)
  by_cases hz : a.toInt = 0
  · have : a = 0 := Int64.toInt_inj.mp hz
    subst this
    exact ⟨0, b64.qmin, by decide +kernel, zero_fits good_b64 false, by simp⟩
  · cases hv : val64 (l2d a) with
    | nan => rw [hv] at hw; exact hw.elim
    | inf s => rw [hv] at hw; exact hw.elim
    | fin s c q =>
      rw [hv] at hw hf
      have hs := whole_sign hw hz
      have : s = false := by rw [hs]; simp; omega
      subst this
      refine ⟨c, q, rfl, hf, ?_⟩
      have := whole_natAbs hw
      rw [this]; congr 1; omega
theorem pos_of {c : Nat} {q : Int} {n : Nat} (h : c * 2 ^ q.toNat = n * 2 ^ (-q).toNat) (hn : 0 < n) : 0 < c := by
  refine Nat.pos_of_ne_zero fun hc => ?_
  subst hc
  have := Nat.mul_pos hn (Nat.two_pow_pos (-q).toNat)
  rw [← h] at this; simp at this
/-- two ways to write one ratio -/
theorem cross {c d A m : Nat} {q r : Int} (h1 : c * 2 ^ q.toNat = A * 2 ^ (-q).toNat) (h2 : d * 2 ^ r.toNat = m * 2 ^ (-r).toNat) : c * m * 2 ^ (q - r - 0).toNat = A * d * 2 ^ (0 - (q - r)).toNat := by
  have p : 0 < 2 ^ (-q).toNat * 2 ^ r.toNat * 2 ^ q.toNat * 2 ^ (-r).toNat := Nat.mul_pos (Nat.mul_pos (Nat.mul_pos (Nat.two_pow_pos _) (Nat.two_pow_pos _)) (Nat.two_pow_pos _)) (Nat.two_pow_pos _)
  refine Nat.eq_of_mul_eq_mul_right p ?_
  have e : 2 ^ (q - r - 0).toNat * (2 ^ (-q).toNat * 2 ^ r.toNat) = 2 ^ (0 - (q - r)).toNat * (2 ^ q.toNat * 2 ^ (-r).toNat) := by
    rw [← Nat.pow_add, ← Nat.pow_add, ← Nat.pow_add, ← Nat.pow_add]; congr 1; omega
  calc c * m * 2 ^ (q - r - 0).toNat * (2 ^ (-q).toNat * 2 ^ r.toNat * 2 ^ q.toNat * 2 ^ (-r).toNat)
      = (c * 2 ^ q.toNat) * (m * 2 ^ (-r).toNat) * (2 ^ (q - r - 0).toNat * (2 ^ (-q).toNat * 2 ^ r.toNat)) := by ac_rfl
    _ = (A * 2 ^ (-q).toNat) * (d * 2 ^ r.toNat) * (2 ^ (0 - (q - r)).toNat * (2 ^ q.toNat * 2 ^ (-r).toNat)) := by rw [h1, h2, e]
    _ = A * d * 2 ^ (0 - (q - r)).toNat * (2 ^ (-q).toNat * 2 ^ r.toNat * 2 ^ q.toNat * 2 ^ (-r).toNat) := by ac_rfl
/-- the quotient of two whole numbers, as one rounding -/
theorem ddiv_val {a b : Int64} (a0 : 0 ≤ a.toInt) (a1 : a.toInt < 9007199254740992) (b0 : 0 < b.toInt) (b1 : b.toInt < 9007199254740992) : val64 (ddiv (l2d a) (l2d b)) = roundRatio b64 false a.toInt.toNat b.toInt.toNat 0 := by
  obtain ⟨c, q, e1, f1, g1⟩ := l2d_val a0 a1
  obtain ⟨d, r, e2, f2, g2⟩ := l2d_val (Int.le_of_lt b0) b1
  have hd : 0 < d := pos_of g2 (by omega)
  rw [val64_ddiv, e1, e2]
  show (if d = 0 then _ else roundRatio b64 (false != false) c d (q - r)) = _
  rw [if_neg (by omega)]
  exact roundRatio_congr hd (by omega) (cross g1 g2)
/-- a whole quotient is had exactly -/
theorem ddiv_whole {a b m : Int64} (m0 : 0 ≤ m.toInt) (m1 : m.toInt < 9007199254740992) (b0 : 0 < b.toInt) (b1 : b.toInt < 9007199254740992) (h : a.toInt = m.toInt * b.toInt) (a1 : a.toInt < 9007199254740992) : ddiv (l2d a) (l2d b) = l2d m := by
  have a0 : 0 ≤ a.toInt := by rw [h]; exact Int.mul_nonneg m0 (Int.le_of_lt b0)
  obtain ⟨c, q, e1, f1, g1⟩ := l2d_val m0 m1
  have e : val64 (ddiv (l2d a) (l2d b)) = val64 (l2d m) := by
    rw [ddiv_val a0 a1 b0 b1, e1]
    refine roundRatio_exact good_b64 (by omega) f1 ?_
    have : a.toInt.toNat = m.toInt.toNat * b.toInt.toNat := by rw [h, Int.toNat_mul m0 (Int.le_of_lt b0)]
    rw [this, show (0 - q).toNat = (-q).toNat by omega, show (q - 0).toNat = q.toNat by omega]
    calc m.toInt.toNat * b.toInt.toNat * 2 ^ (-q).toNat = (m.toInt.toNat * 2 ^ (-q).toNat) * b.toInt.toNat := by ac_rfl
      _ = (c * 2 ^ q.toNat) * b.toInt.toNat := by rw [g1]
      _ = _ := by ac_rfl
  refine val64_inj ?_ e
  rw [e, e1]; exact fun q => by cases q
/-- the rounded quotient, cut to a whole number, is the whole quotient; and it lies below 2^61 -/
theorem round_cut {A m : Nat} (hA : A < 8589934592) (hm : 0 < m) (hm2 : m ≤ 1024) : ∃ c q, roundRatio b64 false A m 0 = .fin false c q ∧ truncate false c q = ((A / m : Nat) : Int) ∧ q ≤ 0 ∧ c < 2 ^ 53 := by
  by_cases h0 : A = 0
  · subst h0
    refine ⟨0, b64.qmin, by simp [roundRatio], ?_, by decide, by decide⟩
    simp [truncate, signed]
  · unfold roundRatio
    rw [if_neg h0]
    have hA0 : 0 < A := by omega
    generalize hQ : quantum b64 A m 0 = Q
    have l1 : ¬ Below A m (leading A m) := (leading_spec hA0 hm).1
    have l2 : Below A m (leading A m + 1) := (leading_spec hA0 hm).2
    have u1 : leading A m < 33 := lt_of_below l1 (by
      show A * 2 ^ (-(33 : Int)).toNat < m * 2 ^ (33 : Int).toNat
      simp only [show (-(33 : Int)).toNat = 0 by decide, show (33 : Int).toNat = 33 by decide]
      omega)
    have u2 : -11 < leading A m + 1 := lt_of_below (fun (q : A * 2 ^ (-(-11 : Int)).toNat < m * 2 ^ (-11 : Int).toNat) => by
      simp only [show (-(-11 : Int)).toNat = 11 by decide, show (-11 : Int).toNat = 0 by decide] at q
      omega) l2
    have hQ2 : Q = leading A m - 52 := by
      rw [← hQ]; unfold quantum
      have e1 : b64.qmin = -1074 := by decide
      have e2 : b64.p = 53 := rfl
      rw [e1, e2]; omega
    obtain ⟨k, hk⟩ : ∃ k : Nat, Q = -(k : Int) := ⟨(-Q).toNat, by omega⟩
    have hk1 : 20 ≤ k := by omega
    have hk2 : k ≤ 63 := by omega
    have hN := nearest_units_le (f := b64) hA0 hm 0
    rw [hQ] at hN
    unfold roundAt
    have en : unitsNum A 0 Q = A * 2 ^ k := by unfold unitsNum; congr 2; omega
    have ed : unitsDen m 0 Q = m := by unfold unitsDen; rw [show (Q - 0).toNat = 0 by omega]; simp
    rw [en, ed] at hN ⊢
    generalize hNN : nearest (A * 2 ^ k) m = N at hN
    have hp : 1024 ≤ 2 ^ k := Nat.le_trans (by decide) (Nat.pow_le_pow_right (n := 2) (by decide) (show 10 ≤ k by omega))
    have lo : A / m * 2 ^ k ≤ N := by
      rw [← hNN]; refine nearest_ge hm ?_
      calc A / m * 2 ^ k * m = (A / m * m) * 2 ^ k := by ac_rfl
        _ ≤ A * 2 ^ k := Nat.mul_le_mul_right _ (Nat.div_mul_le_self A m)
    have hi : N + 1 ≤ (A / m + 1) * 2 ^ k := by
      have : N ≤ (A / m + 1) * 2 ^ k - 1 := by
        rw [← hNN]; refine nearest_le hm ?_
        have q : A + 1 ≤ (A / m + 1) * m := by have := Nat.lt_div_mul_add (a := A) hm; rw [Nat.succ_mul]; omega
        have q2 := Nat.mul_le_mul_right (2 ^ k) q
        rw [Nat.succ_mul] at q2
        rw [Nat.sub_mul, Nat.one_mul]
        have q3 : (A / m + 1) * m * 2 ^ k = (A / m + 1) * 2 ^ k * m := by ac_rfl
        omega
      have : 0 < (A / m + 1) * 2 ^ k := Nat.mul_pos (Nat.succ_pos _) (Nat.two_pow_pos _)
      omega
    have cut : N / 2 ^ k = A / m := by
      refine Nat.le_antisymm (Nat.lt_succ_iff.mp ((Nat.div_lt_iff_lt_mul (by omega)).mpr (show N < (A / m + 1) * 2 ^ k by omega))) ((Nat.le_div_iff_mul_le (by omega)).mpr lo)
    unfold settle
    have e2 : (2 : Nat) ^ b64.p = 2 ^ 53 := rfl
    rw [e2] at hN ⊢
    by_cases hs : N < 2 ^ 53
    · rw [if_pos hs]
      refine ⟨N, Q, by unfold bound; rw [if_pos (by have : b64.qmax = 971 := by decide
                                                    omega)], ?_, by omega, hs⟩
      unfold truncate signed
      rw [show Q.toNat = 0 by omega, show (-Q).toNat = k by omega]
      simp only [Nat.pow_zero, Nat.mul_one, cut]; rfl
    · rw [if_neg hs]
      have hN2 : N = 2 ^ 53 := by omega
      refine ⟨b64.tails, Q + 1, by unfold bound; rw [if_pos (by have : b64.qmax = 971 := by decide
                                                                omega)], ?_, by omega, by decide⟩
      unfold truncate signed
      rw [show (Q + 1).toNat = 0 by omega, show (-(Q + 1)).toNat = k - 1 by omega, ← cut, hN2]
      have e3 : b64.tails = 2 ^ 52 := rfl
      rw [e3]
      have e4 : (2 : Nat) ^ 53 / 2 ^ k = 2 ^ 52 / 2 ^ (k - 1) := by
        rw [show (2 : Nat) ^ 53 = 2 ^ 52 * 2 from rfl, show (2 : Nat) ^ k = 2 ^ (k - 1) * 2 by rw [← Nat.pow_succ]; congr 1; omega]
        exact Nat.mul_div_mul_right _ _ (by decide)
      rw [e4]; simp
theorem nn_of {x : UInt64} {s : Bool} {c : Nat} {q : Int} (h : val64 x = .fin s c q) : Jvm.Free.Fl.NoNaN64 x := by
  refine Jvm.Free.Fl.noNaN64_no.mpr ?_
  show decide (decode b64 x.toNat = .nan) = false
  rw [show decode b64 x.toNat = .fin s c q from h]
  simp
theorem quot_all {A m : Int64} (a0 : 0 ≤ A.toInt) (a1 : A.toInt < 8589934592) (m0 : 0 < m.toInt) (m1 : m.toInt ≤ 1024) :
    Jvm.Free.Fl.NoNaN64 (Jvm.FP.ddiv (Jvm.FP.l2d A) (Jvm.FP.l2d m)) ∧ Jvm.Native.java_lang_Math.nans.pick64 false (Jvm.FP.ddiv (Jvm.FP.l2d A) (Jvm.FP.l2d m)) 4881901996069617664 = Jvm.FP.ddiv (Jvm.FP.l2d A) (Jvm.FP.l2d m) ∧ Jvm.FP.d2l (Jvm.FP.ddiv (Jvm.FP.l2d A) (Jvm.FP.l2d m)) = A / m := by
  have hv : val64 (ddiv (l2d A) (l2d m)) = _ := ddiv_val a0 (by omega) m0 (by omega)
  obtain ⟨c, q, e1, e2, e3, e4⟩ := round_cut (A := A.toInt.toNat) (m := m.toInt.toNat) (by omega) (by omega) (by omega)
  rw [e1] at hv
  refine ⟨nn_of hv, ?_, ?_⟩
  · have hc : Jvm.FP.dcmp (Jvm.FP.ddiv (Jvm.FP.l2d A) (Jvm.FP.l2d m)) 4881901996069617664 = some .lt := by
      show order (val64 (ddiv (l2d A) (l2d m))) (val64 4881901996069617664) = some .lt
      rw [hv, show val64 4881901996069617664 = .fin false (2 ^ 52) 9 by decide +kernel]
      show some (compare (signed false (inUnits c q (min q 9))) (signed false (inUnits (2 ^ 52) 9 (min q 9)))) = some .lt
      rw [show min q 9 = q by omega]
      unfold inUnits signed
      simp only [Int.sub_self, Int.toNat_zero, Nat.pow_zero, Nat.mul_one, if_neg (show ¬ (false = true) by decide)]
      have h1 : 2 ^ 9 ≤ 2 ^ (9 - q).toNat := Nat.pow_le_pow_right (by decide) (by omega)
      have h2 : 2 ^ 52 * 2 ^ 9 ≤ 2 ^ 52 * 2 ^ (9 - q).toNat := Nat.mul_le_mul_left _ h1
      have h3 : (c : Int) < ((2 ^ 52 * 2 ^ (9 - q).toNat : Nat) : Int) := by
        have : c < 2 ^ 52 * 2 ^ (9 - q).toNat := Nat.lt_of_lt_of_le e4 (Nat.le_trans (by decide) h2)
        exact Int.ofNat_lt.mpr this
      congr 1
      exact Int.compare_eq_lt.mpr h3
    unfold Jvm.Native.java_lang_Math.nans.pick64
    rw [hc]; rfl
  · show Int64.ofInt (toInt (-2 ^ 63) (2 ^ 63 - 1) (val64 (ddiv (l2d A) (l2d m)))) = A / m
    rw [hv]
    show Int64.ofInt (max (-2 ^ 63) (min (2 ^ 63 - 1) (truncate false c q))) = A / m
    rw [e2]
    have h1 : A.toInt.toNat / m.toInt.toNat ≤ A.toInt.toNat := Nat.div_le_self _ _
    have key : ∀ n : Nat, n < 8589934592 → max (-2 ^ 63) (min (2 ^ 63 - 1) (n : Int)) = n := by
      intro n hn
      rw [show ((2 : Int) ^ 63) = 9223372036854775808 by decide]; omega
    rw [key _ (by omega)]
    apply Int64.toInt_inj.mp
    rw [Int64.toInt_ofInt, Int64.toInt_div]
    have h2 : A.toInt.tdiv m.toInt = ((A.toInt.toNat / m.toInt.toNat : Nat) : Int) := by
      rw [Int.tdiv_eq_ediv_of_nonneg a0, Int.natCast_ediv, Int.toNat_of_nonneg a0, Int.toNat_of_nonneg (Int.le_of_lt m0)]
    rw [h2]
theorem pace_all {b : Int64} (b0 : 0 < b.toInt) (b1 : b.toInt < 8589934592) :
    Jvm.Free.Fl.NoNaN64 (Jvm.FP.ddiv (Jvm.FP.l2d b) (Jvm.FP.l2d 1048576)) ∧ Jvm.FP.dmul (Jvm.FP.ddiv (Jvm.FP.l2d b) (Jvm.FP.l2d 1048576)) (Jvm.FP.l2d 1048576) = Jvm.FP.l2d b ∧ Jvm.FP.dmul (Jvm.FP.ddiv (Jvm.FP.l2d b) (Jvm.FP.l2d 1048576)) (Jvm.FP.l2d 0) = Jvm.FP.l2d 0 ∧ Jvm.FP.ddiv (Jvm.FP.l2d 0) (Jvm.FP.ddiv (Jvm.FP.l2d b) (Jvm.FP.l2d 1048576)) = Jvm.FP.l2d 0 := by
  obtain ⟨c, q, e1, f1, g1⟩ := l2d_val (a := b) (by omega) (by omega)
  have hk : (1048576 : Int64).toInt = 1048576 := by decide
  have hv : val64 (ddiv (l2d b) (l2d 1048576)) = _ := ddiv_val (by omega) (by omega) (b := 1048576) (by decide) (by decide)
  have hc : 0 < c := pos_of g1 (by omega)
  obtain ⟨c1, c2, c3, c4⟩ := f1
  have eq1 : b64.qmin = -1074 := by decide
  have eq2 : b64.qmax = 971 := by decide
  have ep : (2 : Nat) ^ b64.p = 2 ^ 53 := rfl
  have hq : -53 < q := by
    refine Int.not_le.mp fun hq => ?_
    have h1 : 2 ^ 53 ≤ 2 ^ (-q).toNat := Nat.pow_le_pow_right (by decide) (by omega)
    have h2 : q.toNat = 0 := by omega
    rw [h2, Nat.pow_zero, Nat.mul_one] at g1
    have h3 : 1 * 2 ^ (-q).toNat ≤ b.toInt.toNat * 2 ^ (-q).toNat := Nat.mul_le_mul_right _ (by omega)
    rw [ep] at c1
    omega
  have f2 : Jvm.FP.Core.fits b64 (.fin false c (q - 20)) := ⟨c1, by omega, by omega, Or.inr (by omega)⟩
  have hv2 : val64 (ddiv (l2d b) (l2d 1048576)) = .fin false c (q - 20) := by
    rw [hv]
    refine roundRatio_exact good_b64 (by decide) f2 ?_
    rw [show (1048576 : Int64).toInt.toNat = 2 ^ 20 by decide]
    have p : 0 < 2 ^ q.toNat * 2 ^ (-q).toNat := Nat.mul_pos (Nat.two_pow_pos _) (Nat.two_pow_pos _)
    have e : 2 ^ (0 - (q - 20)).toNat * 2 ^ q.toNat = 2 ^ 20 * 2 ^ (q - 20 - 0).toNat * 2 ^ (-q).toNat := by
      rw [← Nat.pow_add, ← Nat.pow_add, ← Nat.pow_add]; congr 1; omega
    refine Nat.eq_of_mul_eq_mul_right p ?_
    calc b.toInt.toNat * 2 ^ (0 - (q - 20)).toNat * (2 ^ q.toNat * 2 ^ (-q).toNat) = (b.toInt.toNat * 2 ^ (-q).toNat) * (2 ^ (0 - (q - 20)).toNat * 2 ^ q.toNat) := by ac_rfl
      _ = (c * 2 ^ q.toNat) * (2 ^ 20 * 2 ^ (q - 20 - 0).toNat * 2 ^ (-q).toNat) := by rw [g1, e]
      _ = _ := by ac_rfl
  have z0 : val64 (l2d 0) = .fin false 0 b64.qmin := by decide +kernel
  refine ⟨nn_of hv2, ?_, ?_, ?_⟩
  · show dmul (ddiv (l2d b) (l2d 1048576)) (l2d 1048576) = l2d b
    have e : val64 (dmul (ddiv (l2d b) (l2d 1048576)) (l2d 1048576)) = val64 (l2d b) := by
      rw [val64_dmul, hv2, e1, show val64 (l2d 1048576) = .fin false (2 ^ 52) (-32) by decide +kernel]
      show roundRatio b64 false (c * 2 ^ 52) 1 (q - 20 + -32) = _
      refine roundRatio_exact good_b64 (by decide) ⟨c1, c2, c3, c4⟩ ?_
      rw [show (q - 20 + -32 - q).toNat = 0 by omega, show (q - (q - 20 + -32)).toNat = 52 by omega]
      simp
    exact val64_inj (by rw [e, e1]; exact fun q => by cases q) e
  · show dmul (ddiv (l2d b) (l2d 1048576)) (l2d 0) = l2d 0
    have e : val64 (dmul (ddiv (l2d b) (l2d 1048576)) (l2d 0)) = val64 (l2d 0) := by
      rw [val64_dmul, hv2, z0]
      show roundRatio b64 false (c * 0) 1 _ = _
      simp [roundRatio]
    exact val64_inj (by rw [e, z0]; exact fun q => by cases q) e
  · show ddiv (l2d 0) (ddiv (l2d b) (l2d 1048576)) = l2d 0
    have e : val64 (ddiv (l2d 0) (ddiv (l2d b) (l2d 1048576))) = val64 (l2d 0) := by
      rw [val64_ddiv, hv2, z0]
      show (if c = 0 then _ else roundRatio b64 false 0 c _) = _
      rw [if_neg (by omega)]
      simp [roundRatio]
    exact val64_inj (by rw [e, z0]; exact fun q => by cases q) e
theorem zero_pick : Jvm.Native.java_lang_Math.nans.pick64 false (Jvm.FP.l2d 0) 4881901996069617664 = Jvm.FP.l2d 0 := by decide +kernel
theorem nn_61 : Jvm.Free.Fl.NoNaN64 4881901996069617664 := by unfold Jvm.Free.Fl.NoNaN64; decide
end Jvm.OwnKit
namespace Jvm.Pilot.@@N@@
open Jvm Jvm.ClassFile Sem Op Lib Jvm.Free Jvm.Stand Jvm.LawKit Jvm.RoadKit Bundle Jvm.OwnKit Jvm.Pilot.@@N@@.Jvm.D

theorem own_dc0 : FP.dconst0 = FP.l2d (0 : Int64) := by decide +kernel
theorem own_s00 : FP.dsub (FP.l2d (0 : Int64)) (FP.l2d (0 : Int64)) = FP.l2d (0 : Int64) := by decide +kernel
theorem own_m00 : Jvm.Native.java_lang_Math.nans.pick64 true (FP.l2d (0 : Int64)) (FP.l2d (0 : Int64)) = FP.l2d (0 : Int64) := by decide +kernel
theorem own_n0 : Jvm.Free.Fl.NoNaN64 (FP.l2d (0 : Int64)) := nn_w rfl
theorem own_b530 : B53 (0 : Int64) := ⟨by decide, by decide⟩
def own_pos (a : Int64) : Int64 := if a < (0 : Int64) then (0 : Int64) else a
theorem own_posI (a : Int64) : 0 ≤ (own_pos a).toInt ∧ ((own_pos a).toInt ≤ a.toInt ∨ (own_pos a).toInt = 0) := by
  unfold own_pos
  by_cases h : a < (0 : Int64)
  · rw [if_pos h]; exact ⟨by decide, Or.inr (by decide)⟩
  · rw [if_neg h]
    have z : (0 : Int64).toInt = 0 := by decide
    have : ¬ a.toInt < (0 : Int64).toInt := fun q => h (Int64.lt_iff_toInt_lt.mpr q)
    rw [z] at this
    exact ⟨by omega, Or.inl (Int.le_refl _)⟩
theorem own_max {a : Int64} (h : B53 a) : Jvm.Native.java_lang_Math.nans.pick64 true (FP.l2d a) (FP.l2d (0 : Int64)) = FP.l2d (own_pos a) := by
  unfold own_pos
  by_cases q : a < (0 : Int64)
  · rw [if_pos q]; exact max_l h own_b530 q
  · rw [if_neg q]; exact max_g h own_b530 q
theorem own_max2 {a : Int64} (h : B53 a) (q : 0 ≤ a.toInt) : Jvm.Native.java_lang_Math.nans.pick64 true (FP.l2d a) (FP.l2d (0 : Int64)) = FP.l2d a :=
  max_g h own_b530 fun r => absurd (Int64.lt_iff_toInt_lt.mp r) (by rw [show (0 : Int64).toInt = 0 by decide]; omega)
theorem d3_0 : decode jdk_2799_method_7_code 0 = .ok (.aload_n 0, 1) := by decide +kernel
theorem d3_1 : decode jdk_2799_method_7_code 1 = .ok (.getfield 44, 3) := by decide +kernel
theorem d3_4 : decode jdk_2799_method_7_code 4 = .ok (.dup2, 1) := by decide +kernel
theorem d3_5 : decode jdk_2799_method_7_code 5 = .ok (.lstore_n 3, 1) := by decide +kernel
theorem d3_6 : decode jdk_2799_method_7_code 6 = .ok (.lconst 1, 1) := by decide +kernel
theorem d3_7 : decode jdk_2799_method_7_code 7 = .ok (.lcmp, 1) := by decide +kernel
theorem d3_8 : decode jdk_2799_method_7_code 8 = .ok (.ifCond .ne 5, 3) := by decide +kernel
theorem d3_13 : decode jdk_2799_method_7_code 13 = .ok (.lload_n 1, 1) := by decide +kernel
theorem d3_14 : decode jdk_2799_method_7_code 14 = .ok (.aload_n 0, 1) := by decide +kernel
theorem d3_15 : decode jdk_2799_method_7_code 15 = .ok (.getfield 52, 3) := by decide +kernel
theorem d3_18 : decode jdk_2799_method_7_code 18 = .ok (.dup2, 1) := by decide +kernel
theorem d3_19 : decode jdk_2799_method_7_code 19 = .ok (.lstore 5, 2) := by decide +kernel
theorem d3_21 : decode jdk_2799_method_7_code 21 = .ok (.lcmp, 1) := by decide +kernel
theorem d3_22 : decode jdk_2799_method_7_code 22 = .ok (.ifCond .le 7, 3) := by decide +kernel
theorem d3_29 : decode jdk_2799_method_7_code 29 = .ok (.lload_n 1, 1) := by decide +kernel
theorem d3_30 : decode jdk_2799_method_7_code 30 = .ok (.lload 5, 2) := by decide +kernel
theorem d3_32 : decode jdk_2799_method_7_code 32 = .ok (.lneg, 1) := by decide +kernel
theorem d3_33 : decode jdk_2799_method_7_code 33 = .ok (.lcmp, 1) := by decide +kernel
theorem d3_34 : decode jdk_2799_method_7_code 34 = .ok (.ifCond .ge 7, 3) := by decide +kernel
theorem d3_41 : decode jdk_2799_method_7_code 41 = .ok (.lload_n 1, 1) := by decide +kernel
theorem d3_42 : decode jdk_2799_method_7_code 42 = .ok (.lload_n 3, 1) := by decide +kernel
theorem d3_43 : decode jdk_2799_method_7_code 43 = .ok (.lmul, 1) := by decide +kernel
theorem d3_44 : decode jdk_2799_method_7_code 44 = .ok (.lreturn, 1) := by decide +kernel
theorem pn_3 : plainFor (⟨"java/util/concurrent/TimeUnit", "toNanos", "(J)J"⟩ : MethodName) = true := plainFor_of_name (by first | (simp [plainName, overriddenIn]; done) | decide +kernel)
theorem ef_3 (m : MethodId) (x0 : Addr) (x1 : Int64) : entryFrame m #[(.ref x0), (.long x1)] 7 = mkF m 0 #[.val (.ref x0), .val (.long x1), .second, .unset, .unset, .unset, .unset] [] := by first | (simp [entryFrame, mkF, argsToLocals, Value.category]; done) | rfl
def own_Q_rm3 (Z : State) (ms : Addr) (h0 : Heap) (n0 : Nat) (v : Option Value) (h : Heap) (L : List Loc) : Prop := v = some (.long ((1 : Int64) * (1000000 : Int64))) ∧ Fr n0 L ∧ h = h0
set_option maxRecDepth 65536 in
set_option maxHeartbeats 40000000 in
theorem rm3 (l : Launch) (Z : State) (a0 : Array Value) (hw : ∀ d ∈ tables_1, d.before a0 Z = true) (ws : List Jvm.Cond) (ms : Addr) (h0 : Heap) (n0 : Nat) (Z0 : n0 ≤ h0.size) (F_scale : Fld Z h0 ms "java/util/concurrent/TimeUnit" "scale" "J" (.long (1000000 : Int64))) (F_max : Fld Z h0 ms "java/util/concurrent/TimeUnit" "maxNanos" "J" (.long (9223372036854 : Int64))) :
    MetFree l (⟨"java/util/concurrent/TimeUnit", "toNanos", "(J)J"⟩ : MethodName) (head1 (Jvm.Cond.code (⟨"java/util/concurrent/TimeUnit", "toNanos", "(J)J"⟩ : MethodName) jdk_2799_method_7_code 7 (some .long) :: ws) ({ frames := 0, cells := 0, slots := 0, locals := 0 } : Room)) (fun a U => a = #[(.ref ms), (.long (1 : Int64))] ∧ Z.Warmed39 U.vm ∧ U.heap = h0) (fun _ _ _ _ _ => True) (fun _ U o U' => ∃ v L, o = .returned v ∧ own_Q_rm3 Z ms h0 n0 v U'.heap L ∧ FrameEnd U o U' L ({ frames := 0, cells := 0, slots := 0, locals := 0 } : Room).cells ({ frames := 0, cells := 0, slots := 0, locals := 0 } : Room).slots) := by
  refine own_body (Q := (own_Q_rm3 Z ms h0 n0)) pn_3 ?_
  intro p e s m below meth c s₁ X0 hx hby hml hown hnm hret hlk hZ e0
  have N0 := Fr.nil n0
  refine Rch.go (fun tt_ kk_ => castTop (ef_3 m ms (1 : Int64)) kk_) ?_
  show Rch p e below (s₁.setTop (mkF m 0 #[.val (.ref ms), .val (.long (1 : Int64)), .second, .unset, .unset, .unset, .unset] [])) _
  refine Rch.go (fun _ kk_ => XS.aloadN X0.here hx rfl (hb hby d3_0) rfl rfl kk_) ?_
  show Rch p e below (s₁.setTop (mkF m 1 #[.val (.ref ms), .val (.long (1 : Int64)), .second, .unset, .unset, .unset, .unset] [(.ref ms)])) _
  obtain ⟨T1, X1, e1, st1⟩ := getF X0 hx hZ hown (host := "") (Or.inl (hw _ (List.mem_of_getElem? (i := 23) rfl))) Via.refl e0 F_scale (g := (mkF m 1 #[.val (.ref ms), .val (.long (1 : Int64)), .second, .unset, .unset, .unset, .unset] [(.ref ms)])) rfl rfl (hb hby d3_1)
  refine Rch.go st1 ?_
  show Rch p e below (T1.setTop (mkF m 4 #[.val (.ref ms), .val (.long (1 : Int64)), .second, .unset, .unset, .unset, .unset] [(.long (1000000 : Int64))])) _
  refine Rch.go (fun _ kk_ => XT.dup2L X1.here hx rfl (hb hby d3_4) rfl kk_) ?_
  show Rch p e below (T1.setTop (mkF m 5 #[.val (.ref ms), .val (.long (1 : Int64)), .second, .unset, .unset, .unset, .unset] [(.long (1000000 : Int64)), (.long (1000000 : Int64))])) _
  refine Rch.go (fun _ kk_ => XS.lstoreN X1.here hx rfl (hb hby d3_5) rfl (l' := #[.val (.ref ms), .val (.long (1 : Int64)), .second, .val (.long (1000000 : Int64)), .second, .unset, .unset]) rfl kk_) ?_
  show Rch p e below (T1.setTop (mkF m 6 #[.val (.ref ms), .val (.long (1 : Int64)), .second, .val (.long (1000000 : Int64)), .second, .unset, .unset] [(.long (1000000 : Int64))])) _
  refine Rch.go (fun _ kk_ => XS.lconst X1.here hx rfl (hb hby d3_6) kk_) ?_
  show Rch p e below (T1.setTop (mkF m 7 #[.val (.ref ms), .val (.long (1 : Int64)), .second, .val (.long (1000000 : Int64)), .second, .unset, .unset] [(.long (1 : Int64)), (.long (1000000 : Int64))])) _
  refine Rch.go (fun _ kk_ => XS.lcmp X1.here hx rfl (hb hby d3_7) rfl kk_) ?_
  show Rch p e below (T1.setTop (mkF m 8 #[.val (.ref ms), .val (.long (1 : Int64)), .second, .val (.long (1000000 : Int64)), .second, .unset, .unset] [(.int (lcmpW (1000000 : Int64) (1 : Int64)))])) _
  refine Rch.go (fun _ kk_ => XS.ifYes X1.here hx rfl (pc0 := 8) (pc' := 13) rfl (hb hby d3_8) rfl ((if0 _ _).trans (feq (by decide)).2) (by decide) (by decide) kk_) ?_
  show Rch p e below (T1.setTop (mkF m 13 #[.val (.ref ms), .val (.long (1 : Int64)), .second, .val (.long (1000000 : Int64)), .second, .unset, .unset] [])) _
  refine Rch.go (fun _ kk_ => XS.lloadN X1.here hx rfl (hb hby d3_13) rfl  kk_) ?_
  show Rch p e below (T1.setTop (mkF m 14 #[.val (.ref ms), .val (.long (1 : Int64)), .second, .val (.long (1000000 : Int64)), .second, .unset, .unset] [(.long (1 : Int64))])) _
  refine Rch.go (fun _ kk_ => XS.aloadN X1.here hx rfl (hb hby d3_14) rfl rfl kk_) ?_
  show Rch p e below (T1.setTop (mkF m 15 #[.val (.ref ms), .val (.long (1 : Int64)), .second, .val (.long (1000000 : Int64)), .second, .unset, .unset] [(.ref ms), (.long (1 : Int64))])) _
  obtain ⟨T2, X2, e2, st2⟩ := getF X1 hx hZ hown (host := "") (Or.inl (hw _ (List.mem_of_getElem? (i := 25) rfl))) Via.refl e1 F_max (g := (mkF m 15 #[.val (.ref ms), .val (.long (1 : Int64)), .second, .val (.long (1000000 : Int64)), .second, .unset, .unset] [(.ref ms), (.long (1 : Int64))])) rfl rfl (hb hby d3_15)
  refine Rch.go st2 ?_
  show Rch p e below (T2.setTop (mkF m 18 #[.val (.ref ms), .val (.long (1 : Int64)), .second, .val (.long (1000000 : Int64)), .second, .unset, .unset] [(.long (9223372036854 : Int64)), (.long (1 : Int64))])) _
  refine Rch.go (fun _ kk_ => XT.dup2L X2.here hx rfl (hb hby d3_18) rfl kk_) ?_
  show Rch p e below (T2.setTop (mkF m 19 #[.val (.ref ms), .val (.long (1 : Int64)), .second, .val (.long (1000000 : Int64)), .second, .unset, .unset] [(.long (9223372036854 : Int64)), (.long (9223372036854 : Int64)), (.long (1 : Int64))])) _
  refine Rch.go (fun _ kk_ => XS.lstore X2.here hx rfl (hb hby d3_19) rfl (l' := #[.val (.ref ms), .val (.long (1 : Int64)), .second, .val (.long (1000000 : Int64)), .second, .val (.long (9223372036854 : Int64)), .second]) rfl kk_) ?_
  show Rch p e below (T2.setTop (mkF m 21 #[.val (.ref ms), .val (.long (1 : Int64)), .second, .val (.long (1000000 : Int64)), .second, .val (.long (9223372036854 : Int64)), .second] [(.long (9223372036854 : Int64)), (.long (1 : Int64))])) _
  refine Rch.go (fun _ kk_ => XS.lcmp X2.here hx rfl (hb hby d3_21) rfl kk_) ?_
  show Rch p e below (T2.setTop (mkF m 22 #[.val (.ref ms), .val (.long (1 : Int64)), .second, .val (.long (1000000 : Int64)), .second, .val (.long (9223372036854 : Int64)), .second] [(.int (lcmpW (1 : Int64) (9223372036854 : Int64)))])) _
  refine Rch.go (fun _ kk_ => XS.ifYes X2.here hx rfl (pc0 := 22) (pc' := 29) rfl (hb hby d3_22) rfl ((if0 _ _).trans (flt (by decide)).2.2.2) (by decide) (by decide) kk_) ?_
  show Rch p e below (T2.setTop (mkF m 29 #[.val (.ref ms), .val (.long (1 : Int64)), .second, .val (.long (1000000 : Int64)), .second, .val (.long (9223372036854 : Int64)), .second] [])) _
  refine Rch.go (fun _ kk_ => XS.lloadN X2.here hx rfl (hb hby d3_29) rfl  kk_) ?_
  show Rch p e below (T2.setTop (mkF m 30 #[.val (.ref ms), .val (.long (1 : Int64)), .second, .val (.long (1000000 : Int64)), .second, .val (.long (9223372036854 : Int64)), .second] [(.long (1 : Int64))])) _
  refine Rch.go (fun _ kk_ => XS.lload X2.here hx rfl (hb hby d3_30) rfl  kk_) ?_
  show Rch p e below (T2.setTop (mkF m 32 #[.val (.ref ms), .val (.long (1 : Int64)), .second, .val (.long (1000000 : Int64)), .second, .val (.long (9223372036854 : Int64)), .second] [(.long (9223372036854 : Int64)), (.long (1 : Int64))])) _
  refine Rch.go (fun _ kk_ => XS.lneg X2.here hx rfl (hb hby d3_32) rfl kk_) ?_
  show Rch p e below (T2.setTop (mkF m 33 #[.val (.ref ms), .val (.long (1 : Int64)), .second, .val (.long (1000000 : Int64)), .second, .val (.long (9223372036854 : Int64)), .second] [(.long (-(9223372036854 : Int64))), (.long (1 : Int64))])) _
  refine Rch.go (fun _ kk_ => XS.lcmp X2.here hx rfl (hb hby d3_33) rfl kk_) ?_
  show Rch p e below (T2.setTop (mkF m 34 #[.val (.ref ms), .val (.long (1 : Int64)), .second, .val (.long (1000000 : Int64)), .second, .val (.long (9223372036854 : Int64)), .second] [(.int (lcmpW (1 : Int64) (-(9223372036854 : Int64))))])) _
  refine Rch.go (fun _ kk_ => XS.ifYes X2.here hx rfl (pc0 := 34) (pc' := 41) rfl (hb hby d3_34) rfl ((if0 _ _).trans (flt (by decide)).2.1) (by decide) (by decide) kk_) ?_
  show Rch p e below (T2.setTop (mkF m 41 #[.val (.ref ms), .val (.long (1 : Int64)), .second, .val (.long (1000000 : Int64)), .second, .val (.long (9223372036854 : Int64)), .second] [])) _
  refine Rch.go (fun _ kk_ => XS.lloadN X2.here hx rfl (hb hby d3_41) rfl  kk_) ?_
  show Rch p e below (T2.setTop (mkF m 42 #[.val (.ref ms), .val (.long (1 : Int64)), .second, .val (.long (1000000 : Int64)), .second, .val (.long (9223372036854 : Int64)), .second] [(.long (1 : Int64))])) _
  refine Rch.go (fun _ kk_ => XS.lloadN X2.here hx rfl (hb hby d3_42) rfl  kk_) ?_
  show Rch p e below (T2.setTop (mkF m 43 #[.val (.ref ms), .val (.long (1 : Int64)), .second, .val (.long (1000000 : Int64)), .second, .val (.long (9223372036854 : Int64)), .second] [(.long (1000000 : Int64)), (.long (1 : Int64))])) _
  refine Rch.go (fun _ kk_ => XS.lmul X2.here hx rfl (hb hby d3_43) rfl kk_) ?_
  show Rch p e below (T2.setTop (mkF m 44 #[.val (.ref ms), .val (.long (1 : Int64)), .second, .val (.long (1000000 : Int64)), .second, .val (.long (9223372036854 : Int64)), .second] [(.long ((1 : Int64) * (1000000 : Int64)))])) _
  exact Rch.ret X2 hlk (fun h => by rw [hret] at h; cases h) (fun fs hr => X2.lreturnOut hx hret (hb hby d3_44) hr) ⟨rfl, N0, e2⟩ (by decide) (by decide)
theorem d1_0 : decode prog_25_method_1_code 0 = .ok (.aload_n 0, 1) := by decide +kernel
theorem d1_1 : decode prog_25_method_1_code 1 = .ok (.invokespecial 3, 3) := by decide +kernel
theorem d1_4 : decode prog_25_method_1_code 4 = .ok (.aload_n 0, 1) := by decide +kernel
theorem d1_5 : decode prog_25_method_1_code 5 = .ok (.bipush 64, 2) := by decide +kernel
theorem d1_7 : decode prog_25_method_1_code 7 = .ok (.newarray .long, 2) := by decide +kernel
theorem d1_9 : decode prog_25_method_1_code 9 = .ok (.putfield 11, 3) := by decide +kernel
theorem d1_12 : decode prog_25_method_1_code 12 = .ok (.aload_n 0, 1) := by decide +kernel
theorem d1_13 : decode prog_25_method_1_code 13 = .ok (.bipush 64, 2) := by decide +kernel
theorem d1_15 : decode prog_25_method_1_code 15 = .ok (.newarray .long, 2) := by decide +kernel
theorem d1_17 : decode prog_25_method_1_code 17 = .ok (.putfield 15, 3) := by decide +kernel
theorem d1_20 : decode prog_25_method_1_code 20 = .ok (.aload_n 0, 1) := by decide +kernel
theorem d1_21 : decode prog_25_method_1_code 21 = .ok (.getstatic 18, 3) := by decide +kernel
theorem d1_24 : decode prog_25_method_1_code 24 = .ok (.lconst 1, 1) := by decide +kernel
theorem d1_25 : decode prog_25_method_1_code 25 = .ok (.invokevirtual 24, 3) := by decide +kernel
theorem d1_28 : decode prog_25_method_1_code 28 = .ok (.putfield 28, 3) := by decide +kernel
theorem d1_31 : decode prog_25_method_1_code 31 = .ok (.return_, 1) := by decide +kernel
theorem pd1_0 : parseMethodDescriptor "(J)J" = some ⟨[.long], some .long⟩ := by decide +kernel
theorem pn_1 : plainFor (⟨"com/example/urchin/urchin/service/Silence$Handover", "<init>", "()V"⟩ : MethodName) = true := plainFor_of_name (by first | (simp [plainName, overriddenIn]; done) | decide +kernel)
theorem ef_1 (m : MethodId) (x0 : Addr) : entryFrame m #[(.ref x0)] 1 = mkF m 0 #[.val (.ref x0)] [] := by first | (simp [entryFrame, mkF, argsToLocals, Value.category]; done) | rfl
def own_Q_rm1 (Z : State) (a1 ms : Addr) (u1 u2 u3 : Value) (h0 : Heap) (n0 : Nat) (v : Option Value) (h : Heap) (L : List Loc) : Prop := ∃ (tm cn : Addr) (kt kc : ClassId), v = none ∧ Fr n0 L ∧ Keep h0 h [a1] ∧ n0 ≤ tm ∧ n0 ≤ cn ∧ a1 ≠ tm ∧ a1 ≠ cn ∧ tm ≠ cn ∧ Fld Z h a1 "com/example/urchin/urchin/service/Silence$Handover" "times" "[J" (.ref tm) ∧ Fld Z h a1 "com/example/urchin/urchin/service/Silence$Handover" "counts" "[J" (.ref cn) ∧ Fld Z h a1 "com/example/urchin/urchin/service/Silence$Handover" "spacing" "J" (.long (1000000 : Int64)) ∧ Fld Z h a1 "com/example/urchin/urchin/service/Silence$Handover" "kept" "I" (.int (0 : Int32)) ∧ Fld Z h a1 "com/example/urchin/urchin/service/Silence$Handover" "count" "J" (.long (0 : Int64)) ∧ Arv Z h tm kt .long (64 : Int32) [(.long (0 : Int64)), (.long (0 : Int64))] (.long (0 : Int64)) ∧ Arv Z h cn kc .long (64 : Int32) [(.long (0 : Int64)), (.long (0 : Int64))] (.long (0 : Int64))
set_option maxRecDepth 65536 in
set_option maxHeartbeats 40000000 in
theorem rm1 (l : Launch) (Z : State) (a0 : Array Value) (hw : ∀ d ∈ tables_1, d.before a0 Z = true) (ws : List Jvm.Cond) (a1 ms : Addr) (u1 u2 u3 : Value) (h0 : Heap) (n0 : Nat) (Z0 : n0 ≤ h0.size) (E_a1 : Exa Z h0 a1 "com/example/urchin/urchin/service/Silence$Handover") (g_a1 : n0 ≤ a1) (F_times : Fld Z h0 a1 "com/example/urchin/urchin/service/Silence$Handover" "times" "[J" u1) (F_counts : Fld Z h0 a1 "com/example/urchin/urchin/service/Silence$Handover" "counts" "[J" u2) (F_spacing : Fld Z h0 a1 "com/example/urchin/urchin/service/Silence$Handover" "spacing" "J" u3) (F_kept : Fld Z h0 a1 "com/example/urchin/urchin/service/Silence$Handover" "kept" "I" (.int (0 : Int32))) (F_count : Fld Z h0 a1 "com/example/urchin/urchin/service/Silence$Handover" "count" "J" (.long (0 : Int64))) (O0 : Old Z n0 h0) (S_ms : Sta Z Z.heap "java/util/concurrent/TimeUnit" "MILLISECONDS" "Ljava/util/concurrent/TimeUnit;" (.ref ms)) (E_ms : Exa Z Z.heap ms "java/util/concurrent/TimeUnit") (F_scale : Fld Z Z.heap ms "java/util/concurrent/TimeUnit" "scale" "J" (.long (1000000 : Int64))) (F_max : Fld Z Z.heap ms "java/util/concurrent/TimeUnit" "maxNanos" "J" (.long (9223372036854 : Int64))) :
    MetFree l (⟨"com/example/urchin/urchin/service/Silence$Handover", "<init>", "()V"⟩ : MethodName) (head1 (Jvm.Cond.code (⟨"com/example/urchin/urchin/service/Silence$Handover", "<init>", "()V"⟩ : MethodName) prog_25_method_1_code 1 none :: ws) ({ frames := 1, cells := 2, slots := 128, locals := 24 } : Room)) (fun a U => a = #[(.ref a1)] ∧ Z.Warmed39 U.vm ∧ U.heap = h0) (fun _ _ _ _ _ => True) (fun _ U o U' => ∃ v L, o = .returned v ∧ own_Q_rm1 Z a1 ms u1 u2 u3 h0 n0 v U'.heap L ∧ FrameEnd U o U' L ({ frames := 1, cells := 2, slots := 128, locals := 24 } : Room).cells ({ frames := 1, cells := 2, slots := 128, locals := 24 } : Room).slots) := by
  refine own_body (Q := (own_Q_rm1 Z a1 ms u1 u2 u3 h0 n0)) pn_1 ?_
  intro p e s m below meth c s₁ X0 hx hby hml hown hnm hret hlk hZ e0
  have N0 := Fr.nil n0
  refine Rch.go (fun tt_ kk_ => castTop (ef_1 m a1) kk_) ?_
  have K0 := Keep.refl h0 [a1]
  show Rch p e below (s₁.setTop (mkF m 0 #[.val (.ref a1)] [])) _
  refine Rch.go (fun _ kk_ => XS.aloadN X0.here hx rfl (hb hby d1_0) rfl rfl kk_) ?_
  show Rch p e below (s₁.setTop (mkF m 1 #[.val (.ref a1)] [(.ref a1)])) _
  obtain ⟨T1, X1, e1, st1⟩ := initO X0 hx hZ hown (hw _ (List.mem_of_getElem? (i := 8) rfl)) (hw _ (List.mem_of_getElem? (i := 9) rfl)) (hw _ (List.mem_of_getElem? (i := 10) rfl)) e0 (g := (mkF m 1 #[.val (.ref a1)] [(.ref a1)])) rfl (by rw [hml]; rfl) rfl (hb hby d1_1) (by decide) (W := 0) (by show 2 * 0 + _ ≤ _; exact Nat.le_of_eq rfl) (by decide)
  refine Rch.go st1 ?_
  show Rch p e below (T1.setTop (mkF m 4 #[.val (.ref a1)] [])) _
  refine Rch.go (fun _ kk_ => XS.aloadN X1.here hx rfl (hb hby d1_4) rfl rfl kk_) ?_
  show Rch p e below (T1.setTop (mkF m 5 #[.val (.ref a1)] [(.ref a1)])) _
  refine Rch.go (fun _ kk_ => XS.bipush X1.here hx rfl (hb hby d1_5) kk_) ?_
  show Rch p e below (T1.setTop (mkF m 7 #[.val (.ref a1)] [(.int (64 : Int32)), (.ref a1)])) _
  obtain ⟨T2, h2, k2, X2, e2, E2, A2, st2⟩ := newP X1 hx hZ (hw _ (List.mem_of_getElem? (i := 11) rfl)) e1 (g := (mkF m 7 #[.val (.ref a1)] [(.int (64 : Int32)), (.ref a1)])) rfl (hb hby d1_7) rfl (by decide) (cap := 64) (by decide) (by decide) (by decide) (by decide)
  obtain ⟨b2, g2⟩ : ∃ z, z = h0.size := ⟨_, rfl⟩
  rw [← g2] at A2 st2
  have ne_a1_b2 : a1 ≠ b2 := Nat.ne_of_lt (Nat.lt_of_lt_of_le F_times.lt (Nat.le_of_eq g2.symm))
  have g_b2 : n0 ≤ b2 := Nat.le_trans Z0 (Nat.le_of_eq g2.symm)
  have sz_b2 : h0.size ≤ b2 := Nat.le_trans K0.1 (Nat.le_of_eq g2.symm)
  have E_a1 := E_a1.ext E2
  have F_times := F_times.ext E2
  have F_counts := F_counts.ext E2
  have F_spacing := F_spacing.ext E2
  have F_kept := F_kept.ext E2
  have F_count := F_count.ext E2
  have K0 := K0.ext E2
  have Z0 := Nat.le_trans Z0 E2.1
  have O0 := O0.ext E2
  have V_b2 : Arv Z h2 b2 k2 .long (64 : Int32) [(.long (0 : Int64)), (.long (0 : Int64))] (.long (0 : Int64)) := (Arv.new A2 (by decide)).pad (pad_rep [] (.long (0 : Int64)) 2)
  refine Rch.go st2 ?_
  show Rch p e below (T2.setTop (mkF m 9 #[.val (.ref a1)] [(.ref b2), (.ref a1)])) _
  obtain ⟨T3, h3, X3, e3, W3, st3⟩ := putF X2 hx hZ hown (host := "") (Or.inl (hw _ (List.mem_of_getElem? (i := 12) rfl))) Via.refl e2 F_times E_a1 (Or.inr ⟨(hw _ (List.mem_of_getElem? (i := 13) rfl)), rfl, hnm⟩) (hw _ (List.mem_of_getElem? (i := 3) rfl)) (ty := (.array .long)) (by decide) rfl rfl (g := (mkF m 9 #[.val (.ref a1)] [(.ref b2), (.ref a1)])) rfl rfl (hb hby d1_9)
  have E_a1 := E_a1.wr W3
  have F_counts := F_counts.other W3 (Or.inr (slot_ne (Or.inr (hw _ (List.mem_of_getElem? (i := 15) rfl))) (Or.inr (hw _ (List.mem_of_getElem? (i := 13) rfl))) (by decide) (t := (.array .long)) (t' := (.array .long)) (by decide) (by decide)))
  have F_spacing := F_spacing.other W3 (Or.inr (slot_ne (Or.inl (hw _ (List.mem_of_getElem? (i := 28) rfl))) (Or.inr (hw _ (List.mem_of_getElem? (i := 13) rfl))) (by decide) (t := .long) (t' := (.array .long)) (by decide) (by decide)))
  have F_kept := F_kept.other W3 (Or.inr (slot_ne (Or.inl (hw _ (List.mem_of_getElem? (i := 35) rfl))) (Or.inr (hw _ (List.mem_of_getElem? (i := 13) rfl))) (by decide) (t := .int) (t' := (.array .long)) (by decide) (by decide)))
  have F_count := F_count.other W3 (Or.inr (slot_ne (Or.inl (hw _ (List.mem_of_getElem? (i := 37) rfl))) (Or.inr (hw _ (List.mem_of_getElem? (i := 13) rfl))) (by decide) (t := .long) (t' := (.array .long)) (by decide) (by decide)))
  have V_b2 := V_b2.other W3 (Ne.symm ne_a1_b2)
  have K0 := K0.wr W3 (Or.inl (List.mem_of_getElem? (i := 0) rfl))
  have Z0 := Nat.le_trans Z0 (Keep.of_wr W3).1
  have O0 := O0.wr W3 g_a1
  have F_times := F_times.same W3
  have N3 := Fr.snoc X3 N0 g_a1
  refine Rch.go st3 ?_
  show Rch p e below (T3.setTop (mkF m 12 #[.val (.ref a1)] [])) _
  refine Rch.go (fun _ kk_ => XS.aloadN X3.here hx rfl (hb hby d1_12) rfl rfl kk_) ?_
  show Rch p e below (T3.setTop (mkF m 13 #[.val (.ref a1)] [(.ref a1)])) _
  refine Rch.go (fun _ kk_ => XS.bipush X3.here hx rfl (hb hby d1_13) kk_) ?_
  show Rch p e below (T3.setTop (mkF m 15 #[.val (.ref a1)] [(.int (64 : Int32)), (.ref a1)])) _
  obtain ⟨T4, h4, k4, X4, e4, E4, A4, st4⟩ := newP X3 hx hZ (hw _ (List.mem_of_getElem? (i := 11) rfl)) e3 (g := (mkF m 15 #[.val (.ref a1)] [(.int (64 : Int32)), (.ref a1)])) rfl (hb hby d1_15) rfl (by decide) (cap := 64) (by decide) (by decide) (by decide) (by decide)
  obtain ⟨b4, g4⟩ : ∃ z, z = h3.size := ⟨_, rfl⟩
  rw [← g4] at A4 st4
  have ne_a1_b4 : a1 ≠ b4 := Nat.ne_of_lt (Nat.lt_of_lt_of_le F_times.lt (Nat.le_of_eq g4.symm))
  have ne_b2_b4 : b2 ≠ b4 := Nat.ne_of_lt (Nat.lt_of_lt_of_le V_b2.lt (Nat.le_of_eq g4.symm))
  have g_b4 : n0 ≤ b4 := Nat.le_trans Z0 (Nat.le_of_eq g4.symm)
  have sz_b4 : h0.size ≤ b4 := Nat.le_trans K0.1 (Nat.le_of_eq g4.symm)
  have E_a1 := E_a1.ext E4
  have F_times := F_times.ext E4
  have F_counts := F_counts.ext E4
  have F_spacing := F_spacing.ext E4
  have F_kept := F_kept.ext E4
  have F_count := F_count.ext E4
  have V_b2 := V_b2.ext E4
  have K0 := K0.ext E4
  have Z0 := Nat.le_trans Z0 E4.1
  have O0 := O0.ext E4
  have V_b4 : Arv Z h4 b4 k4 .long (64 : Int32) [(.long (0 : Int64)), (.long (0 : Int64))] (.long (0 : Int64)) := (Arv.new A4 (by decide)).pad (pad_rep [] (.long (0 : Int64)) 2)
  refine Rch.go st4 ?_
  show Rch p e below (T4.setTop (mkF m 17 #[.val (.ref a1)] [(.ref b4), (.ref a1)])) _
  obtain ⟨T5, h5, X5, e5, W5, st5⟩ := putF X4 hx hZ hown (host := "") (Or.inl (hw _ (List.mem_of_getElem? (i := 14) rfl))) Via.refl e4 F_counts E_a1 (Or.inr ⟨(hw _ (List.mem_of_getElem? (i := 15) rfl)), rfl, hnm⟩) (hw _ (List.mem_of_getElem? (i := 3) rfl)) (ty := (.array .long)) (by decide) rfl rfl (g := (mkF m 17 #[.val (.ref a1)] [(.ref b4), (.ref a1)])) rfl rfl (hb hby d1_17)
  have E_a1 := E_a1.wr W5
  have F_times := F_times.other W5 (Or.inr (slot_ne (Or.inr (hw _ (List.mem_of_getElem? (i := 13) rfl))) (Or.inr (hw _ (List.mem_of_getElem? (i := 15) rfl))) (by decide) (t := (.array .long)) (t' := (.array .long)) (by decide) (by decide)))
  have F_spacing := F_spacing.other W5 (Or.inr (slot_ne (Or.inl (hw _ (List.mem_of_getElem? (i := 28) rfl))) (Or.inr (hw _ (List.mem_of_getElem? (i := 15) rfl))) (by decide) (t := .long) (t' := (.array .long)) (by decide) (by decide)))
  have F_kept := F_kept.other W5 (Or.inr (slot_ne (Or.inl (hw _ (List.mem_of_getElem? (i := 35) rfl))) (Or.inr (hw _ (List.mem_of_getElem? (i := 15) rfl))) (by decide) (t := .int) (t' := (.array .long)) (by decide) (by decide)))
  have F_count := F_count.other W5 (Or.inr (slot_ne (Or.inl (hw _ (List.mem_of_getElem? (i := 37) rfl))) (Or.inr (hw _ (List.mem_of_getElem? (i := 15) rfl))) (by decide) (t := .long) (t' := (.array .long)) (by decide) (by decide)))
  have V_b2 := V_b2.other W5 (Ne.symm ne_a1_b2)
  have V_b4 := V_b4.other W5 (Ne.symm ne_a1_b4)
  have K0 := K0.wr W5 (Or.inl (List.mem_of_getElem? (i := 0) rfl))
  have Z0 := Nat.le_trans Z0 (Keep.of_wr W5).1
  have O0 := O0.wr W5 g_a1
  have F_counts := F_counts.same W5
  have N5 := Fr.snoc X5 N3 g_a1
  refine Rch.go st5 ?_
  show Rch p e below (T5.setTop (mkF m 20 #[.val (.ref a1)] [])) _
  refine Rch.go (fun _ kk_ => XS.aloadN X5.here hx rfl (hb hby d1_20) rfl rfl kk_) ?_
  show Rch p e below (T5.setTop (mkF m 21 #[.val (.ref a1)] [(.ref a1)])) _
  obtain ⟨T6, X6, e6, st6⟩ := getS2 X5 hx hZ hown (host := "") (Or.inl (hw _ (List.mem_of_getElem? (i := 16) rfl))) Via.refl e5 (S_ms.ext O0.2) (g := (mkF m 21 #[.val (.ref a1)] [(.ref a1)])) rfl (hb hby d1_21)
  refine Rch.go st6 ?_
  show Rch p e below (T6.setTop (mkF m 24 #[.val (.ref a1)] [(.ref ms), (.ref a1)])) _
  refine Rch.go (fun _ kk_ => XS.lconst X6.here hx rfl (hb hby d1_24) kk_) ?_
  show Rch p e below (T6.setTop (mkF m 25 #[.val (.ref a1)] [(.long (1 : Int64)), (.ref ms), (.ref a1)])) _
  refine Rch.callV X6 hx hZ hown (hw _ (List.mem_of_getElem? (i := 18) rfl)) (hw _ (List.mem_of_getElem? (i := 19) rfl)) (notFace_of_selects (args := #[]) (mvT hZ (hw _ (List.mem_of_getElem? (i := 21) rfl)))) (hw _ (List.mem_of_getElem? (i := 21) rfl)) (hw _ (List.mem_of_getElem? (i := 20) rfl)) (hw _ (List.mem_of_getElem? (i := 17) rfl)) (hw _ (List.mem_of_getElem? (i := 22) rfl)) (by decide) (rm3 l Z a0 hw [] ms h5 n0 Z0 (F_scale.ext O0.2) (F_max.ext O0.2)) 1 (by decide) (by decide) (by decide) (by decide) e6 (E_ms.ext O0.2) (g := (mkF m 25 #[.val (.ref a1)] [(.long (1 : Int64)), (.ref ms), (.ref a1)])) rfl (by rw [hml]; rfl) [(.long (1 : Int64))] [(.ref a1)] rfl (lenOf pd1_0 rfl) rfl (by show 2 * 0 + _ ≤ _; exact Nat.le_of_eq rfl) (hb hby d1_25) ?_
  intro v7 T7 L7 X7 hQ7
  obtain ⟨rfl, N7q, e7⟩ := hQ7
  have N7 := Fr.app N5 N7q
  show Rch p e below (T7.setTop (mkF m 28 #[.val (.ref a1)] [(.long ((1 : Int64) * (1000000 : Int64))), (.ref a1)])) _
  rw [(show ((1 : Int64) * (1000000 : Int64)) = (1000000 : Int64) from by decide)]
  show Rch p e below (T7.setTop (mkF m 28 #[.val (.ref a1)] [(.long (1000000 : Int64)), (.ref a1)])) _
  obtain ⟨T8, h8, X8, e8, W8, st8⟩ := putF X7 hx hZ hown (host := "") (Or.inl (hw _ (List.mem_of_getElem? (i := 27) rfl))) Via.refl e7 F_spacing E_a1 (Or.inl (hw _ (List.mem_of_getElem? (i := 28) rfl))) (hw _ (List.mem_of_getElem? (i := 3) rfl)) (ty := .long) (by decide) rfl rfl (g := (mkF m 28 #[.val (.ref a1)] [(.long (1000000 : Int64)), (.ref a1)])) rfl rfl (hb hby d1_28)
  have E_a1 := E_a1.wr W8
  have F_times := F_times.other W8 (Or.inr (slot_ne (Or.inr (hw _ (List.mem_of_getElem? (i := 13) rfl))) (Or.inl (hw _ (List.mem_of_getElem? (i := 28) rfl))) (by decide) (t := (.array .long)) (t' := .long) (by decide) (by decide)))
  have F_counts := F_counts.other W8 (Or.inr (slot_ne (Or.inr (hw _ (List.mem_of_getElem? (i := 15) rfl))) (Or.inl (hw _ (List.mem_of_getElem? (i := 28) rfl))) (by decide) (t := (.array .long)) (t' := .long) (by decide) (by decide)))
  have F_kept := F_kept.other W8 (Or.inr (slot_ne (Or.inl (hw _ (List.mem_of_getElem? (i := 35) rfl))) (Or.inl (hw _ (List.mem_of_getElem? (i := 28) rfl))) (by decide) (t := .int) (t' := .long) (by decide) (by decide)))
  have F_count := F_count.other W8 (Or.inr (slot_ne (Or.inl (hw _ (List.mem_of_getElem? (i := 37) rfl))) (Or.inl (hw _ (List.mem_of_getElem? (i := 28) rfl))) (by decide) (t := .long) (t' := .long) (by decide) (by decide)))
  have V_b2 := V_b2.other W8 (Ne.symm ne_a1_b2)
  have V_b4 := V_b4.other W8 (Ne.symm ne_a1_b4)
  have K0 := K0.wr W8 (Or.inl (List.mem_of_getElem? (i := 0) rfl))
  have Z0 := Nat.le_trans Z0 (Keep.of_wr W8).1
  have O0 := O0.wr W8 g_a1
  have F_spacing := F_spacing.same W8
  have N8 := Fr.snoc X8 N7 g_a1
  refine Rch.go st8 ?_
  show Rch p e below (T8.setTop (mkF m 31 #[.val (.ref a1)] [])) _
  exact Rch.ret X8 hlk (fun _ => rfl) (fun fs hr => X8.returnOut hx hret (hb hby d1_31) hr) (by rw [e8]; exact ⟨b2, b4, k2, k4, rfl, N8, K0, g_b2, g_b4, ne_a1_b2, ne_a1_b4, ne_b2_b4, F_times, F_counts, F_spacing, F_kept, F_count, V_b2, V_b4⟩) (by decide) (by decide)
theorem d4_0 : decode prog_25_method_2_code 0 = .ok (.aload_n 0, 1) := by decide +kernel
theorem d4_1 : decode prog_25_method_2_code 1 = .ok (.getfield 32, 3) := by decide +kernel
theorem d4_4 : decode prog_25_method_2_code 4 = .ok (.ifCond .eq 24, 3) := by decide +kernel
theorem d4_7 : decode prog_25_method_2_code 7 = .ok (.lload_n 1, 1) := by decide +kernel
theorem d4_8 : decode prog_25_method_2_code 8 = .ok (.aload_n 0, 1) := by decide +kernel
theorem d4_9 : decode prog_25_method_2_code 9 = .ok (.getfield 11, 3) := by decide +kernel
theorem d4_12 : decode prog_25_method_2_code 12 = .ok (.aload_n 0, 1) := by decide +kernel
theorem d4_13 : decode prog_25_method_2_code 13 = .ok (.getfield 32, 3) := by decide +kernel
theorem d4_16 : decode prog_25_method_2_code 16 = .ok (.iconst 1, 1) := by decide +kernel
theorem d4_17 : decode prog_25_method_2_code 17 = .ok (.isub, 1) := by decide +kernel
theorem d4_18 : decode prog_25_method_2_code 18 = .ok (.laload, 1) := by decide +kernel
theorem d4_19 : decode prog_25_method_2_code 19 = .ok (.lsub, 1) := by decide +kernel
theorem d4_20 : decode prog_25_method_2_code 20 = .ok (.aload_n 0, 1) := by decide +kernel
theorem d4_21 : decode prog_25_method_2_code 21 = .ok (.getfield 28, 3) := by decide +kernel
theorem d4_24 : decode prog_25_method_2_code 24 = .ok (.lcmp, 1) := by decide +kernel
theorem d4_25 : decode prog_25_method_2_code 25 = .ok (.ifCond .lt 49, 3) := by decide +kernel
theorem d4_28 : decode prog_25_method_2_code 28 = .ok (.aload_n 0, 1) := by decide +kernel
theorem d4_29 : decode prog_25_method_2_code 29 = .ok (.getfield 32, 3) := by decide +kernel
theorem d4_32 : decode prog_25_method_2_code 32 = .ok (.bipush 64, 2) := by decide +kernel
theorem d4_34 : decode prog_25_method_2_code 34 = .ok (.if_icmp .ne 7, 3) := by decide +kernel
theorem d4_41 : decode prog_25_method_2_code 41 = .ok (.aload_n 0, 1) := by decide +kernel
theorem d4_42 : decode prog_25_method_2_code 42 = .ok (.getfield 11, 3) := by decide +kernel
theorem d4_45 : decode prog_25_method_2_code 45 = .ok (.aload_n 0, 1) := by decide +kernel
theorem d4_46 : decode prog_25_method_2_code 46 = .ok (.getfield 32, 3) := by decide +kernel
theorem d4_49 : decode prog_25_method_2_code 49 = .ok (.lload_n 1, 1) := by decide +kernel
theorem d4_50 : decode prog_25_method_2_code 50 = .ok (.lastore, 1) := by decide +kernel
theorem d4_51 : decode prog_25_method_2_code 51 = .ok (.aload_n 0, 1) := by decide +kernel
theorem d4_52 : decode prog_25_method_2_code 52 = .ok (.getfield 15, 3) := by decide +kernel
theorem d4_55 : decode prog_25_method_2_code 55 = .ok (.aload_n 0, 1) := by decide +kernel
theorem d4_56 : decode prog_25_method_2_code 56 = .ok (.getfield 32, 3) := by decide +kernel
theorem d4_59 : decode prog_25_method_2_code 59 = .ok (.aload_n 0, 1) := by decide +kernel
theorem d4_60 : decode prog_25_method_2_code 60 = .ok (.getfield 39, 3) := by decide +kernel
theorem d4_63 : decode prog_25_method_2_code 63 = .ok (.lastore, 1) := by decide +kernel
theorem d4_64 : decode prog_25_method_2_code 64 = .ok (.aload_n 0, 1) := by decide +kernel
theorem d4_65 : decode prog_25_method_2_code 65 = .ok (.dup, 1) := by decide +kernel
theorem d4_66 : decode prog_25_method_2_code 66 = .ok (.getfield 32, 3) := by decide +kernel
theorem d4_69 : decode prog_25_method_2_code 69 = .ok (.iconst 1, 1) := by decide +kernel
theorem d4_70 : decode prog_25_method_2_code 70 = .ok (.iadd, 1) := by decide +kernel
theorem d4_71 : decode prog_25_method_2_code 71 = .ok (.putfield 32, 3) := by decide +kernel
theorem d4_74 : decode prog_25_method_2_code 74 = .ok (.aload_n 0, 1) := by decide +kernel
theorem d4_75 : decode prog_25_method_2_code 75 = .ok (.dup, 1) := by decide +kernel
theorem d4_76 : decode prog_25_method_2_code 76 = .ok (.getfield 39, 3) := by decide +kernel
theorem d4_79 : decode prog_25_method_2_code 79 = .ok (.iload_n 3, 1) := by decide +kernel
theorem d4_80 : decode prog_25_method_2_code 80 = .ok (.i2l, 1) := by decide +kernel
theorem d4_81 : decode prog_25_method_2_code 81 = .ok (.ladd, 1) := by decide +kernel
theorem d4_82 : decode prog_25_method_2_code 82 = .ok (.putfield 39, 3) := by decide +kernel
theorem d4_85 : decode prog_25_method_2_code 85 = .ok (.return_, 1) := by decide +kernel
theorem pn_4 : plainFor (⟨"com/example/urchin/urchin/service/Silence$Handover", "handed", "(JI)V"⟩ : MethodName) = true := plainFor_of_name (by first | (simp [plainName, overriddenIn]; done) | decide +kernel)
theorem ef_4 (m : MethodId) (x0 : Addr) (x1 : Int64) (x2 : Int32) : entryFrame m #[(.ref x0), (.long x1), (.int x2)] 4 = mkF m 0 #[.val (.ref x0), .val (.long x1), .second, .val (.int x2)] [] := by first | (simp [entryFrame, mkF, argsToLocals, Value.category]; done) | rfl
def own_Q_rm4a (Z : State) (a1 tm cn : Addr) (kt kc : ClassId) (q1 cnt : Int64) (p3 : Int32) (h0 : Heap) (n0 : Nat) (v : Option Value) (h : Heap) (L : List Loc) : Prop := v = none ∧ Fr n0 L ∧ Keep h0 h [a1, tm, cn] ∧ Fld Z h a1 "com/example/urchin/urchin/service/Silence$Handover" "times" "[J" (.ref tm) ∧ Fld Z h a1 "com/example/urchin/urchin/service/Silence$Handover" "counts" "[J" (.ref cn) ∧ Fld Z h a1 "com/example/urchin/urchin/service/Silence$Handover" "spacing" "J" (.long (1000000 : Int64)) ∧ Fld Z h a1 "com/example/urchin/urchin/service/Silence$Handover" "kept" "I" (.int (1 : Int32)) ∧ Fld Z h a1 "com/example/urchin/urchin/service/Silence$Handover" "count" "J" (.long (cnt + p3.toInt64)) ∧ Arv Z h tm kt .long (64 : Int32) [(.long q1), (.long (0 : Int64))] (.long (0 : Int64)) ∧ Arv Z h cn kc .long (64 : Int32) [(.long cnt), (.long (0 : Int64))] (.long (0 : Int64))
set_option maxRecDepth 65536 in
set_option maxHeartbeats 40000000 in
theorem rm4a (l : Launch) (Z : State) (a0 : Array Value) (hw : ∀ d ∈ tables_1, d.before a0 Z = true) (ws : List Jvm.Cond) (a1 tm cn : Addr) (kt kc : ClassId) (q1 cnt : Int64) (p3 : Int32) (h0 : Heap) (n0 : Nat) (Z0 : n0 ≤ h0.size) (E_a1 : Exa Z h0 a1 "com/example/urchin/urchin/service/Silence$Handover") (g_a1 : n0 ≤ a1) (g_tm : n0 ≤ tm) (g_cn : n0 ≤ cn) (ne_a1_tm : a1 ≠ tm) (ne_a1_cn : a1 ≠ cn) (ne_tm_cn : tm ≠ cn) (F_times : Fld Z h0 a1 "com/example/urchin/urchin/service/Silence$Handover" "times" "[J" (.ref tm)) (F_counts : Fld Z h0 a1 "com/example/urchin/urchin/service/Silence$Handover" "counts" "[J" (.ref cn)) (F_spacing : Fld Z h0 a1 "com/example/urchin/urchin/service/Silence$Handover" "spacing" "J" (.long (1000000 : Int64))) (F_kept : Fld Z h0 a1 "com/example/urchin/urchin/service/Silence$Handover" "kept" "I" (.int (0 : Int32))) (F_count : Fld Z h0 a1 "com/example/urchin/urchin/service/Silence$Handover" "count" "J" (.long cnt)) (V_tm : Arv Z h0 tm kt .long (64 : Int32) [(.long (0 : Int64)), (.long (0 : Int64))] (.long (0 : Int64))) (V_cn : Arv Z h0 cn kc .long (64 : Int32) [(.long (0 : Int64)), (.long (0 : Int64))] (.long (0 : Int64)))  :
    MetFree l (⟨"com/example/urchin/urchin/service/Silence$Handover", "handed", "(JI)V"⟩ : MethodName) (head1 (Jvm.Cond.code (⟨"com/example/urchin/urchin/service/Silence$Handover", "handed", "(JI)V"⟩ : MethodName) prog_25_method_2_code 4 none :: ws) ({ frames := 0, cells := 0, slots := 0, locals := 0 } : Room)) (fun a U => a = #[(.ref a1), (.long q1), (.int p3)] ∧ Z.Warmed39 U.vm ∧ U.heap = h0) (fun _ _ _ _ _ => True) (fun _ U o U' => ∃ v L, o = .returned v ∧ own_Q_rm4a Z a1 tm cn kt kc q1 cnt p3 h0 n0 v U'.heap L ∧ FrameEnd U o U' L ({ frames := 0, cells := 0, slots := 0, locals := 0 } : Room).cells ({ frames := 0, cells := 0, slots := 0, locals := 0 } : Room).slots) := by
  refine own_body (Q := (own_Q_rm4a Z a1 tm cn kt kc q1 cnt p3 h0 n0)) pn_4 ?_
  intro p e s m below meth c s₁ X0 hx hby hml hown hnm hret hlk hZ e0
  have N0 := Fr.nil n0
  refine Rch.go (fun tt_ kk_ => castTop (ef_4 m a1 q1 p3) kk_) ?_
  have K0 := Keep.refl h0 [a1, tm, cn]
  show Rch p e below (s₁.setTop (mkF m 0 #[.val (.ref a1), .val (.long q1), .second, .val (.int p3)] [])) _
  refine Rch.go (fun _ kk_ => XS.aloadN X0.here hx rfl (hb hby d4_0) rfl rfl kk_) ?_
  show Rch p e below (s₁.setTop (mkF m 1 #[.val (.ref a1), .val (.long q1), .second, .val (.int p3)] [(.ref a1)])) _
  obtain ⟨T1, X1, e1, st1⟩ := getF X0 hx hZ hown (host := "") (Or.inl (hw _ (List.mem_of_getElem? (i := 34) rfl))) Via.refl e0 F_kept (g := (mkF m 1 #[.val (.ref a1), .val (.long q1), .second, .val (.int p3)] [(.ref a1)])) rfl rfl (hb hby d4_1)
  refine Rch.go st1 ?_
  show Rch p e below (T1.setTop (mkF m 4 #[.val (.ref a1), .val (.long q1), .second, .val (.int p3)] [(.int (0 : Int32))])) _
  refine Rch.go (fun _ kk_ => XS.ifYes X1.here hx rfl (pc0 := 4) (pc' := 28) rfl (hb hby d4_4) rfl ((if0 _ _).trans (teq (by decide)).1) (by decide) (by decide) kk_) ?_
  show Rch p e below (T1.setTop (mkF m 28 #[.val (.ref a1), .val (.long q1), .second, .val (.int p3)] [])) _
  refine Rch.go (fun _ kk_ => XS.aloadN X1.here hx rfl (hb hby d4_28) rfl rfl kk_) ?_
  show Rch p e below (T1.setTop (mkF m 29 #[.val (.ref a1), .val (.long q1), .second, .val (.int p3)] [(.ref a1)])) _
  obtain ⟨T2, X2, e2, st2⟩ := getF X1 hx hZ hown (host := "") (Or.inl (hw _ (List.mem_of_getElem? (i := 34) rfl))) Via.refl e1 F_kept (g := (mkF m 29 #[.val (.ref a1), .val (.long q1), .second, .val (.int p3)] [(.ref a1)])) rfl rfl (hb hby d4_29)
  refine Rch.go st2 ?_
  show Rch p e below (T2.setTop (mkF m 32 #[.val (.ref a1), .val (.long q1), .second, .val (.int p3)] [(.int (0 : Int32))])) _
  refine Rch.go (fun _ kk_ => XS.bipush X2.here hx rfl (hb hby d4_32) kk_) ?_
  show Rch p e below (T2.setTop (mkF m 34 #[.val (.ref a1), .val (.long q1), .second, .val (.int p3)] [(.int (64 : Int32)), (.int (0 : Int32))])) _
  refine Rch.go (fun _ kk_ => XS.icmpYes X2.here hx rfl (pc0 := 34) (pc' := 41) rfl (hb hby d4_34) rfl (feq (by decide)).2 (by decide) (by decide) kk_) ?_
  show Rch p e below (T2.setTop (mkF m 41 #[.val (.ref a1), .val (.long q1), .second, .val (.int p3)] [])) _
  refine Rch.go (fun _ kk_ => XS.aloadN X2.here hx rfl (hb hby d4_41) rfl rfl kk_) ?_
  show Rch p e below (T2.setTop (mkF m 42 #[.val (.ref a1), .val (.long q1), .second, .val (.int p3)] [(.ref a1)])) _
  obtain ⟨T3, X3, e3, st3⟩ := getF X2 hx hZ hown (host := "") (Or.inl (hw _ (List.mem_of_getElem? (i := 12) rfl))) Via.refl e2 F_times (g := (mkF m 42 #[.val (.ref a1), .val (.long q1), .second, .val (.int p3)] [(.ref a1)])) rfl rfl (hb hby d4_42)
  refine Rch.go st3 ?_
  show Rch p e below (T3.setTop (mkF m 45 #[.val (.ref a1), .val (.long q1), .second, .val (.int p3)] [(.ref tm)])) _
  refine Rch.go (fun _ kk_ => XS.aloadN X3.here hx rfl (hb hby d4_45) rfl rfl kk_) ?_
  show Rch p e below (T3.setTop (mkF m 46 #[.val (.ref a1), .val (.long q1), .second, .val (.int p3)] [(.ref a1), (.ref tm)])) _
  obtain ⟨T4, X4, e4, st4⟩ := getF X3 hx hZ hown (host := "") (Or.inl (hw _ (List.mem_of_getElem? (i := 34) rfl))) Via.refl e3 F_kept (g := (mkF m 46 #[.val (.ref a1), .val (.long q1), .second, .val (.int p3)] [(.ref a1), (.ref tm)])) rfl rfl (hb hby d4_46)
  refine Rch.go st4 ?_
  show Rch p e below (T4.setTop (mkF m 49 #[.val (.ref a1), .val (.long q1), .second, .val (.int p3)] [(.int (0 : Int32)), (.ref tm)])) _
  refine Rch.go (fun _ kk_ => XS.lloadN X4.here hx rfl (hb hby d4_49) rfl  kk_) ?_
  show Rch p e below (T4.setTop (mkF m 50 #[.val (.ref a1), .val (.long q1), .second, .val (.int p3)] [(.long q1), (.int (0 : Int32)), (.ref tm)])) _
  obtain ⟨cl5, Ar5, q5, S5, M5, H5, G5⟩ := id V_tm
  obtain ⟨T5, h5, X5, e5, W5, st5⟩ := stJ X4 hx hZ e4 Ar5 (j := (0 : Int32)) (inb_of S5 ⟨by decide, by decide⟩) (g := (mkF m 50 #[.val (.ref a1), .val (.long q1), .second, .val (.int p3)] [(.long q1), (.int (0 : Int32)), (.ref tm)])) rfl rfl (hb hby d4_50)
  have V_tm : Arv Z h5 tm kt .long (64 : Int32) [(.long q1), (.long (0 : Int64))] (.long (0 : Int64)) := Arv.set Ar5 q5 S5 M5 H5 G5 rfl W5 0 rfl (Nat.le_of_ble_eq_true rfl)
  have E_a1 := E_a1.wr W5
  have F_times := F_times.other W5 (Or.inl ne_a1_tm)
  have F_counts := F_counts.other W5 (Or.inl ne_a1_tm)
  have F_spacing := F_spacing.other W5 (Or.inl ne_a1_tm)
  have F_kept := F_kept.other W5 (Or.inl ne_a1_tm)
  have F_count := F_count.other W5 (Or.inl ne_a1_tm)
  have V_cn := V_cn.other W5 (Ne.symm ne_tm_cn)
  have K0 := K0.wr W5 (Or.inl (List.mem_of_getElem? (i := 1) rfl))
  have Z0 := Nat.le_trans Z0 (Keep.of_wr W5).1
  have N5 := Fr.snoc X5 N0 g_tm
  refine Rch.go st5 ?_
  show Rch p e below (T5.setTop (mkF m 51 #[.val (.ref a1), .val (.long q1), .second, .val (.int p3)] [])) _
  refine Rch.go (fun _ kk_ => XS.aloadN X5.here hx rfl (hb hby d4_51) rfl rfl kk_) ?_
  show Rch p e below (T5.setTop (mkF m 52 #[.val (.ref a1), .val (.long q1), .second, .val (.int p3)] [(.ref a1)])) _
  obtain ⟨T6, X6, e6, st6⟩ := getF X5 hx hZ hown (host := "") (Or.inl (hw _ (List.mem_of_getElem? (i := 14) rfl))) Via.refl e5 F_counts (g := (mkF m 52 #[.val (.ref a1), .val (.long q1), .second, .val (.int p3)] [(.ref a1)])) rfl rfl (hb hby d4_52)
  refine Rch.go st6 ?_
  show Rch p e below (T6.setTop (mkF m 55 #[.val (.ref a1), .val (.long q1), .second, .val (.int p3)] [(.ref cn)])) _
  refine Rch.go (fun _ kk_ => XS.aloadN X6.here hx rfl (hb hby d4_55) rfl rfl kk_) ?_
  show Rch p e below (T6.setTop (mkF m 56 #[.val (.ref a1), .val (.long q1), .second, .val (.int p3)] [(.ref a1), (.ref cn)])) _
  obtain ⟨T7, X7, e7, st7⟩ := getF X6 hx hZ hown (host := "") (Or.inl (hw _ (List.mem_of_getElem? (i := 34) rfl))) Via.refl e6 F_kept (g := (mkF m 56 #[.val (.ref a1), .val (.long q1), .second, .val (.int p3)] [(.ref a1), (.ref cn)])) rfl rfl (hb hby d4_56)
  refine Rch.go st7 ?_
  show Rch p e below (T7.setTop (mkF m 59 #[.val (.ref a1), .val (.long q1), .second, .val (.int p3)] [(.int (0 : Int32)), (.ref cn)])) _
  refine Rch.go (fun _ kk_ => XS.aloadN X7.here hx rfl (hb hby d4_59) rfl rfl kk_) ?_
  show Rch p e below (T7.setTop (mkF m 60 #[.val (.ref a1), .val (.long q1), .second, .val (.int p3)] [(.ref a1), (.int (0 : Int32)), (.ref cn)])) _
  obtain ⟨T8, X8, e8, st8⟩ := getF X7 hx hZ hown (host := "") (Or.inl (hw _ (List.mem_of_getElem? (i := 36) rfl))) Via.refl e7 F_count (g := (mkF m 60 #[.val (.ref a1), .val (.long q1), .second, .val (.int p3)] [(.ref a1), (.int (0 : Int32)), (.ref cn)])) rfl rfl (hb hby d4_60)
  refine Rch.go st8 ?_
  show Rch p e below (T8.setTop (mkF m 63 #[.val (.ref a1), .val (.long q1), .second, .val (.int p3)] [(.long cnt), (.int (0 : Int32)), (.ref cn)])) _
  obtain ⟨cl9, Ar9, q9, S9, M9, H9, G9⟩ := id V_cn
  obtain ⟨T9, h9, X9, e9, W9, st9⟩ := stJ X8 hx hZ e8 Ar9 (j := (0 : Int32)) (inb_of S9 ⟨by decide, by decide⟩) (g := (mkF m 63 #[.val (.ref a1), .val (.long q1), .second, .val (.int p3)] [(.long cnt), (.int (0 : Int32)), (.ref cn)])) rfl rfl (hb hby d4_63)
  have V_cn : Arv Z h9 cn kc .long (64 : Int32) [(.long cnt), (.long (0 : Int64))] (.long (0 : Int64)) := Arv.set Ar9 q9 S9 M9 H9 G9 rfl W9 0 rfl (Nat.le_of_ble_eq_true rfl)
  have E_a1 := E_a1.wr W9
  have F_times := F_times.other W9 (Or.inl ne_a1_cn)
  have F_counts := F_counts.other W9 (Or.inl ne_a1_cn)
  have F_spacing := F_spacing.other W9 (Or.inl ne_a1_cn)
  have F_kept := F_kept.other W9 (Or.inl ne_a1_cn)
  have F_count := F_count.other W9 (Or.inl ne_a1_cn)
  have V_tm := V_tm.other W9 ne_tm_cn
  have K0 := K0.wr W9 (Or.inl (List.mem_of_getElem? (i := 2) rfl))
  have Z0 := Nat.le_trans Z0 (Keep.of_wr W9).1
  have N9 := Fr.snoc X9 N5 g_cn
  refine Rch.go st9 ?_
  show Rch p e below (T9.setTop (mkF m 64 #[.val (.ref a1), .val (.long q1), .second, .val (.int p3)] [])) _
  refine Rch.go (fun _ kk_ => XS.aloadN X9.here hx rfl (hb hby d4_64) rfl rfl kk_) ?_
  show Rch p e below (T9.setTop (mkF m 65 #[.val (.ref a1), .val (.long q1), .second, .val (.int p3)] [(.ref a1)])) _
  refine Rch.go (fun _ kk_ => XS.dup X9.here hx rfl (hb hby d4_65) rfl rfl kk_) ?_
  show Rch p e below (T9.setTop (mkF m 66 #[.val (.ref a1), .val (.long q1), .second, .val (.int p3)] [(.ref a1), (.ref a1)])) _
  obtain ⟨T10, X10, e10, st10⟩ := getF X9 hx hZ hown (host := "") (Or.inl (hw _ (List.mem_of_getElem? (i := 34) rfl))) Via.refl e9 F_kept (g := (mkF m 66 #[.val (.ref a1), .val (.long q1), .second, .val (.int p3)] [(.ref a1), (.ref a1)])) rfl rfl (hb hby d4_66)
  refine Rch.go st10 ?_
  show Rch p e below (T10.setTop (mkF m 69 #[.val (.ref a1), .val (.long q1), .second, .val (.int p3)] [(.int (0 : Int32)), (.ref a1)])) _
  refine Rch.go (fun _ kk_ => XS.iconst X10.here hx rfl (hb hby d4_69) kk_) ?_
  show Rch p e below (T10.setTop (mkF m 70 #[.val (.ref a1), .val (.long q1), .second, .val (.int p3)] [(.int (1 : Int32)), (.int (0 : Int32)), (.ref a1)])) _
  refine Rch.go (fun _ kk_ => XS.iadd X10.here hx rfl (hb hby d4_70) rfl kk_) ?_
  show Rch p e below (T10.setTop (mkF m 71 #[.val (.ref a1), .val (.long q1), .second, .val (.int p3)] [(.int ((0 : Int32) + (1 : Int32))), (.ref a1)])) _
  rw [(show ((0 : Int32) + (1 : Int32)) = (1 : Int32) from by decide)]
  show Rch p e below (T10.setTop (mkF m 71 #[.val (.ref a1), .val (.long q1), .second, .val (.int p3)] [(.int (1 : Int32)), (.ref a1)])) _
  obtain ⟨T11, h11, X11, e11, W11, st11⟩ := putF X10 hx hZ hown (host := "") (Or.inl (hw _ (List.mem_of_getElem? (i := 34) rfl))) Via.refl e10 F_kept E_a1 (Or.inl (hw _ (List.mem_of_getElem? (i := 35) rfl))) (hw _ (List.mem_of_getElem? (i := 3) rfl)) (ty := .int) (by decide) rfl rfl (g := (mkF m 71 #[.val (.ref a1), .val (.long q1), .second, .val (.int p3)] [(.int (1 : Int32)), (.ref a1)])) rfl rfl (hb hby d4_71)
  have E_a1 := E_a1.wr W11
  have F_times := F_times.other W11 (Or.inr (slot_ne (Or.inr (hw _ (List.mem_of_getElem? (i := 13) rfl))) (Or.inl (hw _ (List.mem_of_getElem? (i := 35) rfl))) (by decide) (t := (.array .long)) (t' := .int) (by decide) (by decide)))
  have F_counts := F_counts.other W11 (Or.inr (slot_ne (Or.inr (hw _ (List.mem_of_getElem? (i := 15) rfl))) (Or.inl (hw _ (List.mem_of_getElem? (i := 35) rfl))) (by decide) (t := (.array .long)) (t' := .int) (by decide) (by decide)))
  have F_spacing := F_spacing.other W11 (Or.inr (slot_ne (Or.inl (hw _ (List.mem_of_getElem? (i := 28) rfl))) (Or.inl (hw _ (List.mem_of_getElem? (i := 35) rfl))) (by decide) (t := .long) (t' := .int) (by decide) (by decide)))
  have F_count := F_count.other W11 (Or.inr (slot_ne (Or.inl (hw _ (List.mem_of_getElem? (i := 37) rfl))) (Or.inl (hw _ (List.mem_of_getElem? (i := 35) rfl))) (by decide) (t := .long) (t' := .int) (by decide) (by decide)))
  have V_tm := V_tm.other W11 (Ne.symm ne_a1_tm)
  have V_cn := V_cn.other W11 (Ne.symm ne_a1_cn)
  have K0 := K0.wr W11 (Or.inl (List.mem_of_getElem? (i := 0) rfl))
  have Z0 := Nat.le_trans Z0 (Keep.of_wr W11).1
  have F_kept := F_kept.same W11
  have N11 := Fr.snoc X11 N9 g_a1
  refine Rch.go st11 ?_
  show Rch p e below (T11.setTop (mkF m 74 #[.val (.ref a1), .val (.long q1), .second, .val (.int p3)] [])) _
  refine Rch.go (fun _ kk_ => XS.aloadN X11.here hx rfl (hb hby d4_74) rfl rfl kk_) ?_
  show Rch p e below (T11.setTop (mkF m 75 #[.val (.ref a1), .val (.long q1), .second, .val (.int p3)] [(.ref a1)])) _
  refine Rch.go (fun _ kk_ => XS.dup X11.here hx rfl (hb hby d4_75) rfl rfl kk_) ?_
  show Rch p e below (T11.setTop (mkF m 76 #[.val (.ref a1), .val (.long q1), .second, .val (.int p3)] [(.ref a1), (.ref a1)])) _
  obtain ⟨T12, X12, e12, st12⟩ := getF X11 hx hZ hown (host := "") (Or.inl (hw _ (List.mem_of_getElem? (i := 36) rfl))) Via.refl e11 F_count (g := (mkF m 76 #[.val (.ref a1), .val (.long q1), .second, .val (.int p3)] [(.ref a1), (.ref a1)])) rfl rfl (hb hby d4_76)
  refine Rch.go st12 ?_
  show Rch p e below (T12.setTop (mkF m 79 #[.val (.ref a1), .val (.long q1), .second, .val (.int p3)] [(.long cnt), (.ref a1)])) _
  refine Rch.go (fun _ kk_ => XS.iloadN X12.here hx rfl (hb hby d4_79) rfl  kk_) ?_
  show Rch p e below (T12.setTop (mkF m 80 #[.val (.ref a1), .val (.long q1), .second, .val (.int p3)] [(.int p3), (.long cnt), (.ref a1)])) _
  refine Rch.go (fun _ kk_ => XS.i2l X12.here hx rfl (hb hby d4_80) rfl kk_) ?_
  show Rch p e below (T12.setTop (mkF m 81 #[.val (.ref a1), .val (.long q1), .second, .val (.int p3)] [(.long (p3.toInt64)), (.long cnt), (.ref a1)])) _
  refine Rch.go (fun _ kk_ => XS.ladd X12.here hx rfl (hb hby d4_81) rfl kk_) ?_
  show Rch p e below (T12.setTop (mkF m 82 #[.val (.ref a1), .val (.long q1), .second, .val (.int p3)] [(.long (cnt + (p3.toInt64))), (.ref a1)])) _
  obtain ⟨T13, h13, X13, e13, W13, st13⟩ := putF X12 hx hZ hown (host := "") (Or.inl (hw _ (List.mem_of_getElem? (i := 36) rfl))) Via.refl e12 F_count E_a1 (Or.inl (hw _ (List.mem_of_getElem? (i := 37) rfl))) (hw _ (List.mem_of_getElem? (i := 3) rfl)) (ty := .long) (by decide) rfl rfl (g := (mkF m 82 #[.val (.ref a1), .val (.long q1), .second, .val (.int p3)] [(.long (cnt + (p3.toInt64))), (.ref a1)])) rfl rfl (hb hby d4_82)
  have E_a1 := E_a1.wr W13
  have F_times := F_times.other W13 (Or.inr (slot_ne (Or.inr (hw _ (List.mem_of_getElem? (i := 13) rfl))) (Or.inl (hw _ (List.mem_of_getElem? (i := 37) rfl))) (by decide) (t := (.array .long)) (t' := .long) (by decide) (by decide)))
  have F_counts := F_counts.other W13 (Or.inr (slot_ne (Or.inr (hw _ (List.mem_of_getElem? (i := 15) rfl))) (Or.inl (hw _ (List.mem_of_getElem? (i := 37) rfl))) (by decide) (t := (.array .long)) (t' := .long) (by decide) (by decide)))
  have F_spacing := F_spacing.other W13 (Or.inr (slot_ne (Or.inl (hw _ (List.mem_of_getElem? (i := 28) rfl))) (Or.inl (hw _ (List.mem_of_getElem? (i := 37) rfl))) (by decide) (t := .long) (t' := .long) (by decide) (by decide)))
  have F_kept := F_kept.other W13 (Or.inr (slot_ne (Or.inl (hw _ (List.mem_of_getElem? (i := 35) rfl))) (Or.inl (hw _ (List.mem_of_getElem? (i := 37) rfl))) (by decide) (t := .int) (t' := .long) (by decide) (by decide)))
  have V_tm := V_tm.other W13 (Ne.symm ne_a1_tm)
  have V_cn := V_cn.other W13 (Ne.symm ne_a1_cn)
  have K0 := K0.wr W13 (Or.inl (List.mem_of_getElem? (i := 0) rfl))
  have Z0 := Nat.le_trans Z0 (Keep.of_wr W13).1
  have F_count := F_count.same W13
  have N13 := Fr.snoc X13 N11 g_a1
  refine Rch.go st13 ?_
  show Rch p e below (T13.setTop (mkF m 85 #[.val (.ref a1), .val (.long q1), .second, .val (.int p3)] [])) _
  exact Rch.ret X13 hlk (fun _ => rfl) (fun fs hr => X13.returnOut hx hret (hb hby d4_85) hr) (by rw [e13]; exact ⟨rfl, N13, K0, F_times, F_counts, F_spacing, F_kept, F_count, V_tm, V_cn⟩) (by decide) (by decide)
def own_Q_rm4b (Z : State) (a1 tm cn : Addr) (kt kc : ClassId) (q1 cnt t0 c0 : Int64) (p3 : Int32) (h0 : Heap) (n0 : Nat) (v : Option Value) (h : Heap) (L : List Loc) : Prop := v = none ∧ Fr n0 L ∧ Keep h0 h [a1, tm, cn] ∧ Fld Z h a1 "com/example/urchin/urchin/service/Silence$Handover" "times" "[J" (.ref tm) ∧ Fld Z h a1 "com/example/urchin/urchin/service/Silence$Handover" "counts" "[J" (.ref cn) ∧ Fld Z h a1 "com/example/urchin/urchin/service/Silence$Handover" "spacing" "J" (.long (1000000 : Int64)) ∧ Fld Z h a1 "com/example/urchin/urchin/service/Silence$Handover" "kept" "I" (.int (1 : Int32)) ∧ Fld Z h a1 "com/example/urchin/urchin/service/Silence$Handover" "count" "J" (.long (cnt + p3.toInt64)) ∧ Arv Z h tm kt .long (64 : Int32) [(.long t0), (.long (0 : Int64))] (.long (0 : Int64)) ∧ Arv Z h cn kc .long (64 : Int32) [(.long c0), (.long (0 : Int64))] (.long (0 : Int64))
set_option maxRecDepth 65536 in
set_option maxHeartbeats 40000000 in
theorem rm4b (l : Launch) (Z : State) (a0 : Array Value) (hw : ∀ d ∈ tables_1, d.before a0 Z = true) (ws : List Jvm.Cond) (a1 tm cn : Addr) (kt kc : ClassId) (q1 cnt t0 c0 : Int64) (p3 : Int32) (h0 : Heap) (n0 : Nat) (Z0 : n0 ≤ h0.size) (E_a1 : Exa Z h0 a1 "com/example/urchin/urchin/service/Silence$Handover") (g_a1 : n0 ≤ a1) (g_tm : n0 ≤ tm) (g_cn : n0 ≤ cn) (ne_a1_tm : a1 ≠ tm) (ne_a1_cn : a1 ≠ cn) (ne_tm_cn : tm ≠ cn) (F_times : Fld Z h0 a1 "com/example/urchin/urchin/service/Silence$Handover" "times" "[J" (.ref tm)) (F_counts : Fld Z h0 a1 "com/example/urchin/urchin/service/Silence$Handover" "counts" "[J" (.ref cn)) (F_spacing : Fld Z h0 a1 "com/example/urchin/urchin/service/Silence$Handover" "spacing" "J" (.long (1000000 : Int64))) (F_kept : Fld Z h0 a1 "com/example/urchin/urchin/service/Silence$Handover" "kept" "I" (.int (1 : Int32))) (F_count : Fld Z h0 a1 "com/example/urchin/urchin/service/Silence$Handover" "count" "J" (.long cnt)) (V_tm : Arv Z h0 tm kt .long (64 : Int32) [(.long t0), (.long (0 : Int64))] (.long (0 : Int64))) (V_cn : Arv Z h0 cn kc .long (64 : Int32) [(.long c0), (.long (0 : Int64))] (.long (0 : Int64))) (hsp : (q1 - t0) < (1000000 : Int64)) :
    MetFree l (⟨"com/example/urchin/urchin/service/Silence$Handover", "handed", "(JI)V"⟩ : MethodName) (head1 (Jvm.Cond.code (⟨"com/example/urchin/urchin/service/Silence$Handover", "handed", "(JI)V"⟩ : MethodName) prog_25_method_2_code 4 none :: ws) ({ frames := 0, cells := 0, slots := 0, locals := 0 } : Room)) (fun a U => a = #[(.ref a1), (.long q1), (.int p3)] ∧ Z.Warmed39 U.vm ∧ U.heap = h0) (fun _ _ _ _ _ => True) (fun _ U o U' => ∃ v L, o = .returned v ∧ own_Q_rm4b Z a1 tm cn kt kc q1 cnt t0 c0 p3 h0 n0 v U'.heap L ∧ FrameEnd U o U' L ({ frames := 0, cells := 0, slots := 0, locals := 0 } : Room).cells ({ frames := 0, cells := 0, slots := 0, locals := 0 } : Room).slots) := by
  refine own_body (Q := (own_Q_rm4b Z a1 tm cn kt kc q1 cnt t0 c0 p3 h0 n0)) pn_4 ?_
  intro p e s m below meth c s₁ X0 hx hby hml hown hnm hret hlk hZ e0
  have N0 := Fr.nil n0
  refine Rch.go (fun tt_ kk_ => castTop (ef_4 m a1 q1 p3) kk_) ?_
  have K0 := Keep.refl h0 [a1, tm, cn]
  show Rch p e below (s₁.setTop (mkF m 0 #[.val (.ref a1), .val (.long q1), .second, .val (.int p3)] [])) _
  refine Rch.go (fun _ kk_ => XS.aloadN X0.here hx rfl (hb hby d4_0) rfl rfl kk_) ?_
  show Rch p e below (s₁.setTop (mkF m 1 #[.val (.ref a1), .val (.long q1), .second, .val (.int p3)] [(.ref a1)])) _
  obtain ⟨T1, X1, e1, st1⟩ := getF X0 hx hZ hown (host := "") (Or.inl (hw _ (List.mem_of_getElem? (i := 34) rfl))) Via.refl e0 F_kept (g := (mkF m 1 #[.val (.ref a1), .val (.long q1), .second, .val (.int p3)] [(.ref a1)])) rfl rfl (hb hby d4_1)
  refine Rch.go st1 ?_
  show Rch p e below (T1.setTop (mkF m 4 #[.val (.ref a1), .val (.long q1), .second, .val (.int p3)] [(.int (1 : Int32))])) _
  refine Rch.go (fun _ kk_ => XS.ifNo X1.here hx rfl (hb hby d4_4) rfl ((if0 _ _).trans (feq (by decide)).1) kk_) ?_
  show Rch p e below (T1.setTop (mkF m 7 #[.val (.ref a1), .val (.long q1), .second, .val (.int p3)] [])) _
  refine Rch.go (fun _ kk_ => XS.lloadN X1.here hx rfl (hb hby d4_7) rfl  kk_) ?_
  show Rch p e below (T1.setTop (mkF m 8 #[.val (.ref a1), .val (.long q1), .second, .val (.int p3)] [(.long q1)])) _
  refine Rch.go (fun _ kk_ => XS.aloadN X1.here hx rfl (hb hby d4_8) rfl rfl kk_) ?_
  show Rch p e below (T1.setTop (mkF m 9 #[.val (.ref a1), .val (.long q1), .second, .val (.int p3)] [(.ref a1), (.long q1)])) _
  obtain ⟨T2, X2, e2, st2⟩ := getF X1 hx hZ hown (host := "") (Or.inl (hw _ (List.mem_of_getElem? (i := 12) rfl))) Via.refl e1 F_times (g := (mkF m 9 #[.val (.ref a1), .val (.long q1), .second, .val (.int p3)] [(.ref a1), (.long q1)])) rfl rfl (hb hby d4_9)
  refine Rch.go st2 ?_
  show Rch p e below (T2.setTop (mkF m 12 #[.val (.ref a1), .val (.long q1), .second, .val (.int p3)] [(.ref tm), (.long q1)])) _
  refine Rch.go (fun _ kk_ => XS.aloadN X2.here hx rfl (hb hby d4_12) rfl rfl kk_) ?_
  show Rch p e below (T2.setTop (mkF m 13 #[.val (.ref a1), .val (.long q1), .second, .val (.int p3)] [(.ref a1), (.ref tm), (.long q1)])) _
  obtain ⟨T3, X3, e3, st3⟩ := getF X2 hx hZ hown (host := "") (Or.inl (hw _ (List.mem_of_getElem? (i := 34) rfl))) Via.refl e2 F_kept (g := (mkF m 13 #[.val (.ref a1), .val (.long q1), .second, .val (.int p3)] [(.ref a1), (.ref tm), (.long q1)])) rfl rfl (hb hby d4_13)
  refine Rch.go st3 ?_
  show Rch p e below (T3.setTop (mkF m 16 #[.val (.ref a1), .val (.long q1), .second, .val (.int p3)] [(.int (1 : Int32)), (.ref tm), (.long q1)])) _
  refine Rch.go (fun _ kk_ => XS.iconst X3.here hx rfl (hb hby d4_16) kk_) ?_
  show Rch p e below (T3.setTop (mkF m 17 #[.val (.ref a1), .val (.long q1), .second, .val (.int p3)] [(.int (1 : Int32)), (.int (1 : Int32)), (.ref tm), (.long q1)])) _
  refine Rch.go (fun _ kk_ => XS.isub X3.here hx rfl (hb hby d4_17) rfl kk_) ?_
  show Rch p e below (T3.setTop (mkF m 18 #[.val (.ref a1), .val (.long q1), .second, .val (.int p3)] [(.int ((1 : Int32) - (1 : Int32))), (.ref tm), (.long q1)])) _
  rw [(show ((1 : Int32) - (1 : Int32)) = (0 : Int32) from by decide)]
  show Rch p e below (T3.setTop (mkF m 18 #[.val (.ref a1), .val (.long q1), .second, .val (.int p3)] [(.int (0 : Int32)), (.ref tm), (.long q1)])) _
  obtain ⟨cl4, Ar4, q4, S4, M4, H4, G4⟩ := id V_tm
  refine Rch.go (X3.laload hx (j := (0 : Int32)) (v := (.long t0)) (by rw [e3]; exact Ar4.1) (State.isArrayOf_alike hZ.alike Ar4.2.1) Ar4.2.2 (inb_of S4 ⟨by decide, by decide⟩) (Has.at H4 (inb_of S4 ⟨by decide, by decide⟩) rfl) (g := (mkF m 18 #[.val (.ref a1), .val (.long q1), .second, .val (.int p3)] [(.int (0 : Int32)), (.ref tm), (.long q1)])) rfl rfl (hb hby d4_18)) ?_
  show Rch p e below (T3.setTop (mkF m 19 #[.val (.ref a1), .val (.long q1), .second, .val (.int p3)] [(.long t0), (.long q1)])) _
  refine Rch.go (fun _ kk_ => XS.lsub X3.here hx rfl (hb hby d4_19) rfl kk_) ?_
  show Rch p e below (T3.setTop (mkF m 20 #[.val (.ref a1), .val (.long q1), .second, .val (.int p3)] [(.long (q1 - t0))])) _
  refine Rch.go (fun _ kk_ => XS.aloadN X3.here hx rfl (hb hby d4_20) rfl rfl kk_) ?_
  show Rch p e below (T3.setTop (mkF m 21 #[.val (.ref a1), .val (.long q1), .second, .val (.int p3)] [(.ref a1), (.long (q1 - t0))])) _
  obtain ⟨T5, X5, e5, st5⟩ := getF X3 hx hZ hown (host := "") (Or.inl (hw _ (List.mem_of_getElem? (i := 27) rfl))) Via.refl e3 F_spacing (g := (mkF m 21 #[.val (.ref a1), .val (.long q1), .second, .val (.int p3)] [(.ref a1), (.long (q1 - t0))])) rfl rfl (hb hby d4_21)
  refine Rch.go st5 ?_
  show Rch p e below (T5.setTop (mkF m 24 #[.val (.ref a1), .val (.long q1), .second, .val (.int p3)] [(.long (1000000 : Int64)), (.long (q1 - t0))])) _
  refine Rch.go (fun _ kk_ => XS.lcmp X5.here hx rfl (hb hby d4_24) rfl kk_) ?_
  show Rch p e below (T5.setTop (mkF m 25 #[.val (.ref a1), .val (.long q1), .second, .val (.int p3)] [(.int (lcmpW (q1 - t0) (1000000 : Int64)))])) _
  refine Rch.go (fun _ kk_ => XS.ifYes X5.here hx rfl (pc0 := 25) (pc' := 74) rfl (hb hby d4_25) rfl ((if0 _ _).trans (tlt ((lw_lt _ _).mpr hsp)).1) (by decide) (by decide) kk_) ?_
  show Rch p e below (T5.setTop (mkF m 74 #[.val (.ref a1), .val (.long q1), .second, .val (.int p3)] [])) _
  refine Rch.go (fun _ kk_ => XS.aloadN X5.here hx rfl (hb hby d4_74) rfl rfl kk_) ?_
  show Rch p e below (T5.setTop (mkF m 75 #[.val (.ref a1), .val (.long q1), .second, .val (.int p3)] [(.ref a1)])) _
  refine Rch.go (fun _ kk_ => XS.dup X5.here hx rfl (hb hby d4_75) rfl rfl kk_) ?_
  show Rch p e below (T5.setTop (mkF m 76 #[.val (.ref a1), .val (.long q1), .second, .val (.int p3)] [(.ref a1), (.ref a1)])) _
  obtain ⟨T6, X6, e6, st6⟩ := getF X5 hx hZ hown (host := "") (Or.inl (hw _ (List.mem_of_getElem? (i := 36) rfl))) Via.refl e5 F_count (g := (mkF m 76 #[.val (.ref a1), .val (.long q1), .second, .val (.int p3)] [(.ref a1), (.ref a1)])) rfl rfl (hb hby d4_76)
  refine Rch.go st6 ?_
  show Rch p e below (T6.setTop (mkF m 79 #[.val (.ref a1), .val (.long q1), .second, .val (.int p3)] [(.long cnt), (.ref a1)])) _
  refine Rch.go (fun _ kk_ => XS.iloadN X6.here hx rfl (hb hby d4_79) rfl  kk_) ?_
  show Rch p e below (T6.setTop (mkF m 80 #[.val (.ref a1), .val (.long q1), .second, .val (.int p3)] [(.int p3), (.long cnt), (.ref a1)])) _
  refine Rch.go (fun _ kk_ => XS.i2l X6.here hx rfl (hb hby d4_80) rfl kk_) ?_
  show Rch p e below (T6.setTop (mkF m 81 #[.val (.ref a1), .val (.long q1), .second, .val (.int p3)] [(.long (p3.toInt64)), (.long cnt), (.ref a1)])) _
  refine Rch.go (fun _ kk_ => XS.ladd X6.here hx rfl (hb hby d4_81) rfl kk_) ?_
  show Rch p e below (T6.setTop (mkF m 82 #[.val (.ref a1), .val (.long q1), .second, .val (.int p3)] [(.long (cnt + (p3.toInt64))), (.ref a1)])) _
  obtain ⟨T7, h7, X7, e7, W7, st7⟩ := putF X6 hx hZ hown (host := "") (Or.inl (hw _ (List.mem_of_getElem? (i := 36) rfl))) Via.refl e6 F_count E_a1 (Or.inl (hw _ (List.mem_of_getElem? (i := 37) rfl))) (hw _ (List.mem_of_getElem? (i := 3) rfl)) (ty := .long) (by decide) rfl rfl (g := (mkF m 82 #[.val (.ref a1), .val (.long q1), .second, .val (.int p3)] [(.long (cnt + (p3.toInt64))), (.ref a1)])) rfl rfl (hb hby d4_82)
  have E_a1 := E_a1.wr W7
  have F_times := F_times.other W7 (Or.inr (slot_ne (Or.inr (hw _ (List.mem_of_getElem? (i := 13) rfl))) (Or.inl (hw _ (List.mem_of_getElem? (i := 37) rfl))) (by decide) (t := (.array .long)) (t' := .long) (by decide) (by decide)))
  have F_counts := F_counts.other W7 (Or.inr (slot_ne (Or.inr (hw _ (List.mem_of_getElem? (i := 15) rfl))) (Or.inl (hw _ (List.mem_of_getElem? (i := 37) rfl))) (by decide) (t := (.array .long)) (t' := .long) (by decide) (by decide)))
  have F_spacing := F_spacing.other W7 (Or.inr (slot_ne (Or.inl (hw _ (List.mem_of_getElem? (i := 28) rfl))) (Or.inl (hw _ (List.mem_of_getElem? (i := 37) rfl))) (by decide) (t := .long) (t' := .long) (by decide) (by decide)))
  have F_kept := F_kept.other W7 (Or.inr (slot_ne (Or.inl (hw _ (List.mem_of_getElem? (i := 35) rfl))) (Or.inl (hw _ (List.mem_of_getElem? (i := 37) rfl))) (by decide) (t := .int) (t' := .long) (by decide) (by decide)))
  have V_tm := V_tm.other W7 (Ne.symm ne_a1_tm)
  have V_cn := V_cn.other W7 (Ne.symm ne_a1_cn)
  have K0 := K0.wr W7 (Or.inl (List.mem_of_getElem? (i := 0) rfl))
  have Z0 := Nat.le_trans Z0 (Keep.of_wr W7).1
  have F_count := F_count.same W7
  have N7 := Fr.snoc X7 N0 g_a1
  refine Rch.go st7 ?_
  show Rch p e below (T7.setTop (mkF m 85 #[.val (.ref a1), .val (.long q1), .second, .val (.int p3)] [])) _
  exact Rch.ret X7 hlk (fun _ => rfl) (fun fs hr => X7.returnOut hx hret (hb hby d4_85) hr) (by rw [e7]; exact ⟨rfl, N7, K0, F_times, F_counts, F_spacing, F_kept, F_count, V_tm, V_cn⟩) (by decide) (by decide)
def own_Q_rm4c (Z : State) (a1 tm cn : Addr) (kt kc : ClassId) (q1 cnt t0 c0 : Int64) (p3 : Int32) (h0 : Heap) (n0 : Nat) (v : Option Value) (h : Heap) (L : List Loc) : Prop := v = none ∧ Fr n0 L ∧ Keep h0 h [a1, tm, cn] ∧ Fld Z h a1 "com/example/urchin/urchin/service/Silence$Handover" "times" "[J" (.ref tm) ∧ Fld Z h a1 "com/example/urchin/urchin/service/Silence$Handover" "counts" "[J" (.ref cn) ∧ Fld Z h a1 "com/example/urchin/urchin/service/Silence$Handover" "spacing" "J" (.long (1000000 : Int64)) ∧ Fld Z h a1 "com/example/urchin/urchin/service/Silence$Handover" "kept" "I" (.int (2 : Int32)) ∧ Fld Z h a1 "com/example/urchin/urchin/service/Silence$Handover" "count" "J" (.long (cnt + p3.toInt64)) ∧ Arv Z h tm kt .long (64 : Int32) [(.long t0), (.long q1)] (.long (0 : Int64)) ∧ Arv Z h cn kc .long (64 : Int32) [(.long c0), (.long cnt)] (.long (0 : Int64))
set_option maxRecDepth 65536 in
set_option maxHeartbeats 40000000 in
theorem rm4c (l : Launch) (Z : State) (a0 : Array Value) (hw : ∀ d ∈ tables_1, d.before a0 Z = true) (ws : List Jvm.Cond) (a1 tm cn : Addr) (kt kc : ClassId) (q1 cnt t0 c0 : Int64) (p3 : Int32) (h0 : Heap) (n0 : Nat) (Z0 : n0 ≤ h0.size) (E_a1 : Exa Z h0 a1 "com/example/urchin/urchin/service/Silence$Handover") (g_a1 : n0 ≤ a1) (g_tm : n0 ≤ tm) (g_cn : n0 ≤ cn) (ne_a1_tm : a1 ≠ tm) (ne_a1_cn : a1 ≠ cn) (ne_tm_cn : tm ≠ cn) (F_times : Fld Z h0 a1 "com/example/urchin/urchin/service/Silence$Handover" "times" "[J" (.ref tm)) (F_counts : Fld Z h0 a1 "com/example/urchin/urchin/service/Silence$Handover" "counts" "[J" (.ref cn)) (F_spacing : Fld Z h0 a1 "com/example/urchin/urchin/service/Silence$Handover" "spacing" "J" (.long (1000000 : Int64))) (F_kept : Fld Z h0 a1 "com/example/urchin/urchin/service/Silence$Handover" "kept" "I" (.int (1 : Int32))) (F_count : Fld Z h0 a1 "com/example/urchin/urchin/service/Silence$Handover" "count" "J" (.long cnt)) (V_tm : Arv Z h0 tm kt .long (64 : Int32) [(.long t0), (.long (0 : Int64))] (.long (0 : Int64))) (V_cn : Arv Z h0 cn kc .long (64 : Int32) [(.long c0), (.long (0 : Int64))] (.long (0 : Int64))) (hsp : ¬ (q1 - t0) < (1000000 : Int64)) :
    MetFree l (⟨"com/example/urchin/urchin/service/Silence$Handover", "handed", "(JI)V"⟩ : MethodName) (head1 (Jvm.Cond.code (⟨"com/example/urchin/urchin/service/Silence$Handover", "handed", "(JI)V"⟩ : MethodName) prog_25_method_2_code 4 none :: ws) ({ frames := 0, cells := 0, slots := 0, locals := 0 } : Room)) (fun a U => a = #[(.ref a1), (.long q1), (.int p3)] ∧ Z.Warmed39 U.vm ∧ U.heap = h0) (fun _ _ _ _ _ => True) (fun _ U o U' => ∃ v L, o = .returned v ∧ own_Q_rm4c Z a1 tm cn kt kc q1 cnt t0 c0 p3 h0 n0 v U'.heap L ∧ FrameEnd U o U' L ({ frames := 0, cells := 0, slots := 0, locals := 0 } : Room).cells ({ frames := 0, cells := 0, slots := 0, locals := 0 } : Room).slots) := by
  refine own_body (Q := (own_Q_rm4c Z a1 tm cn kt kc q1 cnt t0 c0 p3 h0 n0)) pn_4 ?_
  intro p e s m below meth c s₁ X0 hx hby hml hown hnm hret hlk hZ e0
  have N0 := Fr.nil n0
  refine Rch.go (fun tt_ kk_ => castTop (ef_4 m a1 q1 p3) kk_) ?_
  have K0 := Keep.refl h0 [a1, tm, cn]
  show Rch p e below (s₁.setTop (mkF m 0 #[.val (.ref a1), .val (.long q1), .second, .val (.int p3)] [])) _
  refine Rch.go (fun _ kk_ => XS.aloadN X0.here hx rfl (hb hby d4_0) rfl rfl kk_) ?_
  show Rch p e below (s₁.setTop (mkF m 1 #[.val (.ref a1), .val (.long q1), .second, .val (.int p3)] [(.ref a1)])) _
  obtain ⟨T1, X1, e1, st1⟩ := getF X0 hx hZ hown (host := "") (Or.inl (hw _ (List.mem_of_getElem? (i := 34) rfl))) Via.refl e0 F_kept (g := (mkF m 1 #[.val (.ref a1), .val (.long q1), .second, .val (.int p3)] [(.ref a1)])) rfl rfl (hb hby d4_1)
  refine Rch.go st1 ?_
  show Rch p e below (T1.setTop (mkF m 4 #[.val (.ref a1), .val (.long q1), .second, .val (.int p3)] [(.int (1 : Int32))])) _
  refine Rch.go (fun _ kk_ => XS.ifNo X1.here hx rfl (hb hby d4_4) rfl ((if0 _ _).trans (feq (by decide)).1) kk_) ?_
  show Rch p e below (T1.setTop (mkF m 7 #[.val (.ref a1), .val (.long q1), .second, .val (.int p3)] [])) _
  refine Rch.go (fun _ kk_ => XS.lloadN X1.here hx rfl (hb hby d4_7) rfl  kk_) ?_
  show Rch p e below (T1.setTop (mkF m 8 #[.val (.ref a1), .val (.long q1), .second, .val (.int p3)] [(.long q1)])) _
  refine Rch.go (fun _ kk_ => XS.aloadN X1.here hx rfl (hb hby d4_8) rfl rfl kk_) ?_
  show Rch p e below (T1.setTop (mkF m 9 #[.val (.ref a1), .val (.long q1), .second, .val (.int p3)] [(.ref a1), (.long q1)])) _
  obtain ⟨T2, X2, e2, st2⟩ := getF X1 hx hZ hown (host := "") (Or.inl (hw _ (List.mem_of_getElem? (i := 12) rfl))) Via.refl e1 F_times (g := (mkF m 9 #[.val (.ref a1), .val (.long q1), .second, .val (.int p3)] [(.ref a1), (.long q1)])) rfl rfl (hb hby d4_9)
  refine Rch.go st2 ?_
  show Rch p e below (T2.setTop (mkF m 12 #[.val (.ref a1), .val (.long q1), .second, .val (.int p3)] [(.ref tm), (.long q1)])) _
  refine Rch.go (fun _ kk_ => XS.aloadN X2.here hx rfl (hb hby d4_12) rfl rfl kk_) ?_
  show Rch p e below (T2.setTop (mkF m 13 #[.val (.ref a1), .val (.long q1), .second, .val (.int p3)] [(.ref a1), (.ref tm), (.long q1)])) _
  obtain ⟨T3, X3, e3, st3⟩ := getF X2 hx hZ hown (host := "") (Or.inl (hw _ (List.mem_of_getElem? (i := 34) rfl))) Via.refl e2 F_kept (g := (mkF m 13 #[.val (.ref a1), .val (.long q1), .second, .val (.int p3)] [(.ref a1), (.ref tm), (.long q1)])) rfl rfl (hb hby d4_13)
  refine Rch.go st3 ?_
  show Rch p e below (T3.setTop (mkF m 16 #[.val (.ref a1), .val (.long q1), .second, .val (.int p3)] [(.int (1 : Int32)), (.ref tm), (.long q1)])) _
  refine Rch.go (fun _ kk_ => XS.iconst X3.here hx rfl (hb hby d4_16) kk_) ?_
  show Rch p e below (T3.setTop (mkF m 17 #[.val (.ref a1), .val (.long q1), .second, .val (.int p3)] [(.int (1 : Int32)), (.int (1 : Int32)), (.ref tm), (.long q1)])) _
  refine Rch.go (fun _ kk_ => XS.isub X3.here hx rfl (hb hby d4_17) rfl kk_) ?_
  show Rch p e below (T3.setTop (mkF m 18 #[.val (.ref a1), .val (.long q1), .second, .val (.int p3)] [(.int ((1 : Int32) - (1 : Int32))), (.ref tm), (.long q1)])) _
  rw [(show ((1 : Int32) - (1 : Int32)) = (0 : Int32) from by decide)]
  show Rch p e below (T3.setTop (mkF m 18 #[.val (.ref a1), .val (.long q1), .second, .val (.int p3)] [(.int (0 : Int32)), (.ref tm), (.long q1)])) _
  obtain ⟨cl4, Ar4, q4, S4, M4, H4, G4⟩ := id V_tm
  refine Rch.go (X3.laload hx (j := (0 : Int32)) (v := (.long t0)) (by rw [e3]; exact Ar4.1) (State.isArrayOf_alike hZ.alike Ar4.2.1) Ar4.2.2 (inb_of S4 ⟨by decide, by decide⟩) (Has.at H4 (inb_of S4 ⟨by decide, by decide⟩) rfl) (g := (mkF m 18 #[.val (.ref a1), .val (.long q1), .second, .val (.int p3)] [(.int (0 : Int32)), (.ref tm), (.long q1)])) rfl rfl (hb hby d4_18)) ?_
  show Rch p e below (T3.setTop (mkF m 19 #[.val (.ref a1), .val (.long q1), .second, .val (.int p3)] [(.long t0), (.long q1)])) _
  refine Rch.go (fun _ kk_ => XS.lsub X3.here hx rfl (hb hby d4_19) rfl kk_) ?_
  show Rch p e below (T3.setTop (mkF m 20 #[.val (.ref a1), .val (.long q1), .second, .val (.int p3)] [(.long (q1 - t0))])) _
  refine Rch.go (fun _ kk_ => XS.aloadN X3.here hx rfl (hb hby d4_20) rfl rfl kk_) ?_
  show Rch p e below (T3.setTop (mkF m 21 #[.val (.ref a1), .val (.long q1), .second, .val (.int p3)] [(.ref a1), (.long (q1 - t0))])) _
  obtain ⟨T5, X5, e5, st5⟩ := getF X3 hx hZ hown (host := "") (Or.inl (hw _ (List.mem_of_getElem? (i := 27) rfl))) Via.refl e3 F_spacing (g := (mkF m 21 #[.val (.ref a1), .val (.long q1), .second, .val (.int p3)] [(.ref a1), (.long (q1 - t0))])) rfl rfl (hb hby d4_21)
  refine Rch.go st5 ?_
  show Rch p e below (T5.setTop (mkF m 24 #[.val (.ref a1), .val (.long q1), .second, .val (.int p3)] [(.long (1000000 : Int64)), (.long (q1 - t0))])) _
  refine Rch.go (fun _ kk_ => XS.lcmp X5.here hx rfl (hb hby d4_24) rfl kk_) ?_
  show Rch p e below (T5.setTop (mkF m 25 #[.val (.ref a1), .val (.long q1), .second, .val (.int p3)] [(.int (lcmpW (q1 - t0) (1000000 : Int64)))])) _
  refine Rch.go (fun _ kk_ => XS.ifNo X5.here hx rfl (hb hby d4_25) rfl ((if0 _ _).trans (flt (fun q => hsp ((lw_lt _ _).mp q))).1) kk_) ?_
  show Rch p e below (T5.setTop (mkF m 28 #[.val (.ref a1), .val (.long q1), .second, .val (.int p3)] [])) _
  refine Rch.go (fun _ kk_ => XS.aloadN X5.here hx rfl (hb hby d4_28) rfl rfl kk_) ?_
  show Rch p e below (T5.setTop (mkF m 29 #[.val (.ref a1), .val (.long q1), .second, .val (.int p3)] [(.ref a1)])) _
  obtain ⟨T6, X6, e6, st6⟩ := getF X5 hx hZ hown (host := "") (Or.inl (hw _ (List.mem_of_getElem? (i := 34) rfl))) Via.refl e5 F_kept (g := (mkF m 29 #[.val (.ref a1), .val (.long q1), .second, .val (.int p3)] [(.ref a1)])) rfl rfl (hb hby d4_29)
  refine Rch.go st6 ?_
  show Rch p e below (T6.setTop (mkF m 32 #[.val (.ref a1), .val (.long q1), .second, .val (.int p3)] [(.int (1 : Int32))])) _
  refine Rch.go (fun _ kk_ => XS.bipush X6.here hx rfl (hb hby d4_32) kk_) ?_
  show Rch p e below (T6.setTop (mkF m 34 #[.val (.ref a1), .val (.long q1), .second, .val (.int p3)] [(.int (64 : Int32)), (.int (1 : Int32))])) _
  refine Rch.go (fun _ kk_ => XS.icmpYes X6.here hx rfl (pc0 := 34) (pc' := 41) rfl (hb hby d4_34) rfl (feq (by decide)).2 (by decide) (by decide) kk_) ?_
  show Rch p e below (T6.setTop (mkF m 41 #[.val (.ref a1), .val (.long q1), .second, .val (.int p3)] [])) _
  refine Rch.go (fun _ kk_ => XS.aloadN X6.here hx rfl (hb hby d4_41) rfl rfl kk_) ?_
  show Rch p e below (T6.setTop (mkF m 42 #[.val (.ref a1), .val (.long q1), .second, .val (.int p3)] [(.ref a1)])) _
  obtain ⟨T7, X7, e7, st7⟩ := getF X6 hx hZ hown (host := "") (Or.inl (hw _ (List.mem_of_getElem? (i := 12) rfl))) Via.refl e6 F_times (g := (mkF m 42 #[.val (.ref a1), .val (.long q1), .second, .val (.int p3)] [(.ref a1)])) rfl rfl (hb hby d4_42)
  refine Rch.go st7 ?_
  show Rch p e below (T7.setTop (mkF m 45 #[.val (.ref a1), .val (.long q1), .second, .val (.int p3)] [(.ref tm)])) _
  refine Rch.go (fun _ kk_ => XS.aloadN X7.here hx rfl (hb hby d4_45) rfl rfl kk_) ?_
  show Rch p e below (T7.setTop (mkF m 46 #[.val (.ref a1), .val (.long q1), .second, .val (.int p3)] [(.ref a1), (.ref tm)])) _
  obtain ⟨T8, X8, e8, st8⟩ := getF X7 hx hZ hown (host := "") (Or.inl (hw _ (List.mem_of_getElem? (i := 34) rfl))) Via.refl e7 F_kept (g := (mkF m 46 #[.val (.ref a1), .val (.long q1), .second, .val (.int p3)] [(.ref a1), (.ref tm)])) rfl rfl (hb hby d4_46)
  refine Rch.go st8 ?_
  show Rch p e below (T8.setTop (mkF m 49 #[.val (.ref a1), .val (.long q1), .second, .val (.int p3)] [(.int (1 : Int32)), (.ref tm)])) _
  refine Rch.go (fun _ kk_ => XS.lloadN X8.here hx rfl (hb hby d4_49) rfl  kk_) ?_
  show Rch p e below (T8.setTop (mkF m 50 #[.val (.ref a1), .val (.long q1), .second, .val (.int p3)] [(.long q1), (.int (1 : Int32)), (.ref tm)])) _
  obtain ⟨cl9, Ar9, q9, S9, M9, H9, G9⟩ := id V_tm
  obtain ⟨T9, h9, X9, e9, W9, st9⟩ := stJ X8 hx hZ e8 Ar9 (j := (1 : Int32)) (inb_of S9 ⟨by decide, by decide⟩) (g := (mkF m 50 #[.val (.ref a1), .val (.long q1), .second, .val (.int p3)] [(.long q1), (.int (1 : Int32)), (.ref tm)])) rfl rfl (hb hby d4_50)
  have V_tm : Arv Z h9 tm kt .long (64 : Int32) [(.long t0), (.long q1)] (.long (0 : Int64)) := Arv.set Ar9 q9 S9 M9 H9 G9 rfl W9 1 rfl (Nat.le_of_ble_eq_true rfl)
  have E_a1 := E_a1.wr W9
  have F_times := F_times.other W9 (Or.inl ne_a1_tm)
  have F_counts := F_counts.other W9 (Or.inl ne_a1_tm)
  have F_spacing := F_spacing.other W9 (Or.inl ne_a1_tm)
  have F_kept := F_kept.other W9 (Or.inl ne_a1_tm)
  have F_count := F_count.other W9 (Or.inl ne_a1_tm)
  have V_cn := V_cn.other W9 (Ne.symm ne_tm_cn)
  have K0 := K0.wr W9 (Or.inl (List.mem_of_getElem? (i := 1) rfl))
  have Z0 := Nat.le_trans Z0 (Keep.of_wr W9).1
  have N9 := Fr.snoc X9 N0 g_tm
  refine Rch.go st9 ?_
  show Rch p e below (T9.setTop (mkF m 51 #[.val (.ref a1), .val (.long q1), .second, .val (.int p3)] [])) _
  refine Rch.go (fun _ kk_ => XS.aloadN X9.here hx rfl (hb hby d4_51) rfl rfl kk_) ?_
  show Rch p e below (T9.setTop (mkF m 52 #[.val (.ref a1), .val (.long q1), .second, .val (.int p3)] [(.ref a1)])) _
  obtain ⟨T10, X10, e10, st10⟩ := getF X9 hx hZ hown (host := "") (Or.inl (hw _ (List.mem_of_getElem? (i := 14) rfl))) Via.refl e9 F_counts (g := (mkF m 52 #[.val (.ref a1), .val (.long q1), .second, .val (.int p3)] [(.ref a1)])) rfl rfl (hb hby d4_52)
  refine Rch.go st10 ?_
  show Rch p e below (T10.setTop (mkF m 55 #[.val (.ref a1), .val (.long q1), .second, .val (.int p3)] [(.ref cn)])) _
  refine Rch.go (fun _ kk_ => XS.aloadN X10.here hx rfl (hb hby d4_55) rfl rfl kk_) ?_
  show Rch p e below (T10.setTop (mkF m 56 #[.val (.ref a1), .val (.long q1), .second, .val (.int p3)] [(.ref a1), (.ref cn)])) _
  obtain ⟨T11, X11, e11, st11⟩ := getF X10 hx hZ hown (host := "") (Or.inl (hw _ (List.mem_of_getElem? (i := 34) rfl))) Via.refl e10 F_kept (g := (mkF m 56 #[.val (.ref a1), .val (.long q1), .second, .val (.int p3)] [(.ref a1), (.ref cn)])) rfl rfl (hb hby d4_56)
  refine Rch.go st11 ?_
  show Rch p e below (T11.setTop (mkF m 59 #[.val (.ref a1), .val (.long q1), .second, .val (.int p3)] [(.int (1 : Int32)), (.ref cn)])) _
  refine Rch.go (fun _ kk_ => XS.aloadN X11.here hx rfl (hb hby d4_59) rfl rfl kk_) ?_
  show Rch p e below (T11.setTop (mkF m 60 #[.val (.ref a1), .val (.long q1), .second, .val (.int p3)] [(.ref a1), (.int (1 : Int32)), (.ref cn)])) _
  obtain ⟨T12, X12, e12, st12⟩ := getF X11 hx hZ hown (host := "") (Or.inl (hw _ (List.mem_of_getElem? (i := 36) rfl))) Via.refl e11 F_count (g := (mkF m 60 #[.val (.ref a1), .val (.long q1), .second, .val (.int p3)] [(.ref a1), (.int (1 : Int32)), (.ref cn)])) rfl rfl (hb hby d4_60)
  refine Rch.go st12 ?_
  show Rch p e below (T12.setTop (mkF m 63 #[.val (.ref a1), .val (.long q1), .second, .val (.int p3)] [(.long cnt), (.int (1 : Int32)), (.ref cn)])) _
  obtain ⟨cl13, Ar13, q13, S13, M13, H13, G13⟩ := id V_cn
  obtain ⟨T13, h13, X13, e13, W13, st13⟩ := stJ X12 hx hZ e12 Ar13 (j := (1 : Int32)) (inb_of S13 ⟨by decide, by decide⟩) (g := (mkF m 63 #[.val (.ref a1), .val (.long q1), .second, .val (.int p3)] [(.long cnt), (.int (1 : Int32)), (.ref cn)])) rfl rfl (hb hby d4_63)
  have V_cn : Arv Z h13 cn kc .long (64 : Int32) [(.long c0), (.long cnt)] (.long (0 : Int64)) := Arv.set Ar13 q13 S13 M13 H13 G13 rfl W13 1 rfl (Nat.le_of_ble_eq_true rfl)
  have E_a1 := E_a1.wr W13
  have F_times := F_times.other W13 (Or.inl ne_a1_cn)
  have F_counts := F_counts.other W13 (Or.inl ne_a1_cn)
  have F_spacing := F_spacing.other W13 (Or.inl ne_a1_cn)
  have F_kept := F_kept.other W13 (Or.inl ne_a1_cn)
  have F_count := F_count.other W13 (Or.inl ne_a1_cn)
  have V_tm := V_tm.other W13 ne_tm_cn
  have K0 := K0.wr W13 (Or.inl (List.mem_of_getElem? (i := 2) rfl))
  have Z0 := Nat.le_trans Z0 (Keep.of_wr W13).1
  have N13 := Fr.snoc X13 N9 g_cn
  refine Rch.go st13 ?_
  show Rch p e below (T13.setTop (mkF m 64 #[.val (.ref a1), .val (.long q1), .second, .val (.int p3)] [])) _
  refine Rch.go (fun _ kk_ => XS.aloadN X13.here hx rfl (hb hby d4_64) rfl rfl kk_) ?_
  show Rch p e below (T13.setTop (mkF m 65 #[.val (.ref a1), .val (.long q1), .second, .val (.int p3)] [(.ref a1)])) _
  refine Rch.go (fun _ kk_ => XS.dup X13.here hx rfl (hb hby d4_65) rfl rfl kk_) ?_
  show Rch p e below (T13.setTop (mkF m 66 #[.val (.ref a1), .val (.long q1), .second, .val (.int p3)] [(.ref a1), (.ref a1)])) _
  obtain ⟨T14, X14, e14, st14⟩ := getF X13 hx hZ hown (host := "") (Or.inl (hw _ (List.mem_of_getElem? (i := 34) rfl))) Via.refl e13 F_kept (g := (mkF m 66 #[.val (.ref a1), .val (.long q1), .second, .val (.int p3)] [(.ref a1), (.ref a1)])) rfl rfl (hb hby d4_66)
  refine Rch.go st14 ?_
  show Rch p e below (T14.setTop (mkF m 69 #[.val (.ref a1), .val (.long q1), .second, .val (.int p3)] [(.int (1 : Int32)), (.ref a1)])) _
  refine Rch.go (fun _ kk_ => XS.iconst X14.here hx rfl (hb hby d4_69) kk_) ?_
  show Rch p e below (T14.setTop (mkF m 70 #[.val (.ref a1), .val (.long q1), .second, .val (.int p3)] [(.int (1 : Int32)), (.int (1 : Int32)), (.ref a1)])) _
  refine Rch.go (fun _ kk_ => XS.iadd X14.here hx rfl (hb hby d4_70) rfl kk_) ?_
  show Rch p e below (T14.setTop (mkF m 71 #[.val (.ref a1), .val (.long q1), .second, .val (.int p3)] [(.int ((1 : Int32) + (1 : Int32))), (.ref a1)])) _
  rw [(show ((1 : Int32) + (1 : Int32)) = (2 : Int32) from by decide)]
  show Rch p e below (T14.setTop (mkF m 71 #[.val (.ref a1), .val (.long q1), .second, .val (.int p3)] [(.int (2 : Int32)), (.ref a1)])) _
  obtain ⟨T15, h15, X15, e15, W15, st15⟩ := putF X14 hx hZ hown (host := "") (Or.inl (hw _ (List.mem_of_getElem? (i := 34) rfl))) Via.refl e14 F_kept E_a1 (Or.inl (hw _ (List.mem_of_getElem? (i := 35) rfl))) (hw _ (List.mem_of_getElem? (i := 3) rfl)) (ty := .int) (by decide) rfl rfl (g := (mkF m 71 #[.val (.ref a1), .val (.long q1), .second, .val (.int p3)] [(.int (2 : Int32)), (.ref a1)])) rfl rfl (hb hby d4_71)
  have E_a1 := E_a1.wr W15
  have F_times := F_times.other W15 (Or.inr (slot_ne (Or.inr (hw _ (List.mem_of_getElem? (i := 13) rfl))) (Or.inl (hw _ (List.mem_of_getElem? (i := 35) rfl))) (by decide) (t := (.array .long)) (t' := .int) (by decide) (by decide)))
  have F_counts := F_counts.other W15 (Or.inr (slot_ne (Or.inr (hw _ (List.mem_of_getElem? (i := 15) rfl))) (Or.inl (hw _ (List.mem_of_getElem? (i := 35) rfl))) (by decide) (t := (.array .long)) (t' := .int) (by decide) (by decide)))
  have F_spacing := F_spacing.other W15 (Or.inr (slot_ne (Or.inl (hw _ (List.mem_of_getElem? (i := 28) rfl))) (Or.inl (hw _ (List.mem_of_getElem? (i := 35) rfl))) (by decide) (t := .long) (t' := .int) (by decide) (by decide)))
  have F_count := F_count.other W15 (Or.inr (slot_ne (Or.inl (hw _ (List.mem_of_getElem? (i := 37) rfl))) (Or.inl (hw _ (List.mem_of_getElem? (i := 35) rfl))) (by decide) (t := .long) (t' := .int) (by decide) (by decide)))
  have V_tm := V_tm.other W15 (Ne.symm ne_a1_tm)
  have V_cn := V_cn.other W15 (Ne.symm ne_a1_cn)
  have K0 := K0.wr W15 (Or.inl (List.mem_of_getElem? (i := 0) rfl))
  have Z0 := Nat.le_trans Z0 (Keep.of_wr W15).1
  have F_kept := F_kept.same W15
  have N15 := Fr.snoc X15 N13 g_a1
  refine Rch.go st15 ?_
  show Rch p e below (T15.setTop (mkF m 74 #[.val (.ref a1), .val (.long q1), .second, .val (.int p3)] [])) _
  refine Rch.go (fun _ kk_ => XS.aloadN X15.here hx rfl (hb hby d4_74) rfl rfl kk_) ?_
  show Rch p e below (T15.setTop (mkF m 75 #[.val (.ref a1), .val (.long q1), .second, .val (.int p3)] [(.ref a1)])) _
  refine Rch.go (fun _ kk_ => XS.dup X15.here hx rfl (hb hby d4_75) rfl rfl kk_) ?_
  show Rch p e below (T15.setTop (mkF m 76 #[.val (.ref a1), .val (.long q1), .second, .val (.int p3)] [(.ref a1), (.ref a1)])) _
  obtain ⟨T16, X16, e16, st16⟩ := getF X15 hx hZ hown (host := "") (Or.inl (hw _ (List.mem_of_getElem? (i := 36) rfl))) Via.refl e15 F_count (g := (mkF m 76 #[.val (.ref a1), .val (.long q1), .second, .val (.int p3)] [(.ref a1), (.ref a1)])) rfl rfl (hb hby d4_76)
  refine Rch.go st16 ?_
  show Rch p e below (T16.setTop (mkF m 79 #[.val (.ref a1), .val (.long q1), .second, .val (.int p3)] [(.long cnt), (.ref a1)])) _
  refine Rch.go (fun _ kk_ => XS.iloadN X16.here hx rfl (hb hby d4_79) rfl  kk_) ?_
  show Rch p e below (T16.setTop (mkF m 80 #[.val (.ref a1), .val (.long q1), .second, .val (.int p3)] [(.int p3), (.long cnt), (.ref a1)])) _
  refine Rch.go (fun _ kk_ => XS.i2l X16.here hx rfl (hb hby d4_80) rfl kk_) ?_
  show Rch p e below (T16.setTop (mkF m 81 #[.val (.ref a1), .val (.long q1), .second, .val (.int p3)] [(.long (p3.toInt64)), (.long cnt), (.ref a1)])) _
  refine Rch.go (fun _ kk_ => XS.ladd X16.here hx rfl (hb hby d4_81) rfl kk_) ?_
  show Rch p e below (T16.setTop (mkF m 82 #[.val (.ref a1), .val (.long q1), .second, .val (.int p3)] [(.long (cnt + (p3.toInt64))), (.ref a1)])) _
  obtain ⟨T17, h17, X17, e17, W17, st17⟩ := putF X16 hx hZ hown (host := "") (Or.inl (hw _ (List.mem_of_getElem? (i := 36) rfl))) Via.refl e16 F_count E_a1 (Or.inl (hw _ (List.mem_of_getElem? (i := 37) rfl))) (hw _ (List.mem_of_getElem? (i := 3) rfl)) (ty := .long) (by decide) rfl rfl (g := (mkF m 82 #[.val (.ref a1), .val (.long q1), .second, .val (.int p3)] [(.long (cnt + (p3.toInt64))), (.ref a1)])) rfl rfl (hb hby d4_82)
  have E_a1 := E_a1.wr W17
  have F_times := F_times.other W17 (Or.inr (slot_ne (Or.inr (hw _ (List.mem_of_getElem? (i := 13) rfl))) (Or.inl (hw _ (List.mem_of_getElem? (i := 37) rfl))) (by decide) (t := (.array .long)) (t' := .long) (by decide) (by decide)))
  have F_counts := F_counts.other W17 (Or.inr (slot_ne (Or.inr (hw _ (List.mem_of_getElem? (i := 15) rfl))) (Or.inl (hw _ (List.mem_of_getElem? (i := 37) rfl))) (by decide) (t := (.array .long)) (t' := .long) (by decide) (by decide)))
  have F_spacing := F_spacing.other W17 (Or.inr (slot_ne (Or.inl (hw _ (List.mem_of_getElem? (i := 28) rfl))) (Or.inl (hw _ (List.mem_of_getElem? (i := 37) rfl))) (by decide) (t := .long) (t' := .long) (by decide) (by decide)))
  have F_kept := F_kept.other W17 (Or.inr (slot_ne (Or.inl (hw _ (List.mem_of_getElem? (i := 35) rfl))) (Or.inl (hw _ (List.mem_of_getElem? (i := 37) rfl))) (by decide) (t := .int) (t' := .long) (by decide) (by decide)))
  have V_tm := V_tm.other W17 (Ne.symm ne_a1_tm)
  have V_cn := V_cn.other W17 (Ne.symm ne_a1_cn)
  have K0 := K0.wr W17 (Or.inl (List.mem_of_getElem? (i := 0) rfl))
  have Z0 := Nat.le_trans Z0 (Keep.of_wr W17).1
  have F_count := F_count.same W17
  have N17 := Fr.snoc X17 N15 g_a1
  refine Rch.go st17 ?_
  show Rch p e below (T17.setTop (mkF m 85 #[.val (.ref a1), .val (.long q1), .second, .val (.int p3)] [])) _
  exact Rch.ret X17 hlk (fun _ => rfl) (fun fs hr => X17.returnOut hx hret (hb hby d4_85) hr) (by rw [e17]; exact ⟨rfl, N17, K0, F_times, F_counts, F_spacing, F_kept, F_count, V_tm, V_cn⟩) (by decide) (by decide)
theorem own_mul {a b : Int64} {A B : Int} (a0 : 0 ≤ a.toInt) (a1 : a.toInt ≤ A) (b0 : 0 ≤ b.toInt) (b1 : b.toInt ≤ B) (h : A * B < 9223372036854775808) : (a * b).toInt = a.toInt * b.toInt ∧ 0 ≤ a.toInt * b.toInt ∧ a.toInt * b.toInt ≤ A * B := by
  have h1 : a.toInt * b.toInt ≤ A * B := Int.mul_le_mul a1 b1 b0 (Int.le_trans a0 a1)
  have h2 : 0 ≤ a.toInt * b.toInt := Int.mul_nonneg a0 b0
  refine ⟨?_, h2, h1⟩
  rw [Int64.toInt_mul]; exact Int.bmod_eq_of_le (by omega) (by omega)
theorem own_subB {K c : Int64} (hK0 : 0 ≤ K.toInt) (hK1 : K.toInt < 8589934592) (c0 : 0 ≤ c.toInt) (c1 : c.toInt ≤ 1073741824) : -2147483648 ≤ (K - c).toInt ∧ (K - c).toInt < 8589934592 := by
  have e := sub64 (a := K) (b := c) ⟨by omega, by omega⟩ ⟨by omega, by omega⟩
  rw [e]; clear e; exact ⟨by omega, by omega⟩
theorem own_tail {mm X : Int64} (hm0 : 1 ≤ mm.toInt) (hm1 : mm.toInt ≤ 1024) (x0 : -2147483648 ≤ X.toInt) (x1 : X.toInt < 8589934592) : B53 X ∧ B53 (own_pos X) ∧ 0 ≤ (own_pos X).toInt ∧
    (Jvm.Free.Fl.NoNaN64 (FP.ddiv (FP.l2d (own_pos X)) (FP.l2d mm)) ∧ Jvm.Native.java_lang_Math.nans.pick64 false (FP.ddiv (FP.l2d (own_pos X)) (FP.l2d mm)) 4881901996069617664 = FP.ddiv (FP.l2d (own_pos X)) (FP.l2d mm) ∧ FP.d2l (FP.ddiv (FP.l2d (own_pos X)) (FP.l2d mm)) = (own_pos X) / mm) := by
  obtain ⟨g1, g2⟩ := own_posI X
  have BX : B53 X := ⟨by omega, by omega⟩
  generalize own_pos X = P at g1 g2 ⊢
  have hP : P.toInt < 8589934592 := by omega
  exact ⟨BX, ⟨by omega, by omega⟩, g1, quot_all g1 hP (by omega) hm1⟩
theorem own_drain {mm d b0 K : Int64} (hm0 : 1 ≤ mm.toInt) (hm1 : mm.toInt ≤ 1024) (hd0 : 1000000 ≤ d.toInt) (hd1 : d.toInt < 2097152) (hbm : b0 = mm * d) (hK0 : 0 ≤ K.toInt) (hK1 : K.toInt < 8589934592) :
    ((1048576 : Int64) / (2 : Int64)) < d ∧ (0 : Int64) < d ∧ (0 : Int64) < b0 ∧ FP.ddiv (FP.l2d b0) (FP.l2d d) = FP.l2d mm ∧ FP.dmul (FP.l2d mm) (FP.l2d (1048576 : Int64)) = FP.l2d (mm * (1048576 : Int64)) ∧ FP.dsub (FP.l2d K) (FP.l2d (mm * (1048576 : Int64))) = FP.l2d (K - (mm * (1048576 : Int64))) ∧ FP.dmul (FP.l2d mm) (FP.l2d (0 : Int64)) = FP.l2d (0 : Int64) ∧ FP.dmul (FP.l2d mm) (FP.l2d d) = FP.l2d b0 ∧ FP.dsub (FP.l2d b0) (FP.l2d b0) = FP.l2d (0 : Int64) ∧ B53 (K - (mm * (1048576 : Int64))) ∧ B53 (own_pos (K - (mm * (1048576 : Int64)))) ∧ 0 ≤ (own_pos (K - (mm * (1048576 : Int64)))).toInt ∧
    (Jvm.Free.Fl.NoNaN64 (FP.ddiv (FP.l2d (own_pos (K - (mm * (1048576 : Int64))))) (FP.l2d mm)) ∧ Jvm.Native.java_lang_Math.nans.pick64 false (FP.ddiv (FP.l2d (own_pos (K - (mm * (1048576 : Int64))))) (FP.l2d mm)) 4881901996069617664 = FP.ddiv (FP.l2d (own_pos (K - (mm * (1048576 : Int64))))) (FP.l2d mm) ∧ FP.d2l (FP.ddiv (FP.l2d (own_pos (K - (mm * (1048576 : Int64))))) (FP.l2d mm)) = (own_pos (K - (mm * (1048576 : Int64)))) / mm) := by
  have z : (0 : Int64).toInt = 0 := by decide
  have c20 : (1048576 : Int64).toInt = 1048576 := by decide
  obtain ⟨e1, e2, e3⟩ := own_mul (a := mm) (b := d) (A := 1024) (B := 2097152) (by omega) (by omega) (by omega) (by omega) (by omega)
  obtain ⟨f1, f2, f3⟩ := own_mul (a := mm) (b := 1048576) (A := 1024) (B := 1048576) (by omega) (by omega) (by omega) (by omega) (by omega)
  have p1 : 1 * 1000000 ≤ mm.toInt * d.toInt := Int.mul_le_mul hm0 hd0 (by omega) (by omega)
  have hb : b0.toInt = mm.toInt * d.toInt := by rw [hbm]; exact e1
  have Bm : B53 mm := ⟨by omega, by omega⟩
  have Bd : B53 d := ⟨by omega, by omega⟩
  have Bb : B53 b0 := ⟨by omega, by omega⟩
  have BK : B53 K := ⟨by omega, by omega⟩
  have B2 : B53 (1048576 : Int64) := ⟨by rw [c20]; omega, by rw [c20]; omega⟩
  have Bc : B53 (mm * (1048576 : Int64)) := ⟨by omega, by omega⟩
  obtain ⟨x0, x1⟩ := own_subB (K := K) (c := mm * (1048576 : Int64)) hK0 hK1 (by omega) (by omega)
  obtain ⟨BA, BP, g1, hq⟩ := own_tail hm0 hm1 x0 x1
  clear x0 x1
  have nm : ¬ mm = 0 := fun q => by rw [q, z] at hm0; omega
  have nd : ¬ d = 0 := fun q => by rw [q, z] at hd0; omega
  refine ⟨?_, ?_, ?_, ?_, ?_, dsub_w BK Bc, ?_, ?_, ?_, BA, BP, g1, ?_⟩
  · rw [Int64.lt_iff_toInt_lt, show ((1048576 : Int64) / (2 : Int64)).toInt = 524288 by decide]; omega
  · rw [Int64.lt_iff_toInt_lt, z]; omega
  · rw [Int64.lt_iff_toInt_lt, z]; omega
  · exact ddiv_whole (by omega) (by omega) (by omega) (by omega) hb (by omega)
  · exact dmul_w Bm B2 nm (by decide) (by omega) (by omega)
  · rw [dmul_z Bm own_b530 (Or.inr rfl), if_neg (by rw [z]; simp; omega)]
  · rw [dmul_w Bm Bd nm nd (by omega) (by omega), hbm]
  · exact (dsub_w Bb Bb).trans (congrArg FP.l2d (Int64.sub_self _))
  · exact hq
theorem d5_0 : decode prog_25_method_4_code 0 = .ok (.aload_n 0, 1) := by decide +kernel
theorem d5_1 : decode prog_25_method_4_code 1 = .ok (.getfield 32, 3) := by decide +kernel
theorem d5_4 : decode prog_25_method_4_code 4 = .ok (.ifCond .ne 5, 3) := by decide +kernel
theorem d5_9 : decode prog_25_method_4_code 9 = .ok (.aload_n 0, 1) := by decide +kernel
theorem d5_10 : decode prog_25_method_4_code 10 = .ok (.getfield 11, 3) := by decide +kernel
theorem d5_13 : decode prog_25_method_4_code 13 = .ok (.iconst 0, 1) := by decide +kernel
theorem d5_14 : decode prog_25_method_4_code 14 = .ok (.laload, 1) := by decide +kernel
theorem d5_15 : decode prog_25_method_4_code 15 = .ok (.lstore_n 3, 1) := by decide +kernel
theorem d5_16 : decode prog_25_method_4_code 16 = .ok (.iconst 0, 1) := by decide +kernel
theorem d5_17 : decode prog_25_method_4_code 17 = .ok (.istore 5, 2) := by decide +kernel
theorem d5_19 : decode prog_25_method_4_code 19 = .ok (.iload 5, 2) := by decide +kernel
theorem d5_21 : decode prog_25_method_4_code 21 = .ok (.iconst 1, 1) := by decide +kernel
theorem d5_22 : decode prog_25_method_4_code 22 = .ok (.iadd, 1) := by decide +kernel
theorem d5_23 : decode prog_25_method_4_code 23 = .ok (.aload_n 0, 1) := by decide +kernel
theorem d5_24 : decode prog_25_method_4_code 24 = .ok (.getfield 32, 3) := by decide +kernel
theorem d5_27 : decode prog_25_method_4_code 27 = .ok (.if_icmp .ge 31, 3) := by decide +kernel
theorem d5_30 : decode prog_25_method_4_code 30 = .ok (.aload_n 0, 1) := by decide +kernel
theorem d5_31 : decode prog_25_method_4_code 31 = .ok (.getfield 11, 3) := by decide +kernel
theorem d5_34 : decode prog_25_method_4_code 34 = .ok (.iload 5, 2) := by decide +kernel
theorem d5_36 : decode prog_25_method_4_code 36 = .ok (.iconst 1, 1) := by decide +kernel
theorem d5_37 : decode prog_25_method_4_code 37 = .ok (.iadd, 1) := by decide +kernel
theorem d5_38 : decode prog_25_method_4_code 38 = .ok (.laload, 1) := by decide +kernel
theorem d5_39 : decode prog_25_method_4_code 39 = .ok (.lload_n 3, 1) := by decide +kernel
theorem d5_40 : decode prog_25_method_4_code 40 = .ok (.lsub, 1) := by decide +kernel
theorem d5_41 : decode prog_25_method_4_code 41 = .ok (.lload_n 1, 1) := by decide +kernel
theorem d5_42 : decode prog_25_method_4_code 42 = .ok (.lload_n 3, 1) := by decide +kernel
theorem d5_43 : decode prog_25_method_4_code 43 = .ok (.lsub, 1) := by decide +kernel
theorem d5_44 : decode prog_25_method_4_code 44 = .ok (.ldc2_w 42, 3) := by decide +kernel
theorem d5_47 : decode prog_25_method_4_code 47 = .ok (.ldiv, 1) := by decide +kernel
theorem d5_48 : decode prog_25_method_4_code 48 = .ok (.lcmp, 1) := by decide +kernel
theorem d5_49 : decode prog_25_method_4_code 49 = .ok (.ifCond .gt 9, 3) := by decide +kernel
theorem d5_58 : decode prog_25_method_4_code 58 = .ok (.iload 5, 2) := by decide +kernel
theorem d5_60 : decode prog_25_method_4_code 60 = .ok (.iconst 1, 1) := by decide +kernel
theorem d5_61 : decode prog_25_method_4_code 61 = .ok (.iadd, 1) := by decide +kernel
theorem d5_62 : decode prog_25_method_4_code 62 = .ok (.aload_n 0, 1) := by decide +kernel
theorem d5_63 : decode prog_25_method_4_code 63 = .ok (.getfield 32, 3) := by decide +kernel
theorem d5_66 : decode prog_25_method_4_code 66 = .ok (.if_icmp .ge 48, 3) := by decide +kernel
theorem d5_69 : decode prog_25_method_4_code 69 = .ok (.aload_n 0, 1) := by decide +kernel
theorem d5_70 : decode prog_25_method_4_code 70 = .ok (.getfield 11, 3) := by decide +kernel
theorem d5_73 : decode prog_25_method_4_code 73 = .ok (.aload_n 0, 1) := by decide +kernel
theorem d5_74 : decode prog_25_method_4_code 74 = .ok (.getfield 32, 3) := by decide +kernel
theorem d5_77 : decode prog_25_method_4_code 77 = .ok (.iconst 1, 1) := by decide +kernel
theorem d5_78 : decode prog_25_method_4_code 78 = .ok (.isub, 1) := by decide +kernel
theorem d5_79 : decode prog_25_method_4_code 79 = .ok (.laload, 1) := by decide +kernel
theorem d5_80 : decode prog_25_method_4_code 80 = .ok (.aload_n 0, 1) := by decide +kernel
theorem d5_81 : decode prog_25_method_4_code 81 = .ok (.getfield 11, 3) := by decide +kernel
theorem d5_84 : decode prog_25_method_4_code 84 = .ok (.iload 5, 2) := by decide +kernel
theorem d5_86 : decode prog_25_method_4_code 86 = .ok (.laload, 1) := by decide +kernel
theorem d5_87 : decode prog_25_method_4_code 87 = .ok (.lsub, 1) := by decide +kernel
theorem d5_88 : decode prog_25_method_4_code 88 = .ok (.lstore 6, 2) := by decide +kernel
theorem d5_90 : decode prog_25_method_4_code 90 = .ok (.aload_n 0, 1) := by decide +kernel
theorem d5_91 : decode prog_25_method_4_code 91 = .ok (.getfield 15, 3) := by decide +kernel
theorem d5_94 : decode prog_25_method_4_code 94 = .ok (.aload_n 0, 1) := by decide +kernel
theorem d5_95 : decode prog_25_method_4_code 95 = .ok (.getfield 32, 3) := by decide +kernel
theorem d5_98 : decode prog_25_method_4_code 98 = .ok (.iconst 1, 1) := by decide +kernel
theorem d5_99 : decode prog_25_method_4_code 99 = .ok (.isub, 1) := by decide +kernel
theorem d5_100 : decode prog_25_method_4_code 100 = .ok (.laload, 1) := by decide +kernel
theorem d5_101 : decode prog_25_method_4_code 101 = .ok (.aload_n 0, 1) := by decide +kernel
theorem d5_102 : decode prog_25_method_4_code 102 = .ok (.getfield 15, 3) := by decide +kernel
theorem d5_105 : decode prog_25_method_4_code 105 = .ok (.iload 5, 2) := by decide +kernel
theorem d5_107 : decode prog_25_method_4_code 107 = .ok (.laload, 1) := by decide +kernel
theorem d5_108 : decode prog_25_method_4_code 108 = .ok (.lsub, 1) := by decide +kernel
theorem d5_109 : decode prog_25_method_4_code 109 = .ok (.lstore 8, 2) := by decide +kernel
theorem d5_111 : decode prog_25_method_4_code 111 = .ok (.goto 28, 3) := by decide +kernel
theorem d5_114 : decode prog_25_method_4_code 114 = .ok (.lload_n 1, 1) := by decide +kernel
theorem d5_115 : decode prog_25_method_4_code 115 = .ok (.aload_n 0, 1) := by decide +kernel
theorem d5_116 : decode prog_25_method_4_code 116 = .ok (.getfield 11, 3) := by decide +kernel
theorem d5_119 : decode prog_25_method_4_code 119 = .ok (.iload 5, 2) := by decide +kernel
theorem d5_121 : decode prog_25_method_4_code 121 = .ok (.laload, 1) := by decide +kernel
theorem d5_122 : decode prog_25_method_4_code 122 = .ok (.lsub, 1) := by decide +kernel
theorem d5_123 : decode prog_25_method_4_code 123 = .ok (.lstore 6, 2) := by decide +kernel
theorem d5_125 : decode prog_25_method_4_code 125 = .ok (.aload_n 0, 1) := by decide +kernel
theorem d5_126 : decode prog_25_method_4_code 126 = .ok (.getfield 39, 3) := by decide +kernel
theorem d5_129 : decode prog_25_method_4_code 129 = .ok (.aload_n 0, 1) := by decide +kernel
theorem d5_130 : decode prog_25_method_4_code 130 = .ok (.getfield 15, 3) := by decide +kernel
theorem d5_133 : decode prog_25_method_4_code 133 = .ok (.iload 5, 2) := by decide +kernel
theorem d5_135 : decode prog_25_method_4_code 135 = .ok (.laload, 1) := by decide +kernel
theorem d5_136 : decode prog_25_method_4_code 136 = .ok (.lsub, 1) := by decide +kernel
theorem d5_137 : decode prog_25_method_4_code 137 = .ok (.lstore 8, 2) := by decide +kernel
theorem d5_139 : decode prog_25_method_4_code 139 = .ok (.lload 6, 2) := by decide +kernel
theorem d5_141 : decode prog_25_method_4_code 141 = .ok (.lconst 0, 1) := by decide +kernel
theorem d5_142 : decode prog_25_method_4_code 142 = .ok (.lcmp, 1) := by decide +kernel
theorem d5_143 : decode prog_25_method_4_code 143 = .ok (.ifCond .le 10, 3) := by decide +kernel
theorem d5_146 : decode prog_25_method_4_code 146 = .ok (.lload 8, 2) := by decide +kernel
theorem d5_148 : decode prog_25_method_4_code 148 = .ok (.lconst 0, 1) := by decide +kernel
theorem d5_149 : decode prog_25_method_4_code 149 = .ok (.lcmp, 1) := by decide +kernel
theorem d5_150 : decode prog_25_method_4_code 150 = .ok (.ifCond .gt 5, 3) := by decide +kernel
theorem d5_153 : decode prog_25_method_4_code 153 = .ok (.lconst 0, 1) := by decide +kernel
theorem d5_154 : decode prog_25_method_4_code 154 = .ok (.lreturn, 1) := by decide +kernel
theorem d5_155 : decode prog_25_method_4_code 155 = .ok (.lload 8, 2) := by decide +kernel
theorem d5_157 : decode prog_25_method_4_code 157 = .ok (.l2d, 1) := by decide +kernel
theorem d5_158 : decode prog_25_method_4_code 158 = .ok (.lload 6, 2) := by decide +kernel
theorem d5_160 : decode prog_25_method_4_code 160 = .ok (.l2d, 1) := by decide +kernel
theorem d5_161 : decode prog_25_method_4_code 161 = .ok (.ddiv, 1) := by decide +kernel
theorem d5_162 : decode prog_25_method_4_code 162 = .ok (.dstore 10, 2) := by decide +kernel
theorem d5_164 : decode prog_25_method_4_code 164 = .ok (.aload_n 0, 1) := by decide +kernel
theorem d5_165 : decode prog_25_method_4_code 165 = .ok (.getfield 39, 3) := by decide +kernel
theorem d5_168 : decode prog_25_method_4_code 168 = .ok (.l2d, 1) := by decide +kernel
theorem d5_169 : decode prog_25_method_4_code 169 = .ok (.dload 10, 2) := by decide +kernel
theorem d5_171 : decode prog_25_method_4_code 171 = .ok (.lload_n 1, 1) := by decide +kernel
theorem d5_172 : decode prog_25_method_4_code 172 = .ok (.lload_n 3, 1) := by decide +kernel
theorem d5_173 : decode prog_25_method_4_code 173 = .ok (.lsub, 1) := by decide +kernel
theorem d5_174 : decode prog_25_method_4_code 174 = .ok (.l2d, 1) := by decide +kernel
theorem d5_175 : decode prog_25_method_4_code 175 = .ok (.dmul, 1) := by decide +kernel
theorem d5_176 : decode prog_25_method_4_code 176 = .ok (.dsub, 1) := by decide +kernel
theorem d5_177 : decode prog_25_method_4_code 177 = .ok (.dstore 12, 2) := by decide +kernel
theorem d5_179 : decode prog_25_method_4_code 179 = .ok (.iconst 0, 1) := by decide +kernel
theorem d5_180 : decode prog_25_method_4_code 180 = .ok (.istore 14, 2) := by decide +kernel
theorem d5_182 : decode prog_25_method_4_code 182 = .ok (.iload 14, 2) := by decide +kernel
theorem d5_184 : decode prog_25_method_4_code 184 = .ok (.aload_n 0, 1) := by decide +kernel
theorem d5_185 : decode prog_25_method_4_code 185 = .ok (.getfield 32, 3) := by decide +kernel
theorem d5_188 : decode prog_25_method_4_code 188 = .ok (.if_icmp .ge 38, 3) := by decide +kernel
theorem d5_191 : decode prog_25_method_4_code 191 = .ok (.dload 12, 2) := by decide +kernel
theorem d5_193 : decode prog_25_method_4_code 193 = .ok (.aload_n 0, 1) := by decide +kernel
theorem d5_194 : decode prog_25_method_4_code 194 = .ok (.getfield 15, 3) := by decide +kernel
theorem d5_197 : decode prog_25_method_4_code 197 = .ok (.iload 14, 2) := by decide +kernel
theorem d5_199 : decode prog_25_method_4_code 199 = .ok (.laload, 1) := by decide +kernel
theorem d5_200 : decode prog_25_method_4_code 200 = .ok (.l2d, 1) := by decide +kernel
theorem d5_201 : decode prog_25_method_4_code 201 = .ok (.dload 10, 2) := by decide +kernel
theorem d5_203 : decode prog_25_method_4_code 203 = .ok (.aload_n 0, 1) := by decide +kernel
theorem d5_204 : decode prog_25_method_4_code 204 = .ok (.getfield 11, 3) := by decide +kernel
theorem d5_207 : decode prog_25_method_4_code 207 = .ok (.iload 14, 2) := by decide +kernel
theorem d5_209 : decode prog_25_method_4_code 209 = .ok (.laload, 1) := by decide +kernel
theorem d5_210 : decode prog_25_method_4_code 210 = .ok (.lload_n 3, 1) := by decide +kernel
theorem d5_211 : decode prog_25_method_4_code 211 = .ok (.lsub, 1) := by decide +kernel
theorem d5_212 : decode prog_25_method_4_code 212 = .ok (.l2d, 1) := by decide +kernel
theorem d5_213 : decode prog_25_method_4_code 213 = .ok (.dmul, 1) := by decide +kernel
theorem d5_214 : decode prog_25_method_4_code 214 = .ok (.dsub, 1) := by decide +kernel
theorem d5_215 : decode prog_25_method_4_code 215 = .ok (.invokestatic 50, 3) := by decide +kernel
theorem d5_218 : decode prog_25_method_4_code 218 = .ok (.dstore 12, 2) := by decide +kernel
theorem d5_220 : decode prog_25_method_4_code 220 = .ok (.iinc 14 1, 3) := by decide +kernel
theorem d5_223 : decode prog_25_method_4_code 223 = .ok (.goto (-41), 3) := by decide +kernel
theorem d5_226 : decode prog_25_method_4_code 226 = .ok (.dload 12, 2) := by decide +kernel
theorem d5_228 : decode prog_25_method_4_code 228 = .ok (.dconst 0, 1) := by decide +kernel
theorem d5_229 : decode prog_25_method_4_code 229 = .ok (.invokestatic 50, 3) := by decide +kernel
theorem d5_232 : decode prog_25_method_4_code 232 = .ok (.dload 10, 2) := by decide +kernel
theorem d5_234 : decode prog_25_method_4_code 234 = .ok (.ddiv, 1) := by decide +kernel
theorem d5_235 : decode prog_25_method_4_code 235 = .ok (.ldc2_w 53, 3) := by decide +kernel
theorem d5_238 : decode prog_25_method_4_code 238 = .ok (.invokestatic 55, 3) := by decide +kernel
theorem d5_241 : decode prog_25_method_4_code 241 = .ok (.d2l, 1) := by decide +kernel
theorem d5_242 : decode prog_25_method_4_code 242 = .ok (.lreturn, 1) := by decide +kernel
theorem pd5_0 : parseMethodDescriptor "(DD)D" = some ⟨[.double, .double], some .double⟩ := by decide +kernel
theorem pn_5 : plainFor (⟨"com/example/urchin/urchin/service/Silence$Handover", "drain", "(J)J"⟩ : MethodName) = true := plainFor_of_name (by first | (simp [plainName, overriddenIn]; done) | decide +kernel)
theorem ef_5 (m : MethodId) (x0 : Addr) (x1 : Int64) : entryFrame m #[(.ref x0), (.long x1)] 15 = mkF m 0 #[.val (.ref x0), .val (.long x1), .second, .unset, .unset, .unset, .unset, .unset, .unset, .unset, .unset, .unset, .unset, .unset, .unset] [] := by first | (simp [entryFrame, mkF, argsToLocals, Value.category]; done) | rfl
def own_Q_rm5a (Z : State) (a1 tm cn : Addr) (kt kc : ClassId) (q1 t0 K : Int64) (dum : Int64) (h0 : Heap) (n0 : Nat) (v : Option Value) (h : Heap) (L : List Loc) : Prop := v = some (.long (0 : Int64)) ∧ Fr n0 L ∧ h = h0
set_option maxRecDepth 65536 in
set_option maxHeartbeats 40000000 in
theorem rm5a (l : Launch) (Z : State) (a0 : Array Value) (hw : ∀ d ∈ tables_1, d.before a0 Z = true) (ws : List Jvm.Cond) (a1 tm cn : Addr) (kt kc : ClassId) (q1 t0 K : Int64) (dum : Int64) (h0 : Heap) (n0 : Nat) (Z0 : n0 ≤ h0.size) (F_times : Fld Z h0 a1 "com/example/urchin/urchin/service/Silence$Handover" "times" "[J" (.ref tm)) (F_counts : Fld Z h0 a1 "com/example/urchin/urchin/service/Silence$Handover" "counts" "[J" (.ref cn)) (F_spacing : Fld Z h0 a1 "com/example/urchin/urchin/service/Silence$Handover" "spacing" "J" (.long (1000000 : Int64))) (F_kept : Fld Z h0 a1 "com/example/urchin/urchin/service/Silence$Handover" "kept" "I" (.int (1 : Int32))) (F_count : Fld Z h0 a1 "com/example/urchin/urchin/service/Silence$Handover" "count" "J" (.long K)) (V_tm : Arv Z h0 tm kt .long (64 : Int32) [(.long t0), (.long (0 : Int64))] (.long (0 : Int64))) (V_cn : Arv Z h0 cn kc .long (64 : Int32) [(.long (0 : Int64)), (.long (0 : Int64))] (.long (0 : Int64))) (hnow : (q1 - t0) = (1048576 : Int64)) (hK0 : 0 ≤ K.toInt) (hK1 : K.toInt < 8589934592) :
    MetFree l (⟨"com/example/urchin/urchin/service/Silence$Handover", "drain", "(J)J"⟩ : MethodName) (head1 (Jvm.Cond.code (⟨"com/example/urchin/urchin/service/Silence$Handover", "drain", "(J)J"⟩ : MethodName) prog_25_method_4_code 15 (some .long) :: ws) ({ frames := 1, cells := 0, slots := 0, locals := 30 } : Room)) (fun a U => a = #[(.ref a1), (.long q1)] ∧ Z.Warmed39 U.vm ∧ U.heap = h0) (fun _ _ _ _ _ => True) (fun _ U o U' => ∃ v L, o = .returned v ∧ own_Q_rm5a Z a1 tm cn kt kc q1 t0 K dum h0 n0 v U'.heap L ∧ FrameEnd U o U' L ({ frames := 1, cells := 0, slots := 0, locals := 30 } : Room).cells ({ frames := 1, cells := 0, slots := 0, locals := 30 } : Room).slots) := by
  refine own_body (Q := (own_Q_rm5a Z a1 tm cn kt kc q1 t0 K dum h0 n0)) pn_5 ?_
  intro p e s m below meth c s₁ X0 hx hby hml hown hnm hret hlk hZ e0
  have N0 := Fr.nil n0
  refine Rch.go (fun tt_ kk_ => castTop (ef_5 m a1 q1) kk_) ?_
  show Rch p e below (s₁.setTop (mkF m 0 #[.val (.ref a1), .val (.long q1), .second, .unset, .unset, .unset, .unset, .unset, .unset, .unset, .unset, .unset, .unset, .unset, .unset] [])) _
  refine Rch.go (fun _ kk_ => XS.aloadN X0.here hx rfl (hb hby d5_0) rfl rfl kk_) ?_
  show Rch p e below (s₁.setTop (mkF m 1 #[.val (.ref a1), .val (.long q1), .second, .unset, .unset, .unset, .unset, .unset, .unset, .unset, .unset, .unset, .unset, .unset, .unset] [(.ref a1)])) _
  obtain ⟨T1, X1, e1, st1⟩ := getF X0 hx hZ hown (host := "") (Or.inl (hw _ (List.mem_of_getElem? (i := 34) rfl))) Via.refl e0 F_kept (g := (mkF m 1 #[.val (.ref a1), .val (.long q1), .second, .unset, .unset, .unset, .unset, .unset, .unset, .unset, .unset, .unset, .unset, .unset, .unset] [(.ref a1)])) rfl rfl (hb hby d5_1)
  refine Rch.go st1 ?_
  show Rch p e below (T1.setTop (mkF m 4 #[.val (.ref a1), .val (.long q1), .second, .unset, .unset, .unset, .unset, .unset, .unset, .unset, .unset, .unset, .unset, .unset, .unset] [(.int (1 : Int32))])) _
  refine Rch.go (fun _ kk_ => XS.ifYes X1.here hx rfl (pc0 := 4) (pc' := 9) rfl (hb hby d5_4) rfl ((if0 _ _).trans (feq (by decide)).2) (by decide) (by decide) kk_) ?_
  show Rch p e below (T1.setTop (mkF m 9 #[.val (.ref a1), .val (.long q1), .second, .unset, .unset, .unset, .unset, .unset, .unset, .unset, .unset, .unset, .unset, .unset, .unset] [])) _
  refine Rch.go (fun _ kk_ => XS.aloadN X1.here hx rfl (hb hby d5_9) rfl rfl kk_) ?_
  show Rch p e below (T1.setTop (mkF m 10 #[.val (.ref a1), .val (.long q1), .second, .unset, .unset, .unset, .unset, .unset, .unset, .unset, .unset, .unset, .unset, .unset, .unset] [(.ref a1)])) _
  obtain ⟨T2, X2, e2, st2⟩ := getF X1 hx hZ hown (host := "") (Or.inl (hw _ (List.mem_of_getElem? (i := 12) rfl))) Via.refl e1 F_times (g := (mkF m 10 #[.val (.ref a1), .val (.long q1), .second, .unset, .unset, .unset, .unset, .unset, .unset, .unset, .unset, .unset, .unset, .unset, .unset] [(.ref a1)])) rfl rfl (hb hby d5_10)
  refine Rch.go st2 ?_
  show Rch p e below (T2.setTop (mkF m 13 #[.val (.ref a1), .val (.long q1), .second, .unset, .unset, .unset, .unset, .unset, .unset, .unset, .unset, .unset, .unset, .unset, .unset] [(.ref tm)])) _
  refine Rch.go (fun _ kk_ => XS.iconst X2.here hx rfl (hb hby d5_13) kk_) ?_
  show Rch p e below (T2.setTop (mkF m 14 #[.val (.ref a1), .val (.long q1), .second, .unset, .unset, .unset, .unset, .unset, .unset, .unset, .unset, .unset, .unset, .unset, .unset] [(.int (0 : Int32)), (.ref tm)])) _
  obtain ⟨cl3, Ar3, q3, S3, M3, H3, G3⟩ := id V_tm
  refine Rch.go (X2.laload hx (j := (0 : Int32)) (v := (.long t0)) (by rw [e2]; exact Ar3.1) (State.isArrayOf_alike hZ.alike Ar3.2.1) Ar3.2.2 (inb_of S3 ⟨by decide, by decide⟩) (Has.at H3 (inb_of S3 ⟨by decide, by decide⟩) rfl) (g := (mkF m 14 #[.val (.ref a1), .val (.long q1), .second, .unset, .unset, .unset, .unset, .unset, .unset, .unset, .unset, .unset, .unset, .unset, .unset] [(.int (0 : Int32)), (.ref tm)])) rfl rfl (hb hby d5_14)) ?_
  show Rch p e below (T2.setTop (mkF m 15 #[.val (.ref a1), .val (.long q1), .second, .unset, .unset, .unset, .unset, .unset, .unset, .unset, .unset, .unset, .unset, .unset, .unset] [(.long t0)])) _
  refine Rch.go (fun _ kk_ => XS.lstoreN X2.here hx rfl (hb hby d5_15) rfl (l' := #[.val (.ref a1), .val (.long q1), .second, .val (.long t0), .second, .unset, .unset, .unset, .unset, .unset, .unset, .unset, .unset, .unset, .unset]) rfl kk_) ?_
  show Rch p e below (T2.setTop (mkF m 16 #[.val (.ref a1), .val (.long q1), .second, .val (.long t0), .second, .unset, .unset, .unset, .unset, .unset, .unset, .unset, .unset, .unset, .unset] [])) _
  refine Rch.go (fun _ kk_ => XS.iconst X2.here hx rfl (hb hby d5_16) kk_) ?_
  show Rch p e below (T2.setTop (mkF m 17 #[.val (.ref a1), .val (.long q1), .second, .val (.long t0), .second, .unset, .unset, .unset, .unset, .unset, .unset, .unset, .unset, .unset, .unset] [(.int (0 : Int32))])) _
  refine Rch.go (fun _ kk_ => XS.istore X2.here hx rfl (hb hby d5_17) rfl (l' := #[.val (.ref a1), .val (.long q1), .second, .val (.long t0), .second, .val (.int (0 : Int32)), .unset, .unset, .unset, .unset, .unset, .unset, .unset, .unset, .unset]) rfl kk_) ?_
  show Rch p e below (T2.setTop (mkF m 19 #[.val (.ref a1), .val (.long q1), .second, .val (.long t0), .second, .val (.int (0 : Int32)), .unset, .unset, .unset, .unset, .unset, .unset, .unset, .unset, .unset] [])) _
  refine Rch.go (fun _ kk_ => XS.iload X2.here hx rfl (hb hby d5_19) rfl  kk_) ?_
  show Rch p e below (T2.setTop (mkF m 21 #[.val (.ref a1), .val (.long q1), .second, .val (.long t0), .second, .val (.int (0 : Int32)), .unset, .unset, .unset, .unset, .unset, .unset, .unset, .unset, .unset] [(.int (0 : Int32))])) _
  refine Rch.go (fun _ kk_ => XS.iconst X2.here hx rfl (hb hby d5_21) kk_) ?_
  show Rch p e below (T2.setTop (mkF m 22 #[.val (.ref a1), .val (.long q1), .second, .val (.long t0), .second, .val (.int (0 : Int32)), .unset, .unset, .unset, .unset, .unset, .unset, .unset, .unset, .unset] [(.int (1 : Int32)), (.int (0 : Int32))])) _
  refine Rch.go (fun _ kk_ => XS.iadd X2.here hx rfl (hb hby d5_22) rfl kk_) ?_
  show Rch p e below (T2.setTop (mkF m 23 #[.val (.ref a1), .val (.long q1), .second, .val (.long t0), .second, .val (.int (0 : Int32)), .unset, .unset, .unset, .unset, .unset, .unset, .unset, .unset, .unset] [(.int ((0 : Int32) + (1 : Int32)))])) _
  refine Rch.go (fun _ kk_ => XS.aloadN X2.here hx rfl (hb hby d5_23) rfl rfl kk_) ?_
  show Rch p e below (T2.setTop (mkF m 24 #[.val (.ref a1), .val (.long q1), .second, .val (.long t0), .second, .val (.int (0 : Int32)), .unset, .unset, .unset, .unset, .unset, .unset, .unset, .unset, .unset] [(.ref a1), (.int ((0 : Int32) + (1 : Int32)))])) _
  obtain ⟨T4, X4, e4, st4⟩ := getF X2 hx hZ hown (host := "") (Or.inl (hw _ (List.mem_of_getElem? (i := 34) rfl))) Via.refl e2 F_kept (g := (mkF m 24 #[.val (.ref a1), .val (.long q1), .second, .val (.long t0), .second, .val (.int (0 : Int32)), .unset, .unset, .unset, .unset, .unset, .unset, .unset, .unset, .unset] [(.ref a1), (.int ((0 : Int32) + (1 : Int32)))])) rfl rfl (hb hby d5_24)
  refine Rch.go st4 ?_
  show Rch p e below (T4.setTop (mkF m 27 #[.val (.ref a1), .val (.long q1), .second, .val (.long t0), .second, .val (.int (0 : Int32)), .unset, .unset, .unset, .unset, .unset, .unset, .unset, .unset, .unset] [(.int (1 : Int32)), (.int ((0 : Int32) + (1 : Int32)))])) _
  refine Rch.go (fun _ kk_ => XS.icmpYes X4.here hx rfl (pc0 := 27) (pc' := 58) rfl (hb hby d5_27) rfl (flt (by decide)).2.1 (by decide) (by decide) kk_) ?_
  show Rch p e below (T4.setTop (mkF m 58 #[.val (.ref a1), .val (.long q1), .second, .val (.long t0), .second, .val (.int (0 : Int32)), .unset, .unset, .unset, .unset, .unset, .unset, .unset, .unset, .unset] [])) _
  refine Rch.go (fun _ kk_ => XS.iload X4.here hx rfl (hb hby d5_58) rfl  kk_) ?_
  show Rch p e below (T4.setTop (mkF m 60 #[.val (.ref a1), .val (.long q1), .second, .val (.long t0), .second, .val (.int (0 : Int32)), .unset, .unset, .unset, .unset, .unset, .unset, .unset, .unset, .unset] [(.int (0 : Int32))])) _
  refine Rch.go (fun _ kk_ => XS.iconst X4.here hx rfl (hb hby d5_60) kk_) ?_
  show Rch p e below (T4.setTop (mkF m 61 #[.val (.ref a1), .val (.long q1), .second, .val (.long t0), .second, .val (.int (0 : Int32)), .unset, .unset, .unset, .unset, .unset, .unset, .unset, .unset, .unset] [(.int (1 : Int32)), (.int (0 : Int32))])) _
  refine Rch.go (fun _ kk_ => XS.iadd X4.here hx rfl (hb hby d5_61) rfl kk_) ?_
  show Rch p e below (T4.setTop (mkF m 62 #[.val (.ref a1), .val (.long q1), .second, .val (.long t0), .second, .val (.int (0 : Int32)), .unset, .unset, .unset, .unset, .unset, .unset, .unset, .unset, .unset] [(.int ((0 : Int32) + (1 : Int32)))])) _
  refine Rch.go (fun _ kk_ => XS.aloadN X4.here hx rfl (hb hby d5_62) rfl rfl kk_) ?_
  show Rch p e below (T4.setTop (mkF m 63 #[.val (.ref a1), .val (.long q1), .second, .val (.long t0), .second, .val (.int (0 : Int32)), .unset, .unset, .unset, .unset, .unset, .unset, .unset, .unset, .unset] [(.ref a1), (.int ((0 : Int32) + (1 : Int32)))])) _
  obtain ⟨T5, X5, e5, st5⟩ := getF X4 hx hZ hown (host := "") (Or.inl (hw _ (List.mem_of_getElem? (i := 34) rfl))) Via.refl e4 F_kept (g := (mkF m 63 #[.val (.ref a1), .val (.long q1), .second, .val (.long t0), .second, .val (.int (0 : Int32)), .unset, .unset, .unset, .unset, .unset, .unset, .unset, .unset, .unset] [(.ref a1), (.int ((0 : Int32) + (1 : Int32)))])) rfl rfl (hb hby d5_63)
  refine Rch.go st5 ?_
  show Rch p e below (T5.setTop (mkF m 66 #[.val (.ref a1), .val (.long q1), .second, .val (.long t0), .second, .val (.int (0 : Int32)), .unset, .unset, .unset, .unset, .unset, .unset, .unset, .unset, .unset] [(.int (1 : Int32)), (.int ((0 : Int32) + (1 : Int32)))])) _
  refine Rch.go (fun _ kk_ => XS.icmpYes X5.here hx rfl (pc0 := 66) (pc' := 114) rfl (hb hby d5_66) rfl (flt (by decide)).2.1 (by decide) (by decide) kk_) ?_
  show Rch p e below (T5.setTop (mkF m 114 #[.val (.ref a1), .val (.long q1), .second, .val (.long t0), .second, .val (.int (0 : Int32)), .unset, .unset, .unset, .unset, .unset, .unset, .unset, .unset, .unset] [])) _
  refine Rch.go (fun _ kk_ => XS.lloadN X5.here hx rfl (hb hby d5_114) rfl  kk_) ?_
  show Rch p e below (T5.setTop (mkF m 115 #[.val (.ref a1), .val (.long q1), .second, .val (.long t0), .second, .val (.int (0 : Int32)), .unset, .unset, .unset, .unset, .unset, .unset, .unset, .unset, .unset] [(.long q1)])) _
  refine Rch.go (fun _ kk_ => XS.aloadN X5.here hx rfl (hb hby d5_115) rfl rfl kk_) ?_
  show Rch p e below (T5.setTop (mkF m 116 #[.val (.ref a1), .val (.long q1), .second, .val (.long t0), .second, .val (.int (0 : Int32)), .unset, .unset, .unset, .unset, .unset, .unset, .unset, .unset, .unset] [(.ref a1), (.long q1)])) _
  obtain ⟨T6, X6, e6, st6⟩ := getF X5 hx hZ hown (host := "") (Or.inl (hw _ (List.mem_of_getElem? (i := 12) rfl))) Via.refl e5 F_times (g := (mkF m 116 #[.val (.ref a1), .val (.long q1), .second, .val (.long t0), .second, .val (.int (0 : Int32)), .unset, .unset, .unset, .unset, .unset, .unset, .unset, .unset, .unset] [(.ref a1), (.long q1)])) rfl rfl (hb hby d5_116)
  refine Rch.go st6 ?_
  show Rch p e below (T6.setTop (mkF m 119 #[.val (.ref a1), .val (.long q1), .second, .val (.long t0), .second, .val (.int (0 : Int32)), .unset, .unset, .unset, .unset, .unset, .unset, .unset, .unset, .unset] [(.ref tm), (.long q1)])) _
  refine Rch.go (fun _ kk_ => XS.iload X6.here hx rfl (hb hby d5_119) rfl  kk_) ?_
  show Rch p e below (T6.setTop (mkF m 121 #[.val (.ref a1), .val (.long q1), .second, .val (.long t0), .second, .val (.int (0 : Int32)), .unset, .unset, .unset, .unset, .unset, .unset, .unset, .unset, .unset] [(.int (0 : Int32)), (.ref tm), (.long q1)])) _
  obtain ⟨cl7, Ar7, q7, S7, M7, H7, G7⟩ := id V_tm
  refine Rch.go (X6.laload hx (j := (0 : Int32)) (v := (.long t0)) (by rw [e6]; exact Ar7.1) (State.isArrayOf_alike hZ.alike Ar7.2.1) Ar7.2.2 (inb_of S7 ⟨by decide, by decide⟩) (Has.at H7 (inb_of S7 ⟨by decide, by decide⟩) rfl) (g := (mkF m 121 #[.val (.ref a1), .val (.long q1), .second, .val (.long t0), .second, .val (.int (0 : Int32)), .unset, .unset, .unset, .unset, .unset, .unset, .unset, .unset, .unset] [(.int (0 : Int32)), (.ref tm), (.long q1)])) rfl rfl (hb hby d5_121)) ?_
  show Rch p e below (T6.setTop (mkF m 122 #[.val (.ref a1), .val (.long q1), .second, .val (.long t0), .second, .val (.int (0 : Int32)), .unset, .unset, .unset, .unset, .unset, .unset, .unset, .unset, .unset] [(.long t0), (.long q1)])) _
  refine Rch.go (fun _ kk_ => XS.lsub X6.here hx rfl (hb hby d5_122) rfl kk_) ?_
  show Rch p e below (T6.setTop (mkF m 123 #[.val (.ref a1), .val (.long q1), .second, .val (.long t0), .second, .val (.int (0 : Int32)), .unset, .unset, .unset, .unset, .unset, .unset, .unset, .unset, .unset] [(.long (q1 - t0))])) _
  rw [hnow]
  show Rch p e below (T6.setTop (mkF m 123 #[.val (.ref a1), .val (.long q1), .second, .val (.long t0), .second, .val (.int (0 : Int32)), .unset, .unset, .unset, .unset, .unset, .unset, .unset, .unset, .unset] [(.long (1048576 : Int64))])) _
  refine Rch.go (fun _ kk_ => XS.lstore X6.here hx rfl (hb hby d5_123) rfl (l' := #[.val (.ref a1), .val (.long q1), .second, .val (.long t0), .second, .val (.int (0 : Int32)), .val (.long (1048576 : Int64)), .second, .unset, .unset, .unset, .unset, .unset, .unset, .unset]) rfl kk_) ?_
  show Rch p e below (T6.setTop (mkF m 125 #[.val (.ref a1), .val (.long q1), .second, .val (.long t0), .second, .val (.int (0 : Int32)), .val (.long (1048576 : Int64)), .second, .unset, .unset, .unset, .unset, .unset, .unset, .unset] [])) _
  refine Rch.go (fun _ kk_ => XS.aloadN X6.here hx rfl (hb hby d5_125) rfl rfl kk_) ?_
  show Rch p e below (T6.setTop (mkF m 126 #[.val (.ref a1), .val (.long q1), .second, .val (.long t0), .second, .val (.int (0 : Int32)), .val (.long (1048576 : Int64)), .second, .unset, .unset, .unset, .unset, .unset, .unset, .unset] [(.ref a1)])) _
  obtain ⟨T8, X8, e8, st8⟩ := getF X6 hx hZ hown (host := "") (Or.inl (hw _ (List.mem_of_getElem? (i := 36) rfl))) Via.refl e6 F_count (g := (mkF m 126 #[.val (.ref a1), .val (.long q1), .second, .val (.long t0), .second, .val (.int (0 : Int32)), .val (.long (1048576 : Int64)), .second, .unset, .unset, .unset, .unset, .unset, .unset, .unset] [(.ref a1)])) rfl rfl (hb hby d5_126)
  refine Rch.go st8 ?_
  show Rch p e below (T8.setTop (mkF m 129 #[.val (.ref a1), .val (.long q1), .second, .val (.long t0), .second, .val (.int (0 : Int32)), .val (.long (1048576 : Int64)), .second, .unset, .unset, .unset, .unset, .unset, .unset, .unset] [(.long K)])) _
  refine Rch.go (fun _ kk_ => XS.aloadN X8.here hx rfl (hb hby d5_129) rfl rfl kk_) ?_
  show Rch p e below (T8.setTop (mkF m 130 #[.val (.ref a1), .val (.long q1), .second, .val (.long t0), .second, .val (.int (0 : Int32)), .val (.long (1048576 : Int64)), .second, .unset, .unset, .unset, .unset, .unset, .unset, .unset] [(.ref a1), (.long K)])) _
  obtain ⟨T9, X9, e9, st9⟩ := getF X8 hx hZ hown (host := "") (Or.inl (hw _ (List.mem_of_getElem? (i := 14) rfl))) Via.refl e8 F_counts (g := (mkF m 130 #[.val (.ref a1), .val (.long q1), .second, .val (.long t0), .second, .val (.int (0 : Int32)), .val (.long (1048576 : Int64)), .second, .unset, .unset, .unset, .unset, .unset, .unset, .unset] [(.ref a1), (.long K)])) rfl rfl (hb hby d5_130)
  refine Rch.go st9 ?_
  show Rch p e below (T9.setTop (mkF m 133 #[.val (.ref a1), .val (.long q1), .second, .val (.long t0), .second, .val (.int (0 : Int32)), .val (.long (1048576 : Int64)), .second, .unset, .unset, .unset, .unset, .unset, .unset, .unset] [(.ref cn), (.long K)])) _
  refine Rch.go (fun _ kk_ => XS.iload X9.here hx rfl (hb hby d5_133) rfl  kk_) ?_
  show Rch p e below (T9.setTop (mkF m 135 #[.val (.ref a1), .val (.long q1), .second, .val (.long t0), .second, .val (.int (0 : Int32)), .val (.long (1048576 : Int64)), .second, .unset, .unset, .unset, .unset, .unset, .unset, .unset] [(.int (0 : Int32)), (.ref cn), (.long K)])) _
  obtain ⟨cl10, Ar10, q10, S10, M10, H10, G10⟩ := id V_cn
  refine Rch.go (X9.laload hx (j := (0 : Int32)) (v := (.long (0 : Int64))) (by rw [e9]; exact Ar10.1) (State.isArrayOf_alike hZ.alike Ar10.2.1) Ar10.2.2 (inb_of S10 ⟨by decide, by decide⟩) (Has.at H10 (inb_of S10 ⟨by decide, by decide⟩) rfl) (g := (mkF m 135 #[.val (.ref a1), .val (.long q1), .second, .val (.long t0), .second, .val (.int (0 : Int32)), .val (.long (1048576 : Int64)), .second, .unset, .unset, .unset, .unset, .unset, .unset, .unset] [(.int (0 : Int32)), (.ref cn), (.long K)])) rfl rfl (hb hby d5_135)) ?_
  show Rch p e below (T9.setTop (mkF m 136 #[.val (.ref a1), .val (.long q1), .second, .val (.long t0), .second, .val (.int (0 : Int32)), .val (.long (1048576 : Int64)), .second, .unset, .unset, .unset, .unset, .unset, .unset, .unset] [(.long (0 : Int64)), (.long K)])) _
  refine Rch.go (fun _ kk_ => XS.lsub X9.here hx rfl (hb hby d5_136) rfl kk_) ?_
  show Rch p e below (T9.setTop (mkF m 137 #[.val (.ref a1), .val (.long q1), .second, .val (.long t0), .second, .val (.int (0 : Int32)), .val (.long (1048576 : Int64)), .second, .unset, .unset, .unset, .unset, .unset, .unset, .unset] [(.long (K - (0 : Int64)))])) _
  rw [(show (K - (0 : Int64)) = K from Int64.sub_zero _)]
  show Rch p e below (T9.setTop (mkF m 137 #[.val (.ref a1), .val (.long q1), .second, .val (.long t0), .second, .val (.int (0 : Int32)), .val (.long (1048576 : Int64)), .second, .unset, .unset, .unset, .unset, .unset, .unset, .unset] [(.long K)])) _
  refine Rch.go (fun _ kk_ => XS.lstore X9.here hx rfl (hb hby d5_137) rfl (l' := #[.val (.ref a1), .val (.long q1), .second, .val (.long t0), .second, .val (.int (0 : Int32)), .val (.long (1048576 : Int64)), .second, .val (.long K), .second, .unset, .unset, .unset, .unset, .unset]) rfl kk_) ?_
  show Rch p e below (T9.setTop (mkF m 139 #[.val (.ref a1), .val (.long q1), .second, .val (.long t0), .second, .val (.int (0 : Int32)), .val (.long (1048576 : Int64)), .second, .val (.long K), .second, .unset, .unset, .unset, .unset, .unset] [])) _
  refine Rch.go (fun _ kk_ => XS.lload X9.here hx rfl (hb hby d5_139) rfl  kk_) ?_
  show Rch p e below (T9.setTop (mkF m 141 #[.val (.ref a1), .val (.long q1), .second, .val (.long t0), .second, .val (.int (0 : Int32)), .val (.long (1048576 : Int64)), .second, .val (.long K), .second, .unset, .unset, .unset, .unset, .unset] [(.long (1048576 : Int64))])) _
  refine Rch.go (fun _ kk_ => XS.lconst X9.here hx rfl (hb hby d5_141) kk_) ?_
  show Rch p e below (T9.setTop (mkF m 142 #[.val (.ref a1), .val (.long q1), .second, .val (.long t0), .second, .val (.int (0 : Int32)), .val (.long (1048576 : Int64)), .second, .val (.long K), .second, .unset, .unset, .unset, .unset, .unset] [(.long (0 : Int64)), (.long (1048576 : Int64))])) _
  refine Rch.go (fun _ kk_ => XS.lcmp X9.here hx rfl (hb hby d5_142) rfl kk_) ?_
  show Rch p e below (T9.setTop (mkF m 143 #[.val (.ref a1), .val (.long q1), .second, .val (.long t0), .second, .val (.int (0 : Int32)), .val (.long (1048576 : Int64)), .second, .val (.long K), .second, .unset, .unset, .unset, .unset, .unset] [(.int (lcmpW (1048576 : Int64) (0 : Int64)))])) _
  refine Rch.go (fun _ kk_ => XS.ifNo X9.here hx rfl (hb hby d5_143) rfl ((if0 _ _).trans (tlt (by decide)).2.2.2) kk_) ?_
  show Rch p e below (T9.setTop (mkF m 146 #[.val (.ref a1), .val (.long q1), .second, .val (.long t0), .second, .val (.int (0 : Int32)), .val (.long (1048576 : Int64)), .second, .val (.long K), .second, .unset, .unset, .unset, .unset, .unset] [])) _
  refine Rch.go (fun _ kk_ => XS.lload X9.here hx rfl (hb hby d5_146) rfl  kk_) ?_
  show Rch p e below (T9.setTop (mkF m 148 #[.val (.ref a1), .val (.long q1), .second, .val (.long t0), .second, .val (.int (0 : Int32)), .val (.long (1048576 : Int64)), .second, .val (.long K), .second, .unset, .unset, .unset, .unset, .unset] [(.long K)])) _
  refine Rch.go (fun _ kk_ => XS.lconst X9.here hx rfl (hb hby d5_148) kk_) ?_
  show Rch p e below (T9.setTop (mkF m 149 #[.val (.ref a1), .val (.long q1), .second, .val (.long t0), .second, .val (.int (0 : Int32)), .val (.long (1048576 : Int64)), .second, .val (.long K), .second, .unset, .unset, .unset, .unset, .unset] [(.long (0 : Int64)), (.long K)])) _
  refine Rch.go (fun _ kk_ => XS.lcmp X9.here hx rfl (hb hby d5_149) rfl kk_) ?_
  show Rch p e below (T9.setTop (mkF m 150 #[.val (.ref a1), .val (.long q1), .second, .val (.long t0), .second, .val (.int (0 : Int32)), .val (.long (1048576 : Int64)), .second, .val (.long K), .second, .unset, .unset, .unset, .unset, .unset] [(.int (lcmpW K (0 : Int64)))])) _
  by_cases hc150_11 : (0 : Int32) < (lcmpW K (0 : Int64))
  · refine Rch.go (fun _ kk_ => XS.ifYes X9.here hx rfl (pc0 := 150) (pc' := 155) rfl (hb hby d5_150) rfl ((if0 _ _).trans (tlt hc150_11).2.2.1) (by decide) (by decide) kk_) ?_
    show Rch p e below (T9.setTop (mkF m 155 #[.val (.ref a1), .val (.long q1), .second, .val (.long t0), .second, .val (.int (0 : Int32)), .val (.long (1048576 : Int64)), .second, .val (.long K), .second, .unset, .unset, .unset, .unset, .unset] [])) _
    have hp0 : 0 < K.toInt := by have := Int64.lt_iff_toInt_lt.mp ((lw_gt _ _).mp hc150_11); rwa [show (0 : Int64).toInt = 0 by decide] at this
    have hB : B53 K := ⟨by omega, by omega⟩
    obtain ⟨PP, hPP, n1, n2, n3, n4⟩ : ∃ x, FP.ddiv (FP.l2d K) (FP.l2d (1048576 : Int64)) = x ∧ Jvm.Free.Fl.NoNaN64 x ∧ FP.dmul x (FP.l2d (1048576 : Int64)) = FP.l2d K ∧ FP.dmul x (FP.l2d (0 : Int64)) = FP.l2d 0 ∧ FP.ddiv (FP.l2d (0 : Int64)) x = FP.l2d 0 := ⟨_, rfl, pace_all hp0 hK1⟩
    have hs1 : FP.dsub (FP.l2d K) (FP.l2d K) = FP.l2d (0 : Int64) := (dsub_w hB hB).trans (congrArg FP.l2d (Int64.sub_self _))
    refine Rch.go (fun _ kk_ => XS.lload X9.here hx rfl (hb hby d5_155) rfl  kk_) ?_
    show Rch p e below (T9.setTop (mkF m 157 #[.val (.ref a1), .val (.long q1), .second, .val (.long t0), .second, .val (.int (0 : Int32)), .val (.long (1048576 : Int64)), .second, .val (.long K), .second, .unset, .unset, .unset, .unset, .unset] [(.long K)])) _
    refine Rch.go (fun _ kk_ => XS.l2dS X9.here hx rfl (hb hby d5_157) rfl rfl kk_) ?_
    show Rch p e below (T9.setTop (mkF m 158 #[.val (.ref a1), .val (.long q1), .second, .val (.long t0), .second, .val (.int (0 : Int32)), .val (.long (1048576 : Int64)), .second, .val (.long K), .second, .unset, .unset, .unset, .unset, .unset] [(.double (FP.l2d K))])) _
    refine Rch.go (fun _ kk_ => XS.lload X9.here hx rfl (hb hby d5_158) rfl  kk_) ?_
    show Rch p e below (T9.setTop (mkF m 160 #[.val (.ref a1), .val (.long q1), .second, .val (.long t0), .second, .val (.int (0 : Int32)), .val (.long (1048576 : Int64)), .second, .val (.long K), .second, .unset, .unset, .unset, .unset, .unset] [(.long (1048576 : Int64)), (.double (FP.l2d K))])) _
    refine Rch.go (fun _ kk_ => XS.l2dS X9.here hx rfl (hb hby d5_160) rfl rfl kk_) ?_
    show Rch p e below (T9.setTop (mkF m 161 #[.val (.ref a1), .val (.long q1), .second, .val (.long t0), .second, .val (.int (0 : Int32)), .val (.long (1048576 : Int64)), .second, .val (.long K), .second, .unset, .unset, .unset, .unset, .unset] [(.double (FP.l2d (1048576 : Int64))), (.double (FP.l2d K))])) _
    refine Rch.go (fun _ kk_ => XS.ddivS X9.here hx rfl (hb hby d5_161) rfl (hPP ▸ n1) hPP kk_) ?_
    show Rch p e below (T9.setTop (mkF m 162 #[.val (.ref a1), .val (.long q1), .second, .val (.long t0), .second, .val (.int (0 : Int32)), .val (.long (1048576 : Int64)), .second, .val (.long K), .second, .unset, .unset, .unset, .unset, .unset] [(.double PP)])) _
    refine Rch.go (fun _ kk_ => XS.dstore X9.here hx rfl (hb hby d5_162) rfl (l' := #[.val (.ref a1), .val (.long q1), .second, .val (.long t0), .second, .val (.int (0 : Int32)), .val (.long (1048576 : Int64)), .second, .val (.long K), .second, .val (.double PP), .second, .unset, .unset, .unset]) rfl kk_) ?_
    show Rch p e below (T9.setTop (mkF m 164 #[.val (.ref a1), .val (.long q1), .second, .val (.long t0), .second, .val (.int (0 : Int32)), .val (.long (1048576 : Int64)), .second, .val (.long K), .second, .val (.double PP), .second, .unset, .unset, .unset] [])) _
    refine Rch.go (fun _ kk_ => XS.aloadN X9.here hx rfl (hb hby d5_164) rfl rfl kk_) ?_
    show Rch p e below (T9.setTop (mkF m 165 #[.val (.ref a1), .val (.long q1), .second, .val (.long t0), .second, .val (.int (0 : Int32)), .val (.long (1048576 : Int64)), .second, .val (.long K), .second, .val (.double PP), .second, .unset, .unset, .unset] [(.ref a1)])) _
    obtain ⟨T12, X12, e12, st12⟩ := getF X9 hx hZ hown (host := "") (Or.inl (hw _ (List.mem_of_getElem? (i := 36) rfl))) Via.refl e9 F_count (g := (mkF m 165 #[.val (.ref a1), .val (.long q1), .second, .val (.long t0), .second, .val (.int (0 : Int32)), .val (.long (1048576 : Int64)), .second, .val (.long K), .second, .val (.double PP), .second, .unset, .unset, .unset] [(.ref a1)])) rfl rfl (hb hby d5_165)
    refine Rch.go st12 ?_
    show Rch p e below (T12.setTop (mkF m 168 #[.val (.ref a1), .val (.long q1), .second, .val (.long t0), .second, .val (.int (0 : Int32)), .val (.long (1048576 : Int64)), .second, .val (.long K), .second, .val (.double PP), .second, .unset, .unset, .unset] [(.long K)])) _
    refine Rch.go (fun _ kk_ => XS.l2dS X12.here hx rfl (hb hby d5_168) rfl rfl kk_) ?_
    show Rch p e below (T12.setTop (mkF m 169 #[.val (.ref a1), .val (.long q1), .second, .val (.long t0), .second, .val (.int (0 : Int32)), .val (.long (1048576 : Int64)), .second, .val (.long K), .second, .val (.double PP), .second, .unset, .unset, .unset] [(.double (FP.l2d K))])) _
    refine Rch.go (fun _ kk_ => XS.dload X12.here hx rfl (hb hby d5_169) rfl kk_) ?_
    show Rch p e below (T12.setTop (mkF m 171 #[.val (.ref a1), .val (.long q1), .second, .val (.long t0), .second, .val (.int (0 : Int32)), .val (.long (1048576 : Int64)), .second, .val (.long K), .second, .val (.double PP), .second, .unset, .unset, .unset] [(.double PP), (.double (FP.l2d K))])) _
    refine Rch.go (fun _ kk_ => XS.lloadN X12.here hx rfl (hb hby d5_171) rfl  kk_) ?_
    show Rch p e below (T12.setTop (mkF m 172 #[.val (.ref a1), .val (.long q1), .second, .val (.long t0), .second, .val (.int (0 : Int32)), .val (.long (1048576 : Int64)), .second, .val (.long K), .second, .val (.double PP), .second, .unset, .unset, .unset] [(.long q1), (.double PP), (.double (FP.l2d K))])) _
    refine Rch.go (fun _ kk_ => XS.lloadN X12.here hx rfl (hb hby d5_172) rfl  kk_) ?_
    show Rch p e below (T12.setTop (mkF m 173 #[.val (.ref a1), .val (.long q1), .second, .val (.long t0), .second, .val (.int (0 : Int32)), .val (.long (1048576 : Int64)), .second, .val (.long K), .second, .val (.double PP), .second, .unset, .unset, .unset] [(.long t0), (.long q1), (.double PP), (.double (FP.l2d K))])) _
    refine Rch.go (fun _ kk_ => XS.lsub X12.here hx rfl (hb hby d5_173) rfl kk_) ?_
    show Rch p e below (T12.setTop (mkF m 174 #[.val (.ref a1), .val (.long q1), .second, .val (.long t0), .second, .val (.int (0 : Int32)), .val (.long (1048576 : Int64)), .second, .val (.long K), .second, .val (.double PP), .second, .unset, .unset, .unset] [(.long (q1 - t0)), (.double PP), (.double (FP.l2d K))])) _
    rw [hnow]
    show Rch p e below (T12.setTop (mkF m 174 #[.val (.ref a1), .val (.long q1), .second, .val (.long t0), .second, .val (.int (0 : Int32)), .val (.long (1048576 : Int64)), .second, .val (.long K), .second, .val (.double PP), .second, .unset, .unset, .unset] [(.long (1048576 : Int64)), (.double PP), (.double (FP.l2d K))])) _
    refine Rch.go (fun _ kk_ => XS.l2dS X12.here hx rfl (hb hby d5_174) rfl rfl kk_) ?_
    show Rch p e below (T12.setTop (mkF m 175 #[.val (.ref a1), .val (.long q1), .second, .val (.long t0), .second, .val (.int (0 : Int32)), .val (.long (1048576 : Int64)), .second, .val (.long K), .second, .val (.double PP), .second, .unset, .unset, .unset] [(.double (FP.l2d (1048576 : Int64))), (.double PP), (.double (FP.l2d K))])) _
    refine Rch.go (fun _ kk_ => XS.dmulS X12.here hx rfl (hb hby d5_175) rfl (nn_w n2) n2 kk_) ?_
    show Rch p e below (T12.setTop (mkF m 176 #[.val (.ref a1), .val (.long q1), .second, .val (.long t0), .second, .val (.int (0 : Int32)), .val (.long (1048576 : Int64)), .second, .val (.long K), .second, .val (.double PP), .second, .unset, .unset, .unset] [(.double (FP.l2d K)), (.double (FP.l2d K))])) _
    refine Rch.go (fun _ kk_ => XS.dsubS X12.here hx rfl (hb hby d5_176) rfl (nn_w hs1) hs1 kk_) ?_
    show Rch p e below (T12.setTop (mkF m 177 #[.val (.ref a1), .val (.long q1), .second, .val (.long t0), .second, .val (.int (0 : Int32)), .val (.long (1048576 : Int64)), .second, .val (.long K), .second, .val (.double PP), .second, .unset, .unset, .unset] [(.double (FP.l2d (0 : Int64)))])) _
    refine Rch.go (fun _ kk_ => XS.dstore X12.here hx rfl (hb hby d5_177) rfl (l' := #[.val (.ref a1), .val (.long q1), .second, .val (.long t0), .second, .val (.int (0 : Int32)), .val (.long (1048576 : Int64)), .second, .val (.long K), .second, .val (.double PP), .second, .val (.double (FP.l2d (0 : Int64))), .second, .unset]) rfl kk_) ?_
    show Rch p e below (T12.setTop (mkF m 179 #[.val (.ref a1), .val (.long q1), .second, .val (.long t0), .second, .val (.int (0 : Int32)), .val (.long (1048576 : Int64)), .second, .val (.long K), .second, .val (.double PP), .second, .val (.double (FP.l2d (0 : Int64))), .second, .unset] [])) _
    refine Rch.go (fun _ kk_ => XS.iconst X12.here hx rfl (hb hby d5_179) kk_) ?_
    show Rch p e below (T12.setTop (mkF m 180 #[.val (.ref a1), .val (.long q1), .second, .val (.long t0), .second, .val (.int (0 : Int32)), .val (.long (1048576 : Int64)), .second, .val (.long K), .second, .val (.double PP), .second, .val (.double (FP.l2d (0 : Int64))), .second, .unset] [(.int (0 : Int32))])) _
    refine Rch.go (fun _ kk_ => XS.istore X12.here hx rfl (hb hby d5_180) rfl (l' := #[.val (.ref a1), .val (.long q1), .second, .val (.long t0), .second, .val (.int (0 : Int32)), .val (.long (1048576 : Int64)), .second, .val (.long K), .second, .val (.double PP), .second, .val (.double (FP.l2d (0 : Int64))), .second, .val (.int (0 : Int32))]) rfl kk_) ?_
    show Rch p e below (T12.setTop (mkF m 182 #[.val (.ref a1), .val (.long q1), .second, .val (.long t0), .second, .val (.int (0 : Int32)), .val (.long (1048576 : Int64)), .second, .val (.long K), .second, .val (.double PP), .second, .val (.double (FP.l2d (0 : Int64))), .second, .val (.int (0 : Int32))] [])) _
    refine Rch.go (fun _ kk_ => XS.iload X12.here hx rfl (hb hby d5_182) rfl  kk_) ?_
    show Rch p e below (T12.setTop (mkF m 184 #[.val (.ref a1), .val (.long q1), .second, .val (.long t0), .second, .val (.int (0 : Int32)), .val (.long (1048576 : Int64)), .second, .val (.long K), .second, .val (.double PP), .second, .val (.double (FP.l2d (0 : Int64))), .second, .val (.int (0 : Int32))] [(.int (0 : Int32))])) _
    refine Rch.go (fun _ kk_ => XS.aloadN X12.here hx rfl (hb hby d5_184) rfl rfl kk_) ?_
    show Rch p e below (T12.setTop (mkF m 185 #[.val (.ref a1), .val (.long q1), .second, .val (.long t0), .second, .val (.int (0 : Int32)), .val (.long (1048576 : Int64)), .second, .val (.long K), .second, .val (.double PP), .second, .val (.double (FP.l2d (0 : Int64))), .second, .val (.int (0 : Int32))] [(.ref a1), (.int (0 : Int32))])) _
    obtain ⟨T13, X13, e13, st13⟩ := getF X12 hx hZ hown (host := "") (Or.inl (hw _ (List.mem_of_getElem? (i := 34) rfl))) Via.refl e12 F_kept (g := (mkF m 185 #[.val (.ref a1), .val (.long q1), .second, .val (.long t0), .second, .val (.int (0 : Int32)), .val (.long (1048576 : Int64)), .second, .val (.long K), .second, .val (.double PP), .second, .val (.double (FP.l2d (0 : Int64))), .second, .val (.int (0 : Int32))] [(.ref a1), (.int (0 : Int32))])) rfl rfl (hb hby d5_185)
    refine Rch.go st13 ?_
    show Rch p e below (T13.setTop (mkF m 188 #[.val (.ref a1), .val (.long q1), .second, .val (.long t0), .second, .val (.int (0 : Int32)), .val (.long (1048576 : Int64)), .second, .val (.long K), .second, .val (.double PP), .second, .val (.double (FP.l2d (0 : Int64))), .second, .val (.int (0 : Int32))] [(.int (1 : Int32)), (.int (0 : Int32))])) _
    refine Rch.go (fun _ kk_ => XS.icmpNo X13.here hx rfl (hb hby d5_188) rfl (tlt (by decide)).2.1 kk_) ?_
    show Rch p e below (T13.setTop (mkF m 191 #[.val (.ref a1), .val (.long q1), .second, .val (.long t0), .second, .val (.int (0 : Int32)), .val (.long (1048576 : Int64)), .second, .val (.long K), .second, .val (.double PP), .second, .val (.double (FP.l2d (0 : Int64))), .second, .val (.int (0 : Int32))] [])) _
    refine Rch.go (fun _ kk_ => XS.dload X13.here hx rfl (hb hby d5_191) rfl kk_) ?_
    show Rch p e below (T13.setTop (mkF m 193 #[.val (.ref a1), .val (.long q1), .second, .val (.long t0), .second, .val (.int (0 : Int32)), .val (.long (1048576 : Int64)), .second, .val (.long K), .second, .val (.double PP), .second, .val (.double (FP.l2d (0 : Int64))), .second, .val (.int (0 : Int32))] [(.double (FP.l2d (0 : Int64)))])) _
    refine Rch.go (fun _ kk_ => XS.aloadN X13.here hx rfl (hb hby d5_193) rfl rfl kk_) ?_
    show Rch p e below (T13.setTop (mkF m 194 #[.val (.ref a1), .val (.long q1), .second, .val (.long t0), .second, .val (.int (0 : Int32)), .val (.long (1048576 : Int64)), .second, .val (.long K), .second, .val (.double PP), .second, .val (.double (FP.l2d (0 : Int64))), .second, .val (.int (0 : Int32))] [(.ref a1), (.double (FP.l2d (0 : Int64)))])) _
    obtain ⟨T14, X14, e14, st14⟩ := getF X13 hx hZ hown (host := "") (Or.inl (hw _ (List.mem_of_getElem? (i := 14) rfl))) Via.refl e13 F_counts (g := (mkF m 194 #[.val (.ref a1), .val (.long q1), .second, .val (.long t0), .second, .val (.int (0 : Int32)), .val (.long (1048576 : Int64)), .second, .val (.long K), .second, .val (.double PP), .second, .val (.double (FP.l2d (0 : Int64))), .second, .val (.int (0 : Int32))] [(.ref a1), (.double (FP.l2d (0 : Int64)))])) rfl rfl (hb hby d5_194)
    refine Rch.go st14 ?_
    show Rch p e below (T14.setTop (mkF m 197 #[.val (.ref a1), .val (.long q1), .second, .val (.long t0), .second, .val (.int (0 : Int32)), .val (.long (1048576 : Int64)), .second, .val (.long K), .second, .val (.double PP), .second, .val (.double (FP.l2d (0 : Int64))), .second, .val (.int (0 : Int32))] [(.ref cn), (.double (FP.l2d (0 : Int64)))])) _
    refine Rch.go (fun _ kk_ => XS.iload X14.here hx rfl (hb hby d5_197) rfl  kk_) ?_
    show Rch p e below (T14.setTop (mkF m 199 #[.val (.ref a1), .val (.long q1), .second, .val (.long t0), .second, .val (.int (0 : Int32)), .val (.long (1048576 : Int64)), .second, .val (.long K), .second, .val (.double PP), .second, .val (.double (FP.l2d (0 : Int64))), .second, .val (.int (0 : Int32))] [(.int (0 : Int32)), (.ref cn), (.double (FP.l2d (0 : Int64)))])) _
    obtain ⟨cl15, Ar15, q15, S15, M15, H15, G15⟩ := id V_cn
    refine Rch.go (X14.laload hx (j := (0 : Int32)) (v := (.long (0 : Int64))) (by rw [e14]; exact Ar15.1) (State.isArrayOf_alike hZ.alike Ar15.2.1) Ar15.2.2 (inb_of S15 ⟨by decide, by decide⟩) (Has.at H15 (inb_of S15 ⟨by decide, by decide⟩) rfl) (g := (mkF m 199 #[.val (.ref a1), .val (.long q1), .second, .val (.long t0), .second, .val (.int (0 : Int32)), .val (.long (1048576 : Int64)), .second, .val (.long K), .second, .val (.double PP), .second, .val (.double (FP.l2d (0 : Int64))), .second, .val (.int (0 : Int32))] [(.int (0 : Int32)), (.ref cn), (.double (FP.l2d (0 : Int64)))])) rfl rfl (hb hby d5_199)) ?_
    show Rch p e below (T14.setTop (mkF m 200 #[.val (.ref a1), .val (.long q1), .second, .val (.long t0), .second, .val (.int (0 : Int32)), .val (.long (1048576 : Int64)), .second, .val (.long K), .second, .val (.double PP), .second, .val (.double (FP.l2d (0 : Int64))), .second, .val (.int (0 : Int32))] [(.long (0 : Int64)), (.double (FP.l2d (0 : Int64)))])) _
    refine Rch.go (fun _ kk_ => XS.l2dS X14.here hx rfl (hb hby d5_200) rfl rfl kk_) ?_
    show Rch p e below (T14.setTop (mkF m 201 #[.val (.ref a1), .val (.long q1), .second, .val (.long t0), .second, .val (.int (0 : Int32)), .val (.long (1048576 : Int64)), .second, .val (.long K), .second, .val (.double PP), .second, .val (.double (FP.l2d (0 : Int64))), .second, .val (.int (0 : Int32))] [(.double (FP.l2d (0 : Int64))), (.double (FP.l2d (0 : Int64)))])) _
    refine Rch.go (fun _ kk_ => XS.dload X14.here hx rfl (hb hby d5_201) rfl kk_) ?_
    show Rch p e below (T14.setTop (mkF m 203 #[.val (.ref a1), .val (.long q1), .second, .val (.long t0), .second, .val (.int (0 : Int32)), .val (.long (1048576 : Int64)), .second, .val (.long K), .second, .val (.double PP), .second, .val (.double (FP.l2d (0 : Int64))), .second, .val (.int (0 : Int32))] [(.double PP), (.double (FP.l2d (0 : Int64))), (.double (FP.l2d (0 : Int64)))])) _
    refine Rch.go (fun _ kk_ => XS.aloadN X14.here hx rfl (hb hby d5_203) rfl rfl kk_) ?_
    show Rch p e below (T14.setTop (mkF m 204 #[.val (.ref a1), .val (.long q1), .second, .val (.long t0), .second, .val (.int (0 : Int32)), .val (.long (1048576 : Int64)), .second, .val (.long K), .second, .val (.double PP), .second, .val (.double (FP.l2d (0 : Int64))), .second, .val (.int (0 : Int32))] [(.ref a1), (.double PP), (.double (FP.l2d (0 : Int64))), (.double (FP.l2d (0 : Int64)))])) _
    obtain ⟨T16, X16, e16, st16⟩ := getF X14 hx hZ hown (host := "") (Or.inl (hw _ (List.mem_of_getElem? (i := 12) rfl))) Via.refl e14 F_times (g := (mkF m 204 #[.val (.ref a1), .val (.long q1), .second, .val (.long t0), .second, .val (.int (0 : Int32)), .val (.long (1048576 : Int64)), .second, .val (.long K), .second, .val (.double PP), .second, .val (.double (FP.l2d (0 : Int64))), .second, .val (.int (0 : Int32))] [(.ref a1), (.double PP), (.double (FP.l2d (0 : Int64))), (.double (FP.l2d (0 : Int64)))])) rfl rfl (hb hby d5_204)
    refine Rch.go st16 ?_
    show Rch p e below (T16.setTop (mkF m 207 #[.val (.ref a1), .val (.long q1), .second, .val (.long t0), .second, .val (.int (0 : Int32)), .val (.long (1048576 : Int64)), .second, .val (.long K), .second, .val (.double PP), .second, .val (.double (FP.l2d (0 : Int64))), .second, .val (.int (0 : Int32))] [(.ref tm), (.double PP), (.double (FP.l2d (0 : Int64))), (.double (FP.l2d (0 : Int64)))])) _
    refine Rch.go (fun _ kk_ => XS.iload X16.here hx rfl (hb hby d5_207) rfl  kk_) ?_
    show Rch p e below (T16.setTop (mkF m 209 #[.val (.ref a1), .val (.long q1), .second, .val (.long t0), .second, .val (.int (0 : Int32)), .val (.long (1048576 : Int64)), .second, .val (.long K), .second, .val (.double PP), .second, .val (.double (FP.l2d (0 : Int64))), .second, .val (.int (0 : Int32))] [(.int (0 : Int32)), (.ref tm), (.double PP), (.double (FP.l2d (0 : Int64))), (.double (FP.l2d (0 : Int64)))])) _
    obtain ⟨cl17, Ar17, q17, S17, M17, H17, G17⟩ := id V_tm
    refine Rch.go (X16.laload hx (j := (0 : Int32)) (v := (.long t0)) (by rw [e16]; exact Ar17.1) (State.isArrayOf_alike hZ.alike Ar17.2.1) Ar17.2.2 (inb_of S17 ⟨by decide, by decide⟩) (Has.at H17 (inb_of S17 ⟨by decide, by decide⟩) rfl) (g := (mkF m 209 #[.val (.ref a1), .val (.long q1), .second, .val (.long t0), .second, .val (.int (0 : Int32)), .val (.long (1048576 : Int64)), .second, .val (.long K), .second, .val (.double PP), .second, .val (.double (FP.l2d (0 : Int64))), .second, .val (.int (0 : Int32))] [(.int (0 : Int32)), (.ref tm), (.double PP), (.double (FP.l2d (0 : Int64))), (.double (FP.l2d (0 : Int64)))])) rfl rfl (hb hby d5_209)) ?_
    show Rch p e below (T16.setTop (mkF m 210 #[.val (.ref a1), .val (.long q1), .second, .val (.long t0), .second, .val (.int (0 : Int32)), .val (.long (1048576 : Int64)), .second, .val (.long K), .second, .val (.double PP), .second, .val (.double (FP.l2d (0 : Int64))), .second, .val (.int (0 : Int32))] [(.long t0), (.double PP), (.double (FP.l2d (0 : Int64))), (.double (FP.l2d (0 : Int64)))])) _
    refine Rch.go (fun _ kk_ => XS.lloadN X16.here hx rfl (hb hby d5_210) rfl  kk_) ?_
    show Rch p e below (T16.setTop (mkF m 211 #[.val (.ref a1), .val (.long q1), .second, .val (.long t0), .second, .val (.int (0 : Int32)), .val (.long (1048576 : Int64)), .second, .val (.long K), .second, .val (.double PP), .second, .val (.double (FP.l2d (0 : Int64))), .second, .val (.int (0 : Int32))] [(.long t0), (.long t0), (.double PP), (.double (FP.l2d (0 : Int64))), (.double (FP.l2d (0 : Int64)))])) _
    refine Rch.go (fun _ kk_ => XS.lsub X16.here hx rfl (hb hby d5_211) rfl kk_) ?_
    show Rch p e below (T16.setTop (mkF m 212 #[.val (.ref a1), .val (.long q1), .second, .val (.long t0), .second, .val (.int (0 : Int32)), .val (.long (1048576 : Int64)), .second, .val (.long K), .second, .val (.double PP), .second, .val (.double (FP.l2d (0 : Int64))), .second, .val (.int (0 : Int32))] [(.long (t0 - t0)), (.double PP), (.double (FP.l2d (0 : Int64))), (.double (FP.l2d (0 : Int64)))])) _
    rw [(show (t0 - t0) = (0 : Int64) from Int64.sub_self _)]
    show Rch p e below (T16.setTop (mkF m 212 #[.val (.ref a1), .val (.long q1), .second, .val (.long t0), .second, .val (.int (0 : Int32)), .val (.long (1048576 : Int64)), .second, .val (.long K), .second, .val (.double PP), .second, .val (.double (FP.l2d (0 : Int64))), .second, .val (.int (0 : Int32))] [(.long (0 : Int64)), (.double PP), (.double (FP.l2d (0 : Int64))), (.double (FP.l2d (0 : Int64)))])) _
    refine Rch.go (fun _ kk_ => XS.l2dS X16.here hx rfl (hb hby d5_212) rfl rfl kk_) ?_
    show Rch p e below (T16.setTop (mkF m 213 #[.val (.ref a1), .val (.long q1), .second, .val (.long t0), .second, .val (.int (0 : Int32)), .val (.long (1048576 : Int64)), .second, .val (.long K), .second, .val (.double PP), .second, .val (.double (FP.l2d (0 : Int64))), .second, .val (.int (0 : Int32))] [(.double (FP.l2d (0 : Int64))), (.double PP), (.double (FP.l2d (0 : Int64))), (.double (FP.l2d (0 : Int64)))])) _
    refine Rch.go (fun _ kk_ => XS.dmulS X16.here hx rfl (hb hby d5_213) rfl (nn_w n3) n3 kk_) ?_
    show Rch p e below (T16.setTop (mkF m 214 #[.val (.ref a1), .val (.long q1), .second, .val (.long t0), .second, .val (.int (0 : Int32)), .val (.long (1048576 : Int64)), .second, .val (.long K), .second, .val (.double PP), .second, .val (.double (FP.l2d (0 : Int64))), .second, .val (.int (0 : Int32))] [(.double (FP.l2d (0 : Int64))), (.double (FP.l2d (0 : Int64))), (.double (FP.l2d (0 : Int64)))])) _
    refine Rch.go (fun _ kk_ => XS.dsubS X16.here hx rfl (hb hby d5_214) rfl (nn_w own_s00) own_s00 kk_) ?_
    show Rch p e below (T16.setTop (mkF m 215 #[.val (.ref a1), .val (.long q1), .second, .val (.long t0), .second, .val (.int (0 : Int32)), .val (.long (1048576 : Int64)), .second, .val (.long K), .second, .val (.double PP), .second, .val (.double (FP.l2d (0 : Int64))), .second, .val (.int (0 : Int32))] [(.double (FP.l2d (0 : Int64))), (.double (FP.l2d (0 : Int64)))])) _
    obtain ⟨T18, X18, e18, st18⟩ := natS X16 hx hZ (y := (⟨"java/lang/Math", "max", "(DD)D"⟩ : MethodName)) hown (hw _ (List.mem_of_getElem? (i := 44) rfl)) (hw _ (List.mem_of_getElem? (i := 45) rfl)) (hw _ (List.mem_of_getElem? (i := 46) rfl)) (hw _ (List.mem_of_getElem? (i := 47) rfl)) (by decide) e16 (W := 0) (fun hc_ => Jvm.Free.Fl.Abs.maxD_pays (FP.l2d (0 : Int64)) (FP.l2d (0 : Int64)) hc_ (by decide) (by decide)) (g := (mkF m 215 #[.val (.ref a1), .val (.long q1), .second, .val (.long t0), .second, .val (.int (0 : Int32)), .val (.long (1048576 : Int64)), .second, .val (.long K), .second, .val (.double PP), .second, .val (.double (FP.l2d (0 : Int64))), .second, .val (.int (0 : Int32))] [(.double (FP.l2d (0 : Int64))), (.double (FP.l2d (0 : Int64)))])) rfl (by rw [hml]; rfl) (argsL := [(.double (FP.l2d (0 : Int64))), (.double (FP.l2d (0 : Int64)))]) (rest := []) (lenOf pd5_0 rfl) rfl (by show 2 * 0 + _ ≤ _; exact Nat.le_of_eq rfl) (hb hby d5_215) (by decide) (by decide) ⟨rfl, own_n0, own_n0⟩ (val' := .double (FP.l2d (0 : Int64))) (congrArg Value.double own_m00)
    refine Rch.go st18 ?_
    show Rch p e below (T18.setTop (mkF m 218 #[.val (.ref a1), .val (.long q1), .second, .val (.long t0), .second, .val (.int (0 : Int32)), .val (.long (1048576 : Int64)), .second, .val (.long K), .second, .val (.double PP), .second, .val (.double (FP.l2d (0 : Int64))), .second, .val (.int (0 : Int32))] [(.double (FP.l2d (0 : Int64)))])) _
    refine Rch.go (fun _ kk_ => XS.dstore X18.here hx rfl (hb hby d5_218) rfl (l' := #[.val (.ref a1), .val (.long q1), .second, .val (.long t0), .second, .val (.int (0 : Int32)), .val (.long (1048576 : Int64)), .second, .val (.long K), .second, .val (.double PP), .second, .val (.double (FP.l2d (0 : Int64))), .second, .val (.int (0 : Int32))]) rfl kk_) ?_
    show Rch p e below (T18.setTop (mkF m 220 #[.val (.ref a1), .val (.long q1), .second, .val (.long t0), .second, .val (.int (0 : Int32)), .val (.long (1048576 : Int64)), .second, .val (.long K), .second, .val (.double PP), .second, .val (.double (FP.l2d (0 : Int64))), .second, .val (.int (0 : Int32))] [])) _
    refine Rch.go (fun _ kk_ => XS.iinc X18.here hx rfl (hb hby d5_220) rfl (l' := #[.val (.ref a1), .val (.long q1), .second, .val (.long t0), .second, .val (.int (0 : Int32)), .val (.long (1048576 : Int64)), .second, .val (.long K), .second, .val (.double PP), .second, .val (.double (FP.l2d (0 : Int64))), .second, .val (.int ((0 : Int32) + (1 : Int32)))]) rfl kk_) ?_
    show Rch p e below (T18.setTop (mkF m 223 #[.val (.ref a1), .val (.long q1), .second, .val (.long t0), .second, .val (.int (0 : Int32)), .val (.long (1048576 : Int64)), .second, .val (.long K), .second, .val (.double PP), .second, .val (.double (FP.l2d (0 : Int64))), .second, .val (.int ((0 : Int32) + (1 : Int32)))] [])) _
    rw [(show ((0 : Int32) + (1 : Int32)) = (1 : Int32) from by decide)]
    show Rch p e below (T18.setTop (mkF m 223 #[.val (.ref a1), .val (.long q1), .second, .val (.long t0), .second, .val (.int (0 : Int32)), .val (.long (1048576 : Int64)), .second, .val (.long K), .second, .val (.double PP), .second, .val (.double (FP.l2d (0 : Int64))), .second, .val (.int (1 : Int32))] [])) _
    refine Rch.go (fun _ kk_ => XS.goto X18.here hx rfl (pc0 := 223) (pc' := 182) rfl (hb hby d5_223) (by decide) (by decide) kk_) ?_
    show Rch p e below (T18.setTop (mkF m 182 #[.val (.ref a1), .val (.long q1), .second, .val (.long t0), .second, .val (.int (0 : Int32)), .val (.long (1048576 : Int64)), .second, .val (.long K), .second, .val (.double PP), .second, .val (.double (FP.l2d (0 : Int64))), .second, .val (.int (1 : Int32))] [])) _
    refine Rch.go (fun _ kk_ => XS.iload X18.here hx rfl (hb hby d5_182) rfl  kk_) ?_
    show Rch p e below (T18.setTop (mkF m 184 #[.val (.ref a1), .val (.long q1), .second, .val (.long t0), .second, .val (.int (0 : Int32)), .val (.long (1048576 : Int64)), .second, .val (.long K), .second, .val (.double PP), .second, .val (.double (FP.l2d (0 : Int64))), .second, .val (.int (1 : Int32))] [(.int (1 : Int32))])) _
    refine Rch.go (fun _ kk_ => XS.aloadN X18.here hx rfl (hb hby d5_184) rfl rfl kk_) ?_
    show Rch p e below (T18.setTop (mkF m 185 #[.val (.ref a1), .val (.long q1), .second, .val (.long t0), .second, .val (.int (0 : Int32)), .val (.long (1048576 : Int64)), .second, .val (.long K), .second, .val (.double PP), .second, .val (.double (FP.l2d (0 : Int64))), .second, .val (.int (1 : Int32))] [(.ref a1), (.int (1 : Int32))])) _
    obtain ⟨T19, X19, e19, st19⟩ := getF X18 hx hZ hown (host := "") (Or.inl (hw _ (List.mem_of_getElem? (i := 34) rfl))) Via.refl e18 F_kept (g := (mkF m 185 #[.val (.ref a1), .val (.long q1), .second, .val (.long t0), .second, .val (.int (0 : Int32)), .val (.long (1048576 : Int64)), .second, .val (.long K), .second, .val (.double PP), .second, .val (.double (FP.l2d (0 : Int64))), .second, .val (.int (1 : Int32))] [(.ref a1), (.int (1 : Int32))])) rfl rfl (hb hby d5_185)
    refine Rch.go st19 ?_
    show Rch p e below (T19.setTop (mkF m 188 #[.val (.ref a1), .val (.long q1), .second, .val (.long t0), .second, .val (.int (0 : Int32)), .val (.long (1048576 : Int64)), .second, .val (.long K), .second, .val (.double PP), .second, .val (.double (FP.l2d (0 : Int64))), .second, .val (.int (1 : Int32))] [(.int (1 : Int32)), (.int (1 : Int32))])) _
    refine Rch.go (fun _ kk_ => XS.icmpYes X19.here hx rfl (pc0 := 188) (pc' := 226) rfl (hb hby d5_188) rfl (flt (by decide)).2.1 (by decide) (by decide) kk_) ?_
    show Rch p e below (T19.setTop (mkF m 226 #[.val (.ref a1), .val (.long q1), .second, .val (.long t0), .second, .val (.int (0 : Int32)), .val (.long (1048576 : Int64)), .second, .val (.long K), .second, .val (.double PP), .second, .val (.double (FP.l2d (0 : Int64))), .second, .val (.int (1 : Int32))] [])) _
    refine Rch.go (fun _ kk_ => XS.dload X19.here hx rfl (hb hby d5_226) rfl kk_) ?_
    show Rch p e below (T19.setTop (mkF m 228 #[.val (.ref a1), .val (.long q1), .second, .val (.long t0), .second, .val (.int (0 : Int32)), .val (.long (1048576 : Int64)), .second, .val (.long K), .second, .val (.double PP), .second, .val (.double (FP.l2d (0 : Int64))), .second, .val (.int (1 : Int32))] [(.double (FP.l2d (0 : Int64)))])) _
    refine Rch.go (fun _ kk_ => XS.dconst0 X19.here hx rfl (hb hby d5_228) own_dc0 kk_) ?_
    show Rch p e below (T19.setTop (mkF m 229 #[.val (.ref a1), .val (.long q1), .second, .val (.long t0), .second, .val (.int (0 : Int32)), .val (.long (1048576 : Int64)), .second, .val (.long K), .second, .val (.double PP), .second, .val (.double (FP.l2d (0 : Int64))), .second, .val (.int (1 : Int32))] [(.double (FP.l2d (0 : Int64))), (.double (FP.l2d (0 : Int64)))])) _
    obtain ⟨T20, X20, e20, st20⟩ := natS X19 hx hZ (y := (⟨"java/lang/Math", "max", "(DD)D"⟩ : MethodName)) hown (hw _ (List.mem_of_getElem? (i := 44) rfl)) (hw _ (List.mem_of_getElem? (i := 45) rfl)) (hw _ (List.mem_of_getElem? (i := 46) rfl)) (hw _ (List.mem_of_getElem? (i := 47) rfl)) (by decide) e19 (W := 0) (fun hc_ => Jvm.Free.Fl.Abs.maxD_pays (FP.l2d (0 : Int64)) (FP.l2d (0 : Int64)) hc_ (by decide) (by decide)) (g := (mkF m 229 #[.val (.ref a1), .val (.long q1), .second, .val (.long t0), .second, .val (.int (0 : Int32)), .val (.long (1048576 : Int64)), .second, .val (.long K), .second, .val (.double PP), .second, .val (.double (FP.l2d (0 : Int64))), .second, .val (.int (1 : Int32))] [(.double (FP.l2d (0 : Int64))), (.double (FP.l2d (0 : Int64)))])) rfl (by rw [hml]; rfl) (argsL := [(.double (FP.l2d (0 : Int64))), (.double (FP.l2d (0 : Int64)))]) (rest := []) (lenOf pd5_0 rfl) rfl (by show 2 * 0 + _ ≤ _; exact Nat.le_of_eq rfl) (hb hby d5_229) (by decide) (by decide) ⟨rfl, own_n0, own_n0⟩ (val' := .double (FP.l2d (0 : Int64))) (congrArg Value.double own_m00)
    refine Rch.go st20 ?_
    show Rch p e below (T20.setTop (mkF m 232 #[.val (.ref a1), .val (.long q1), .second, .val (.long t0), .second, .val (.int (0 : Int32)), .val (.long (1048576 : Int64)), .second, .val (.long K), .second, .val (.double PP), .second, .val (.double (FP.l2d (0 : Int64))), .second, .val (.int (1 : Int32))] [(.double (FP.l2d (0 : Int64)))])) _
    refine Rch.go (fun _ kk_ => XS.dload X20.here hx rfl (hb hby d5_232) rfl kk_) ?_
    show Rch p e below (T20.setTop (mkF m 234 #[.val (.ref a1), .val (.long q1), .second, .val (.long t0), .second, .val (.int (0 : Int32)), .val (.long (1048576 : Int64)), .second, .val (.long K), .second, .val (.double PP), .second, .val (.double (FP.l2d (0 : Int64))), .second, .val (.int (1 : Int32))] [(.double PP), (.double (FP.l2d (0 : Int64)))])) _
    refine Rch.go (fun _ kk_ => XS.ddivS X20.here hx rfl (hb hby d5_234) rfl (nn_w n4) n4 kk_) ?_
    show Rch p e below (T20.setTop (mkF m 235 #[.val (.ref a1), .val (.long q1), .second, .val (.long t0), .second, .val (.int (0 : Int32)), .val (.long (1048576 : Int64)), .second, .val (.long K), .second, .val (.double PP), .second, .val (.double (FP.l2d (0 : Int64))), .second, .val (.int (1 : Int32))] [(.double (FP.l2d (0 : Int64)))])) _
    refine Rch.go (X20.ldc2DoubleC hx hown (mvT hZ (hw _ (List.mem_of_getElem? (i := 48) rfl))) (g := (mkF m 235 #[.val (.ref a1), .val (.long q1), .second, .val (.long t0), .second, .val (.int (0 : Int32)), .val (.long (1048576 : Int64)), .second, .val (.long K), .second, .val (.double PP), .second, .val (.double (FP.l2d (0 : Int64))), .second, .val (.int (1 : Int32))] [(.double (FP.l2d (0 : Int64)))])) rfl (hb hby d5_235)) ?_
    show Rch p e below (T20.setTop (mkF m 238 #[.val (.ref a1), .val (.long q1), .second, .val (.long t0), .second, .val (.int (0 : Int32)), .val (.long (1048576 : Int64)), .second, .val (.long K), .second, .val (.double PP), .second, .val (.double (FP.l2d (0 : Int64))), .second, .val (.int (1 : Int32))] [(.double (4881901996069617664 : UInt64)), (.double (FP.l2d (0 : Int64)))])) _
    obtain ⟨T21, X21, e21, st21⟩ := natS X20 hx hZ (y := (⟨"java/lang/Math", "min", "(DD)D"⟩ : MethodName)) hown (hw _ (List.mem_of_getElem? (i := 49) rfl)) (hw _ (List.mem_of_getElem? (i := 50) rfl)) (hw _ (List.mem_of_getElem? (i := 46) rfl)) (hw _ (List.mem_of_getElem? (i := 51) rfl)) (by decide) e20 (W := 0) (fun hc_ => Jvm.Free.Fl.Abs.minD_pays (FP.l2d (0 : Int64)) (4881901996069617664 : UInt64) hc_ (by decide) (by decide)) (g := (mkF m 238 #[.val (.ref a1), .val (.long q1), .second, .val (.long t0), .second, .val (.int (0 : Int32)), .val (.long (1048576 : Int64)), .second, .val (.long K), .second, .val (.double PP), .second, .val (.double (FP.l2d (0 : Int64))), .second, .val (.int (1 : Int32))] [(.double (4881901996069617664 : UInt64)), (.double (FP.l2d (0 : Int64)))])) rfl (by rw [hml]; rfl) (argsL := [(.double (FP.l2d (0 : Int64))), (.double (4881901996069617664 : UInt64))]) (rest := []) (lenOf pd5_0 rfl) rfl (by show 2 * 0 + _ ≤ _; exact Nat.le_of_eq rfl) (hb hby d5_238) (by decide) (by decide) ⟨rfl, own_n0, nn_61⟩ (val' := .double (FP.l2d (0 : Int64))) (congrArg Value.double zero_pick)
    refine Rch.go st21 ?_
    show Rch p e below (T21.setTop (mkF m 241 #[.val (.ref a1), .val (.long q1), .second, .val (.long t0), .second, .val (.int (0 : Int32)), .val (.long (1048576 : Int64)), .second, .val (.long K), .second, .val (.double PP), .second, .val (.double (FP.l2d (0 : Int64))), .second, .val (.int (1 : Int32))] [(.double (FP.l2d (0 : Int64)))])) _
    refine Rch.go (fun _ kk_ => XS.d2lS X21.here hx rfl (hb hby d5_241) rfl (d2l_w own_b530) kk_) ?_
    show Rch p e below (T21.setTop (mkF m 242 #[.val (.ref a1), .val (.long q1), .second, .val (.long t0), .second, .val (.int (0 : Int32)), .val (.long (1048576 : Int64)), .second, .val (.long K), .second, .val (.double PP), .second, .val (.double (FP.l2d (0 : Int64))), .second, .val (.int (1 : Int32))] [(.long (0 : Int64))])) _
    exact Rch.ret X21 hlk (fun h => by rw [hret] at h; cases h) (fun fs hr => X21.lreturnOut hx hret (hb hby d5_242) hr) ⟨rfl, N0, e21⟩ (by decide) (by decide)
  · refine Rch.go (fun _ kk_ => XS.ifNo X9.here hx rfl (hb hby d5_150) rfl ((if0 _ _).trans (flt hc150_11).2.2.1) kk_) ?_
    show Rch p e below (T9.setTop (mkF m 153 #[.val (.ref a1), .val (.long q1), .second, .val (.long t0), .second, .val (.int (0 : Int32)), .val (.long (1048576 : Int64)), .second, .val (.long K), .second, .unset, .unset, .unset, .unset, .unset] [])) _
    refine Rch.go (fun _ kk_ => XS.lconst X9.here hx rfl (hb hby d5_153) kk_) ?_
    show Rch p e below (T9.setTop (mkF m 154 #[.val (.ref a1), .val (.long q1), .second, .val (.long t0), .second, .val (.int (0 : Int32)), .val (.long (1048576 : Int64)), .second, .val (.long K), .second, .unset, .unset, .unset, .unset, .unset] [(.long (0 : Int64))])) _
    exact Rch.ret X9 hlk (fun h => by rw [hret] at h; cases h) (fun fs hr => X9.lreturnOut hx hret (hb hby d5_154) hr) ⟨rfl, N0, e9⟩ (by decide) (by decide)
def own_Q_rm5b (Z : State) (a1 tm cn : Addr) (kt kc : ClassId) (q1 t0 K : Int64) (t1 b0 d mm : Int64) (h0 : Heap) (n0 : Nat) (v : Option Value) (h : Heap) (L : List Loc) : Prop := v = some (.long ((own_pos (K - (mm * (1048576 : Int64)))) / mm)) ∧ Fr n0 L ∧ h = h0
set_option maxRecDepth 65536 in
set_option maxHeartbeats 40000000 in
theorem rm5b (l : Launch) (Z : State) (a0 : Array Value) (hw : ∀ d ∈ tables_1, d.before a0 Z = true) (ws : List Jvm.Cond) (a1 tm cn : Addr) (kt kc : ClassId) (q1 t0 K : Int64) (t1 b0 d mm : Int64) (h0 : Heap) (n0 : Nat) (Z0 : n0 ≤ h0.size) (F_times : Fld Z h0 a1 "com/example/urchin/urchin/service/Silence$Handover" "times" "[J" (.ref tm)) (F_counts : Fld Z h0 a1 "com/example/urchin/urchin/service/Silence$Handover" "counts" "[J" (.ref cn)) (F_spacing : Fld Z h0 a1 "com/example/urchin/urchin/service/Silence$Handover" "spacing" "J" (.long (1000000 : Int64))) (F_kept : Fld Z h0 a1 "com/example/urchin/urchin/service/Silence$Handover" "kept" "I" (.int (2 : Int32))) (F_count : Fld Z h0 a1 "com/example/urchin/urchin/service/Silence$Handover" "count" "J" (.long K)) (V_tm : Arv Z h0 tm kt .long (64 : Int32) [(.long t0), (.long t1)] (.long (0 : Int64))) (V_cn : Arv Z h0 cn kc .long (64 : Int32) [(.long (0 : Int64)), (.long b0)] (.long (0 : Int64))) (hnow : (q1 - t0) = (1048576 : Int64)) (hdt : (t1 - t0) = d) (hm0 : 1 ≤ mm.toInt) (hm1 : mm.toInt ≤ 1024) (hd0 : 1000000 ≤ d.toInt) (hd1 : d.toInt < 2097152) (hbm : b0 = mm * d) (hK0 : 0 ≤ K.toInt) (hK1 : K.toInt < 8589934592) :
    MetFree l (⟨"com/example/urchin/urchin/service/Silence$Handover", "drain", "(J)J"⟩ : MethodName) (head1 (Jvm.Cond.code (⟨"com/example/urchin/urchin/service/Silence$Handover", "drain", "(J)J"⟩ : MethodName) prog_25_method_4_code 15 (some .long) :: ws) ({ frames := 1, cells := 0, slots := 0, locals := 30 } : Room)) (fun a U => a = #[(.ref a1), (.long q1)] ∧ Z.Warmed39 U.vm ∧ U.heap = h0) (fun _ _ _ _ _ => True) (fun _ U o U' => ∃ v L, o = .returned v ∧ own_Q_rm5b Z a1 tm cn kt kc q1 t0 K t1 b0 d mm h0 n0 v U'.heap L ∧ FrameEnd U o U' L ({ frames := 1, cells := 0, slots := 0, locals := 30 } : Room).cells ({ frames := 1, cells := 0, slots := 0, locals := 30 } : Room).slots) := by
  refine own_body (Q := (own_Q_rm5b Z a1 tm cn kt kc q1 t0 K t1 b0 d mm h0 n0)) pn_5 ?_
  intro p e s m below meth c s₁ X0 hx hby hml hown hnm hret hlk hZ e0
  have N0 := Fr.nil n0
  refine Rch.go (fun tt_ kk_ => castTop (ef_5 m a1 q1) kk_) ?_
  show Rch p e below (s₁.setTop (mkF m 0 #[.val (.ref a1), .val (.long q1), .second, .unset, .unset, .unset, .unset, .unset, .unset, .unset, .unset, .unset, .unset, .unset, .unset] [])) _
  obtain ⟨hgt, hd00, hb00, k1, k2, k3, k4, k5, k6, k7, k8, k9, kq⟩ := own_drain hm0 hm1 hd0 hd1 hbm hK0 hK1
  show Rch p e below (s₁.setTop (mkF m 0 #[.val (.ref a1), .val (.long q1), .second, .unset, .unset, .unset, .unset, .unset, .unset, .unset, .unset, .unset, .unset, .unset, .unset] [])) _
  refine Rch.go (fun _ kk_ => XS.aloadN X0.here hx rfl (hb hby d5_0) rfl rfl kk_) ?_
  show Rch p e below (s₁.setTop (mkF m 1 #[.val (.ref a1), .val (.long q1), .second, .unset, .unset, .unset, .unset, .unset, .unset, .unset, .unset, .unset, .unset, .unset, .unset] [(.ref a1)])) _
  obtain ⟨T1, X1, e1, st1⟩ := getF X0 hx hZ hown (host := "") (Or.inl (hw _ (List.mem_of_getElem? (i := 34) rfl))) Via.refl e0 F_kept (g := (mkF m 1 #[.val (.ref a1), .val (.long q1), .second, .unset, .unset, .unset, .unset, .unset, .unset, .unset, .unset, .unset, .unset, .unset, .unset] [(.ref a1)])) rfl rfl (hb hby d5_1)
  refine Rch.go st1 ?_
  show Rch p e below (T1.setTop (mkF m 4 #[.val (.ref a1), .val (.long q1), .second, .unset, .unset, .unset, .unset, .unset, .unset, .unset, .unset, .unset, .unset, .unset, .unset] [(.int (2 : Int32))])) _
  refine Rch.go (fun _ kk_ => XS.ifYes X1.here hx rfl (pc0 := 4) (pc' := 9) rfl (hb hby d5_4) rfl ((if0 _ _).trans (feq (by decide)).2) (by decide) (by decide) kk_) ?_
  show Rch p e below (T1.setTop (mkF m 9 #[.val (.ref a1), .val (.long q1), .second, .unset, .unset, .unset, .unset, .unset, .unset, .unset, .unset, .unset, .unset, .unset, .unset] [])) _
  refine Rch.go (fun _ kk_ => XS.aloadN X1.here hx rfl (hb hby d5_9) rfl rfl kk_) ?_
  show Rch p e below (T1.setTop (mkF m 10 #[.val (.ref a1), .val (.long q1), .second, .unset, .unset, .unset, .unset, .unset, .unset, .unset, .unset, .unset, .unset, .unset, .unset] [(.ref a1)])) _
  obtain ⟨T2, X2, e2, st2⟩ := getF X1 hx hZ hown (host := "") (Or.inl (hw _ (List.mem_of_getElem? (i := 12) rfl))) Via.refl e1 F_times (g := (mkF m 10 #[.val (.ref a1), .val (.long q1), .second, .unset, .unset, .unset, .unset, .unset, .unset, .unset, .unset, .unset, .unset, .unset, .unset] [(.ref a1)])) rfl rfl (hb hby d5_10)
  refine Rch.go st2 ?_
  show Rch p e below (T2.setTop (mkF m 13 #[.val (.ref a1), .val (.long q1), .second, .unset, .unset, .unset, .unset, .unset, .unset, .unset, .unset, .unset, .unset, .unset, .unset] [(.ref tm)])) _
  refine Rch.go (fun _ kk_ => XS.iconst X2.here hx rfl (hb hby d5_13) kk_) ?_
  show Rch p e below (T2.setTop (mkF m 14 #[.val (.ref a1), .val (.long q1), .second, .unset, .unset, .unset, .unset, .unset, .unset, .unset, .unset, .unset, .unset, .unset, .unset] [(.int (0 : Int32)), (.ref tm)])) _
  obtain ⟨cl3, Ar3, q3, S3, M3, H3, G3⟩ := id V_tm
  refine Rch.go (X2.laload hx (j := (0 : Int32)) (v := (.long t0)) (by rw [e2]; exact Ar3.1) (State.isArrayOf_alike hZ.alike Ar3.2.1) Ar3.2.2 (inb_of S3 ⟨by decide, by decide⟩) (Has.at H3 (inb_of S3 ⟨by decide, by decide⟩) rfl) (g := (mkF m 14 #[.val (.ref a1), .val (.long q1), .second, .unset, .unset, .unset, .unset, .unset, .unset, .unset, .unset, .unset, .unset, .unset, .unset] [(.int (0 : Int32)), (.ref tm)])) rfl rfl (hb hby d5_14)) ?_
  show Rch p e below (T2.setTop (mkF m 15 #[.val (.ref a1), .val (.long q1), .second, .unset, .unset, .unset, .unset, .unset, .unset, .unset, .unset, .unset, .unset, .unset, .unset] [(.long t0)])) _
  refine Rch.go (fun _ kk_ => XS.lstoreN X2.here hx rfl (hb hby d5_15) rfl (l' := #[.val (.ref a1), .val (.long q1), .second, .val (.long t0), .second, .unset, .unset, .unset, .unset, .unset, .unset, .unset, .unset, .unset, .unset]) rfl kk_) ?_
  show Rch p e below (T2.setTop (mkF m 16 #[.val (.ref a1), .val (.long q1), .second, .val (.long t0), .second, .unset, .unset, .unset, .unset, .unset, .unset, .unset, .unset, .unset, .unset] [])) _
  refine Rch.go (fun _ kk_ => XS.iconst X2.here hx rfl (hb hby d5_16) kk_) ?_
  show Rch p e below (T2.setTop (mkF m 17 #[.val (.ref a1), .val (.long q1), .second, .val (.long t0), .second, .unset, .unset, .unset, .unset, .unset, .unset, .unset, .unset, .unset, .unset] [(.int (0 : Int32))])) _
  refine Rch.go (fun _ kk_ => XS.istore X2.here hx rfl (hb hby d5_17) rfl (l' := #[.val (.ref a1), .val (.long q1), .second, .val (.long t0), .second, .val (.int (0 : Int32)), .unset, .unset, .unset, .unset, .unset, .unset, .unset, .unset, .unset]) rfl kk_) ?_
  show Rch p e below (T2.setTop (mkF m 19 #[.val (.ref a1), .val (.long q1), .second, .val (.long t0), .second, .val (.int (0 : Int32)), .unset, .unset, .unset, .unset, .unset, .unset, .unset, .unset, .unset] [])) _
  refine Rch.go (fun _ kk_ => XS.iload X2.here hx rfl (hb hby d5_19) rfl  kk_) ?_
  show Rch p e below (T2.setTop (mkF m 21 #[.val (.ref a1), .val (.long q1), .second, .val (.long t0), .second, .val (.int (0 : Int32)), .unset, .unset, .unset, .unset, .unset, .unset, .unset, .unset, .unset] [(.int (0 : Int32))])) _
  refine Rch.go (fun _ kk_ => XS.iconst X2.here hx rfl (hb hby d5_21) kk_) ?_
  show Rch p e below (T2.setTop (mkF m 22 #[.val (.ref a1), .val (.long q1), .second, .val (.long t0), .second, .val (.int (0 : Int32)), .unset, .unset, .unset, .unset, .unset, .unset, .unset, .unset, .unset] [(.int (1 : Int32)), (.int (0 : Int32))])) _
  refine Rch.go (fun _ kk_ => XS.iadd X2.here hx rfl (hb hby d5_22) rfl kk_) ?_
  show Rch p e below (T2.setTop (mkF m 23 #[.val (.ref a1), .val (.long q1), .second, .val (.long t0), .second, .val (.int (0 : Int32)), .unset, .unset, .unset, .unset, .unset, .unset, .unset, .unset, .unset] [(.int ((0 : Int32) + (1 : Int32)))])) _
  refine Rch.go (fun _ kk_ => XS.aloadN X2.here hx rfl (hb hby d5_23) rfl rfl kk_) ?_
  show Rch p e below (T2.setTop (mkF m 24 #[.val (.ref a1), .val (.long q1), .second, .val (.long t0), .second, .val (.int (0 : Int32)), .unset, .unset, .unset, .unset, .unset, .unset, .unset, .unset, .unset] [(.ref a1), (.int ((0 : Int32) + (1 : Int32)))])) _
  obtain ⟨T4, X4, e4, st4⟩ := getF X2 hx hZ hown (host := "") (Or.inl (hw _ (List.mem_of_getElem? (i := 34) rfl))) Via.refl e2 F_kept (g := (mkF m 24 #[.val (.ref a1), .val (.long q1), .second, .val (.long t0), .second, .val (.int (0 : Int32)), .unset, .unset, .unset, .unset, .unset, .unset, .unset, .unset, .unset] [(.ref a1), (.int ((0 : Int32) + (1 : Int32)))])) rfl rfl (hb hby d5_24)
  refine Rch.go st4 ?_
  show Rch p e below (T4.setTop (mkF m 27 #[.val (.ref a1), .val (.long q1), .second, .val (.long t0), .second, .val (.int (0 : Int32)), .unset, .unset, .unset, .unset, .unset, .unset, .unset, .unset, .unset] [(.int (2 : Int32)), (.int ((0 : Int32) + (1 : Int32)))])) _
  refine Rch.go (fun _ kk_ => XS.icmpNo X4.here hx rfl (hb hby d5_27) rfl (tlt (by decide)).2.1 kk_) ?_
  show Rch p e below (T4.setTop (mkF m 30 #[.val (.ref a1), .val (.long q1), .second, .val (.long t0), .second, .val (.int (0 : Int32)), .unset, .unset, .unset, .unset, .unset, .unset, .unset, .unset, .unset] [])) _
  refine Rch.go (fun _ kk_ => XS.aloadN X4.here hx rfl (hb hby d5_30) rfl rfl kk_) ?_
  show Rch p e below (T4.setTop (mkF m 31 #[.val (.ref a1), .val (.long q1), .second, .val (.long t0), .second, .val (.int (0 : Int32)), .unset, .unset, .unset, .unset, .unset, .unset, .unset, .unset, .unset] [(.ref a1)])) _
  obtain ⟨T5, X5, e5, st5⟩ := getF X4 hx hZ hown (host := "") (Or.inl (hw _ (List.mem_of_getElem? (i := 12) rfl))) Via.refl e4 F_times (g := (mkF m 31 #[.val (.ref a1), .val (.long q1), .second, .val (.long t0), .second, .val (.int (0 : Int32)), .unset, .unset, .unset, .unset, .unset, .unset, .unset, .unset, .unset] [(.ref a1)])) rfl rfl (hb hby d5_31)
  refine Rch.go st5 ?_
  show Rch p e below (T5.setTop (mkF m 34 #[.val (.ref a1), .val (.long q1), .second, .val (.long t0), .second, .val (.int (0 : Int32)), .unset, .unset, .unset, .unset, .unset, .unset, .unset, .unset, .unset] [(.ref tm)])) _
  refine Rch.go (fun _ kk_ => XS.iload X5.here hx rfl (hb hby d5_34) rfl  kk_) ?_
  show Rch p e below (T5.setTop (mkF m 36 #[.val (.ref a1), .val (.long q1), .second, .val (.long t0), .second, .val (.int (0 : Int32)), .unset, .unset, .unset, .unset, .unset, .unset, .unset, .unset, .unset] [(.int (0 : Int32)), (.ref tm)])) _
  refine Rch.go (fun _ kk_ => XS.iconst X5.here hx rfl (hb hby d5_36) kk_) ?_
  show Rch p e below (T5.setTop (mkF m 37 #[.val (.ref a1), .val (.long q1), .second, .val (.long t0), .second, .val (.int (0 : Int32)), .unset, .unset, .unset, .unset, .unset, .unset, .unset, .unset, .unset] [(.int (1 : Int32)), (.int (0 : Int32)), (.ref tm)])) _
  refine Rch.go (fun _ kk_ => XS.iadd X5.here hx rfl (hb hby d5_37) rfl kk_) ?_
  show Rch p e below (T5.setTop (mkF m 38 #[.val (.ref a1), .val (.long q1), .second, .val (.long t0), .second, .val (.int (0 : Int32)), .unset, .unset, .unset, .unset, .unset, .unset, .unset, .unset, .unset] [(.int ((0 : Int32) + (1 : Int32))), (.ref tm)])) _
  rw [(show ((0 : Int32) + (1 : Int32)) = (1 : Int32) from by decide)]
  show Rch p e below (T5.setTop (mkF m 38 #[.val (.ref a1), .val (.long q1), .second, .val (.long t0), .second, .val (.int (0 : Int32)), .unset, .unset, .unset, .unset, .unset, .unset, .unset, .unset, .unset] [(.int (1 : Int32)), (.ref tm)])) _
  obtain ⟨cl6, Ar6, q6, S6, M6, H6, G6⟩ := id V_tm
  refine Rch.go (X5.laload hx (j := (1 : Int32)) (v := (.long t1)) (by rw [e5]; exact Ar6.1) (State.isArrayOf_alike hZ.alike Ar6.2.1) Ar6.2.2 (inb_of S6 ⟨by decide, by decide⟩) (Has.at H6 (inb_of S6 ⟨by decide, by decide⟩) rfl) (g := (mkF m 38 #[.val (.ref a1), .val (.long q1), .second, .val (.long t0), .second, .val (.int (0 : Int32)), .unset, .unset, .unset, .unset, .unset, .unset, .unset, .unset, .unset] [(.int (1 : Int32)), (.ref tm)])) rfl rfl (hb hby d5_38)) ?_
  show Rch p e below (T5.setTop (mkF m 39 #[.val (.ref a1), .val (.long q1), .second, .val (.long t0), .second, .val (.int (0 : Int32)), .unset, .unset, .unset, .unset, .unset, .unset, .unset, .unset, .unset] [(.long t1)])) _
  refine Rch.go (fun _ kk_ => XS.lloadN X5.here hx rfl (hb hby d5_39) rfl  kk_) ?_
  show Rch p e below (T5.setTop (mkF m 40 #[.val (.ref a1), .val (.long q1), .second, .val (.long t0), .second, .val (.int (0 : Int32)), .unset, .unset, .unset, .unset, .unset, .unset, .unset, .unset, .unset] [(.long t0), (.long t1)])) _
  refine Rch.go (fun _ kk_ => XS.lsub X5.here hx rfl (hb hby d5_40) rfl kk_) ?_
  show Rch p e below (T5.setTop (mkF m 41 #[.val (.ref a1), .val (.long q1), .second, .val (.long t0), .second, .val (.int (0 : Int32)), .unset, .unset, .unset, .unset, .unset, .unset, .unset, .unset, .unset] [(.long (t1 - t0))])) _
  rw [hdt]
  show Rch p e below (T5.setTop (mkF m 41 #[.val (.ref a1), .val (.long q1), .second, .val (.long t0), .second, .val (.int (0 : Int32)), .unset, .unset, .unset, .unset, .unset, .unset, .unset, .unset, .unset] [(.long d)])) _
  refine Rch.go (fun _ kk_ => XS.lloadN X5.here hx rfl (hb hby d5_41) rfl  kk_) ?_
  show Rch p e below (T5.setTop (mkF m 42 #[.val (.ref a1), .val (.long q1), .second, .val (.long t0), .second, .val (.int (0 : Int32)), .unset, .unset, .unset, .unset, .unset, .unset, .unset, .unset, .unset] [(.long q1), (.long d)])) _
  refine Rch.go (fun _ kk_ => XS.lloadN X5.here hx rfl (hb hby d5_42) rfl  kk_) ?_
  show Rch p e below (T5.setTop (mkF m 43 #[.val (.ref a1), .val (.long q1), .second, .val (.long t0), .second, .val (.int (0 : Int32)), .unset, .unset, .unset, .unset, .unset, .unset, .unset, .unset, .unset] [(.long t0), (.long q1), (.long d)])) _
  refine Rch.go (fun _ kk_ => XS.lsub X5.here hx rfl (hb hby d5_43) rfl kk_) ?_
  show Rch p e below (T5.setTop (mkF m 44 #[.val (.ref a1), .val (.long q1), .second, .val (.long t0), .second, .val (.int (0 : Int32)), .unset, .unset, .unset, .unset, .unset, .unset, .unset, .unset, .unset] [(.long (q1 - t0)), (.long d)])) _
  rw [hnow]
  show Rch p e below (T5.setTop (mkF m 44 #[.val (.ref a1), .val (.long q1), .second, .val (.long t0), .second, .val (.int (0 : Int32)), .unset, .unset, .unset, .unset, .unset, .unset, .unset, .unset, .unset] [(.long (1048576 : Int64)), (.long d)])) _
  refine Rch.go (fun _ kk_ => X5.ldc2Long hx hown (mvT hZ (hw _ (List.mem_of_getElem? (i := 53) rfl))) (g := (mkF m 44 #[.val (.ref a1), .val (.long q1), .second, .val (.long t0), .second, .val (.int (0 : Int32)), .unset, .unset, .unset, .unset, .unset, .unset, .unset, .unset, .unset] [(.long (1048576 : Int64)), (.long d)])) rfl (hb hby d5_44) _ kk_) ?_
  show Rch p e below (T5.setTop (mkF m 47 #[.val (.ref a1), .val (.long q1), .second, .val (.long t0), .second, .val (.int (0 : Int32)), .unset, .unset, .unset, .unset, .unset, .unset, .unset, .unset, .unset] [(.long (2 : Int64)), (.long (1048576 : Int64)), (.long d)])) _
  refine Rch.go (fun _ kk_ => XS.ldiv X5.here hx rfl (hb hby d5_47) rfl (by decide) kk_) ?_
  show Rch p e below (T5.setTop (mkF m 48 #[.val (.ref a1), .val (.long q1), .second, .val (.long t0), .second, .val (.int (0 : Int32)), .unset, .unset, .unset, .unset, .unset, .unset, .unset, .unset, .unset] [(.long ((1048576 : Int64) / (2 : Int64))), (.long d)])) _
  refine Rch.go (fun _ kk_ => XS.lcmp X5.here hx rfl (hb hby d5_48) rfl kk_) ?_
  show Rch p e below (T5.setTop (mkF m 49 #[.val (.ref a1), .val (.long q1), .second, .val (.long t0), .second, .val (.int (0 : Int32)), .unset, .unset, .unset, .unset, .unset, .unset, .unset, .unset, .unset] [(.int (lcmpW d ((1048576 : Int64) / (2 : Int64))))])) _
  refine Rch.go (fun _ kk_ => XS.ifYes X5.here hx rfl (pc0 := 49) (pc' := 58) rfl (hb hby d5_49) rfl ((if0 _ _).trans (tlt ((lw_gt _ _).mpr hgt)).2.2.1) (by decide) (by decide) kk_) ?_
  show Rch p e below (T5.setTop (mkF m 58 #[.val (.ref a1), .val (.long q1), .second, .val (.long t0), .second, .val (.int (0 : Int32)), .unset, .unset, .unset, .unset, .unset, .unset, .unset, .unset, .unset] [])) _
  refine Rch.go (fun _ kk_ => XS.iload X5.here hx rfl (hb hby d5_58) rfl  kk_) ?_
  show Rch p e below (T5.setTop (mkF m 60 #[.val (.ref a1), .val (.long q1), .second, .val (.long t0), .second, .val (.int (0 : Int32)), .unset, .unset, .unset, .unset, .unset, .unset, .unset, .unset, .unset] [(.int (0 : Int32))])) _
  refine Rch.go (fun _ kk_ => XS.iconst X5.here hx rfl (hb hby d5_60) kk_) ?_
  show Rch p e below (T5.setTop (mkF m 61 #[.val (.ref a1), .val (.long q1), .second, .val (.long t0), .second, .val (.int (0 : Int32)), .unset, .unset, .unset, .unset, .unset, .unset, .unset, .unset, .unset] [(.int (1 : Int32)), (.int (0 : Int32))])) _
  refine Rch.go (fun _ kk_ => XS.iadd X5.here hx rfl (hb hby d5_61) rfl kk_) ?_
  show Rch p e below (T5.setTop (mkF m 62 #[.val (.ref a1), .val (.long q1), .second, .val (.long t0), .second, .val (.int (0 : Int32)), .unset, .unset, .unset, .unset, .unset, .unset, .unset, .unset, .unset] [(.int ((0 : Int32) + (1 : Int32)))])) _
  refine Rch.go (fun _ kk_ => XS.aloadN X5.here hx rfl (hb hby d5_62) rfl rfl kk_) ?_
  show Rch p e below (T5.setTop (mkF m 63 #[.val (.ref a1), .val (.long q1), .second, .val (.long t0), .second, .val (.int (0 : Int32)), .unset, .unset, .unset, .unset, .unset, .unset, .unset, .unset, .unset] [(.ref a1), (.int ((0 : Int32) + (1 : Int32)))])) _
  obtain ⟨T7, X7, e7, st7⟩ := getF X5 hx hZ hown (host := "") (Or.inl (hw _ (List.mem_of_getElem? (i := 34) rfl))) Via.refl e5 F_kept (g := (mkF m 63 #[.val (.ref a1), .val (.long q1), .second, .val (.long t0), .second, .val (.int (0 : Int32)), .unset, .unset, .unset, .unset, .unset, .unset, .unset, .unset, .unset] [(.ref a1), (.int ((0 : Int32) + (1 : Int32)))])) rfl rfl (hb hby d5_63)
  refine Rch.go st7 ?_
  show Rch p e below (T7.setTop (mkF m 66 #[.val (.ref a1), .val (.long q1), .second, .val (.long t0), .second, .val (.int (0 : Int32)), .unset, .unset, .unset, .unset, .unset, .unset, .unset, .unset, .unset] [(.int (2 : Int32)), (.int ((0 : Int32) + (1 : Int32)))])) _
  refine Rch.go (fun _ kk_ => XS.icmpNo X7.here hx rfl (hb hby d5_66) rfl (tlt (by decide)).2.1 kk_) ?_
  show Rch p e below (T7.setTop (mkF m 69 #[.val (.ref a1), .val (.long q1), .second, .val (.long t0), .second, .val (.int (0 : Int32)), .unset, .unset, .unset, .unset, .unset, .unset, .unset, .unset, .unset] [])) _
  refine Rch.go (fun _ kk_ => XS.aloadN X7.here hx rfl (hb hby d5_69) rfl rfl kk_) ?_
  show Rch p e below (T7.setTop (mkF m 70 #[.val (.ref a1), .val (.long q1), .second, .val (.long t0), .second, .val (.int (0 : Int32)), .unset, .unset, .unset, .unset, .unset, .unset, .unset, .unset, .unset] [(.ref a1)])) _
  obtain ⟨T8, X8, e8, st8⟩ := getF X7 hx hZ hown (host := "") (Or.inl (hw _ (List.mem_of_getElem? (i := 12) rfl))) Via.refl e7 F_times (g := (mkF m 70 #[.val (.ref a1), .val (.long q1), .second, .val (.long t0), .second, .val (.int (0 : Int32)), .unset, .unset, .unset, .unset, .unset, .unset, .unset, .unset, .unset] [(.ref a1)])) rfl rfl (hb hby d5_70)
  refine Rch.go st8 ?_
  show Rch p e below (T8.setTop (mkF m 73 #[.val (.ref a1), .val (.long q1), .second, .val (.long t0), .second, .val (.int (0 : Int32)), .unset, .unset, .unset, .unset, .unset, .unset, .unset, .unset, .unset] [(.ref tm)])) _
  refine Rch.go (fun _ kk_ => XS.aloadN X8.here hx rfl (hb hby d5_73) rfl rfl kk_) ?_
  show Rch p e below (T8.setTop (mkF m 74 #[.val (.ref a1), .val (.long q1), .second, .val (.long t0), .second, .val (.int (0 : Int32)), .unset, .unset, .unset, .unset, .unset, .unset, .unset, .unset, .unset] [(.ref a1), (.ref tm)])) _
  obtain ⟨T9, X9, e9, st9⟩ := getF X8 hx hZ hown (host := "") (Or.inl (hw _ (List.mem_of_getElem? (i := 34) rfl))) Via.refl e8 F_kept (g := (mkF m 74 #[.val (.ref a1), .val (.long q1), .second, .val (.long t0), .second, .val (.int (0 : Int32)), .unset, .unset, .unset, .unset, .unset, .unset, .unset, .unset, .unset] [(.ref a1), (.ref tm)])) rfl rfl (hb hby d5_74)
  refine Rch.go st9 ?_
  show Rch p e below (T9.setTop (mkF m 77 #[.val (.ref a1), .val (.long q1), .second, .val (.long t0), .second, .val (.int (0 : Int32)), .unset, .unset, .unset, .unset, .unset, .unset, .unset, .unset, .unset] [(.int (2 : Int32)), (.ref tm)])) _
  refine Rch.go (fun _ kk_ => XS.iconst X9.here hx rfl (hb hby d5_77) kk_) ?_
  show Rch p e below (T9.setTop (mkF m 78 #[.val (.ref a1), .val (.long q1), .second, .val (.long t0), .second, .val (.int (0 : Int32)), .unset, .unset, .unset, .unset, .unset, .unset, .unset, .unset, .unset] [(.int (1 : Int32)), (.int (2 : Int32)), (.ref tm)])) _
  refine Rch.go (fun _ kk_ => XS.isub X9.here hx rfl (hb hby d5_78) rfl kk_) ?_
  show Rch p e below (T9.setTop (mkF m 79 #[.val (.ref a1), .val (.long q1), .second, .val (.long t0), .second, .val (.int (0 : Int32)), .unset, .unset, .unset, .unset, .unset, .unset, .unset, .unset, .unset] [(.int ((2 : Int32) - (1 : Int32))), (.ref tm)])) _
  rw [(show ((2 : Int32) - (1 : Int32)) = (1 : Int32) from by decide)]
  show Rch p e below (T9.setTop (mkF m 79 #[.val (.ref a1), .val (.long q1), .second, .val (.long t0), .second, .val (.int (0 : Int32)), .unset, .unset, .unset, .unset, .unset, .unset, .unset, .unset, .unset] [(.int (1 : Int32)), (.ref tm)])) _
  obtain ⟨cl10, Ar10, q10, S10, M10, H10, G10⟩ := id V_tm
  refine Rch.go (X9.laload hx (j := (1 : Int32)) (v := (.long t1)) (by rw [e9]; exact Ar10.1) (State.isArrayOf_alike hZ.alike Ar10.2.1) Ar10.2.2 (inb_of S10 ⟨by decide, by decide⟩) (Has.at H10 (inb_of S10 ⟨by decide, by decide⟩) rfl) (g := (mkF m 79 #[.val (.ref a1), .val (.long q1), .second, .val (.long t0), .second, .val (.int (0 : Int32)), .unset, .unset, .unset, .unset, .unset, .unset, .unset, .unset, .unset] [(.int (1 : Int32)), (.ref tm)])) rfl rfl (hb hby d5_79)) ?_
  show Rch p e below (T9.setTop (mkF m 80 #[.val (.ref a1), .val (.long q1), .second, .val (.long t0), .second, .val (.int (0 : Int32)), .unset, .unset, .unset, .unset, .unset, .unset, .unset, .unset, .unset] [(.long t1)])) _
  refine Rch.go (fun _ kk_ => XS.aloadN X9.here hx rfl (hb hby d5_80) rfl rfl kk_) ?_
  show Rch p e below (T9.setTop (mkF m 81 #[.val (.ref a1), .val (.long q1), .second, .val (.long t0), .second, .val (.int (0 : Int32)), .unset, .unset, .unset, .unset, .unset, .unset, .unset, .unset, .unset] [(.ref a1), (.long t1)])) _
  obtain ⟨T11, X11, e11, st11⟩ := getF X9 hx hZ hown (host := "") (Or.inl (hw _ (List.mem_of_getElem? (i := 12) rfl))) Via.refl e9 F_times (g := (mkF m 81 #[.val (.ref a1), .val (.long q1), .second, .val (.long t0), .second, .val (.int (0 : Int32)), .unset, .unset, .unset, .unset, .unset, .unset, .unset, .unset, .unset] [(.ref a1), (.long t1)])) rfl rfl (hb hby d5_81)
  refine Rch.go st11 ?_
  show Rch p e below (T11.setTop (mkF m 84 #[.val (.ref a1), .val (.long q1), .second, .val (.long t0), .second, .val (.int (0 : Int32)), .unset, .unset, .unset, .unset, .unset, .unset, .unset, .unset, .unset] [(.ref tm), (.long t1)])) _
  refine Rch.go (fun _ kk_ => XS.iload X11.here hx rfl (hb hby d5_84) rfl  kk_) ?_
  show Rch p e below (T11.setTop (mkF m 86 #[.val (.ref a1), .val (.long q1), .second, .val (.long t0), .second, .val (.int (0 : Int32)), .unset, .unset, .unset, .unset, .unset, .unset, .unset, .unset, .unset] [(.int (0 : Int32)), (.ref tm), (.long t1)])) _
  obtain ⟨cl12, Ar12, q12, S12, M12, H12, G12⟩ := id V_tm
  refine Rch.go (X11.laload hx (j := (0 : Int32)) (v := (.long t0)) (by rw [e11]; exact Ar12.1) (State.isArrayOf_alike hZ.alike Ar12.2.1) Ar12.2.2 (inb_of S12 ⟨by decide, by decide⟩) (Has.at H12 (inb_of S12 ⟨by decide, by decide⟩) rfl) (g := (mkF m 86 #[.val (.ref a1), .val (.long q1), .second, .val (.long t0), .second, .val (.int (0 : Int32)), .unset, .unset, .unset, .unset, .unset, .unset, .unset, .unset, .unset] [(.int (0 : Int32)), (.ref tm), (.long t1)])) rfl rfl (hb hby d5_86)) ?_
  show Rch p e below (T11.setTop (mkF m 87 #[.val (.ref a1), .val (.long q1), .second, .val (.long t0), .second, .val (.int (0 : Int32)), .unset, .unset, .unset, .unset, .unset, .unset, .unset, .unset, .unset] [(.long t0), (.long t1)])) _
  refine Rch.go (fun _ kk_ => XS.lsub X11.here hx rfl (hb hby d5_87) rfl kk_) ?_
  show Rch p e below (T11.setTop (mkF m 88 #[.val (.ref a1), .val (.long q1), .second, .val (.long t0), .second, .val (.int (0 : Int32)), .unset, .unset, .unset, .unset, .unset, .unset, .unset, .unset, .unset] [(.long (t1 - t0))])) _
  rw [hdt]
  show Rch p e below (T11.setTop (mkF m 88 #[.val (.ref a1), .val (.long q1), .second, .val (.long t0), .second, .val (.int (0 : Int32)), .unset, .unset, .unset, .unset, .unset, .unset, .unset, .unset, .unset] [(.long d)])) _
  refine Rch.go (fun _ kk_ => XS.lstore X11.here hx rfl (hb hby d5_88) rfl (l' := #[.val (.ref a1), .val (.long q1), .second, .val (.long t0), .second, .val (.int (0 : Int32)), .val (.long d), .second, .unset, .unset, .unset, .unset, .unset, .unset, .unset]) rfl kk_) ?_
  show Rch p e below (T11.setTop (mkF m 90 #[.val (.ref a1), .val (.long q1), .second, .val (.long t0), .second, .val (.int (0 : Int32)), .val (.long d), .second, .unset, .unset, .unset, .unset, .unset, .unset, .unset] [])) _
  refine Rch.go (fun _ kk_ => XS.aloadN X11.here hx rfl (hb hby d5_90) rfl rfl kk_) ?_
  show Rch p e below (T11.setTop (mkF m 91 #[.val (.ref a1), .val (.long q1), .second, .val (.long t0), .second, .val (.int (0 : Int32)), .val (.long d), .second, .unset, .unset, .unset, .unset, .unset, .unset, .unset] [(.ref a1)])) _
  obtain ⟨T13, X13, e13, st13⟩ := getF X11 hx hZ hown (host := "") (Or.inl (hw _ (List.mem_of_getElem? (i := 14) rfl))) Via.refl e11 F_counts (g := (mkF m 91 #[.val (.ref a1), .val (.long q1), .second, .val (.long t0), .second, .val (.int (0 : Int32)), .val (.long d), .second, .unset, .unset, .unset, .unset, .unset, .unset, .unset] [(.ref a1)])) rfl rfl (hb hby d5_91)
  refine Rch.go st13 ?_
  show Rch p e below (T13.setTop (mkF m 94 #[.val (.ref a1), .val (.long q1), .second, .val (.long t0), .second, .val (.int (0 : Int32)), .val (.long d), .second, .unset, .unset, .unset, .unset, .unset, .unset, .unset] [(.ref cn)])) _
  refine Rch.go (fun _ kk_ => XS.aloadN X13.here hx rfl (hb hby d5_94) rfl rfl kk_) ?_
  show Rch p e below (T13.setTop (mkF m 95 #[.val (.ref a1), .val (.long q1), .second, .val (.long t0), .second, .val (.int (0 : Int32)), .val (.long d), .second, .unset, .unset, .unset, .unset, .unset, .unset, .unset] [(.ref a1), (.ref cn)])) _
  obtain ⟨T14, X14, e14, st14⟩ := getF X13 hx hZ hown (host := "") (Or.inl (hw _ (List.mem_of_getElem? (i := 34) rfl))) Via.refl e13 F_kept (g := (mkF m 95 #[.val (.ref a1), .val (.long q1), .second, .val (.long t0), .second, .val (.int (0 : Int32)), .val (.long d), .second, .unset, .unset, .unset, .unset, .unset, .unset, .unset] [(.ref a1), (.ref cn)])) rfl rfl (hb hby d5_95)
  refine Rch.go st14 ?_
  show Rch p e below (T14.setTop (mkF m 98 #[.val (.ref a1), .val (.long q1), .second, .val (.long t0), .second, .val (.int (0 : Int32)), .val (.long d), .second, .unset, .unset, .unset, .unset, .unset, .unset, .unset] [(.int (2 : Int32)), (.ref cn)])) _
  refine Rch.go (fun _ kk_ => XS.iconst X14.here hx rfl (hb hby d5_98) kk_) ?_
  show Rch p e below (T14.setTop (mkF m 99 #[.val (.ref a1), .val (.long q1), .second, .val (.long t0), .second, .val (.int (0 : Int32)), .val (.long d), .second, .unset, .unset, .unset, .unset, .unset, .unset, .unset] [(.int (1 : Int32)), (.int (2 : Int32)), (.ref cn)])) _
  refine Rch.go (fun _ kk_ => XS.isub X14.here hx rfl (hb hby d5_99) rfl kk_) ?_
  show Rch p e below (T14.setTop (mkF m 100 #[.val (.ref a1), .val (.long q1), .second, .val (.long t0), .second, .val (.int (0 : Int32)), .val (.long d), .second, .unset, .unset, .unset, .unset, .unset, .unset, .unset] [(.int ((2 : Int32) - (1 : Int32))), (.ref cn)])) _
  rw [(show ((2 : Int32) - (1 : Int32)) = (1 : Int32) from by decide)]
  show Rch p e below (T14.setTop (mkF m 100 #[.val (.ref a1), .val (.long q1), .second, .val (.long t0), .second, .val (.int (0 : Int32)), .val (.long d), .second, .unset, .unset, .unset, .unset, .unset, .unset, .unset] [(.int (1 : Int32)), (.ref cn)])) _
  obtain ⟨cl15, Ar15, q15, S15, M15, H15, G15⟩ := id V_cn
  refine Rch.go (X14.laload hx (j := (1 : Int32)) (v := (.long b0)) (by rw [e14]; exact Ar15.1) (State.isArrayOf_alike hZ.alike Ar15.2.1) Ar15.2.2 (inb_of S15 ⟨by decide, by decide⟩) (Has.at H15 (inb_of S15 ⟨by decide, by decide⟩) rfl) (g := (mkF m 100 #[.val (.ref a1), .val (.long q1), .second, .val (.long t0), .second, .val (.int (0 : Int32)), .val (.long d), .second, .unset, .unset, .unset, .unset, .unset, .unset, .unset] [(.int (1 : Int32)), (.ref cn)])) rfl rfl (hb hby d5_100)) ?_
  show Rch p e below (T14.setTop (mkF m 101 #[.val (.ref a1), .val (.long q1), .second, .val (.long t0), .second, .val (.int (0 : Int32)), .val (.long d), .second, .unset, .unset, .unset, .unset, .unset, .unset, .unset] [(.long b0)])) _
  refine Rch.go (fun _ kk_ => XS.aloadN X14.here hx rfl (hb hby d5_101) rfl rfl kk_) ?_
  show Rch p e below (T14.setTop (mkF m 102 #[.val (.ref a1), .val (.long q1), .second, .val (.long t0), .second, .val (.int (0 : Int32)), .val (.long d), .second, .unset, .unset, .unset, .unset, .unset, .unset, .unset] [(.ref a1), (.long b0)])) _
  obtain ⟨T16, X16, e16, st16⟩ := getF X14 hx hZ hown (host := "") (Or.inl (hw _ (List.mem_of_getElem? (i := 14) rfl))) Via.refl e14 F_counts (g := (mkF m 102 #[.val (.ref a1), .val (.long q1), .second, .val (.long t0), .second, .val (.int (0 : Int32)), .val (.long d), .second, .unset, .unset, .unset, .unset, .unset, .unset, .unset] [(.ref a1), (.long b0)])) rfl rfl (hb hby d5_102)
  refine Rch.go st16 ?_
  show Rch p e below (T16.setTop (mkF m 105 #[.val (.ref a1), .val (.long q1), .second, .val (.long t0), .second, .val (.int (0 : Int32)), .val (.long d), .second, .unset, .unset, .unset, .unset, .unset, .unset, .unset] [(.ref cn), (.long b0)])) _
  refine Rch.go (fun _ kk_ => XS.iload X16.here hx rfl (hb hby d5_105) rfl  kk_) ?_
  show Rch p e below (T16.setTop (mkF m 107 #[.val (.ref a1), .val (.long q1), .second, .val (.long t0), .second, .val (.int (0 : Int32)), .val (.long d), .second, .unset, .unset, .unset, .unset, .unset, .unset, .unset] [(.int (0 : Int32)), (.ref cn), (.long b0)])) _
  obtain ⟨cl17, Ar17, q17, S17, M17, H17, G17⟩ := id V_cn
  refine Rch.go (X16.laload hx (j := (0 : Int32)) (v := (.long (0 : Int64))) (by rw [e16]; exact Ar17.1) (State.isArrayOf_alike hZ.alike Ar17.2.1) Ar17.2.2 (inb_of S17 ⟨by decide, by decide⟩) (Has.at H17 (inb_of S17 ⟨by decide, by decide⟩) rfl) (g := (mkF m 107 #[.val (.ref a1), .val (.long q1), .second, .val (.long t0), .second, .val (.int (0 : Int32)), .val (.long d), .second, .unset, .unset, .unset, .unset, .unset, .unset, .unset] [(.int (0 : Int32)), (.ref cn), (.long b0)])) rfl rfl (hb hby d5_107)) ?_
  show Rch p e below (T16.setTop (mkF m 108 #[.val (.ref a1), .val (.long q1), .second, .val (.long t0), .second, .val (.int (0 : Int32)), .val (.long d), .second, .unset, .unset, .unset, .unset, .unset, .unset, .unset] [(.long (0 : Int64)), (.long b0)])) _
  refine Rch.go (fun _ kk_ => XS.lsub X16.here hx rfl (hb hby d5_108) rfl kk_) ?_
  show Rch p e below (T16.setTop (mkF m 109 #[.val (.ref a1), .val (.long q1), .second, .val (.long t0), .second, .val (.int (0 : Int32)), .val (.long d), .second, .unset, .unset, .unset, .unset, .unset, .unset, .unset] [(.long (b0 - (0 : Int64)))])) _
  rw [(show (b0 - (0 : Int64)) = b0 from Int64.sub_zero _)]
  show Rch p e below (T16.setTop (mkF m 109 #[.val (.ref a1), .val (.long q1), .second, .val (.long t0), .second, .val (.int (0 : Int32)), .val (.long d), .second, .unset, .unset, .unset, .unset, .unset, .unset, .unset] [(.long b0)])) _
  refine Rch.go (fun _ kk_ => XS.lstore X16.here hx rfl (hb hby d5_109) rfl (l' := #[.val (.ref a1), .val (.long q1), .second, .val (.long t0), .second, .val (.int (0 : Int32)), .val (.long d), .second, .val (.long b0), .second, .unset, .unset, .unset, .unset, .unset]) rfl kk_) ?_
  show Rch p e below (T16.setTop (mkF m 111 #[.val (.ref a1), .val (.long q1), .second, .val (.long t0), .second, .val (.int (0 : Int32)), .val (.long d), .second, .val (.long b0), .second, .unset, .unset, .unset, .unset, .unset] [])) _
  refine Rch.go (fun _ kk_ => XS.goto X16.here hx rfl (pc0 := 111) (pc' := 139) rfl (hb hby d5_111) (by decide) (by decide) kk_) ?_
  show Rch p e below (T16.setTop (mkF m 139 #[.val (.ref a1), .val (.long q1), .second, .val (.long t0), .second, .val (.int (0 : Int32)), .val (.long d), .second, .val (.long b0), .second, .unset, .unset, .unset, .unset, .unset] [])) _
  refine Rch.go (fun _ kk_ => XS.lload X16.here hx rfl (hb hby d5_139) rfl  kk_) ?_
  show Rch p e below (T16.setTop (mkF m 141 #[.val (.ref a1), .val (.long q1), .second, .val (.long t0), .second, .val (.int (0 : Int32)), .val (.long d), .second, .val (.long b0), .second, .unset, .unset, .unset, .unset, .unset] [(.long d)])) _
  refine Rch.go (fun _ kk_ => XS.lconst X16.here hx rfl (hb hby d5_141) kk_) ?_
  show Rch p e below (T16.setTop (mkF m 142 #[.val (.ref a1), .val (.long q1), .second, .val (.long t0), .second, .val (.int (0 : Int32)), .val (.long d), .second, .val (.long b0), .second, .unset, .unset, .unset, .unset, .unset] [(.long (0 : Int64)), (.long d)])) _
  refine Rch.go (fun _ kk_ => XS.lcmp X16.here hx rfl (hb hby d5_142) rfl kk_) ?_
  show Rch p e below (T16.setTop (mkF m 143 #[.val (.ref a1), .val (.long q1), .second, .val (.long t0), .second, .val (.int (0 : Int32)), .val (.long d), .second, .val (.long b0), .second, .unset, .unset, .unset, .unset, .unset] [(.int (lcmpW d (0 : Int64)))])) _
  refine Rch.go (fun _ kk_ => XS.ifNo X16.here hx rfl (hb hby d5_143) rfl ((if0 _ _).trans (tlt ((lw_gt _ _).mpr hd00)).2.2.2) kk_) ?_
  show Rch p e below (T16.setTop (mkF m 146 #[.val (.ref a1), .val (.long q1), .second, .val (.long t0), .second, .val (.int (0 : Int32)), .val (.long d), .second, .val (.long b0), .second, .unset, .unset, .unset, .unset, .unset] [])) _
  refine Rch.go (fun _ kk_ => XS.lload X16.here hx rfl (hb hby d5_146) rfl  kk_) ?_
  show Rch p e below (T16.setTop (mkF m 148 #[.val (.ref a1), .val (.long q1), .second, .val (.long t0), .second, .val (.int (0 : Int32)), .val (.long d), .second, .val (.long b0), .second, .unset, .unset, .unset, .unset, .unset] [(.long b0)])) _
  refine Rch.go (fun _ kk_ => XS.lconst X16.here hx rfl (hb hby d5_148) kk_) ?_
  show Rch p e below (T16.setTop (mkF m 149 #[.val (.ref a1), .val (.long q1), .second, .val (.long t0), .second, .val (.int (0 : Int32)), .val (.long d), .second, .val (.long b0), .second, .unset, .unset, .unset, .unset, .unset] [(.long (0 : Int64)), (.long b0)])) _
  refine Rch.go (fun _ kk_ => XS.lcmp X16.here hx rfl (hb hby d5_149) rfl kk_) ?_
  show Rch p e below (T16.setTop (mkF m 150 #[.val (.ref a1), .val (.long q1), .second, .val (.long t0), .second, .val (.int (0 : Int32)), .val (.long d), .second, .val (.long b0), .second, .unset, .unset, .unset, .unset, .unset] [(.int (lcmpW b0 (0 : Int64)))])) _
  refine Rch.go (fun _ kk_ => XS.ifYes X16.here hx rfl (pc0 := 150) (pc' := 155) rfl (hb hby d5_150) rfl ((if0 _ _).trans (tlt ((lw_gt _ _).mpr hb00)).2.2.1) (by decide) (by decide) kk_) ?_
  show Rch p e below (T16.setTop (mkF m 155 #[.val (.ref a1), .val (.long q1), .second, .val (.long t0), .second, .val (.int (0 : Int32)), .val (.long d), .second, .val (.long b0), .second, .unset, .unset, .unset, .unset, .unset] [])) _
  refine Rch.go (fun _ kk_ => XS.lload X16.here hx rfl (hb hby d5_155) rfl  kk_) ?_
  show Rch p e below (T16.setTop (mkF m 157 #[.val (.ref a1), .val (.long q1), .second, .val (.long t0), .second, .val (.int (0 : Int32)), .val (.long d), .second, .val (.long b0), .second, .unset, .unset, .unset, .unset, .unset] [(.long b0)])) _
  refine Rch.go (fun _ kk_ => XS.l2dS X16.here hx rfl (hb hby d5_157) rfl rfl kk_) ?_
  show Rch p e below (T16.setTop (mkF m 158 #[.val (.ref a1), .val (.long q1), .second, .val (.long t0), .second, .val (.int (0 : Int32)), .val (.long d), .second, .val (.long b0), .second, .unset, .unset, .unset, .unset, .unset] [(.double (FP.l2d b0))])) _
  refine Rch.go (fun _ kk_ => XS.lload X16.here hx rfl (hb hby d5_158) rfl  kk_) ?_
  show Rch p e below (T16.setTop (mkF m 160 #[.val (.ref a1), .val (.long q1), .second, .val (.long t0), .second, .val (.int (0 : Int32)), .val (.long d), .second, .val (.long b0), .second, .unset, .unset, .unset, .unset, .unset] [(.long d), (.double (FP.l2d b0))])) _
  refine Rch.go (fun _ kk_ => XS.l2dS X16.here hx rfl (hb hby d5_160) rfl rfl kk_) ?_
  show Rch p e below (T16.setTop (mkF m 161 #[.val (.ref a1), .val (.long q1), .second, .val (.long t0), .second, .val (.int (0 : Int32)), .val (.long d), .second, .val (.long b0), .second, .unset, .unset, .unset, .unset, .unset] [(.double (FP.l2d d)), (.double (FP.l2d b0))])) _
  refine Rch.go (fun _ kk_ => XS.ddivS X16.here hx rfl (hb hby d5_161) rfl (nn_w k1) k1 kk_) ?_
  show Rch p e below (T16.setTop (mkF m 162 #[.val (.ref a1), .val (.long q1), .second, .val (.long t0), .second, .val (.int (0 : Int32)), .val (.long d), .second, .val (.long b0), .second, .unset, .unset, .unset, .unset, .unset] [(.double (FP.l2d mm))])) _
  refine Rch.go (fun _ kk_ => XS.dstore X16.here hx rfl (hb hby d5_162) rfl (l' := #[.val (.ref a1), .val (.long q1), .second, .val (.long t0), .second, .val (.int (0 : Int32)), .val (.long d), .second, .val (.long b0), .second, .val (.double (FP.l2d mm)), .second, .unset, .unset, .unset]) rfl kk_) ?_
  show Rch p e below (T16.setTop (mkF m 164 #[.val (.ref a1), .val (.long q1), .second, .val (.long t0), .second, .val (.int (0 : Int32)), .val (.long d), .second, .val (.long b0), .second, .val (.double (FP.l2d mm)), .second, .unset, .unset, .unset] [])) _
  refine Rch.go (fun _ kk_ => XS.aloadN X16.here hx rfl (hb hby d5_164) rfl rfl kk_) ?_
  show Rch p e below (T16.setTop (mkF m 165 #[.val (.ref a1), .val (.long q1), .second, .val (.long t0), .second, .val (.int (0 : Int32)), .val (.long d), .second, .val (.long b0), .second, .val (.double (FP.l2d mm)), .second, .unset, .unset, .unset] [(.ref a1)])) _
  obtain ⟨T18, X18, e18, st18⟩ := getF X16 hx hZ hown (host := "") (Or.inl (hw _ (List.mem_of_getElem? (i := 36) rfl))) Via.refl e16 F_count (g := (mkF m 165 #[.val (.ref a1), .val (.long q1), .second, .val (.long t0), .second, .val (.int (0 : Int32)), .val (.long d), .second, .val (.long b0), .second, .val (.double (FP.l2d mm)), .second, .unset, .unset, .unset] [(.ref a1)])) rfl rfl (hb hby d5_165)
  refine Rch.go st18 ?_
  show Rch p e below (T18.setTop (mkF m 168 #[.val (.ref a1), .val (.long q1), .second, .val (.long t0), .second, .val (.int (0 : Int32)), .val (.long d), .second, .val (.long b0), .second, .val (.double (FP.l2d mm)), .second, .unset, .unset, .unset] [(.long K)])) _
  refine Rch.go (fun _ kk_ => XS.l2dS X18.here hx rfl (hb hby d5_168) rfl rfl kk_) ?_
  show Rch p e below (T18.setTop (mkF m 169 #[.val (.ref a1), .val (.long q1), .second, .val (.long t0), .second, .val (.int (0 : Int32)), .val (.long d), .second, .val (.long b0), .second, .val (.double (FP.l2d mm)), .second, .unset, .unset, .unset] [(.double (FP.l2d K))])) _
  refine Rch.go (fun _ kk_ => XS.dload X18.here hx rfl (hb hby d5_169) rfl kk_) ?_
  show Rch p e below (T18.setTop (mkF m 171 #[.val (.ref a1), .val (.long q1), .second, .val (.long t0), .second, .val (.int (0 : Int32)), .val (.long d), .second, .val (.long b0), .second, .val (.double (FP.l2d mm)), .second, .unset, .unset, .unset] [(.double (FP.l2d mm)), (.double (FP.l2d K))])) _
  refine Rch.go (fun _ kk_ => XS.lloadN X18.here hx rfl (hb hby d5_171) rfl  kk_) ?_
  show Rch p e below (T18.setTop (mkF m 172 #[.val (.ref a1), .val (.long q1), .second, .val (.long t0), .second, .val (.int (0 : Int32)), .val (.long d), .second, .val (.long b0), .second, .val (.double (FP.l2d mm)), .second, .unset, .unset, .unset] [(.long q1), (.double (FP.l2d mm)), (.double (FP.l2d K))])) _
  refine Rch.go (fun _ kk_ => XS.lloadN X18.here hx rfl (hb hby d5_172) rfl  kk_) ?_
  show Rch p e below (T18.setTop (mkF m 173 #[.val (.ref a1), .val (.long q1), .second, .val (.long t0), .second, .val (.int (0 : Int32)), .val (.long d), .second, .val (.long b0), .second, .val (.double (FP.l2d mm)), .second, .unset, .unset, .unset] [(.long t0), (.long q1), (.double (FP.l2d mm)), (.double (FP.l2d K))])) _
  refine Rch.go (fun _ kk_ => XS.lsub X18.here hx rfl (hb hby d5_173) rfl kk_) ?_
  show Rch p e below (T18.setTop (mkF m 174 #[.val (.ref a1), .val (.long q1), .second, .val (.long t0), .second, .val (.int (0 : Int32)), .val (.long d), .second, .val (.long b0), .second, .val (.double (FP.l2d mm)), .second, .unset, .unset, .unset] [(.long (q1 - t0)), (.double (FP.l2d mm)), (.double (FP.l2d K))])) _
  rw [hnow]
  show Rch p e below (T18.setTop (mkF m 174 #[.val (.ref a1), .val (.long q1), .second, .val (.long t0), .second, .val (.int (0 : Int32)), .val (.long d), .second, .val (.long b0), .second, .val (.double (FP.l2d mm)), .second, .unset, .unset, .unset] [(.long (1048576 : Int64)), (.double (FP.l2d mm)), (.double (FP.l2d K))])) _
  refine Rch.go (fun _ kk_ => XS.l2dS X18.here hx rfl (hb hby d5_174) rfl rfl kk_) ?_
  show Rch p e below (T18.setTop (mkF m 175 #[.val (.ref a1), .val (.long q1), .second, .val (.long t0), .second, .val (.int (0 : Int32)), .val (.long d), .second, .val (.long b0), .second, .val (.double (FP.l2d mm)), .second, .unset, .unset, .unset] [(.double (FP.l2d (1048576 : Int64))), (.double (FP.l2d mm)), (.double (FP.l2d K))])) _
  refine Rch.go (fun _ kk_ => XS.dmulS X18.here hx rfl (hb hby d5_175) rfl (nn_w k2) k2 kk_) ?_
  show Rch p e below (T18.setTop (mkF m 176 #[.val (.ref a1), .val (.long q1), .second, .val (.long t0), .second, .val (.int (0 : Int32)), .val (.long d), .second, .val (.long b0), .second, .val (.double (FP.l2d mm)), .second, .unset, .unset, .unset] [(.double (FP.l2d (mm * (1048576 : Int64)))), (.double (FP.l2d K))])) _
  refine Rch.go (fun _ kk_ => XS.dsubS X18.here hx rfl (hb hby d5_176) rfl (nn_w k3) k3 kk_) ?_
  show Rch p e below (T18.setTop (mkF m 177 #[.val (.ref a1), .val (.long q1), .second, .val (.long t0), .second, .val (.int (0 : Int32)), .val (.long d), .second, .val (.long b0), .second, .val (.double (FP.l2d mm)), .second, .unset, .unset, .unset] [(.double (FP.l2d (K - (mm * (1048576 : Int64)))))])) _
  refine Rch.go (fun _ kk_ => XS.dstore X18.here hx rfl (hb hby d5_177) rfl (l' := #[.val (.ref a1), .val (.long q1), .second, .val (.long t0), .second, .val (.int (0 : Int32)), .val (.long d), .second, .val (.long b0), .second, .val (.double (FP.l2d mm)), .second, .val (.double (FP.l2d (K - (mm * (1048576 : Int64))))), .second, .unset]) rfl kk_) ?_
  show Rch p e below (T18.setTop (mkF m 179 #[.val (.ref a1), .val (.long q1), .second, .val (.long t0), .second, .val (.int (0 : Int32)), .val (.long d), .second, .val (.long b0), .second, .val (.double (FP.l2d mm)), .second, .val (.double (FP.l2d (K - (mm * (1048576 : Int64))))), .second, .unset] [])) _
  refine Rch.go (fun _ kk_ => XS.iconst X18.here hx rfl (hb hby d5_179) kk_) ?_
  show Rch p e below (T18.setTop (mkF m 180 #[.val (.ref a1), .val (.long q1), .second, .val (.long t0), .second, .val (.int (0 : Int32)), .val (.long d), .second, .val (.long b0), .second, .val (.double (FP.l2d mm)), .second, .val (.double (FP.l2d (K - (mm * (1048576 : Int64))))), .second, .unset] [(.int (0 : Int32))])) _
  refine Rch.go (fun _ kk_ => XS.istore X18.here hx rfl (hb hby d5_180) rfl (l' := #[.val (.ref a1), .val (.long q1), .second, .val (.long t0), .second, .val (.int (0 : Int32)), .val (.long d), .second, .val (.long b0), .second, .val (.double (FP.l2d mm)), .second, .val (.double (FP.l2d (K - (mm * (1048576 : Int64))))), .second, .val (.int (0 : Int32))]) rfl kk_) ?_
  show Rch p e below (T18.setTop (mkF m 182 #[.val (.ref a1), .val (.long q1), .second, .val (.long t0), .second, .val (.int (0 : Int32)), .val (.long d), .second, .val (.long b0), .second, .val (.double (FP.l2d mm)), .second, .val (.double (FP.l2d (K - (mm * (1048576 : Int64))))), .second, .val (.int (0 : Int32))] [])) _
  refine Rch.go (fun _ kk_ => XS.iload X18.here hx rfl (hb hby d5_182) rfl  kk_) ?_
  show Rch p e below (T18.setTop (mkF m 184 #[.val (.ref a1), .val (.long q1), .second, .val (.long t0), .second, .val (.int (0 : Int32)), .val (.long d), .second, .val (.long b0), .second, .val (.double (FP.l2d mm)), .second, .val (.double (FP.l2d (K - (mm * (1048576 : Int64))))), .second, .val (.int (0 : Int32))] [(.int (0 : Int32))])) _
  refine Rch.go (fun _ kk_ => XS.aloadN X18.here hx rfl (hb hby d5_184) rfl rfl kk_) ?_
  show Rch p e below (T18.setTop (mkF m 185 #[.val (.ref a1), .val (.long q1), .second, .val (.long t0), .second, .val (.int (0 : Int32)), .val (.long d), .second, .val (.long b0), .second, .val (.double (FP.l2d mm)), .second, .val (.double (FP.l2d (K - (mm * (1048576 : Int64))))), .second, .val (.int (0 : Int32))] [(.ref a1), (.int (0 : Int32))])) _
  obtain ⟨T19, X19, e19, st19⟩ := getF X18 hx hZ hown (host := "") (Or.inl (hw _ (List.mem_of_getElem? (i := 34) rfl))) Via.refl e18 F_kept (g := (mkF m 185 #[.val (.ref a1), .val (.long q1), .second, .val (.long t0), .second, .val (.int (0 : Int32)), .val (.long d), .second, .val (.long b0), .second, .val (.double (FP.l2d mm)), .second, .val (.double (FP.l2d (K - (mm * (1048576 : Int64))))), .second, .val (.int (0 : Int32))] [(.ref a1), (.int (0 : Int32))])) rfl rfl (hb hby d5_185)
  refine Rch.go st19 ?_
  show Rch p e below (T19.setTop (mkF m 188 #[.val (.ref a1), .val (.long q1), .second, .val (.long t0), .second, .val (.int (0 : Int32)), .val (.long d), .second, .val (.long b0), .second, .val (.double (FP.l2d mm)), .second, .val (.double (FP.l2d (K - (mm * (1048576 : Int64))))), .second, .val (.int (0 : Int32))] [(.int (2 : Int32)), (.int (0 : Int32))])) _
  refine Rch.go (fun _ kk_ => XS.icmpNo X19.here hx rfl (hb hby d5_188) rfl (tlt (by decide)).2.1 kk_) ?_
  show Rch p e below (T19.setTop (mkF m 191 #[.val (.ref a1), .val (.long q1), .second, .val (.long t0), .second, .val (.int (0 : Int32)), .val (.long d), .second, .val (.long b0), .second, .val (.double (FP.l2d mm)), .second, .val (.double (FP.l2d (K - (mm * (1048576 : Int64))))), .second, .val (.int (0 : Int32))] [])) _
  refine Rch.go (fun _ kk_ => XS.dload X19.here hx rfl (hb hby d5_191) rfl kk_) ?_
  show Rch p e below (T19.setTop (mkF m 193 #[.val (.ref a1), .val (.long q1), .second, .val (.long t0), .second, .val (.int (0 : Int32)), .val (.long d), .second, .val (.long b0), .second, .val (.double (FP.l2d mm)), .second, .val (.double (FP.l2d (K - (mm * (1048576 : Int64))))), .second, .val (.int (0 : Int32))] [(.double (FP.l2d (K - (mm * (1048576 : Int64)))))])) _
  refine Rch.go (fun _ kk_ => XS.aloadN X19.here hx rfl (hb hby d5_193) rfl rfl kk_) ?_
  show Rch p e below (T19.setTop (mkF m 194 #[.val (.ref a1), .val (.long q1), .second, .val (.long t0), .second, .val (.int (0 : Int32)), .val (.long d), .second, .val (.long b0), .second, .val (.double (FP.l2d mm)), .second, .val (.double (FP.l2d (K - (mm * (1048576 : Int64))))), .second, .val (.int (0 : Int32))] [(.ref a1), (.double (FP.l2d (K - (mm * (1048576 : Int64)))))])) _
  obtain ⟨T20, X20, e20, st20⟩ := getF X19 hx hZ hown (host := "") (Or.inl (hw _ (List.mem_of_getElem? (i := 14) rfl))) Via.refl e19 F_counts (g := (mkF m 194 #[.val (.ref a1), .val (.long q1), .second, .val (.long t0), .second, .val (.int (0 : Int32)), .val (.long d), .second, .val (.long b0), .second, .val (.double (FP.l2d mm)), .second, .val (.double (FP.l2d (K - (mm * (1048576 : Int64))))), .second, .val (.int (0 : Int32))] [(.ref a1), (.double (FP.l2d (K - (mm * (1048576 : Int64)))))])) rfl rfl (hb hby d5_194)
  refine Rch.go st20 ?_
  show Rch p e below (T20.setTop (mkF m 197 #[.val (.ref a1), .val (.long q1), .second, .val (.long t0), .second, .val (.int (0 : Int32)), .val (.long d), .second, .val (.long b0), .second, .val (.double (FP.l2d mm)), .second, .val (.double (FP.l2d (K - (mm * (1048576 : Int64))))), .second, .val (.int (0 : Int32))] [(.ref cn), (.double (FP.l2d (K - (mm * (1048576 : Int64)))))])) _
  refine Rch.go (fun _ kk_ => XS.iload X20.here hx rfl (hb hby d5_197) rfl  kk_) ?_
  show Rch p e below (T20.setTop (mkF m 199 #[.val (.ref a1), .val (.long q1), .second, .val (.long t0), .second, .val (.int (0 : Int32)), .val (.long d), .second, .val (.long b0), .second, .val (.double (FP.l2d mm)), .second, .val (.double (FP.l2d (K - (mm * (1048576 : Int64))))), .second, .val (.int (0 : Int32))] [(.int (0 : Int32)), (.ref cn), (.double (FP.l2d (K - (mm * (1048576 : Int64)))))])) _
  obtain ⟨cl21, Ar21, q21, S21, M21, H21, G21⟩ := id V_cn
  refine Rch.go (X20.laload hx (j := (0 : Int32)) (v := (.long (0 : Int64))) (by rw [e20]; exact Ar21.1) (State.isArrayOf_alike hZ.alike Ar21.2.1) Ar21.2.2 (inb_of S21 ⟨by decide, by decide⟩) (Has.at H21 (inb_of S21 ⟨by decide, by decide⟩) rfl) (g := (mkF m 199 #[.val (.ref a1), .val (.long q1), .second, .val (.long t0), .second, .val (.int (0 : Int32)), .val (.long d), .second, .val (.long b0), .second, .val (.double (FP.l2d mm)), .second, .val (.double (FP.l2d (K - (mm * (1048576 : Int64))))), .second, .val (.int (0 : Int32))] [(.int (0 : Int32)), (.ref cn), (.double (FP.l2d (K - (mm * (1048576 : Int64)))))])) rfl rfl (hb hby d5_199)) ?_
  show Rch p e below (T20.setTop (mkF m 200 #[.val (.ref a1), .val (.long q1), .second, .val (.long t0), .second, .val (.int (0 : Int32)), .val (.long d), .second, .val (.long b0), .second, .val (.double (FP.l2d mm)), .second, .val (.double (FP.l2d (K - (mm * (1048576 : Int64))))), .second, .val (.int (0 : Int32))] [(.long (0 : Int64)), (.double (FP.l2d (K - (mm * (1048576 : Int64)))))])) _
  refine Rch.go (fun _ kk_ => XS.l2dS X20.here hx rfl (hb hby d5_200) rfl rfl kk_) ?_
  show Rch p e below (T20.setTop (mkF m 201 #[.val (.ref a1), .val (.long q1), .second, .val (.long t0), .second, .val (.int (0 : Int32)), .val (.long d), .second, .val (.long b0), .second, .val (.double (FP.l2d mm)), .second, .val (.double (FP.l2d (K - (mm * (1048576 : Int64))))), .second, .val (.int (0 : Int32))] [(.double (FP.l2d (0 : Int64))), (.double (FP.l2d (K - (mm * (1048576 : Int64)))))])) _
  refine Rch.go (fun _ kk_ => XS.dload X20.here hx rfl (hb hby d5_201) rfl kk_) ?_
  show Rch p e below (T20.setTop (mkF m 203 #[.val (.ref a1), .val (.long q1), .second, .val (.long t0), .second, .val (.int (0 : Int32)), .val (.long d), .second, .val (.long b0), .second, .val (.double (FP.l2d mm)), .second, .val (.double (FP.l2d (K - (mm * (1048576 : Int64))))), .second, .val (.int (0 : Int32))] [(.double (FP.l2d mm)), (.double (FP.l2d (0 : Int64))), (.double (FP.l2d (K - (mm * (1048576 : Int64)))))])) _
  refine Rch.go (fun _ kk_ => XS.aloadN X20.here hx rfl (hb hby d5_203) rfl rfl kk_) ?_
  show Rch p e below (T20.setTop (mkF m 204 #[.val (.ref a1), .val (.long q1), .second, .val (.long t0), .second, .val (.int (0 : Int32)), .val (.long d), .second, .val (.long b0), .second, .val (.double (FP.l2d mm)), .second, .val (.double (FP.l2d (K - (mm * (1048576 : Int64))))), .second, .val (.int (0 : Int32))] [(.ref a1), (.double (FP.l2d mm)), (.double (FP.l2d (0 : Int64))), (.double (FP.l2d (K - (mm * (1048576 : Int64)))))])) _
  obtain ⟨T22, X22, e22, st22⟩ := getF X20 hx hZ hown (host := "") (Or.inl (hw _ (List.mem_of_getElem? (i := 12) rfl))) Via.refl e20 F_times (g := (mkF m 204 #[.val (.ref a1), .val (.long q1), .second, .val (.long t0), .second, .val (.int (0 : Int32)), .val (.long d), .second, .val (.long b0), .second, .val (.double (FP.l2d mm)), .second, .val (.double (FP.l2d (K - (mm * (1048576 : Int64))))), .second, .val (.int (0 : Int32))] [(.ref a1), (.double (FP.l2d mm)), (.double (FP.l2d (0 : Int64))), (.double (FP.l2d (K - (mm * (1048576 : Int64)))))])) rfl rfl (hb hby d5_204)
  refine Rch.go st22 ?_
  show Rch p e below (T22.setTop (mkF m 207 #[.val (.ref a1), .val (.long q1), .second, .val (.long t0), .second, .val (.int (0 : Int32)), .val (.long d), .second, .val (.long b0), .second, .val (.double (FP.l2d mm)), .second, .val (.double (FP.l2d (K - (mm * (1048576 : Int64))))), .second, .val (.int (0 : Int32))] [(.ref tm), (.double (FP.l2d mm)), (.double (FP.l2d (0 : Int64))), (.double (FP.l2d (K - (mm * (1048576 : Int64)))))])) _
  refine Rch.go (fun _ kk_ => XS.iload X22.here hx rfl (hb hby d5_207) rfl  kk_) ?_
  show Rch p e below (T22.setTop (mkF m 209 #[.val (.ref a1), .val (.long q1), .second, .val (.long t0), .second, .val (.int (0 : Int32)), .val (.long d), .second, .val (.long b0), .second, .val (.double (FP.l2d mm)), .second, .val (.double (FP.l2d (K - (mm * (1048576 : Int64))))), .second, .val (.int (0 : Int32))] [(.int (0 : Int32)), (.ref tm), (.double (FP.l2d mm)), (.double (FP.l2d (0 : Int64))), (.double (FP.l2d (K - (mm * (1048576 : Int64)))))])) _
  obtain ⟨cl23, Ar23, q23, S23, M23, H23, G23⟩ := id V_tm
  refine Rch.go (X22.laload hx (j := (0 : Int32)) (v := (.long t0)) (by rw [e22]; exact Ar23.1) (State.isArrayOf_alike hZ.alike Ar23.2.1) Ar23.2.2 (inb_of S23 ⟨by decide, by decide⟩) (Has.at H23 (inb_of S23 ⟨by decide, by decide⟩) rfl) (g := (mkF m 209 #[.val (.ref a1), .val (.long q1), .second, .val (.long t0), .second, .val (.int (0 : Int32)), .val (.long d), .second, .val (.long b0), .second, .val (.double (FP.l2d mm)), .second, .val (.double (FP.l2d (K - (mm * (1048576 : Int64))))), .second, .val (.int (0 : Int32))] [(.int (0 : Int32)), (.ref tm), (.double (FP.l2d mm)), (.double (FP.l2d (0 : Int64))), (.double (FP.l2d (K - (mm * (1048576 : Int64)))))])) rfl rfl (hb hby d5_209)) ?_
  show Rch p e below (T22.setTop (mkF m 210 #[.val (.ref a1), .val (.long q1), .second, .val (.long t0), .second, .val (.int (0 : Int32)), .val (.long d), .second, .val (.long b0), .second, .val (.double (FP.l2d mm)), .second, .val (.double (FP.l2d (K - (mm * (1048576 : Int64))))), .second, .val (.int (0 : Int32))] [(.long t0), (.double (FP.l2d mm)), (.double (FP.l2d (0 : Int64))), (.double (FP.l2d (K - (mm * (1048576 : Int64)))))])) _
  refine Rch.go (fun _ kk_ => XS.lloadN X22.here hx rfl (hb hby d5_210) rfl  kk_) ?_
  show Rch p e below (T22.setTop (mkF m 211 #[.val (.ref a1), .val (.long q1), .second, .val (.long t0), .second, .val (.int (0 : Int32)), .val (.long d), .second, .val (.long b0), .second, .val (.double (FP.l2d mm)), .second, .val (.double (FP.l2d (K - (mm * (1048576 : Int64))))), .second, .val (.int (0 : Int32))] [(.long t0), (.long t0), (.double (FP.l2d mm)), (.double (FP.l2d (0 : Int64))), (.double (FP.l2d (K - (mm * (1048576 : Int64)))))])) _
  refine Rch.go (fun _ kk_ => XS.lsub X22.here hx rfl (hb hby d5_211) rfl kk_) ?_
  show Rch p e below (T22.setTop (mkF m 212 #[.val (.ref a1), .val (.long q1), .second, .val (.long t0), .second, .val (.int (0 : Int32)), .val (.long d), .second, .val (.long b0), .second, .val (.double (FP.l2d mm)), .second, .val (.double (FP.l2d (K - (mm * (1048576 : Int64))))), .second, .val (.int (0 : Int32))] [(.long (t0 - t0)), (.double (FP.l2d mm)), (.double (FP.l2d (0 : Int64))), (.double (FP.l2d (K - (mm * (1048576 : Int64)))))])) _
  rw [(show (t0 - t0) = (0 : Int64) from Int64.sub_self _)]
  show Rch p e below (T22.setTop (mkF m 212 #[.val (.ref a1), .val (.long q1), .second, .val (.long t0), .second, .val (.int (0 : Int32)), .val (.long d), .second, .val (.long b0), .second, .val (.double (FP.l2d mm)), .second, .val (.double (FP.l2d (K - (mm * (1048576 : Int64))))), .second, .val (.int (0 : Int32))] [(.long (0 : Int64)), (.double (FP.l2d mm)), (.double (FP.l2d (0 : Int64))), (.double (FP.l2d (K - (mm * (1048576 : Int64)))))])) _
  refine Rch.go (fun _ kk_ => XS.l2dS X22.here hx rfl (hb hby d5_212) rfl rfl kk_) ?_
  show Rch p e below (T22.setTop (mkF m 213 #[.val (.ref a1), .val (.long q1), .second, .val (.long t0), .second, .val (.int (0 : Int32)), .val (.long d), .second, .val (.long b0), .second, .val (.double (FP.l2d mm)), .second, .val (.double (FP.l2d (K - (mm * (1048576 : Int64))))), .second, .val (.int (0 : Int32))] [(.double (FP.l2d (0 : Int64))), (.double (FP.l2d mm)), (.double (FP.l2d (0 : Int64))), (.double (FP.l2d (K - (mm * (1048576 : Int64)))))])) _
  refine Rch.go (fun _ kk_ => XS.dmulS X22.here hx rfl (hb hby d5_213) rfl (nn_w k4) k4 kk_) ?_
  show Rch p e below (T22.setTop (mkF m 214 #[.val (.ref a1), .val (.long q1), .second, .val (.long t0), .second, .val (.int (0 : Int32)), .val (.long d), .second, .val (.long b0), .second, .val (.double (FP.l2d mm)), .second, .val (.double (FP.l2d (K - (mm * (1048576 : Int64))))), .second, .val (.int (0 : Int32))] [(.double (FP.l2d (0 : Int64))), (.double (FP.l2d (0 : Int64))), (.double (FP.l2d (K - (mm * (1048576 : Int64)))))])) _
  refine Rch.go (fun _ kk_ => XS.dsubS X22.here hx rfl (hb hby d5_214) rfl (nn_w own_s00) own_s00 kk_) ?_
  show Rch p e below (T22.setTop (mkF m 215 #[.val (.ref a1), .val (.long q1), .second, .val (.long t0), .second, .val (.int (0 : Int32)), .val (.long d), .second, .val (.long b0), .second, .val (.double (FP.l2d mm)), .second, .val (.double (FP.l2d (K - (mm * (1048576 : Int64))))), .second, .val (.int (0 : Int32))] [(.double (FP.l2d (0 : Int64))), (.double (FP.l2d (K - (mm * (1048576 : Int64)))))])) _
  obtain ⟨T24, X24, e24, st24⟩ := natS X22 hx hZ (y := (⟨"java/lang/Math", "max", "(DD)D"⟩ : MethodName)) hown (hw _ (List.mem_of_getElem? (i := 44) rfl)) (hw _ (List.mem_of_getElem? (i := 45) rfl)) (hw _ (List.mem_of_getElem? (i := 46) rfl)) (hw _ (List.mem_of_getElem? (i := 47) rfl)) (by decide) e22 (W := 0) (fun hc_ => Jvm.Free.Fl.Abs.maxD_pays (FP.l2d (K - (mm * (1048576 : Int64)))) (FP.l2d (0 : Int64)) hc_ (by decide) (by decide)) (g := (mkF m 215 #[.val (.ref a1), .val (.long q1), .second, .val (.long t0), .second, .val (.int (0 : Int32)), .val (.long d), .second, .val (.long b0), .second, .val (.double (FP.l2d mm)), .second, .val (.double (FP.l2d (K - (mm * (1048576 : Int64))))), .second, .val (.int (0 : Int32))] [(.double (FP.l2d (0 : Int64))), (.double (FP.l2d (K - (mm * (1048576 : Int64)))))])) rfl (by rw [hml]; rfl) (argsL := [(.double (FP.l2d (K - (mm * (1048576 : Int64))))), (.double (FP.l2d (0 : Int64)))]) (rest := []) (lenOf pd5_0 rfl) rfl (by show 2 * 0 + _ ≤ _; exact Nat.le_of_eq rfl) (hb hby d5_215) (by decide) (by decide) ⟨rfl, (nn_w rfl), own_n0⟩ (val' := .double (FP.l2d (own_pos (K - (mm * (1048576 : Int64)))))) (congrArg Value.double (own_max k7))
  refine Rch.go st24 ?_
  show Rch p e below (T24.setTop (mkF m 218 #[.val (.ref a1), .val (.long q1), .second, .val (.long t0), .second, .val (.int (0 : Int32)), .val (.long d), .second, .val (.long b0), .second, .val (.double (FP.l2d mm)), .second, .val (.double (FP.l2d (K - (mm * (1048576 : Int64))))), .second, .val (.int (0 : Int32))] [(.double (FP.l2d (own_pos (K - (mm * (1048576 : Int64))))))])) _
  refine Rch.go (fun _ kk_ => XS.dstore X24.here hx rfl (hb hby d5_218) rfl (l' := #[.val (.ref a1), .val (.long q1), .second, .val (.long t0), .second, .val (.int (0 : Int32)), .val (.long d), .second, .val (.long b0), .second, .val (.double (FP.l2d mm)), .second, .val (.double (FP.l2d (own_pos (K - (mm * (1048576 : Int64)))))), .second, .val (.int (0 : Int32))]) rfl kk_) ?_
  show Rch p e below (T24.setTop (mkF m 220 #[.val (.ref a1), .val (.long q1), .second, .val (.long t0), .second, .val (.int (0 : Int32)), .val (.long d), .second, .val (.long b0), .second, .val (.double (FP.l2d mm)), .second, .val (.double (FP.l2d (own_pos (K - (mm * (1048576 : Int64)))))), .second, .val (.int (0 : Int32))] [])) _
  refine Rch.go (fun _ kk_ => XS.iinc X24.here hx rfl (hb hby d5_220) rfl (l' := #[.val (.ref a1), .val (.long q1), .second, .val (.long t0), .second, .val (.int (0 : Int32)), .val (.long d), .second, .val (.long b0), .second, .val (.double (FP.l2d mm)), .second, .val (.double (FP.l2d (own_pos (K - (mm * (1048576 : Int64)))))), .second, .val (.int ((0 : Int32) + (1 : Int32)))]) rfl kk_) ?_
  show Rch p e below (T24.setTop (mkF m 223 #[.val (.ref a1), .val (.long q1), .second, .val (.long t0), .second, .val (.int (0 : Int32)), .val (.long d), .second, .val (.long b0), .second, .val (.double (FP.l2d mm)), .second, .val (.double (FP.l2d (own_pos (K - (mm * (1048576 : Int64)))))), .second, .val (.int ((0 : Int32) + (1 : Int32)))] [])) _
  rw [(show ((0 : Int32) + (1 : Int32)) = (1 : Int32) from by decide)]
  show Rch p e below (T24.setTop (mkF m 223 #[.val (.ref a1), .val (.long q1), .second, .val (.long t0), .second, .val (.int (0 : Int32)), .val (.long d), .second, .val (.long b0), .second, .val (.double (FP.l2d mm)), .second, .val (.double (FP.l2d (own_pos (K - (mm * (1048576 : Int64)))))), .second, .val (.int (1 : Int32))] [])) _
  refine Rch.go (fun _ kk_ => XS.goto X24.here hx rfl (pc0 := 223) (pc' := 182) rfl (hb hby d5_223) (by decide) (by decide) kk_) ?_
  show Rch p e below (T24.setTop (mkF m 182 #[.val (.ref a1), .val (.long q1), .second, .val (.long t0), .second, .val (.int (0 : Int32)), .val (.long d), .second, .val (.long b0), .second, .val (.double (FP.l2d mm)), .second, .val (.double (FP.l2d (own_pos (K - (mm * (1048576 : Int64)))))), .second, .val (.int (1 : Int32))] [])) _
  refine Rch.go (fun _ kk_ => XS.iload X24.here hx rfl (hb hby d5_182) rfl  kk_) ?_
  show Rch p e below (T24.setTop (mkF m 184 #[.val (.ref a1), .val (.long q1), .second, .val (.long t0), .second, .val (.int (0 : Int32)), .val (.long d), .second, .val (.long b0), .second, .val (.double (FP.l2d mm)), .second, .val (.double (FP.l2d (own_pos (K - (mm * (1048576 : Int64)))))), .second, .val (.int (1 : Int32))] [(.int (1 : Int32))])) _
  refine Rch.go (fun _ kk_ => XS.aloadN X24.here hx rfl (hb hby d5_184) rfl rfl kk_) ?_
  show Rch p e below (T24.setTop (mkF m 185 #[.val (.ref a1), .val (.long q1), .second, .val (.long t0), .second, .val (.int (0 : Int32)), .val (.long d), .second, .val (.long b0), .second, .val (.double (FP.l2d mm)), .second, .val (.double (FP.l2d (own_pos (K - (mm * (1048576 : Int64)))))), .second, .val (.int (1 : Int32))] [(.ref a1), (.int (1 : Int32))])) _
  obtain ⟨T25, X25, e25, st25⟩ := getF X24 hx hZ hown (host := "") (Or.inl (hw _ (List.mem_of_getElem? (i := 34) rfl))) Via.refl e24 F_kept (g := (mkF m 185 #[.val (.ref a1), .val (.long q1), .second, .val (.long t0), .second, .val (.int (0 : Int32)), .val (.long d), .second, .val (.long b0), .second, .val (.double (FP.l2d mm)), .second, .val (.double (FP.l2d (own_pos (K - (mm * (1048576 : Int64)))))), .second, .val (.int (1 : Int32))] [(.ref a1), (.int (1 : Int32))])) rfl rfl (hb hby d5_185)
  refine Rch.go st25 ?_
  show Rch p e below (T25.setTop (mkF m 188 #[.val (.ref a1), .val (.long q1), .second, .val (.long t0), .second, .val (.int (0 : Int32)), .val (.long d), .second, .val (.long b0), .second, .val (.double (FP.l2d mm)), .second, .val (.double (FP.l2d (own_pos (K - (mm * (1048576 : Int64)))))), .second, .val (.int (1 : Int32))] [(.int (2 : Int32)), (.int (1 : Int32))])) _
  refine Rch.go (fun _ kk_ => XS.icmpNo X25.here hx rfl (hb hby d5_188) rfl (tlt (by decide)).2.1 kk_) ?_
  show Rch p e below (T25.setTop (mkF m 191 #[.val (.ref a1), .val (.long q1), .second, .val (.long t0), .second, .val (.int (0 : Int32)), .val (.long d), .second, .val (.long b0), .second, .val (.double (FP.l2d mm)), .second, .val (.double (FP.l2d (own_pos (K - (mm * (1048576 : Int64)))))), .second, .val (.int (1 : Int32))] [])) _
  refine Rch.go (fun _ kk_ => XS.dload X25.here hx rfl (hb hby d5_191) rfl kk_) ?_
  show Rch p e below (T25.setTop (mkF m 193 #[.val (.ref a1), .val (.long q1), .second, .val (.long t0), .second, .val (.int (0 : Int32)), .val (.long d), .second, .val (.long b0), .second, .val (.double (FP.l2d mm)), .second, .val (.double (FP.l2d (own_pos (K - (mm * (1048576 : Int64)))))), .second, .val (.int (1 : Int32))] [(.double (FP.l2d (own_pos (K - (mm * (1048576 : Int64))))))])) _
  refine Rch.go (fun _ kk_ => XS.aloadN X25.here hx rfl (hb hby d5_193) rfl rfl kk_) ?_
  show Rch p e below (T25.setTop (mkF m 194 #[.val (.ref a1), .val (.long q1), .second, .val (.long t0), .second, .val (.int (0 : Int32)), .val (.long d), .second, .val (.long b0), .second, .val (.double (FP.l2d mm)), .second, .val (.double (FP.l2d (own_pos (K - (mm * (1048576 : Int64)))))), .second, .val (.int (1 : Int32))] [(.ref a1), (.double (FP.l2d (own_pos (K - (mm * (1048576 : Int64))))))])) _
  obtain ⟨T26, X26, e26, st26⟩ := getF X25 hx hZ hown (host := "") (Or.inl (hw _ (List.mem_of_getElem? (i := 14) rfl))) Via.refl e25 F_counts (g := (mkF m 194 #[.val (.ref a1), .val (.long q1), .second, .val (.long t0), .second, .val (.int (0 : Int32)), .val (.long d), .second, .val (.long b0), .second, .val (.double (FP.l2d mm)), .second, .val (.double (FP.l2d (own_pos (K - (mm * (1048576 : Int64)))))), .second, .val (.int (1 : Int32))] [(.ref a1), (.double (FP.l2d (own_pos (K - (mm * (1048576 : Int64))))))])) rfl rfl (hb hby d5_194)
  refine Rch.go st26 ?_
  show Rch p e below (T26.setTop (mkF m 197 #[.val (.ref a1), .val (.long q1), .second, .val (.long t0), .second, .val (.int (0 : Int32)), .val (.long d), .second, .val (.long b0), .second, .val (.double (FP.l2d mm)), .second, .val (.double (FP.l2d (own_pos (K - (mm * (1048576 : Int64)))))), .second, .val (.int (1 : Int32))] [(.ref cn), (.double (FP.l2d (own_pos (K - (mm * (1048576 : Int64))))))])) _
  refine Rch.go (fun _ kk_ => XS.iload X26.here hx rfl (hb hby d5_197) rfl  kk_) ?_
  show Rch p e below (T26.setTop (mkF m 199 #[.val (.ref a1), .val (.long q1), .second, .val (.long t0), .second, .val (.int (0 : Int32)), .val (.long d), .second, .val (.long b0), .second, .val (.double (FP.l2d mm)), .second, .val (.double (FP.l2d (own_pos (K - (mm * (1048576 : Int64)))))), .second, .val (.int (1 : Int32))] [(.int (1 : Int32)), (.ref cn), (.double (FP.l2d (own_pos (K - (mm * (1048576 : Int64))))))])) _
  obtain ⟨cl27, Ar27, q27, S27, M27, H27, G27⟩ := id V_cn
  refine Rch.go (X26.laload hx (j := (1 : Int32)) (v := (.long b0)) (by rw [e26]; exact Ar27.1) (State.isArrayOf_alike hZ.alike Ar27.2.1) Ar27.2.2 (inb_of S27 ⟨by decide, by decide⟩) (Has.at H27 (inb_of S27 ⟨by decide, by decide⟩) rfl) (g := (mkF m 199 #[.val (.ref a1), .val (.long q1), .second, .val (.long t0), .second, .val (.int (0 : Int32)), .val (.long d), .second, .val (.long b0), .second, .val (.double (FP.l2d mm)), .second, .val (.double (FP.l2d (own_pos (K - (mm * (1048576 : Int64)))))), .second, .val (.int (1 : Int32))] [(.int (1 : Int32)), (.ref cn), (.double (FP.l2d (own_pos (K - (mm * (1048576 : Int64))))))])) rfl rfl (hb hby d5_199)) ?_
  show Rch p e below (T26.setTop (mkF m 200 #[.val (.ref a1), .val (.long q1), .second, .val (.long t0), .second, .val (.int (0 : Int32)), .val (.long d), .second, .val (.long b0), .second, .val (.double (FP.l2d mm)), .second, .val (.double (FP.l2d (own_pos (K - (mm * (1048576 : Int64)))))), .second, .val (.int (1 : Int32))] [(.long b0), (.double (FP.l2d (own_pos (K - (mm * (1048576 : Int64))))))])) _
  refine Rch.go (fun _ kk_ => XS.l2dS X26.here hx rfl (hb hby d5_200) rfl rfl kk_) ?_
  show Rch p e below (T26.setTop (mkF m 201 #[.val (.ref a1), .val (.long q1), .second, .val (.long t0), .second, .val (.int (0 : Int32)), .val (.long d), .second, .val (.long b0), .second, .val (.double (FP.l2d mm)), .second, .val (.double (FP.l2d (own_pos (K - (mm * (1048576 : Int64)))))), .second, .val (.int (1 : Int32))] [(.double (FP.l2d b0)), (.double (FP.l2d (own_pos (K - (mm * (1048576 : Int64))))))])) _
  refine Rch.go (fun _ kk_ => XS.dload X26.here hx rfl (hb hby d5_201) rfl kk_) ?_
  show Rch p e below (T26.setTop (mkF m 203 #[.val (.ref a1), .val (.long q1), .second, .val (.long t0), .second, .val (.int (0 : Int32)), .val (.long d), .second, .val (.long b0), .second, .val (.double (FP.l2d mm)), .second, .val (.double (FP.l2d (own_pos (K - (mm * (1048576 : Int64)))))), .second, .val (.int (1 : Int32))] [(.double (FP.l2d mm)), (.double (FP.l2d b0)), (.double (FP.l2d (own_pos (K - (mm * (1048576 : Int64))))))])) _
  refine Rch.go (fun _ kk_ => XS.aloadN X26.here hx rfl (hb hby d5_203) rfl rfl kk_) ?_
  show Rch p e below (T26.setTop (mkF m 204 #[.val (.ref a1), .val (.long q1), .second, .val (.long t0), .second, .val (.int (0 : Int32)), .val (.long d), .second, .val (.long b0), .second, .val (.double (FP.l2d mm)), .second, .val (.double (FP.l2d (own_pos (K - (mm * (1048576 : Int64)))))), .second, .val (.int (1 : Int32))] [(.ref a1), (.double (FP.l2d mm)), (.double (FP.l2d b0)), (.double (FP.l2d (own_pos (K - (mm * (1048576 : Int64))))))])) _
  obtain ⟨T28, X28, e28, st28⟩ := getF X26 hx hZ hown (host := "") (Or.inl (hw _ (List.mem_of_getElem? (i := 12) rfl))) Via.refl e26 F_times (g := (mkF m 204 #[.val (.ref a1), .val (.long q1), .second, .val (.long t0), .second, .val (.int (0 : Int32)), .val (.long d), .second, .val (.long b0), .second, .val (.double (FP.l2d mm)), .second, .val (.double (FP.l2d (own_pos (K - (mm * (1048576 : Int64)))))), .second, .val (.int (1 : Int32))] [(.ref a1), (.double (FP.l2d mm)), (.double (FP.l2d b0)), (.double (FP.l2d (own_pos (K - (mm * (1048576 : Int64))))))])) rfl rfl (hb hby d5_204)
  refine Rch.go st28 ?_
  show Rch p e below (T28.setTop (mkF m 207 #[.val (.ref a1), .val (.long q1), .second, .val (.long t0), .second, .val (.int (0 : Int32)), .val (.long d), .second, .val (.long b0), .second, .val (.double (FP.l2d mm)), .second, .val (.double (FP.l2d (own_pos (K - (mm * (1048576 : Int64)))))), .second, .val (.int (1 : Int32))] [(.ref tm), (.double (FP.l2d mm)), (.double (FP.l2d b0)), (.double (FP.l2d (own_pos (K - (mm * (1048576 : Int64))))))])) _
  refine Rch.go (fun _ kk_ => XS.iload X28.here hx rfl (hb hby d5_207) rfl  kk_) ?_
  show Rch p e below (T28.setTop (mkF m 209 #[.val (.ref a1), .val (.long q1), .second, .val (.long t0), .second, .val (.int (0 : Int32)), .val (.long d), .second, .val (.long b0), .second, .val (.double (FP.l2d mm)), .second, .val (.double (FP.l2d (own_pos (K - (mm * (1048576 : Int64)))))), .second, .val (.int (1 : Int32))] [(.int (1 : Int32)), (.ref tm), (.double (FP.l2d mm)), (.double (FP.l2d b0)), (.double (FP.l2d (own_pos (K - (mm * (1048576 : Int64))))))])) _
  obtain ⟨cl29, Ar29, q29, S29, M29, H29, G29⟩ := id V_tm
  refine Rch.go (X28.laload hx (j := (1 : Int32)) (v := (.long t1)) (by rw [e28]; exact Ar29.1) (State.isArrayOf_alike hZ.alike Ar29.2.1) Ar29.2.2 (inb_of S29 ⟨by decide, by decide⟩) (Has.at H29 (inb_of S29 ⟨by decide, by decide⟩) rfl) (g := (mkF m 209 #[.val (.ref a1), .val (.long q1), .second, .val (.long t0), .second, .val (.int (0 : Int32)), .val (.long d), .second, .val (.long b0), .second, .val (.double (FP.l2d mm)), .second, .val (.double (FP.l2d (own_pos (K - (mm * (1048576 : Int64)))))), .second, .val (.int (1 : Int32))] [(.int (1 : Int32)), (.ref tm), (.double (FP.l2d mm)), (.double (FP.l2d b0)), (.double (FP.l2d (own_pos (K - (mm * (1048576 : Int64))))))])) rfl rfl (hb hby d5_209)) ?_
  show Rch p e below (T28.setTop (mkF m 210 #[.val (.ref a1), .val (.long q1), .second, .val (.long t0), .second, .val (.int (0 : Int32)), .val (.long d), .second, .val (.long b0), .second, .val (.double (FP.l2d mm)), .second, .val (.double (FP.l2d (own_pos (K - (mm * (1048576 : Int64)))))), .second, .val (.int (1 : Int32))] [(.long t1), (.double (FP.l2d mm)), (.double (FP.l2d b0)), (.double (FP.l2d (own_pos (K - (mm * (1048576 : Int64))))))])) _
  refine Rch.go (fun _ kk_ => XS.lloadN X28.here hx rfl (hb hby d5_210) rfl  kk_) ?_
  show Rch p e below (T28.setTop (mkF m 211 #[.val (.ref a1), .val (.long q1), .second, .val (.long t0), .second, .val (.int (0 : Int32)), .val (.long d), .second, .val (.long b0), .second, .val (.double (FP.l2d mm)), .second, .val (.double (FP.l2d (own_pos (K - (mm * (1048576 : Int64)))))), .second, .val (.int (1 : Int32))] [(.long t0), (.long t1), (.double (FP.l2d mm)), (.double (FP.l2d b0)), (.double (FP.l2d (own_pos (K - (mm * (1048576 : Int64))))))])) _
  refine Rch.go (fun _ kk_ => XS.lsub X28.here hx rfl (hb hby d5_211) rfl kk_) ?_
  show Rch p e below (T28.setTop (mkF m 212 #[.val (.ref a1), .val (.long q1), .second, .val (.long t0), .second, .val (.int (0 : Int32)), .val (.long d), .second, .val (.long b0), .second, .val (.double (FP.l2d mm)), .second, .val (.double (FP.l2d (own_pos (K - (mm * (1048576 : Int64)))))), .second, .val (.int (1 : Int32))] [(.long (t1 - t0)), (.double (FP.l2d mm)), (.double (FP.l2d b0)), (.double (FP.l2d (own_pos (K - (mm * (1048576 : Int64))))))])) _
  rw [hdt]
  show Rch p e below (T28.setTop (mkF m 212 #[.val (.ref a1), .val (.long q1), .second, .val (.long t0), .second, .val (.int (0 : Int32)), .val (.long d), .second, .val (.long b0), .second, .val (.double (FP.l2d mm)), .second, .val (.double (FP.l2d (own_pos (K - (mm * (1048576 : Int64)))))), .second, .val (.int (1 : Int32))] [(.long d), (.double (FP.l2d mm)), (.double (FP.l2d b0)), (.double (FP.l2d (own_pos (K - (mm * (1048576 : Int64))))))])) _
  refine Rch.go (fun _ kk_ => XS.l2dS X28.here hx rfl (hb hby d5_212) rfl rfl kk_) ?_
  show Rch p e below (T28.setTop (mkF m 213 #[.val (.ref a1), .val (.long q1), .second, .val (.long t0), .second, .val (.int (0 : Int32)), .val (.long d), .second, .val (.long b0), .second, .val (.double (FP.l2d mm)), .second, .val (.double (FP.l2d (own_pos (K - (mm * (1048576 : Int64)))))), .second, .val (.int (1 : Int32))] [(.double (FP.l2d d)), (.double (FP.l2d mm)), (.double (FP.l2d b0)), (.double (FP.l2d (own_pos (K - (mm * (1048576 : Int64))))))])) _
  refine Rch.go (fun _ kk_ => XS.dmulS X28.here hx rfl (hb hby d5_213) rfl (nn_w k5) k5 kk_) ?_
  show Rch p e below (T28.setTop (mkF m 214 #[.val (.ref a1), .val (.long q1), .second, .val (.long t0), .second, .val (.int (0 : Int32)), .val (.long d), .second, .val (.long b0), .second, .val (.double (FP.l2d mm)), .second, .val (.double (FP.l2d (own_pos (K - (mm * (1048576 : Int64)))))), .second, .val (.int (1 : Int32))] [(.double (FP.l2d b0)), (.double (FP.l2d b0)), (.double (FP.l2d (own_pos (K - (mm * (1048576 : Int64))))))])) _
  refine Rch.go (fun _ kk_ => XS.dsubS X28.here hx rfl (hb hby d5_214) rfl (nn_w k6) k6 kk_) ?_
  show Rch p e below (T28.setTop (mkF m 215 #[.val (.ref a1), .val (.long q1), .second, .val (.long t0), .second, .val (.int (0 : Int32)), .val (.long d), .second, .val (.long b0), .second, .val (.double (FP.l2d mm)), .second, .val (.double (FP.l2d (own_pos (K - (mm * (1048576 : Int64)))))), .second, .val (.int (1 : Int32))] [(.double (FP.l2d (0 : Int64))), (.double (FP.l2d (own_pos (K - (mm * (1048576 : Int64))))))])) _
  obtain ⟨T30, X30, e30, st30⟩ := natS X28 hx hZ (y := (⟨"java/lang/Math", "max", "(DD)D"⟩ : MethodName)) hown (hw _ (List.mem_of_getElem? (i := 44) rfl)) (hw _ (List.mem_of_getElem? (i := 45) rfl)) (hw _ (List.mem_of_getElem? (i := 46) rfl)) (hw _ (List.mem_of_getElem? (i := 47) rfl)) (by decide) e28 (W := 0) (fun hc_ => Jvm.Free.Fl.Abs.maxD_pays (FP.l2d (own_pos (K - (mm * (1048576 : Int64))))) (FP.l2d (0 : Int64)) hc_ (by decide) (by decide)) (g := (mkF m 215 #[.val (.ref a1), .val (.long q1), .second, .val (.long t0), .second, .val (.int (0 : Int32)), .val (.long d), .second, .val (.long b0), .second, .val (.double (FP.l2d mm)), .second, .val (.double (FP.l2d (own_pos (K - (mm * (1048576 : Int64)))))), .second, .val (.int (1 : Int32))] [(.double (FP.l2d (0 : Int64))), (.double (FP.l2d (own_pos (K - (mm * (1048576 : Int64))))))])) rfl (by rw [hml]; rfl) (argsL := [(.double (FP.l2d (own_pos (K - (mm * (1048576 : Int64)))))), (.double (FP.l2d (0 : Int64)))]) (rest := []) (lenOf pd5_0 rfl) rfl (by show 2 * 0 + _ ≤ _; exact Nat.le_of_eq rfl) (hb hby d5_215) (by decide) (by decide) ⟨rfl, (nn_w rfl), own_n0⟩ (val' := .double (FP.l2d (own_pos (K - (mm * (1048576 : Int64)))))) (congrArg Value.double (own_max2 k8 k9))
  refine Rch.go st30 ?_
  show Rch p e below (T30.setTop (mkF m 218 #[.val (.ref a1), .val (.long q1), .second, .val (.long t0), .second, .val (.int (0 : Int32)), .val (.long d), .second, .val (.long b0), .second, .val (.double (FP.l2d mm)), .second, .val (.double (FP.l2d (own_pos (K - (mm * (1048576 : Int64)))))), .second, .val (.int (1 : Int32))] [(.double (FP.l2d (own_pos (K - (mm * (1048576 : Int64))))))])) _
  refine Rch.go (fun _ kk_ => XS.dstore X30.here hx rfl (hb hby d5_218) rfl (l' := #[.val (.ref a1), .val (.long q1), .second, .val (.long t0), .second, .val (.int (0 : Int32)), .val (.long d), .second, .val (.long b0), .second, .val (.double (FP.l2d mm)), .second, .val (.double (FP.l2d (own_pos (K - (mm * (1048576 : Int64)))))), .second, .val (.int (1 : Int32))]) rfl kk_) ?_
  show Rch p e below (T30.setTop (mkF m 220 #[.val (.ref a1), .val (.long q1), .second, .val (.long t0), .second, .val (.int (0 : Int32)), .val (.long d), .second, .val (.long b0), .second, .val (.double (FP.l2d mm)), .second, .val (.double (FP.l2d (own_pos (K - (mm * (1048576 : Int64)))))), .second, .val (.int (1 : Int32))] [])) _
  refine Rch.go (fun _ kk_ => XS.iinc X30.here hx rfl (hb hby d5_220) rfl (l' := #[.val (.ref a1), .val (.long q1), .second, .val (.long t0), .second, .val (.int (0 : Int32)), .val (.long d), .second, .val (.long b0), .second, .val (.double (FP.l2d mm)), .second, .val (.double (FP.l2d (own_pos (K - (mm * (1048576 : Int64)))))), .second, .val (.int ((1 : Int32) + (1 : Int32)))]) rfl kk_) ?_
  show Rch p e below (T30.setTop (mkF m 223 #[.val (.ref a1), .val (.long q1), .second, .val (.long t0), .second, .val (.int (0 : Int32)), .val (.long d), .second, .val (.long b0), .second, .val (.double (FP.l2d mm)), .second, .val (.double (FP.l2d (own_pos (K - (mm * (1048576 : Int64)))))), .second, .val (.int ((1 : Int32) + (1 : Int32)))] [])) _
  rw [(show ((1 : Int32) + (1 : Int32)) = (2 : Int32) from by decide)]
  show Rch p e below (T30.setTop (mkF m 223 #[.val (.ref a1), .val (.long q1), .second, .val (.long t0), .second, .val (.int (0 : Int32)), .val (.long d), .second, .val (.long b0), .second, .val (.double (FP.l2d mm)), .second, .val (.double (FP.l2d (own_pos (K - (mm * (1048576 : Int64)))))), .second, .val (.int (2 : Int32))] [])) _
  refine Rch.go (fun _ kk_ => XS.goto X30.here hx rfl (pc0 := 223) (pc' := 182) rfl (hb hby d5_223) (by decide) (by decide) kk_) ?_
  show Rch p e below (T30.setTop (mkF m 182 #[.val (.ref a1), .val (.long q1), .second, .val (.long t0), .second, .val (.int (0 : Int32)), .val (.long d), .second, .val (.long b0), .second, .val (.double (FP.l2d mm)), .second, .val (.double (FP.l2d (own_pos (K - (mm * (1048576 : Int64)))))), .second, .val (.int (2 : Int32))] [])) _
  refine Rch.go (fun _ kk_ => XS.iload X30.here hx rfl (hb hby d5_182) rfl  kk_) ?_
  show Rch p e below (T30.setTop (mkF m 184 #[.val (.ref a1), .val (.long q1), .second, .val (.long t0), .second, .val (.int (0 : Int32)), .val (.long d), .second, .val (.long b0), .second, .val (.double (FP.l2d mm)), .second, .val (.double (FP.l2d (own_pos (K - (mm * (1048576 : Int64)))))), .second, .val (.int (2 : Int32))] [(.int (2 : Int32))])) _
  refine Rch.go (fun _ kk_ => XS.aloadN X30.here hx rfl (hb hby d5_184) rfl rfl kk_) ?_
  show Rch p e below (T30.setTop (mkF m 185 #[.val (.ref a1), .val (.long q1), .second, .val (.long t0), .second, .val (.int (0 : Int32)), .val (.long d), .second, .val (.long b0), .second, .val (.double (FP.l2d mm)), .second, .val (.double (FP.l2d (own_pos (K - (mm * (1048576 : Int64)))))), .second, .val (.int (2 : Int32))] [(.ref a1), (.int (2 : Int32))])) _
  obtain ⟨T31, X31, e31, st31⟩ := getF X30 hx hZ hown (host := "") (Or.inl (hw _ (List.mem_of_getElem? (i := 34) rfl))) Via.refl e30 F_kept (g := (mkF m 185 #[.val (.ref a1), .val (.long q1), .second, .val (.long t0), .second, .val (.int (0 : Int32)), .val (.long d), .second, .val (.long b0), .second, .val (.double (FP.l2d mm)), .second, .val (.double (FP.l2d (own_pos (K - (mm * (1048576 : Int64)))))), .second, .val (.int (2 : Int32))] [(.ref a1), (.int (2 : Int32))])) rfl rfl (hb hby d5_185)
  refine Rch.go st31 ?_
  show Rch p e below (T31.setTop (mkF m 188 #[.val (.ref a1), .val (.long q1), .second, .val (.long t0), .second, .val (.int (0 : Int32)), .val (.long d), .second, .val (.long b0), .second, .val (.double (FP.l2d mm)), .second, .val (.double (FP.l2d (own_pos (K - (mm * (1048576 : Int64)))))), .second, .val (.int (2 : Int32))] [(.int (2 : Int32)), (.int (2 : Int32))])) _
  refine Rch.go (fun _ kk_ => XS.icmpYes X31.here hx rfl (pc0 := 188) (pc' := 226) rfl (hb hby d5_188) rfl (flt (by decide)).2.1 (by decide) (by decide) kk_) ?_
  show Rch p e below (T31.setTop (mkF m 226 #[.val (.ref a1), .val (.long q1), .second, .val (.long t0), .second, .val (.int (0 : Int32)), .val (.long d), .second, .val (.long b0), .second, .val (.double (FP.l2d mm)), .second, .val (.double (FP.l2d (own_pos (K - (mm * (1048576 : Int64)))))), .second, .val (.int (2 : Int32))] [])) _
  refine Rch.go (fun _ kk_ => XS.dload X31.here hx rfl (hb hby d5_226) rfl kk_) ?_
  show Rch p e below (T31.setTop (mkF m 228 #[.val (.ref a1), .val (.long q1), .second, .val (.long t0), .second, .val (.int (0 : Int32)), .val (.long d), .second, .val (.long b0), .second, .val (.double (FP.l2d mm)), .second, .val (.double (FP.l2d (own_pos (K - (mm * (1048576 : Int64)))))), .second, .val (.int (2 : Int32))] [(.double (FP.l2d (own_pos (K - (mm * (1048576 : Int64))))))])) _
  refine Rch.go (fun _ kk_ => XS.dconst0 X31.here hx rfl (hb hby d5_228) own_dc0 kk_) ?_
  show Rch p e below (T31.setTop (mkF m 229 #[.val (.ref a1), .val (.long q1), .second, .val (.long t0), .second, .val (.int (0 : Int32)), .val (.long d), .second, .val (.long b0), .second, .val (.double (FP.l2d mm)), .second, .val (.double (FP.l2d (own_pos (K - (mm * (1048576 : Int64)))))), .second, .val (.int (2 : Int32))] [(.double (FP.l2d (0 : Int64))), (.double (FP.l2d (own_pos (K - (mm * (1048576 : Int64))))))])) _
  obtain ⟨T32, X32, e32, st32⟩ := natS X31 hx hZ (y := (⟨"java/lang/Math", "max", "(DD)D"⟩ : MethodName)) hown (hw _ (List.mem_of_getElem? (i := 44) rfl)) (hw _ (List.mem_of_getElem? (i := 45) rfl)) (hw _ (List.mem_of_getElem? (i := 46) rfl)) (hw _ (List.mem_of_getElem? (i := 47) rfl)) (by decide) e31 (W := 0) (fun hc_ => Jvm.Free.Fl.Abs.maxD_pays (FP.l2d (own_pos (K - (mm * (1048576 : Int64))))) (FP.l2d (0 : Int64)) hc_ (by decide) (by decide)) (g := (mkF m 229 #[.val (.ref a1), .val (.long q1), .second, .val (.long t0), .second, .val (.int (0 : Int32)), .val (.long d), .second, .val (.long b0), .second, .val (.double (FP.l2d mm)), .second, .val (.double (FP.l2d (own_pos (K - (mm * (1048576 : Int64)))))), .second, .val (.int (2 : Int32))] [(.double (FP.l2d (0 : Int64))), (.double (FP.l2d (own_pos (K - (mm * (1048576 : Int64))))))])) rfl (by rw [hml]; rfl) (argsL := [(.double (FP.l2d (own_pos (K - (mm * (1048576 : Int64)))))), (.double (FP.l2d (0 : Int64)))]) (rest := []) (lenOf pd5_0 rfl) rfl (by show 2 * 0 + _ ≤ _; exact Nat.le_of_eq rfl) (hb hby d5_229) (by decide) (by decide) ⟨rfl, (nn_w rfl), own_n0⟩ (val' := .double (FP.l2d (own_pos (K - (mm * (1048576 : Int64)))))) (congrArg Value.double (own_max2 k8 k9))
  refine Rch.go st32 ?_
  show Rch p e below (T32.setTop (mkF m 232 #[.val (.ref a1), .val (.long q1), .second, .val (.long t0), .second, .val (.int (0 : Int32)), .val (.long d), .second, .val (.long b0), .second, .val (.double (FP.l2d mm)), .second, .val (.double (FP.l2d (own_pos (K - (mm * (1048576 : Int64)))))), .second, .val (.int (2 : Int32))] [(.double (FP.l2d (own_pos (K - (mm * (1048576 : Int64))))))])) _
  refine Rch.go (fun _ kk_ => XS.dload X32.here hx rfl (hb hby d5_232) rfl kk_) ?_
  show Rch p e below (T32.setTop (mkF m 234 #[.val (.ref a1), .val (.long q1), .second, .val (.long t0), .second, .val (.int (0 : Int32)), .val (.long d), .second, .val (.long b0), .second, .val (.double (FP.l2d mm)), .second, .val (.double (FP.l2d (own_pos (K - (mm * (1048576 : Int64)))))), .second, .val (.int (2 : Int32))] [(.double (FP.l2d mm)), (.double (FP.l2d (own_pos (K - (mm * (1048576 : Int64))))))])) _
  refine Rch.go (fun _ kk_ => XS.ddivS X32.here hx rfl (hb hby d5_234) rfl kq.1 rfl kk_) ?_
  show Rch p e below (T32.setTop (mkF m 235 #[.val (.ref a1), .val (.long q1), .second, .val (.long t0), .second, .val (.int (0 : Int32)), .val (.long d), .second, .val (.long b0), .second, .val (.double (FP.l2d mm)), .second, .val (.double (FP.l2d (own_pos (K - (mm * (1048576 : Int64)))))), .second, .val (.int (2 : Int32))] [(.double (FP.ddiv (FP.l2d (own_pos (K - (mm * (1048576 : Int64))))) (FP.l2d mm)))])) _
  refine Rch.go (X32.ldc2DoubleC hx hown (mvT hZ (hw _ (List.mem_of_getElem? (i := 48) rfl))) (g := (mkF m 235 #[.val (.ref a1), .val (.long q1), .second, .val (.long t0), .second, .val (.int (0 : Int32)), .val (.long d), .second, .val (.long b0), .second, .val (.double (FP.l2d mm)), .second, .val (.double (FP.l2d (own_pos (K - (mm * (1048576 : Int64)))))), .second, .val (.int (2 : Int32))] [(.double (FP.ddiv (FP.l2d (own_pos (K - (mm * (1048576 : Int64))))) (FP.l2d mm)))])) rfl (hb hby d5_235)) ?_
  show Rch p e below (T32.setTop (mkF m 238 #[.val (.ref a1), .val (.long q1), .second, .val (.long t0), .second, .val (.int (0 : Int32)), .val (.long d), .second, .val (.long b0), .second, .val (.double (FP.l2d mm)), .second, .val (.double (FP.l2d (own_pos (K - (mm * (1048576 : Int64)))))), .second, .val (.int (2 : Int32))] [(.double (4881901996069617664 : UInt64)), (.double (FP.ddiv (FP.l2d (own_pos (K - (mm * (1048576 : Int64))))) (FP.l2d mm)))])) _
  obtain ⟨T33, X33, e33, st33⟩ := natS X32 hx hZ (y := (⟨"java/lang/Math", "min", "(DD)D"⟩ : MethodName)) hown (hw _ (List.mem_of_getElem? (i := 49) rfl)) (hw _ (List.mem_of_getElem? (i := 50) rfl)) (hw _ (List.mem_of_getElem? (i := 46) rfl)) (hw _ (List.mem_of_getElem? (i := 51) rfl)) (by decide) e32 (W := 0) (fun hc_ => Jvm.Free.Fl.Abs.minD_pays (FP.ddiv (FP.l2d (own_pos (K - (mm * (1048576 : Int64))))) (FP.l2d mm)) (4881901996069617664 : UInt64) hc_ (by decide) (by decide)) (g := (mkF m 238 #[.val (.ref a1), .val (.long q1), .second, .val (.long t0), .second, .val (.int (0 : Int32)), .val (.long d), .second, .val (.long b0), .second, .val (.double (FP.l2d mm)), .second, .val (.double (FP.l2d (own_pos (K - (mm * (1048576 : Int64)))))), .second, .val (.int (2 : Int32))] [(.double (4881901996069617664 : UInt64)), (.double (FP.ddiv (FP.l2d (own_pos (K - (mm * (1048576 : Int64))))) (FP.l2d mm)))])) rfl (by rw [hml]; rfl) (argsL := [(.double (FP.ddiv (FP.l2d (own_pos (K - (mm * (1048576 : Int64))))) (FP.l2d mm))), (.double (4881901996069617664 : UInt64))]) (rest := []) (lenOf pd5_0 rfl) rfl (by show 2 * 0 + _ ≤ _; exact Nat.le_of_eq rfl) (hb hby d5_238) (by decide) (by decide) ⟨rfl, kq.1, nn_61⟩ (val' := .double (FP.ddiv (FP.l2d (own_pos (K - (mm * (1048576 : Int64))))) (FP.l2d mm))) (congrArg Value.double kq.2.1)
  refine Rch.go st33 ?_
  show Rch p e below (T33.setTop (mkF m 241 #[.val (.ref a1), .val (.long q1), .second, .val (.long t0), .second, .val (.int (0 : Int32)), .val (.long d), .second, .val (.long b0), .second, .val (.double (FP.l2d mm)), .second, .val (.double (FP.l2d (own_pos (K - (mm * (1048576 : Int64)))))), .second, .val (.int (2 : Int32))] [(.double (FP.ddiv (FP.l2d (own_pos (K - (mm * (1048576 : Int64))))) (FP.l2d mm)))])) _
  refine Rch.go (fun _ kk_ => XS.d2lS X33.here hx rfl (hb hby d5_241) rfl kq.2.2 kk_) ?_
  show Rch p e below (T33.setTop (mkF m 242 #[.val (.ref a1), .val (.long q1), .second, .val (.long t0), .second, .val (.int (0 : Int32)), .val (.long d), .second, .val (.long b0), .second, .val (.double (FP.l2d mm)), .second, .val (.double (FP.l2d (own_pos (K - (mm * (1048576 : Int64)))))), .second, .val (.int (2 : Int32))] [(.long ((own_pos (K - (mm * (1048576 : Int64)))) / mm))])) _
  exact Rch.ret X33 hlk (fun h => by rw [hret] at h; cases h) (fun fs hr => X33.lreturnOut hx hret (hb hby d5_242) hr) ⟨rfl, N0, e33⟩ (by decide) (by decide)
theorem own_fld {args : Array Value} {s : State} {C f : String} {t : Term} {nn : Addr} {z : Int64} (ev : t.eval args s none [] s = some (.ref nn)) (h : (Jvm.Cond.eq (Jvm.Term.field t C f "J") (Jvm.Term.long z)).value args s none s [] = some true) : Fld s s.heap nn C f "J" (.long z) := by
  refine Fld.start ?_
  have e1 : (Jvm.Term.field t C f "J").eval args s none [] s = s.fieldOf? nn C f "J" := by simp only [Term.eval, ev]; rfl
  simp only [Cond.value] at h
  rw [e1, show (Jvm.Term.long z).eval args s none [] s = some (.long z) from rfl] at h
  cases hv : s.fieldOf? nn C f "J" with
  | none => rw [hv] at h; cases h
  | some v =>
    rw [hv] at h
    cases v <;> simp at h ⊢
    exact h
theorem own_now (q : Int64) : (q + (1048576 : Int64)) - q = (1048576 : Int64) := by grind
theorem own_dt (q d : Int64) : (q + d) - q = d := by grind
theorem own_d (x : Int64) : 0 ≤ (x &&& (2097151 : Int64)).toInt ∧ (x &&& (2097151 : Int64)).toInt < 2097152 := by
  have h1 : (x &&& (2097151 : Int64)).toBitVec.toNat = x.toBitVec.toNat % 2097152 := by
    rw [Int64.toBitVec_and, BitVec.toNat_and]; exact Nat.and_two_pow_sub_one_eq_mod _ 21
  have h2 : (x &&& (2097151 : Int64)).toInt = ((x &&& (2097151 : Int64)).toBitVec.toNat : Int) := by
    show (x &&& (2097151 : Int64)).toBitVec.toInt = _
    rw [BitVec.toInt_eq_toNat_cond, if_pos (by rw [h1]; omega)]
  rw [h2, h1]; omega
theorem own_c (x : Int32) : 0 ≤ (x &&& (2147483647 : Int32)).toInt64.toInt ∧ (x &&& (2147483647 : Int32)).toInt64.toInt < 2147483648 := by
  have h1 : (x &&& (2147483647 : Int32)).toBitVec.toNat = x.toBitVec.toNat % 2147483648 := by
    rw [Int32.toBitVec_and, BitVec.toNat_and]; exact Nat.and_two_pow_sub_one_eq_mod _ 31
  have h2 : (x &&& (2147483647 : Int32)).toInt = ((x &&& (2147483647 : Int32)).toBitVec.toNat : Int) := by
    show (x &&& (2147483647 : Int32)).toBitVec.toInt = _
    rw [BitVec.toInt_eq_toNat_cond, if_pos (by rw [h1]; omega)]
  rw [Int32.toInt_toInt64, h2, h1]; omega
theorem own_m (x : Int32) : 1 ≤ ((x &&& (1023 : Int32)) + (1 : Int32)).toInt64.toInt ∧ ((x &&& (1023 : Int32)) + (1 : Int32)).toInt64.toInt ≤ 1024 := by
  obtain ⟨n, h1, h2⟩ := mask_of x 1023 (by decide)
  rw [show (x &&& (1023 : Int32)) = Int32.ofNat n from h2, Int32.toInt_toInt64, Int32.toInt_add, (natOf (by omega)).2.2, show (1 : Int32).toInt = 1 by decide, Int.bmod_eq_of_le (by omega) (by omega)]
  omega
theorem own_b {mm dd : Int64} (hm : 1 ≤ mm.toInt ∧ mm.toInt ≤ 1024) (hd : 0 ≤ dd.toInt ∧ dd.toInt < 2097152) : (mm * dd).toInt32.toInt64 = mm * dd := by
  obtain ⟨e1, e2, e3⟩ := own_mul (a := mm) (b := dd) (A := 1024) (B := 2097151) (by omega) (by omega) (by omega) (by omega) (by omega)
  apply Int64.toInt_inj.mp
  rw [Int32.toInt_toInt64, Int64.toInt_toInt32, e1]
  clear e1
  exact Int.bmod_eq_of_le (by omega) (by omega)
theorem own_K {mm dd : Int64} {bo bi : Int32} (hm : 1 ≤ mm.toInt ∧ mm.toInt ≤ 1024) (hd : 0 ≤ dd.toInt ∧ dd.toInt < 2097152) (hb : bo.toInt64 = mm * dd) (hc : 0 ≤ bi.toInt64.toInt ∧ bi.toInt64.toInt < 2147483648) : 0 ≤ (((0 : Int64) + bo.toInt64) + bi.toInt64).toInt ∧ (((0 : Int64) + bo.toInt64) + bi.toInt64).toInt < 8589934592 := by
  obtain ⟨e1, e2, e3⟩ := own_mul (a := mm) (b := dd) (A := 1024) (B := 2097152) (by omega) (by omega) (by omega) (by omega) (by omega)
  rw [hb, Int64.zero_add]
  generalize bi.toInt64 = y at hc
  rw [← e1] at e2 e3
  clear e1 hb
  generalize mm * dd = x at e2 e3
  rw [add64 (a := x) (b := y) ⟨by omega, by omega⟩ ⟨by omega, by omega⟩]
  omega
theorem own_eq {mm dd x y : Int64} (hb : x = mm * dd) : (((0 : Int64) + x) + y) - (mm * (1048576 : Int64)) = y + mm * (dd - (1048576 : Int64)) := by
  subst hb; grind
theorem own_fin1 {mm X : Int64} (h : 0 < lcmpW X 0) : own_pos X / mm = X / mm := by
  unfold own_pos
  rw [if_neg]
  intro q
  have q1 := Int64.lt_iff_toInt_lt.mp q
  have q2 := Int64.lt_iff_toInt_lt.mp ((lw_gt _ _).mp h)
  omega
theorem own_fin0 {mm X : Int64} (h : ¬ 0 < lcmpW X 0) : own_pos X / mm = 0 := by
  have z : (0 : Int64).toInt = 0 := by decide
  have e : own_pos X = 0 := by
    unfold own_pos
    by_cases q : X < (0 : Int64)
    · rw [if_pos q]
    · rw [if_neg q]
      have q1 : ¬ X.toInt < (0 : Int64).toInt := fun r => q (Int64.lt_iff_toInt_lt.mpr r)
      have q2 : ¬ (0 : Int64).toInt < X.toInt := fun r => h ((lw_gt _ _).mpr (Int64.lt_iff_toInt_lt.mpr r))
      exact Int64.toInt_inj.mp (by omega)
  rw [e]
  apply Int64.toInt_inj.mp
  rw [Int64.toInt_div, z, Int.zero_tdiv]; decide
theorem pd0_0 : parseMethodDescriptor "()V" = some ⟨[], none⟩ := by decide +kernel
theorem pd0_1 : parseMethodDescriptor "(JI)V" = some ⟨[.long, .int], none⟩ := by decide +kernel
theorem pd0_2 : parseMethodDescriptor "(J)J" = some ⟨[.long], some .long⟩ := by decide +kernel
theorem pn_0 : plainFor x = true := plainFor_of_name (by first | (simp [plainName, overriddenIn]; done) | decide +kernel)
theorem ef_0 (m : MethodId) (x0 : Int64) (x1 : Int64) (x2 : Int32) (x3 : Int32) : entryFrame m #[(.long x0), (.long x1), (.int x2), (.int x3)] maxLocals = mkF m 0 #[.val (.long x0), .second, .val (.long x1), .second, .val (.int x2), .val (.int x3), .unset, .unset, .unset, .unset, .unset, .unset, .unset, .unset, .unset, .unset, .unset, .unset, .unset] [] := by first | (simp [entryFrame, mkF, argsToLocals, Value.category, maxLocals]; done) | rfl
def own_Q_rm0 (Z : State) (q0 q1 : Int64) (p2 p3 : Int32) (ms : Addr) (h0 : Heap) (n0 : Nat) (v : Option Value) (h : Heap) (L : List Loc) : Prop := v = some (.int 1) ∧ Fr n0 L
set_option maxRecDepth 65536 in
set_option maxHeartbeats 40000000 in
theorem rm0 (l : Launch) (Z : State) (a0 : Array Value) (hw : ∀ d ∈ tables_1, d.before a0 Z = true) (ws : List Jvm.Cond) (q0 q1 : Int64) (p2 p3 : Int32) (ms : Addr) (h0 : Heap) (n0 : Nat) (Z0 : n0 ≤ h0.size) (O0 : Old Z n0 h0) (S_ms : Sta Z Z.heap "java/util/concurrent/TimeUnit" "MILLISECONDS" "Ljava/util/concurrent/TimeUnit;" (.ref ms)) (E_ms : Exa Z Z.heap ms "java/util/concurrent/TimeUnit") (F_scale : Fld Z Z.heap ms "java/util/concurrent/TimeUnit" "scale" "J" (.long (1000000 : Int64))) (F_max : Fld Z Z.heap ms "java/util/concurrent/TimeUnit" "maxNanos" "J" (.long (9223372036854 : Int64))) :
    MetFree l x (head1 (Jvm.Cond.code x code maxLocals ret :: ws) room_1) (fun a U => a = #[(.long q0), (.long q1), (.int p2), (.int p3)] ∧ Z.Warmed39 U.vm ∧ U.heap = h0) (fun _ _ _ _ _ => True) (fun _ U o U' => ∃ v L, o = .returned v ∧ own_Q_rm0 Z q0 q1 p2 p3 ms h0 n0 v U'.heap L ∧ FrameEnd U o U' L 16 384) := by
  refine own_body (Q := (own_Q_rm0 Z q0 q1 p2 p3 ms h0 n0)) pn_0 ?_
  intro p e s m below meth c s₁ X0 hx hby hml hown hnm hret hlk hZ e0
  have N0 := Fr.nil n0
  refine Rch.go (fun tt_ kk_ => castTop (ef_0 m q0 q1 p2 p3) kk_) ?_
  show Rch p e below (s₁.setTop (mkF m 0 #[.val (.long q0), .second, .val (.long q1), .second, .val (.int p2), .val (.int p3), .unset, .unset, .unset, .unset, .unset, .unset, .unset, .unset, .unset, .unset, .unset, .unset, .unset] [])) _
  refine Rch.go (fun _ kk_ => XS.lloadN X0.here hx rfl (hb hby at_0) rfl  kk_) ?_
  show Rch p e below (s₁.setTop (mkF m 1 #[.val (.long q0), .second, .val (.long q1), .second, .val (.int p2), .val (.int p3), .unset, .unset, .unset, .unset, .unset, .unset, .unset, .unset, .unset, .unset, .unset, .unset, .unset] [(.long q1)])) _
  refine Rch.go (fun _ kk_ => X0.ldc2Long hx hown (mvT hZ (hw _ (List.mem_of_getElem? (i := 0) rfl))) (g := (mkF m 1 #[.val (.long q0), .second, .val (.long q1), .second, .val (.int p2), .val (.int p3), .unset, .unset, .unset, .unset, .unset, .unset, .unset, .unset, .unset, .unset, .unset, .unset, .unset] [(.long q1)])) rfl (hb hby at_1) _ kk_) ?_
  show Rch p e below (s₁.setTop (mkF m 4 #[.val (.long q0), .second, .val (.long q1), .second, .val (.int p2), .val (.int p3), .unset, .unset, .unset, .unset, .unset, .unset, .unset, .unset, .unset, .unset, .unset, .unset, .unset] [(.long (2097151 : Int64)), (.long q1)])) _
  refine Rch.go (fun _ kk_ => XS.land X0.here hx rfl (hb hby at_4) rfl kk_) ?_
  show Rch p e below (s₁.setTop (mkF m 5 #[.val (.long q0), .second, .val (.long q1), .second, .val (.int p2), .val (.int p3), .unset, .unset, .unset, .unset, .unset, .unset, .unset, .unset, .unset, .unset, .unset, .unset, .unset] [(.long (q1 &&& (2097151 : Int64)))])) _
  refine Rch.go (fun _ kk_ => XS.lstore X0.here hx rfl (hb hby at_5) rfl (l' := #[.val (.long q0), .second, .val (.long q1), .second, .val (.int p2), .val (.int p3), .val (.long (q1 &&& (2097151 : Int64))), .second, .unset, .unset, .unset, .unset, .unset, .unset, .unset, .unset, .unset, .unset, .unset]) rfl kk_) ?_
  show Rch p e below (s₁.setTop (mkF m 7 #[.val (.long q0), .second, .val (.long q1), .second, .val (.int p2), .val (.int p3), .val (.long (q1 &&& (2097151 : Int64))), .second, .unset, .unset, .unset, .unset, .unset, .unset, .unset, .unset, .unset, .unset, .unset] [])) _
  refine Rch.go (fun _ kk_ => XS.iload X0.here hx rfl (hb hby at_7) rfl  kk_) ?_
  show Rch p e below (s₁.setTop (mkF m 9 #[.val (.long q0), .second, .val (.long q1), .second, .val (.int p2), .val (.int p3), .val (.long (q1 &&& (2097151 : Int64))), .second, .unset, .unset, .unset, .unset, .unset, .unset, .unset, .unset, .unset, .unset, .unset] [(.int p2)])) _
  refine Rch.go (fun _ kk_ => XS.sipush X0.here hx rfl (hb hby at_9) kk_) ?_
  show Rch p e below (s₁.setTop (mkF m 12 #[.val (.long q0), .second, .val (.long q1), .second, .val (.int p2), .val (.int p3), .val (.long (q1 &&& (2097151 : Int64))), .second, .unset, .unset, .unset, .unset, .unset, .unset, .unset, .unset, .unset, .unset, .unset] [(.int (1023 : Int32)), (.int p2)])) _
  refine Rch.go (fun _ kk_ => XS.iand X0.here hx rfl (hb hby at_12) rfl kk_) ?_
  show Rch p e below (s₁.setTop (mkF m 13 #[.val (.long q0), .second, .val (.long q1), .second, .val (.int p2), .val (.int p3), .val (.long (q1 &&& (2097151 : Int64))), .second, .unset, .unset, .unset, .unset, .unset, .unset, .unset, .unset, .unset, .unset, .unset] [(.int (p2 &&& (1023 : Int32)))])) _
  refine Rch.go (fun _ kk_ => XS.iconst X0.here hx rfl (hb hby at_13) kk_) ?_
  show Rch p e below (s₁.setTop (mkF m 14 #[.val (.long q0), .second, .val (.long q1), .second, .val (.int p2), .val (.int p3), .val (.long (q1 &&& (2097151 : Int64))), .second, .unset, .unset, .unset, .unset, .unset, .unset, .unset, .unset, .unset, .unset, .unset] [(.int (1 : Int32)), (.int (p2 &&& (1023 : Int32)))])) _
  refine Rch.go (fun _ kk_ => XS.iadd X0.here hx rfl (hb hby at_14) rfl kk_) ?_
  show Rch p e below (s₁.setTop (mkF m 15 #[.val (.long q0), .second, .val (.long q1), .second, .val (.int p2), .val (.int p3), .val (.long (q1 &&& (2097151 : Int64))), .second, .unset, .unset, .unset, .unset, .unset, .unset, .unset, .unset, .unset, .unset, .unset] [(.int ((p2 &&& (1023 : Int32)) + (1 : Int32)))])) _
  refine Rch.go (fun _ kk_ => XS.i2l X0.here hx rfl (hb hby at_15) rfl kk_) ?_
  show Rch p e below (s₁.setTop (mkF m 16 #[.val (.long q0), .second, .val (.long q1), .second, .val (.int p2), .val (.int p3), .val (.long (q1 &&& (2097151 : Int64))), .second, .unset, .unset, .unset, .unset, .unset, .unset, .unset, .unset, .unset, .unset, .unset] [(.long (((p2 &&& (1023 : Int32)) + (1 : Int32)).toInt64))])) _
  refine Rch.go (fun _ kk_ => XS.lstore X0.here hx rfl (hb hby at_16) rfl (l' := #[.val (.long q0), .second, .val (.long q1), .second, .val (.int p2), .val (.int p3), .val (.long (q1 &&& (2097151 : Int64))), .second, .val (.long (((p2 &&& (1023 : Int32)) + (1 : Int32)).toInt64)), .second, .unset, .unset, .unset, .unset, .unset, .unset, .unset, .unset, .unset]) rfl kk_) ?_
  show Rch p e below (s₁.setTop (mkF m 18 #[.val (.long q0), .second, .val (.long q1), .second, .val (.int p2), .val (.int p3), .val (.long (q1 &&& (2097151 : Int64))), .second, .val (.long (((p2 &&& (1023 : Int32)) + (1 : Int32)).toInt64)), .second, .unset, .unset, .unset, .unset, .unset, .unset, .unset, .unset, .unset] [])) _
  refine Rch.go (fun _ kk_ => XS.lload X0.here hx rfl (hb hby at_18) rfl  kk_) ?_
  show Rch p e below (s₁.setTop (mkF m 20 #[.val (.long q0), .second, .val (.long q1), .second, .val (.int p2), .val (.int p3), .val (.long (q1 &&& (2097151 : Int64))), .second, .val (.long (((p2 &&& (1023 : Int32)) + (1 : Int32)).toInt64)), .second, .unset, .unset, .unset, .unset, .unset, .unset, .unset, .unset, .unset] [(.long (((p2 &&& (1023 : Int32)) + (1 : Int32)).toInt64))])) _
  refine Rch.go (fun _ kk_ => XS.lload X0.here hx rfl (hb hby at_20) rfl  kk_) ?_
  show Rch p e below (s₁.setTop (mkF m 22 #[.val (.long q0), .second, .val (.long q1), .second, .val (.int p2), .val (.int p3), .val (.long (q1 &&& (2097151 : Int64))), .second, .val (.long (((p2 &&& (1023 : Int32)) + (1 : Int32)).toInt64)), .second, .unset, .unset, .unset, .unset, .unset, .unset, .unset, .unset, .unset] [(.long (q1 &&& (2097151 : Int64))), (.long (((p2 &&& (1023 : Int32)) + (1 : Int32)).toInt64))])) _
  refine Rch.go (fun _ kk_ => XS.lmul X0.here hx rfl (hb hby at_22) rfl kk_) ?_
  show Rch p e below (s₁.setTop (mkF m 23 #[.val (.long q0), .second, .val (.long q1), .second, .val (.int p2), .val (.int p3), .val (.long (q1 &&& (2097151 : Int64))), .second, .val (.long (((p2 &&& (1023 : Int32)) + (1 : Int32)).toInt64)), .second, .unset, .unset, .unset, .unset, .unset, .unset, .unset, .unset, .unset] [(.long ((((p2 &&& (1023 : Int32)) + (1 : Int32)).toInt64) * (q1 &&& (2097151 : Int64))))])) _
  refine Rch.go (fun _ kk_ => XS.l2i X0.here hx rfl (hb hby at_23) rfl kk_) ?_
  show Rch p e below (s₁.setTop (mkF m 24 #[.val (.long q0), .second, .val (.long q1), .second, .val (.int p2), .val (.int p3), .val (.long (q1 &&& (2097151 : Int64))), .second, .val (.long (((p2 &&& (1023 : Int32)) + (1 : Int32)).toInt64)), .second, .unset, .unset, .unset, .unset, .unset, .unset, .unset, .unset, .unset] [(.int (((((p2 &&& (1023 : Int32)) + (1 : Int32)).toInt64) * (q1 &&& (2097151 : Int64))).toInt32))])) _
  refine Rch.go (fun _ kk_ => XS.istore X0.here hx rfl (hb hby at_24) rfl (l' := #[.val (.long q0), .second, .val (.long q1), .second, .val (.int p2), .val (.int p3), .val (.long (q1 &&& (2097151 : Int64))), .second, .val (.long (((p2 &&& (1023 : Int32)) + (1 : Int32)).toInt64)), .second, .val (.int (((((p2 &&& (1023 : Int32)) + (1 : Int32)).toInt64) * (q1 &&& (2097151 : Int64))).toInt32)), .unset, .unset, .unset, .unset, .unset, .unset, .unset, .unset]) rfl kk_) ?_
  show Rch p e below (s₁.setTop (mkF m 26 #[.val (.long q0), .second, .val (.long q1), .second, .val (.int p2), .val (.int p3), .val (.long (q1 &&& (2097151 : Int64))), .second, .val (.long (((p2 &&& (1023 : Int32)) + (1 : Int32)).toInt64)), .second, .val (.int (((((p2 &&& (1023 : Int32)) + (1 : Int32)).toInt64) * (q1 &&& (2097151 : Int64))).toInt32)), .unset, .unset, .unset, .unset, .unset, .unset, .unset, .unset] [])) _
  refine Rch.go (fun _ kk_ => XS.iload X0.here hx rfl (hb hby at_26) rfl  kk_) ?_
  show Rch p e below (s₁.setTop (mkF m 28 #[.val (.long q0), .second, .val (.long q1), .second, .val (.int p2), .val (.int p3), .val (.long (q1 &&& (2097151 : Int64))), .second, .val (.long (((p2 &&& (1023 : Int32)) + (1 : Int32)).toInt64)), .second, .val (.int (((((p2 &&& (1023 : Int32)) + (1 : Int32)).toInt64) * (q1 &&& (2097151 : Int64))).toInt32)), .unset, .unset, .unset, .unset, .unset, .unset, .unset, .unset] [(.int p3)])) _
  refine Rch.go (fun _ kk_ => X0.ldcInt hx hown (mvT hZ (hw _ (List.mem_of_getElem? (i := 1) rfl))) (g := (mkF m 28 #[.val (.long q0), .second, .val (.long q1), .second, .val (.int p2), .val (.int p3), .val (.long (q1 &&& (2097151 : Int64))), .second, .val (.long (((p2 &&& (1023 : Int32)) + (1 : Int32)).toInt64)), .second, .val (.int (((((p2 &&& (1023 : Int32)) + (1 : Int32)).toInt64) * (q1 &&& (2097151 : Int64))).toInt32)), .unset, .unset, .unset, .unset, .unset, .unset, .unset, .unset] [(.int p3)])) rfl (hb hby at_28) _ kk_) ?_
  show Rch p e below (s₁.setTop (mkF m 30 #[.val (.long q0), .second, .val (.long q1), .second, .val (.int p2), .val (.int p3), .val (.long (q1 &&& (2097151 : Int64))), .second, .val (.long (((p2 &&& (1023 : Int32)) + (1 : Int32)).toInt64)), .second, .val (.int (((((p2 &&& (1023 : Int32)) + (1 : Int32)).toInt64) * (q1 &&& (2097151 : Int64))).toInt32)), .unset, .unset, .unset, .unset, .unset, .unset, .unset, .unset] [(.int (2147483647 : Int32)), (.int p3)])) _
  refine Rch.go (fun _ kk_ => XS.iand X0.here hx rfl (hb hby at_30) rfl kk_) ?_
  show Rch p e below (s₁.setTop (mkF m 31 #[.val (.long q0), .second, .val (.long q1), .second, .val (.int p2), .val (.int p3), .val (.long (q1 &&& (2097151 : Int64))), .second, .val (.long (((p2 &&& (1023 : Int32)) + (1 : Int32)).toInt64)), .second, .val (.int (((((p2 &&& (1023 : Int32)) + (1 : Int32)).toInt64) * (q1 &&& (2097151 : Int64))).toInt32)), .unset, .unset, .unset, .unset, .unset, .unset, .unset, .unset] [(.int (p3 &&& (2147483647 : Int32)))])) _
  refine Rch.go (fun _ kk_ => XS.istore X0.here hx rfl (hb hby at_31) rfl (l' := #[.val (.long q0), .second, .val (.long q1), .second, .val (.int p2), .val (.int p3), .val (.long (q1 &&& (2097151 : Int64))), .second, .val (.long (((p2 &&& (1023 : Int32)) + (1 : Int32)).toInt64)), .second, .val (.int (((((p2 &&& (1023 : Int32)) + (1 : Int32)).toInt64) * (q1 &&& (2097151 : Int64))).toInt32)), .val (.int (p3 &&& (2147483647 : Int32))), .unset, .unset, .unset, .unset, .unset, .unset, .unset]) rfl kk_) ?_
  show Rch p e below (s₁.setTop (mkF m 33 #[.val (.long q0), .second, .val (.long q1), .second, .val (.int p2), .val (.int p3), .val (.long (q1 &&& (2097151 : Int64))), .second, .val (.long (((p2 &&& (1023 : Int32)) + (1 : Int32)).toInt64)), .second, .val (.int (((((p2 &&& (1023 : Int32)) + (1 : Int32)).toInt64) * (q1 &&& (2097151 : Int64))).toInt32)), .val (.int (p3 &&& (2147483647 : Int32))), .unset, .unset, .unset, .unset, .unset, .unset, .unset] [])) _
  have hd := own_d q1
  have hm := own_m p2
  have hbo := own_b hm hd
  have hc := own_c p3
  generalize (((((p2 &&& (1023 : Int32)) + (1 : Int32)).toInt64) * (q1 &&& (2097151 : Int64))).toInt32) = bo at hbo ⊢
  generalize (q1 &&& (2097151 : Int64)) = dd at hd hbo ⊢
  generalize (((p2 &&& (1023 : Int32)) + (1 : Int32)).toInt64) = mm at hm hbo ⊢
  generalize (p3 &&& (2147483647 : Int32)) = bi at hc ⊢
  have hK := own_K hm hd hbo hc
  have hmz : ¬ mm = 0 := fun q => by have := hm.1; rw [q, show (0 : Int64).toInt = 0 by decide] at this; omega
  show Rch p e below (s₁.setTop (mkF m 33 #[.val (.long q0), .second, .val (.long q1), .second, .val (.int p2), .val (.int p3), .val (.long dd), .second, .val (.long mm), .second, .val (.int bo), .val (.int bi), .unset, .unset, .unset, .unset, .unset, .unset, .unset] [])) _
  obtain ⟨T1, h1, X1, e1, E1, A1, D1, -, st1⟩ := newO X0 hx hZ hown (hw _ (List.mem_of_getElem? (i := 2) rfl)) (hw _ (List.mem_of_getElem? (i := 3) rfl)) (hw _ (List.mem_of_getElem? (i := 4) rfl)) e0 (g := (mkF m 33 #[.val (.long q0), .second, .val (.long q1), .second, .val (.int p2), .val (.int p3), .val (.long dd), .second, .val (.long mm), .second, .val (.int bo), .val (.int bi), .unset, .unset, .unset, .unset, .unset, .unset, .unset] [])) rfl (hb hby at_33) (by decide) (by decide)
  obtain ⟨b1, g1⟩ : ∃ z, z = h0.size := ⟨_, rfl⟩
  rw [← g1] at A1 D1 st1
  have g_b1 : n0 ≤ b1 := Nat.le_trans Z0 (Nat.le_of_eq g1.symm)
  have Z0 := Nat.le_trans Z0 E1.1
  have O0 := O0.ext E1
  have E_b1 := A1
  have F_times_b1 : Fld Z h1 b1 "com/example/urchin/urchin/service/Silence$Handover" "times" "[J" .null := D1 (Or.inr (hw _ (List.mem_of_getElem? (i := 13) rfl))) (ty := (.array .long)) (by decide)
  have F_counts_b1 : Fld Z h1 b1 "com/example/urchin/urchin/service/Silence$Handover" "counts" "[J" .null := D1 (Or.inr (hw _ (List.mem_of_getElem? (i := 15) rfl))) (ty := (.array .long)) (by decide)
  have F_spacing_b1 : Fld Z h1 b1 "com/example/urchin/urchin/service/Silence$Handover" "spacing" "J" (.long (0 : Int64)) := D1 (Or.inl (hw _ (List.mem_of_getElem? (i := 28) rfl))) (ty := .long) (by decide)
  have F_kept_b1 : Fld Z h1 b1 "com/example/urchin/urchin/service/Silence$Handover" "kept" "I" (.int (0 : Int32)) := D1 (Or.inl (hw _ (List.mem_of_getElem? (i := 35) rfl))) (ty := .int) (by decide)
  have F_count_b1 : Fld Z h1 b1 "com/example/urchin/urchin/service/Silence$Handover" "count" "J" (.long (0 : Int64)) := D1 (Or.inl (hw _ (List.mem_of_getElem? (i := 37) rfl))) (ty := .long) (by decide)
  refine Rch.go st1 ?_
  show Rch p e below (T1.setTop (mkF m 36 #[.val (.long q0), .second, .val (.long q1), .second, .val (.int p2), .val (.int p3), .val (.long dd), .second, .val (.long mm), .second, .val (.int bo), .val (.int bi), .unset, .unset, .unset, .unset, .unset, .unset, .unset] [(.ref b1)])) _
  refine Rch.go (fun _ kk_ => XS.dup X1.here hx rfl (hb hby at_36) rfl rfl kk_) ?_
  show Rch p e below (T1.setTop (mkF m 37 #[.val (.long q0), .second, .val (.long q1), .second, .val (.int p2), .val (.int p3), .val (.long dd), .second, .val (.long mm), .second, .val (.int bo), .val (.int bi), .unset, .unset, .unset, .unset, .unset, .unset, .unset] [(.ref b1), (.ref b1)])) _
  refine Rch.callC X1 hx hZ rfl hown (hw _ (List.mem_of_getElem? (i := 5) rfl)) (hw _ (List.mem_of_getElem? (i := 6) rfl)) (hw _ (List.mem_of_getElem? (i := 4) rfl)) (hw _ (List.mem_of_getElem? (i := 7) rfl)) (by decide) (rm1 l Z a0 hw [] b1 ms .null .null (.long (0 : Int64)) h1 n0 Z0 E_b1 g_b1 F_times_b1 F_counts_b1 F_spacing_b1 F_kept_b1 F_count_b1 O0 S_ms E_ms F_scale F_max) 1 (by decide) (by decide) (by decide) (by decide) e1 (g := (mkF m 37 #[.val (.long q0), .second, .val (.long q1), .second, .val (.int p2), .val (.int p3), .val (.long dd), .second, .val (.long mm), .second, .val (.int bo), .val (.int bi), .unset, .unset, .unset, .unset, .unset, .unset, .unset] [(.ref b1), (.ref b1)])) rfl (by rw [hml]; rfl) b1 [] [(.ref b1)] rfl (lenOf pd0_0 rfl) rfl (by show 2 * 0 + _ ≤ _; exact Nat.le_of_eq rfl) (hb hby at_37) ?_
  intro v2 T2 L2 X2 hQ2
  obtain ⟨tm, cn, kt, kc, rfl, N2q, K2, g_tm, g_cn, ne_b_tm, ne_b_cn, ne_tm_cn, Ft, Fc, Fs, Fk, Fn, V_tm, V_cn⟩ := hQ2
  have E_b1 := E_b1.keep K2
  have Z0 := Nat.le_trans Z0 K2.1
  have O0 := O0.keep K2 (allS g_b1 all0)
  have N2 := Fr.app N0 N2q
  show Rch p e below (T2.setTop (mkF m 40 #[.val (.long q0), .second, .val (.long q1), .second, .val (.int p2), .val (.int p3), .val (.long dd), .second, .val (.long mm), .second, .val (.int bo), .val (.int bi), .unset, .unset, .unset, .unset, .unset, .unset, .unset] [(.ref b1)])) _
  refine Rch.go (fun _ kk_ => XS.astore X2.here hx rfl (hb hby at_40) rfl rfl (l' := #[.val (.long q0), .second, .val (.long q1), .second, .val (.int p2), .val (.int p3), .val (.long dd), .second, .val (.long mm), .second, .val (.int bo), .val (.int bi), .val (.ref b1), .unset, .unset, .unset, .unset, .unset, .unset]) rfl kk_) ?_
  show Rch p e below (T2.setTop (mkF m 42 #[.val (.long q0), .second, .val (.long q1), .second, .val (.int p2), .val (.int p3), .val (.long dd), .second, .val (.long mm), .second, .val (.int bo), .val (.int bi), .val (.ref b1), .unset, .unset, .unset, .unset, .unset, .unset] [])) _
  refine Rch.go (fun _ kk_ => XS.aload X2.here hx rfl (hb hby at_42) rfl rfl kk_) ?_
  show Rch p e below (T2.setTop (mkF m 44 #[.val (.long q0), .second, .val (.long q1), .second, .val (.int p2), .val (.int p3), .val (.long dd), .second, .val (.long mm), .second, .val (.int bo), .val (.int bi), .val (.ref b1), .unset, .unset, .unset, .unset, .unset, .unset] [(.ref b1)])) _
  refine Rch.go (fun _ kk_ => XS.lloadN X2.here hx rfl (hb hby at_44) rfl  kk_) ?_
  show Rch p e below (T2.setTop (mkF m 45 #[.val (.long q0), .second, .val (.long q1), .second, .val (.int p2), .val (.int p3), .val (.long dd), .second, .val (.long mm), .second, .val (.int bo), .val (.int bi), .val (.ref b1), .unset, .unset, .unset, .unset, .unset, .unset] [(.long q0), (.ref b1)])) _
  refine Rch.go (fun _ kk_ => XS.iload X2.here hx rfl (hb hby at_45) rfl  kk_) ?_
  show Rch p e below (T2.setTop (mkF m 47 #[.val (.long q0), .second, .val (.long q1), .second, .val (.int p2), .val (.int p3), .val (.long dd), .second, .val (.long mm), .second, .val (.int bo), .val (.int bi), .val (.ref b1), .unset, .unset, .unset, .unset, .unset, .unset] [(.int bo), (.long q0), (.ref b1)])) _
  refine Rch.callV X2 hx hZ hown (hw _ (List.mem_of_getElem? (i := 29) rfl)) (hw _ (List.mem_of_getElem? (i := 30) rfl)) (notFace_of_selects (args := #[]) (mvT hZ (hw _ (List.mem_of_getElem? (i := 32) rfl)))) (hw _ (List.mem_of_getElem? (i := 32) rfl)) (hw _ (List.mem_of_getElem? (i := 31) rfl)) (hw _ (List.mem_of_getElem? (i := 4) rfl)) (hw _ (List.mem_of_getElem? (i := 33) rfl)) (by decide) (rm4a l Z a0 hw [] b1 tm cn kt kc q0 (0 : Int64)  bo T2.heap n0 Z0 E_b1 g_b1 g_tm g_cn ne_b_tm ne_b_cn ne_tm_cn Ft Fc Fs Fk Fn V_tm V_cn ) 0 (by decide) (by decide) (by decide) (by decide) rfl E_b1 (g := (mkF m 47 #[.val (.long q0), .second, .val (.long q1), .second, .val (.int p2), .val (.int p3), .val (.long dd), .second, .val (.long mm), .second, .val (.int bo), .val (.int bi), .val (.ref b1), .unset, .unset, .unset, .unset, .unset, .unset] [(.int bo), (.long q0), (.ref b1)])) rfl (by rw [hml]; rfl) [(.long q0), (.int bo)] [] rfl (lenOf pd0_1 rfl) rfl (by show 2 * 0 + _ ≤ _; exact Nat.le_of_eq rfl) (hb hby at_47) ?_
  intro v3 T3 L3 X3 hQ3
  obtain ⟨rfl, N3q, K3, Ft, Fc, Fs, Fk, Fn, V_tm, V_cn⟩ := hQ3
  have E_b1 := E_b1.keep K3
  have Z0 := Nat.le_trans Z0 K3.1
  have O0 := O0.keep K3 (allS g_b1 (allS g_tm (allS g_cn all0)))
  have N3 := Fr.app N2 N3q
  show Rch p e below (T3.setTop (mkF m 50 #[.val (.long q0), .second, .val (.long q1), .second, .val (.int p2), .val (.int p3), .val (.long dd), .second, .val (.long mm), .second, .val (.int bo), .val (.int bi), .val (.ref b1), .unset, .unset, .unset, .unset, .unset, .unset] [])) _
  by_cases hsp : ((q0 + dd) - q0) < (1000000 : Int64)
  · have hlt : dd < (1000000 : Int64) := own_dt q0 dd ▸ hsp
    show Rch p e below (T3.setTop (mkF m 50 #[.val (.long q0), .second, .val (.long q1), .second, .val (.int p2), .val (.int p3), .val (.long dd), .second, .val (.long mm), .second, .val (.int bo), .val (.int bi), .val (.ref b1), .unset, .unset, .unset, .unset, .unset, .unset] [])) _
    refine Rch.go (fun _ kk_ => XS.aload X3.here hx rfl (hb hby at_50) rfl rfl kk_) ?_
    show Rch p e below (T3.setTop (mkF m 52 #[.val (.long q0), .second, .val (.long q1), .second, .val (.int p2), .val (.int p3), .val (.long dd), .second, .val (.long mm), .second, .val (.int bo), .val (.int bi), .val (.ref b1), .unset, .unset, .unset, .unset, .unset, .unset] [(.ref b1)])) _
    refine Rch.go (fun _ kk_ => XS.lloadN X3.here hx rfl (hb hby at_52) rfl  kk_) ?_
    show Rch p e below (T3.setTop (mkF m 53 #[.val (.long q0), .second, .val (.long q1), .second, .val (.int p2), .val (.int p3), .val (.long dd), .second, .val (.long mm), .second, .val (.int bo), .val (.int bi), .val (.ref b1), .unset, .unset, .unset, .unset, .unset, .unset] [(.long q0), (.ref b1)])) _
    refine Rch.go (fun _ kk_ => XS.lload X3.here hx rfl (hb hby at_53) rfl  kk_) ?_
    show Rch p e below (T3.setTop (mkF m 55 #[.val (.long q0), .second, .val (.long q1), .second, .val (.int p2), .val (.int p3), .val (.long dd), .second, .val (.long mm), .second, .val (.int bo), .val (.int bi), .val (.ref b1), .unset, .unset, .unset, .unset, .unset, .unset] [(.long dd), (.long q0), (.ref b1)])) _
    refine Rch.go (fun _ kk_ => XS.ladd X3.here hx rfl (hb hby at_55) rfl kk_) ?_
    show Rch p e below (T3.setTop (mkF m 56 #[.val (.long q0), .second, .val (.long q1), .second, .val (.int p2), .val (.int p3), .val (.long dd), .second, .val (.long mm), .second, .val (.int bo), .val (.int bi), .val (.ref b1), .unset, .unset, .unset, .unset, .unset, .unset] [(.long (q0 + dd)), (.ref b1)])) _
    refine Rch.go (fun _ kk_ => XS.iload X3.here hx rfl (hb hby at_56) rfl  kk_) ?_
    show Rch p e below (T3.setTop (mkF m 58 #[.val (.long q0), .second, .val (.long q1), .second, .val (.int p2), .val (.int p3), .val (.long dd), .second, .val (.long mm), .second, .val (.int bo), .val (.int bi), .val (.ref b1), .unset, .unset, .unset, .unset, .unset, .unset] [(.int bi), (.long (q0 + dd)), (.ref b1)])) _
    refine Rch.callV X3 hx hZ hown (hw _ (List.mem_of_getElem? (i := 29) rfl)) (hw _ (List.mem_of_getElem? (i := 30) rfl)) (notFace_of_selects (args := #[]) (mvT hZ (hw _ (List.mem_of_getElem? (i := 32) rfl)))) (hw _ (List.mem_of_getElem? (i := 32) rfl)) (hw _ (List.mem_of_getElem? (i := 31) rfl)) (hw _ (List.mem_of_getElem? (i := 4) rfl)) (hw _ (List.mem_of_getElem? (i := 33) rfl)) (by decide) (rm4b l Z a0 hw [] b1 tm cn kt kc (q0 + dd) ((0 : Int64) + bo.toInt64) q0 (0 : Int64) bi T3.heap n0 Z0 E_b1 g_b1 g_tm g_cn ne_b_tm ne_b_cn ne_tm_cn Ft Fc Fs Fk Fn V_tm V_cn hsp) 0 (by decide) (by decide) (by decide) (by decide) rfl E_b1 (g := (mkF m 58 #[.val (.long q0), .second, .val (.long q1), .second, .val (.int p2), .val (.int p3), .val (.long dd), .second, .val (.long mm), .second, .val (.int bo), .val (.int bi), .val (.ref b1), .unset, .unset, .unset, .unset, .unset, .unset] [(.int bi), (.long (q0 + dd)), (.ref b1)])) rfl (by rw [hml]; rfl) [(.long (q0 + dd)), (.int bi)] [] rfl (lenOf pd0_1 rfl) rfl (by show 2 * 0 + _ ≤ _; exact Nat.le_of_eq rfl) (hb hby at_58) ?_
    intro v4 T4 L4 X4 hQ4
    obtain ⟨rfl, N4q, K4, Ft, Fc, Fs, Fk, Fn, V_tm, V_cn⟩ := hQ4
    have E_b1 := E_b1.keep K4
    have Z0 := Nat.le_trans Z0 K4.1
    have O0 := O0.keep K4 (allS g_b1 (allS g_tm (allS g_cn all0)))
    have N4 := Fr.app N3 N4q
    show Rch p e below (T4.setTop (mkF m 61 #[.val (.long q0), .second, .val (.long q1), .second, .val (.int p2), .val (.int p3), .val (.long dd), .second, .val (.long mm), .second, .val (.int bo), .val (.int bi), .val (.ref b1), .unset, .unset, .unset, .unset, .unset, .unset] [])) _
    refine Rch.go (fun _ kk_ => XS.aload X4.here hx rfl (hb hby at_61) rfl rfl kk_) ?_
    show Rch p e below (T4.setTop (mkF m 63 #[.val (.long q0), .second, .val (.long q1), .second, .val (.int p2), .val (.int p3), .val (.long dd), .second, .val (.long mm), .second, .val (.int bo), .val (.int bi), .val (.ref b1), .unset, .unset, .unset, .unset, .unset, .unset] [(.ref b1)])) _
    refine Rch.go (fun _ kk_ => XS.lloadN X4.here hx rfl (hb hby at_63) rfl  kk_) ?_
    show Rch p e below (T4.setTop (mkF m 64 #[.val (.long q0), .second, .val (.long q1), .second, .val (.int p2), .val (.int p3), .val (.long dd), .second, .val (.long mm), .second, .val (.int bo), .val (.int bi), .val (.ref b1), .unset, .unset, .unset, .unset, .unset, .unset] [(.long q0), (.ref b1)])) _
    refine Rch.go (fun _ kk_ => X4.ldc2Long hx hown (mvT hZ (hw _ (List.mem_of_getElem? (i := 38) rfl))) (g := (mkF m 64 #[.val (.long q0), .second, .val (.long q1), .second, .val (.int p2), .val (.int p3), .val (.long dd), .second, .val (.long mm), .second, .val (.int bo), .val (.int bi), .val (.ref b1), .unset, .unset, .unset, .unset, .unset, .unset] [(.long q0), (.ref b1)])) rfl (hb hby at_64) _ kk_) ?_
    show Rch p e below (T4.setTop (mkF m 67 #[.val (.long q0), .second, .val (.long q1), .second, .val (.int p2), .val (.int p3), .val (.long dd), .second, .val (.long mm), .second, .val (.int bo), .val (.int bi), .val (.ref b1), .unset, .unset, .unset, .unset, .unset, .unset] [(.long (1048576 : Int64)), (.long q0), (.ref b1)])) _
    refine Rch.go (fun _ kk_ => XS.ladd X4.here hx rfl (hb hby at_67) rfl kk_) ?_
    show Rch p e below (T4.setTop (mkF m 68 #[.val (.long q0), .second, .val (.long q1), .second, .val (.int p2), .val (.int p3), .val (.long dd), .second, .val (.long mm), .second, .val (.int bo), .val (.int bi), .val (.ref b1), .unset, .unset, .unset, .unset, .unset, .unset] [(.long (q0 + (1048576 : Int64))), (.ref b1)])) _
    refine Rch.callV X4 hx hZ hown (hw _ (List.mem_of_getElem? (i := 39) rfl)) (hw _ (List.mem_of_getElem? (i := 40) rfl)) (notFace_of_selects (args := #[]) (mvT hZ (hw _ (List.mem_of_getElem? (i := 42) rfl)))) (hw _ (List.mem_of_getElem? (i := 42) rfl)) (hw _ (List.mem_of_getElem? (i := 41) rfl)) (hw _ (List.mem_of_getElem? (i := 4) rfl)) (hw _ (List.mem_of_getElem? (i := 43) rfl)) (by decide) (rm5a l Z a0 hw [] b1 tm cn kt kc (q0 + (1048576 : Int64)) q0 (((0 : Int64) + bo.toInt64) + bi.toInt64) (0 : Int64) T4.heap n0 Z0 Ft Fc Fs Fk Fn V_tm V_cn (own_now q0) hK.1 hK.2) 0 (by decide) (by decide) (by decide) (by decide) rfl E_b1 (g := (mkF m 68 #[.val (.long q0), .second, .val (.long q1), .second, .val (.int p2), .val (.int p3), .val (.long dd), .second, .val (.long mm), .second, .val (.int bo), .val (.int bi), .val (.ref b1), .unset, .unset, .unset, .unset, .unset, .unset] [(.long (q0 + (1048576 : Int64))), (.ref b1)])) rfl (by rw [hml]; rfl) [(.long (q0 + (1048576 : Int64)))] [] rfl (lenOf pd0_2 rfl) rfl (by show 2 * 0 + _ ≤ _; exact Nat.le_of_eq rfl) (hb hby at_68) ?_
    intro v5 T5 L5 X5 hQ5
    obtain ⟨rfl, N5q, e5⟩ := hQ5
    have N5 := Fr.app N4 N5q
    show Rch p e below (T5.setTop (mkF m 71 #[.val (.long q0), .second, .val (.long q1), .second, .val (.int p2), .val (.int p3), .val (.long dd), .second, .val (.long mm), .second, .val (.int bo), .val (.int bi), .val (.ref b1), .unset, .unset, .unset, .unset, .unset, .unset] [(.long (0 : Int64))])) _
    refine Rch.go (fun _ kk_ => XS.lstore X5.here hx rfl (hb hby at_71) rfl (l' := #[.val (.long q0), .second, .val (.long q1), .second, .val (.int p2), .val (.int p3), .val (.long dd), .second, .val (.long mm), .second, .val (.int bo), .val (.int bi), .val (.ref b1), .val (.long (0 : Int64)), .second, .unset, .unset, .unset, .unset]) rfl kk_) ?_
    show Rch p e below (T5.setTop (mkF m 73 #[.val (.long q0), .second, .val (.long q1), .second, .val (.int p2), .val (.int p3), .val (.long dd), .second, .val (.long mm), .second, .val (.int bo), .val (.int bi), .val (.ref b1), .val (.long (0 : Int64)), .second, .unset, .unset, .unset, .unset] [])) _
    refine Rch.go (fun _ kk_ => XS.lconst X5.here hx rfl (hb hby at_73) kk_) ?_
    show Rch p e below (T5.setTop (mkF m 74 #[.val (.long q0), .second, .val (.long q1), .second, .val (.int p2), .val (.int p3), .val (.long dd), .second, .val (.long mm), .second, .val (.int bo), .val (.int bi), .val (.ref b1), .val (.long (0 : Int64)), .second, .unset, .unset, .unset, .unset] [(.long (0 : Int64))])) _
    refine Rch.go (fun _ kk_ => XS.lstore X5.here hx rfl (hb hby at_74) rfl (l' := #[.val (.long q0), .second, .val (.long q1), .second, .val (.int p2), .val (.int p3), .val (.long dd), .second, .val (.long mm), .second, .val (.int bo), .val (.int bi), .val (.ref b1), .val (.long (0 : Int64)), .second, .val (.long (0 : Int64)), .second, .unset, .unset]) rfl kk_) ?_
    show Rch p e below (T5.setTop (mkF m 76 #[.val (.long q0), .second, .val (.long q1), .second, .val (.int p2), .val (.int p3), .val (.long dd), .second, .val (.long mm), .second, .val (.int bo), .val (.int bi), .val (.ref b1), .val (.long (0 : Int64)), .second, .val (.long (0 : Int64)), .second, .unset, .unset] [])) _
    refine Rch.go (fun _ kk_ => XS.lload X5.here hx rfl (hb hby at_76) rfl  kk_) ?_
    show Rch p e below (T5.setTop (mkF m 78 #[.val (.long q0), .second, .val (.long q1), .second, .val (.int p2), .val (.int p3), .val (.long dd), .second, .val (.long mm), .second, .val (.int bo), .val (.int bi), .val (.ref b1), .val (.long (0 : Int64)), .second, .val (.long (0 : Int64)), .second, .unset, .unset] [(.long dd)])) _
    refine Rch.go (fun _ kk_ => X5.ldc2Long hx hown (mvT hZ (hw _ (List.mem_of_getElem? (i := 52) rfl))) (g := (mkF m 78 #[.val (.long q0), .second, .val (.long q1), .second, .val (.int p2), .val (.int p3), .val (.long dd), .second, .val (.long mm), .second, .val (.int bo), .val (.int bi), .val (.ref b1), .val (.long (0 : Int64)), .second, .val (.long (0 : Int64)), .second, .unset, .unset] [(.long dd)])) rfl (hb hby at_78) _ kk_) ?_
    show Rch p e below (T5.setTop (mkF m 81 #[.val (.long q0), .second, .val (.long q1), .second, .val (.int p2), .val (.int p3), .val (.long dd), .second, .val (.long mm), .second, .val (.int bo), .val (.int bi), .val (.ref b1), .val (.long (0 : Int64)), .second, .val (.long (0 : Int64)), .second, .unset, .unset] [(.long (1000000 : Int64)), (.long dd)])) _
    refine Rch.go (fun _ kk_ => XS.lcmp X5.here hx rfl (hb hby at_81) rfl kk_) ?_
    show Rch p e below (T5.setTop (mkF m 82 #[.val (.long q0), .second, .val (.long q1), .second, .val (.int p2), .val (.int p3), .val (.long dd), .second, .val (.long mm), .second, .val (.int bo), .val (.int bi), .val (.ref b1), .val (.long (0 : Int64)), .second, .val (.long (0 : Int64)), .second, .unset, .unset] [(.int (lcmpW dd (1000000 : Int64)))])) _
    refine Rch.go (fun _ kk_ => XS.ifYes X5.here hx rfl (pc0 := 82) (pc' := 114) rfl (hb hby at_82) rfl ((if0 _ _).trans (tlt ((lw_lt _ _).mpr hlt)).1) (by decide) (by decide) kk_) ?_
    show Rch p e below (T5.setTop (mkF m 114 #[.val (.long q0), .second, .val (.long q1), .second, .val (.int p2), .val (.int p3), .val (.long dd), .second, .val (.long mm), .second, .val (.int bo), .val (.int bi), .val (.ref b1), .val (.long (0 : Int64)), .second, .val (.long (0 : Int64)), .second, .unset, .unset] [])) _
    refine Rch.go (fun _ kk_ => XS.lload X5.here hx rfl (hb hby at_114) rfl  kk_) ?_
    show Rch p e below (T5.setTop (mkF m 116 #[.val (.long q0), .second, .val (.long q1), .second, .val (.int p2), .val (.int p3), .val (.long dd), .second, .val (.long mm), .second, .val (.int bo), .val (.int bi), .val (.ref b1), .val (.long (0 : Int64)), .second, .val (.long (0 : Int64)), .second, .unset, .unset] [(.long (0 : Int64))])) _
    refine Rch.go (fun _ kk_ => XS.lload X5.here hx rfl (hb hby at_116) rfl  kk_) ?_
    show Rch p e below (T5.setTop (mkF m 118 #[.val (.long q0), .second, .val (.long q1), .second, .val (.int p2), .val (.int p3), .val (.long dd), .second, .val (.long mm), .second, .val (.int bo), .val (.int bi), .val (.ref b1), .val (.long (0 : Int64)), .second, .val (.long (0 : Int64)), .second, .unset, .unset] [(.long (0 : Int64)), (.long (0 : Int64))])) _
    refine Rch.go (fun _ kk_ => XS.lcmp X5.here hx rfl (hb hby at_118) rfl kk_) ?_
    show Rch p e below (T5.setTop (mkF m 119 #[.val (.long q0), .second, .val (.long q1), .second, .val (.int p2), .val (.int p3), .val (.long dd), .second, .val (.long mm), .second, .val (.int bo), .val (.int bi), .val (.ref b1), .val (.long (0 : Int64)), .second, .val (.long (0 : Int64)), .second, .unset, .unset] [(.int (lcmpW (0 : Int64) (0 : Int64)))])) _
    refine Rch.go (fun _ kk_ => XS.ifNo X5.here hx rfl (hb hby at_119) rfl ((if0 _ _).trans (teq ((lw_eq _ _).mpr rfl)).2) kk_) ?_
    show Rch p e below (T5.setTop (mkF m 122 #[.val (.long q0), .second, .val (.long q1), .second, .val (.int p2), .val (.int p3), .val (.long dd), .second, .val (.long mm), .second, .val (.int bo), .val (.int bi), .val (.ref b1), .val (.long (0 : Int64)), .second, .val (.long (0 : Int64)), .second, .unset, .unset] [])) _
    refine Rch.go (fun _ kk_ => XS.iconst X5.here hx rfl (hb hby at_122) kk_) ?_
    show Rch p e below (T5.setTop (mkF m 123 #[.val (.long q0), .second, .val (.long q1), .second, .val (.int p2), .val (.int p3), .val (.long dd), .second, .val (.long mm), .second, .val (.int bo), .val (.int bi), .val (.ref b1), .val (.long (0 : Int64)), .second, .val (.long (0 : Int64)), .second, .unset, .unset] [(.int (1 : Int32))])) _
    refine Rch.go (fun _ kk_ => XS.goto X5.here hx rfl (pc0 := 123) (pc' := 127) rfl (hb hby at_123) (by decide) (by decide) kk_) ?_
    show Rch p e below (T5.setTop (mkF m 127 #[.val (.long q0), .second, .val (.long q1), .second, .val (.int p2), .val (.int p3), .val (.long dd), .second, .val (.long mm), .second, .val (.int bo), .val (.int bi), .val (.ref b1), .val (.long (0 : Int64)), .second, .val (.long (0 : Int64)), .second, .unset, .unset] [(.int (1 : Int32))])) _
    exact Rch.ret X5 hlk (fun h => by rw [hret] at h; cases h) (fun fs hr => retN X5 hx (t := .boolean) hret (by simp) (hb hby at_127) hr) ⟨rfl, N5⟩ (by decide) (by decide)
  · have hge : ¬ dd < (1000000 : Int64) := fun q => hsp ((own_dt q0 dd).symm ▸ q)
    have hlo : 1000000 ≤ dd.toInt := by have h_ : ¬ dd.toInt < (1000000 : Int64).toInt := fun q => hge (Int64.lt_iff_toInt_lt.mpr q); rw [show (1000000 : Int64).toInt = 1000000 by decide] at h_; omega
    have hbm : ((0 : Int64) + bo.toInt64) = mm * dd := by rw [Int64.zero_add]; exact hbo
    show Rch p e below (T3.setTop (mkF m 50 #[.val (.long q0), .second, .val (.long q1), .second, .val (.int p2), .val (.int p3), .val (.long dd), .second, .val (.long mm), .second, .val (.int bo), .val (.int bi), .val (.ref b1), .unset, .unset, .unset, .unset, .unset, .unset] [])) _
    refine Rch.go (fun _ kk_ => XS.aload X3.here hx rfl (hb hby at_50) rfl rfl kk_) ?_
    show Rch p e below (T3.setTop (mkF m 52 #[.val (.long q0), .second, .val (.long q1), .second, .val (.int p2), .val (.int p3), .val (.long dd), .second, .val (.long mm), .second, .val (.int bo), .val (.int bi), .val (.ref b1), .unset, .unset, .unset, .unset, .unset, .unset] [(.ref b1)])) _
    refine Rch.go (fun _ kk_ => XS.lloadN X3.here hx rfl (hb hby at_52) rfl  kk_) ?_
    show Rch p e below (T3.setTop (mkF m 53 #[.val (.long q0), .second, .val (.long q1), .second, .val (.int p2), .val (.int p3), .val (.long dd), .second, .val (.long mm), .second, .val (.int bo), .val (.int bi), .val (.ref b1), .unset, .unset, .unset, .unset, .unset, .unset] [(.long q0), (.ref b1)])) _
    refine Rch.go (fun _ kk_ => XS.lload X3.here hx rfl (hb hby at_53) rfl  kk_) ?_
    show Rch p e below (T3.setTop (mkF m 55 #[.val (.long q0), .second, .val (.long q1), .second, .val (.int p2), .val (.int p3), .val (.long dd), .second, .val (.long mm), .second, .val (.int bo), .val (.int bi), .val (.ref b1), .unset, .unset, .unset, .unset, .unset, .unset] [(.long dd), (.long q0), (.ref b1)])) _
    refine Rch.go (fun _ kk_ => XS.ladd X3.here hx rfl (hb hby at_55) rfl kk_) ?_
    show Rch p e below (T3.setTop (mkF m 56 #[.val (.long q0), .second, .val (.long q1), .second, .val (.int p2), .val (.int p3), .val (.long dd), .second, .val (.long mm), .second, .val (.int bo), .val (.int bi), .val (.ref b1), .unset, .unset, .unset, .unset, .unset, .unset] [(.long (q0 + dd)), (.ref b1)])) _
    refine Rch.go (fun _ kk_ => XS.iload X3.here hx rfl (hb hby at_56) rfl  kk_) ?_
    show Rch p e below (T3.setTop (mkF m 58 #[.val (.long q0), .second, .val (.long q1), .second, .val (.int p2), .val (.int p3), .val (.long dd), .second, .val (.long mm), .second, .val (.int bo), .val (.int bi), .val (.ref b1), .unset, .unset, .unset, .unset, .unset, .unset] [(.int bi), (.long (q0 + dd)), (.ref b1)])) _
    refine Rch.callV X3 hx hZ hown (hw _ (List.mem_of_getElem? (i := 29) rfl)) (hw _ (List.mem_of_getElem? (i := 30) rfl)) (notFace_of_selects (args := #[]) (mvT hZ (hw _ (List.mem_of_getElem? (i := 32) rfl)))) (hw _ (List.mem_of_getElem? (i := 32) rfl)) (hw _ (List.mem_of_getElem? (i := 31) rfl)) (hw _ (List.mem_of_getElem? (i := 4) rfl)) (hw _ (List.mem_of_getElem? (i := 33) rfl)) (by decide) (rm4c l Z a0 hw [] b1 tm cn kt kc (q0 + dd) ((0 : Int64) + bo.toInt64) q0 (0 : Int64) bi T3.heap n0 Z0 E_b1 g_b1 g_tm g_cn ne_b_tm ne_b_cn ne_tm_cn Ft Fc Fs Fk Fn V_tm V_cn hsp) 0 (by decide) (by decide) (by decide) (by decide) rfl E_b1 (g := (mkF m 58 #[.val (.long q0), .second, .val (.long q1), .second, .val (.int p2), .val (.int p3), .val (.long dd), .second, .val (.long mm), .second, .val (.int bo), .val (.int bi), .val (.ref b1), .unset, .unset, .unset, .unset, .unset, .unset] [(.int bi), (.long (q0 + dd)), (.ref b1)])) rfl (by rw [hml]; rfl) [(.long (q0 + dd)), (.int bi)] [] rfl (lenOf pd0_1 rfl) rfl (by show 2 * 0 + _ ≤ _; exact Nat.le_of_eq rfl) (hb hby at_58) ?_
    intro v6 T6 L6 X6 hQ6
    obtain ⟨rfl, N6q, K6, Ft, Fc, Fs, Fk, Fn, V_tm, V_cn⟩ := hQ6
    have E_b1 := E_b1.keep K6
    have Z0 := Nat.le_trans Z0 K6.1
    have O0 := O0.keep K6 (allS g_b1 (allS g_tm (allS g_cn all0)))
    have N6 := Fr.app N3 N6q
    show Rch p e below (T6.setTop (mkF m 61 #[.val (.long q0), .second, .val (.long q1), .second, .val (.int p2), .val (.int p3), .val (.long dd), .second, .val (.long mm), .second, .val (.int bo), .val (.int bi), .val (.ref b1), .unset, .unset, .unset, .unset, .unset, .unset] [])) _
    refine Rch.go (fun _ kk_ => XS.aload X6.here hx rfl (hb hby at_61) rfl rfl kk_) ?_
    show Rch p e below (T6.setTop (mkF m 63 #[.val (.long q0), .second, .val (.long q1), .second, .val (.int p2), .val (.int p3), .val (.long dd), .second, .val (.long mm), .second, .val (.int bo), .val (.int bi), .val (.ref b1), .unset, .unset, .unset, .unset, .unset, .unset] [(.ref b1)])) _
    refine Rch.go (fun _ kk_ => XS.lloadN X6.here hx rfl (hb hby at_63) rfl  kk_) ?_
    show Rch p e below (T6.setTop (mkF m 64 #[.val (.long q0), .second, .val (.long q1), .second, .val (.int p2), .val (.int p3), .val (.long dd), .second, .val (.long mm), .second, .val (.int bo), .val (.int bi), .val (.ref b1), .unset, .unset, .unset, .unset, .unset, .unset] [(.long q0), (.ref b1)])) _
    refine Rch.go (fun _ kk_ => X6.ldc2Long hx hown (mvT hZ (hw _ (List.mem_of_getElem? (i := 38) rfl))) (g := (mkF m 64 #[.val (.long q0), .second, .val (.long q1), .second, .val (.int p2), .val (.int p3), .val (.long dd), .second, .val (.long mm), .second, .val (.int bo), .val (.int bi), .val (.ref b1), .unset, .unset, .unset, .unset, .unset, .unset] [(.long q0), (.ref b1)])) rfl (hb hby at_64) _ kk_) ?_
    show Rch p e below (T6.setTop (mkF m 67 #[.val (.long q0), .second, .val (.long q1), .second, .val (.int p2), .val (.int p3), .val (.long dd), .second, .val (.long mm), .second, .val (.int bo), .val (.int bi), .val (.ref b1), .unset, .unset, .unset, .unset, .unset, .unset] [(.long (1048576 : Int64)), (.long q0), (.ref b1)])) _
    refine Rch.go (fun _ kk_ => XS.ladd X6.here hx rfl (hb hby at_67) rfl kk_) ?_
    show Rch p e below (T6.setTop (mkF m 68 #[.val (.long q0), .second, .val (.long q1), .second, .val (.int p2), .val (.int p3), .val (.long dd), .second, .val (.long mm), .second, .val (.int bo), .val (.int bi), .val (.ref b1), .unset, .unset, .unset, .unset, .unset, .unset] [(.long (q0 + (1048576 : Int64))), (.ref b1)])) _
    refine Rch.callV X6 hx hZ hown (hw _ (List.mem_of_getElem? (i := 39) rfl)) (hw _ (List.mem_of_getElem? (i := 40) rfl)) (notFace_of_selects (args := #[]) (mvT hZ (hw _ (List.mem_of_getElem? (i := 42) rfl)))) (hw _ (List.mem_of_getElem? (i := 42) rfl)) (hw _ (List.mem_of_getElem? (i := 41) rfl)) (hw _ (List.mem_of_getElem? (i := 4) rfl)) (hw _ (List.mem_of_getElem? (i := 43) rfl)) (by decide) (rm5b l Z a0 hw [] b1 tm cn kt kc (q0 + (1048576 : Int64)) q0 (((0 : Int64) + bo.toInt64) + bi.toInt64) (q0 + dd) ((0 : Int64) + bo.toInt64) dd mm T6.heap n0 Z0 Ft Fc Fs Fk Fn V_tm V_cn (own_now q0) (own_dt q0 dd) hm.1 hm.2 hlo hd.2 hbm hK.1 hK.2) 0 (by decide) (by decide) (by decide) (by decide) rfl E_b1 (g := (mkF m 68 #[.val (.long q0), .second, .val (.long q1), .second, .val (.int p2), .val (.int p3), .val (.long dd), .second, .val (.long mm), .second, .val (.int bo), .val (.int bi), .val (.ref b1), .unset, .unset, .unset, .unset, .unset, .unset] [(.long (q0 + (1048576 : Int64))), (.ref b1)])) rfl (by rw [hml]; rfl) [(.long (q0 + (1048576 : Int64)))] [] rfl (lenOf pd0_2 rfl) rfl (by show 2 * 0 + _ ≤ _; exact Nat.le_of_eq rfl) (hb hby at_68) ?_
    intro v7 T7 L7 X7 hQ7
    obtain ⟨rfl, N7q, e7⟩ := hQ7
    have N7 := Fr.app N6 N7q
    show Rch p e below (T7.setTop (mkF m 71 #[.val (.long q0), .second, .val (.long q1), .second, .val (.int p2), .val (.int p3), .val (.long dd), .second, .val (.long mm), .second, .val (.int bo), .val (.int bi), .val (.ref b1), .unset, .unset, .unset, .unset, .unset, .unset] [(.long ((own_pos ((((0 : Int64) + bo.toInt64) + bi.toInt64) - (mm * (1048576 : Int64)))) / mm))])) _
    refine Rch.go (fun _ kk_ => XS.lstore X7.here hx rfl (hb hby at_71) rfl (l' := #[.val (.long q0), .second, .val (.long q1), .second, .val (.int p2), .val (.int p3), .val (.long dd), .second, .val (.long mm), .second, .val (.int bo), .val (.int bi), .val (.ref b1), .val (.long ((own_pos ((((0 : Int64) + bo.toInt64) + bi.toInt64) - (mm * (1048576 : Int64)))) / mm)), .second, .unset, .unset, .unset, .unset]) rfl kk_) ?_
    show Rch p e below (T7.setTop (mkF m 73 #[.val (.long q0), .second, .val (.long q1), .second, .val (.int p2), .val (.int p3), .val (.long dd), .second, .val (.long mm), .second, .val (.int bo), .val (.int bi), .val (.ref b1), .val (.long ((own_pos ((((0 : Int64) + bo.toInt64) + bi.toInt64) - (mm * (1048576 : Int64)))) / mm)), .second, .unset, .unset, .unset, .unset] [])) _
    refine Rch.go (fun _ kk_ => XS.lconst X7.here hx rfl (hb hby at_73) kk_) ?_
    show Rch p e below (T7.setTop (mkF m 74 #[.val (.long q0), .second, .val (.long q1), .second, .val (.int p2), .val (.int p3), .val (.long dd), .second, .val (.long mm), .second, .val (.int bo), .val (.int bi), .val (.ref b1), .val (.long ((own_pos ((((0 : Int64) + bo.toInt64) + bi.toInt64) - (mm * (1048576 : Int64)))) / mm)), .second, .unset, .unset, .unset, .unset] [(.long (0 : Int64))])) _
    refine Rch.go (fun _ kk_ => XS.lstore X7.here hx rfl (hb hby at_74) rfl (l' := #[.val (.long q0), .second, .val (.long q1), .second, .val (.int p2), .val (.int p3), .val (.long dd), .second, .val (.long mm), .second, .val (.int bo), .val (.int bi), .val (.ref b1), .val (.long ((own_pos ((((0 : Int64) + bo.toInt64) + bi.toInt64) - (mm * (1048576 : Int64)))) / mm)), .second, .val (.long (0 : Int64)), .second, .unset, .unset]) rfl kk_) ?_
    show Rch p e below (T7.setTop (mkF m 76 #[.val (.long q0), .second, .val (.long q1), .second, .val (.int p2), .val (.int p3), .val (.long dd), .second, .val (.long mm), .second, .val (.int bo), .val (.int bi), .val (.ref b1), .val (.long ((own_pos ((((0 : Int64) + bo.toInt64) + bi.toInt64) - (mm * (1048576 : Int64)))) / mm)), .second, .val (.long (0 : Int64)), .second, .unset, .unset] [])) _
    refine Rch.go (fun _ kk_ => XS.lload X7.here hx rfl (hb hby at_76) rfl  kk_) ?_
    show Rch p e below (T7.setTop (mkF m 78 #[.val (.long q0), .second, .val (.long q1), .second, .val (.int p2), .val (.int p3), .val (.long dd), .second, .val (.long mm), .second, .val (.int bo), .val (.int bi), .val (.ref b1), .val (.long ((own_pos ((((0 : Int64) + bo.toInt64) + bi.toInt64) - (mm * (1048576 : Int64)))) / mm)), .second, .val (.long (0 : Int64)), .second, .unset, .unset] [(.long dd)])) _
    refine Rch.go (fun _ kk_ => X7.ldc2Long hx hown (mvT hZ (hw _ (List.mem_of_getElem? (i := 52) rfl))) (g := (mkF m 78 #[.val (.long q0), .second, .val (.long q1), .second, .val (.int p2), .val (.int p3), .val (.long dd), .second, .val (.long mm), .second, .val (.int bo), .val (.int bi), .val (.ref b1), .val (.long ((own_pos ((((0 : Int64) + bo.toInt64) + bi.toInt64) - (mm * (1048576 : Int64)))) / mm)), .second, .val (.long (0 : Int64)), .second, .unset, .unset] [(.long dd)])) rfl (hb hby at_78) _ kk_) ?_
    show Rch p e below (T7.setTop (mkF m 81 #[.val (.long q0), .second, .val (.long q1), .second, .val (.int p2), .val (.int p3), .val (.long dd), .second, .val (.long mm), .second, .val (.int bo), .val (.int bi), .val (.ref b1), .val (.long ((own_pos ((((0 : Int64) + bo.toInt64) + bi.toInt64) - (mm * (1048576 : Int64)))) / mm)), .second, .val (.long (0 : Int64)), .second, .unset, .unset] [(.long (1000000 : Int64)), (.long dd)])) _
    refine Rch.go (fun _ kk_ => XS.lcmp X7.here hx rfl (hb hby at_81) rfl kk_) ?_
    show Rch p e below (T7.setTop (mkF m 82 #[.val (.long q0), .second, .val (.long q1), .second, .val (.int p2), .val (.int p3), .val (.long dd), .second, .val (.long mm), .second, .val (.int bo), .val (.int bi), .val (.ref b1), .val (.long ((own_pos ((((0 : Int64) + bo.toInt64) + bi.toInt64) - (mm * (1048576 : Int64)))) / mm)), .second, .val (.long (0 : Int64)), .second, .unset, .unset] [(.int (lcmpW dd (1000000 : Int64)))])) _
    refine Rch.go (fun _ kk_ => XS.ifNo X7.here hx rfl (hb hby at_82) rfl ((if0 _ _).trans (flt (fun q => hge ((lw_lt _ _).mp q))).1) kk_) ?_
    show Rch p e below (T7.setTop (mkF m 85 #[.val (.long q0), .second, .val (.long q1), .second, .val (.int p2), .val (.int p3), .val (.long dd), .second, .val (.long mm), .second, .val (.int bo), .val (.int bi), .val (.ref b1), .val (.long ((own_pos ((((0 : Int64) + bo.toInt64) + bi.toInt64) - (mm * (1048576 : Int64)))) / mm)), .second, .val (.long (0 : Int64)), .second, .unset, .unset] [])) _
    refine Rch.go (fun _ kk_ => XS.iload X7.here hx rfl (hb hby at_85) rfl  kk_) ?_
    show Rch p e below (T7.setTop (mkF m 87 #[.val (.long q0), .second, .val (.long q1), .second, .val (.int p2), .val (.int p3), .val (.long dd), .second, .val (.long mm), .second, .val (.int bo), .val (.int bi), .val (.ref b1), .val (.long ((own_pos ((((0 : Int64) + bo.toInt64) + bi.toInt64) - (mm * (1048576 : Int64)))) / mm)), .second, .val (.long (0 : Int64)), .second, .unset, .unset] [(.int bi)])) _
    refine Rch.go (fun _ kk_ => XS.i2l X7.here hx rfl (hb hby at_87) rfl kk_) ?_
    show Rch p e below (T7.setTop (mkF m 88 #[.val (.long q0), .second, .val (.long q1), .second, .val (.int p2), .val (.int p3), .val (.long dd), .second, .val (.long mm), .second, .val (.int bo), .val (.int bi), .val (.ref b1), .val (.long ((own_pos ((((0 : Int64) + bo.toInt64) + bi.toInt64) - (mm * (1048576 : Int64)))) / mm)), .second, .val (.long (0 : Int64)), .second, .unset, .unset] [(.long (bi.toInt64))])) _
    refine Rch.go (fun _ kk_ => XS.lload X7.here hx rfl (hb hby at_88) rfl  kk_) ?_
    show Rch p e below (T7.setTop (mkF m 90 #[.val (.long q0), .second, .val (.long q1), .second, .val (.int p2), .val (.int p3), .val (.long dd), .second, .val (.long mm), .second, .val (.int bo), .val (.int bi), .val (.ref b1), .val (.long ((own_pos ((((0 : Int64) + bo.toInt64) + bi.toInt64) - (mm * (1048576 : Int64)))) / mm)), .second, .val (.long (0 : Int64)), .second, .unset, .unset] [(.long mm), (.long (bi.toInt64))])) _
    refine Rch.go (fun _ kk_ => XS.lload X7.here hx rfl (hb hby at_90) rfl  kk_) ?_
    show Rch p e below (T7.setTop (mkF m 92 #[.val (.long q0), .second, .val (.long q1), .second, .val (.int p2), .val (.int p3), .val (.long dd), .second, .val (.long mm), .second, .val (.int bo), .val (.int bi), .val (.ref b1), .val (.long ((own_pos ((((0 : Int64) + bo.toInt64) + bi.toInt64) - (mm * (1048576 : Int64)))) / mm)), .second, .val (.long (0 : Int64)), .second, .unset, .unset] [(.long dd), (.long mm), (.long (bi.toInt64))])) _
    refine Rch.go (fun _ kk_ => X7.ldc2Long hx hown (mvT hZ (hw _ (List.mem_of_getElem? (i := 38) rfl))) (g := (mkF m 92 #[.val (.long q0), .second, .val (.long q1), .second, .val (.int p2), .val (.int p3), .val (.long dd), .second, .val (.long mm), .second, .val (.int bo), .val (.int bi), .val (.ref b1), .val (.long ((own_pos ((((0 : Int64) + bo.toInt64) + bi.toInt64) - (mm * (1048576 : Int64)))) / mm)), .second, .val (.long (0 : Int64)), .second, .unset, .unset] [(.long dd), (.long mm), (.long (bi.toInt64))])) rfl (hb hby at_92) _ kk_) ?_
    show Rch p e below (T7.setTop (mkF m 95 #[.val (.long q0), .second, .val (.long q1), .second, .val (.int p2), .val (.int p3), .val (.long dd), .second, .val (.long mm), .second, .val (.int bo), .val (.int bi), .val (.ref b1), .val (.long ((own_pos ((((0 : Int64) + bo.toInt64) + bi.toInt64) - (mm * (1048576 : Int64)))) / mm)), .second, .val (.long (0 : Int64)), .second, .unset, .unset] [(.long (1048576 : Int64)), (.long dd), (.long mm), (.long (bi.toInt64))])) _
    refine Rch.go (fun _ kk_ => XS.lsub X7.here hx rfl (hb hby at_95) rfl kk_) ?_
    show Rch p e below (T7.setTop (mkF m 96 #[.val (.long q0), .second, .val (.long q1), .second, .val (.int p2), .val (.int p3), .val (.long dd), .second, .val (.long mm), .second, .val (.int bo), .val (.int bi), .val (.ref b1), .val (.long ((own_pos ((((0 : Int64) + bo.toInt64) + bi.toInt64) - (mm * (1048576 : Int64)))) / mm)), .second, .val (.long (0 : Int64)), .second, .unset, .unset] [(.long (dd - (1048576 : Int64))), (.long mm), (.long (bi.toInt64))])) _
    refine Rch.go (fun _ kk_ => XS.lmul X7.here hx rfl (hb hby at_96) rfl kk_) ?_
    show Rch p e below (T7.setTop (mkF m 97 #[.val (.long q0), .second, .val (.long q1), .second, .val (.int p2), .val (.int p3), .val (.long dd), .second, .val (.long mm), .second, .val (.int bo), .val (.int bi), .val (.ref b1), .val (.long ((own_pos ((((0 : Int64) + bo.toInt64) + bi.toInt64) - (mm * (1048576 : Int64)))) / mm)), .second, .val (.long (0 : Int64)), .second, .unset, .unset] [(.long (mm * (dd - (1048576 : Int64)))), (.long (bi.toInt64))])) _
    refine Rch.go (fun _ kk_ => XS.ladd X7.here hx rfl (hb hby at_97) rfl kk_) ?_
    show Rch p e below (T7.setTop (mkF m 98 #[.val (.long q0), .second, .val (.long q1), .second, .val (.int p2), .val (.int p3), .val (.long dd), .second, .val (.long mm), .second, .val (.int bo), .val (.int bi), .val (.ref b1), .val (.long ((own_pos ((((0 : Int64) + bo.toInt64) + bi.toInt64) - (mm * (1048576 : Int64)))) / mm)), .second, .val (.long (0 : Int64)), .second, .unset, .unset] [(.long ((bi.toInt64) + (mm * (dd - (1048576 : Int64)))))])) _
    refine Rch.go (fun _ kk_ => XS.lstore X7.here hx rfl (hb hby at_98) rfl (l' := #[.val (.long q0), .second, .val (.long q1), .second, .val (.int p2), .val (.int p3), .val (.long dd), .second, .val (.long mm), .second, .val (.int bo), .val (.int bi), .val (.ref b1), .val (.long ((own_pos ((((0 : Int64) + bo.toInt64) + bi.toInt64) - (mm * (1048576 : Int64)))) / mm)), .second, .val (.long (0 : Int64)), .second, .val (.long ((bi.toInt64) + (mm * (dd - (1048576 : Int64))))), .second]) rfl kk_) ?_
    show Rch p e below (T7.setTop (mkF m 100 #[.val (.long q0), .second, .val (.long q1), .second, .val (.int p2), .val (.int p3), .val (.long dd), .second, .val (.long mm), .second, .val (.int bo), .val (.int bi), .val (.ref b1), .val (.long ((own_pos ((((0 : Int64) + bo.toInt64) + bi.toInt64) - (mm * (1048576 : Int64)))) / mm)), .second, .val (.long (0 : Int64)), .second, .val (.long ((bi.toInt64) + (mm * (dd - (1048576 : Int64))))), .second] [])) _
    refine Rch.go (fun _ kk_ => XS.lload X7.here hx rfl (hb hby at_100) rfl  kk_) ?_
    show Rch p e below (T7.setTop (mkF m 102 #[.val (.long q0), .second, .val (.long q1), .second, .val (.int p2), .val (.int p3), .val (.long dd), .second, .val (.long mm), .second, .val (.int bo), .val (.int bi), .val (.ref b1), .val (.long ((own_pos ((((0 : Int64) + bo.toInt64) + bi.toInt64) - (mm * (1048576 : Int64)))) / mm)), .second, .val (.long (0 : Int64)), .second, .val (.long ((bi.toInt64) + (mm * (dd - (1048576 : Int64))))), .second] [(.long ((bi.toInt64) + (mm * (dd - (1048576 : Int64)))))])) _
    refine Rch.go (fun _ kk_ => XS.lconst X7.here hx rfl (hb hby at_102) kk_) ?_
    show Rch p e below (T7.setTop (mkF m 103 #[.val (.long q0), .second, .val (.long q1), .second, .val (.int p2), .val (.int p3), .val (.long dd), .second, .val (.long mm), .second, .val (.int bo), .val (.int bi), .val (.ref b1), .val (.long ((own_pos ((((0 : Int64) + bo.toInt64) + bi.toInt64) - (mm * (1048576 : Int64)))) / mm)), .second, .val (.long (0 : Int64)), .second, .val (.long ((bi.toInt64) + (mm * (dd - (1048576 : Int64))))), .second] [(.long (0 : Int64)), (.long ((bi.toInt64) + (mm * (dd - (1048576 : Int64)))))])) _
    refine Rch.go (fun _ kk_ => XS.lcmp X7.here hx rfl (hb hby at_103) rfl kk_) ?_
    show Rch p e below (T7.setTop (mkF m 104 #[.val (.long q0), .second, .val (.long q1), .second, .val (.int p2), .val (.int p3), .val (.long dd), .second, .val (.long mm), .second, .val (.int bo), .val (.int bi), .val (.ref b1), .val (.long ((own_pos ((((0 : Int64) + bo.toInt64) + bi.toInt64) - (mm * (1048576 : Int64)))) / mm)), .second, .val (.long (0 : Int64)), .second, .val (.long ((bi.toInt64) + (mm * (dd - (1048576 : Int64))))), .second] [(.int (lcmpW ((bi.toInt64) + (mm * (dd - (1048576 : Int64)))) (0 : Int64)))])) _
    by_cases hc104_8 : (0 : Int32) < (lcmpW ((bi.toInt64) + (mm * (dd - (1048576 : Int64)))) (0 : Int64))
    · refine Rch.go (fun _ kk_ => XS.ifNo X7.here hx rfl (hb hby at_104) rfl ((if0 _ _).trans (tlt hc104_8).2.2.2) kk_) ?_
      show Rch p e below (T7.setTop (mkF m 107 #[.val (.long q0), .second, .val (.long q1), .second, .val (.int p2), .val (.int p3), .val (.long dd), .second, .val (.long mm), .second, .val (.int bo), .val (.int bi), .val (.ref b1), .val (.long ((own_pos ((((0 : Int64) + bo.toInt64) + bi.toInt64) - (mm * (1048576 : Int64)))) / mm)), .second, .val (.long (0 : Int64)), .second, .val (.long ((bi.toInt64) + (mm * (dd - (1048576 : Int64))))), .second] [])) _
      refine Rch.go (fun _ kk_ => XS.lload X7.here hx rfl (hb hby at_107) rfl  kk_) ?_
      show Rch p e below (T7.setTop (mkF m 109 #[.val (.long q0), .second, .val (.long q1), .second, .val (.int p2), .val (.int p3), .val (.long dd), .second, .val (.long mm), .second, .val (.int bo), .val (.int bi), .val (.ref b1), .val (.long ((own_pos ((((0 : Int64) + bo.toInt64) + bi.toInt64) - (mm * (1048576 : Int64)))) / mm)), .second, .val (.long (0 : Int64)), .second, .val (.long ((bi.toInt64) + (mm * (dd - (1048576 : Int64))))), .second] [(.long ((bi.toInt64) + (mm * (dd - (1048576 : Int64)))))])) _
      refine Rch.go (fun _ kk_ => XS.lload X7.here hx rfl (hb hby at_109) rfl  kk_) ?_
      show Rch p e below (T7.setTop (mkF m 111 #[.val (.long q0), .second, .val (.long q1), .second, .val (.int p2), .val (.int p3), .val (.long dd), .second, .val (.long mm), .second, .val (.int bo), .val (.int bi), .val (.ref b1), .val (.long ((own_pos ((((0 : Int64) + bo.toInt64) + bi.toInt64) - (mm * (1048576 : Int64)))) / mm)), .second, .val (.long (0 : Int64)), .second, .val (.long ((bi.toInt64) + (mm * (dd - (1048576 : Int64))))), .second] [(.long mm), (.long ((bi.toInt64) + (mm * (dd - (1048576 : Int64)))))])) _
      refine Rch.go (fun _ kk_ => XS.ldiv X7.here hx rfl (hb hby at_111) rfl hmz kk_) ?_
      show Rch p e below (T7.setTop (mkF m 112 #[.val (.long q0), .second, .val (.long q1), .second, .val (.int p2), .val (.int p3), .val (.long dd), .second, .val (.long mm), .second, .val (.int bo), .val (.int bi), .val (.ref b1), .val (.long ((own_pos ((((0 : Int64) + bo.toInt64) + bi.toInt64) - (mm * (1048576 : Int64)))) / mm)), .second, .val (.long (0 : Int64)), .second, .val (.long ((bi.toInt64) + (mm * (dd - (1048576 : Int64))))), .second] [(.long (((bi.toInt64) + (mm * (dd - (1048576 : Int64)))) / mm))])) _
      refine Rch.go (fun _ kk_ => XS.lstore X7.here hx rfl (hb hby at_112) rfl (l' := #[.val (.long q0), .second, .val (.long q1), .second, .val (.int p2), .val (.int p3), .val (.long dd), .second, .val (.long mm), .second, .val (.int bo), .val (.int bi), .val (.ref b1), .val (.long ((own_pos ((((0 : Int64) + bo.toInt64) + bi.toInt64) - (mm * (1048576 : Int64)))) / mm)), .second, .val (.long (((bi.toInt64) + (mm * (dd - (1048576 : Int64)))) / mm)), .second, .val (.long ((bi.toInt64) + (mm * (dd - (1048576 : Int64))))), .second]) rfl kk_) ?_
      show Rch p e below (T7.setTop (mkF m 114 #[.val (.long q0), .second, .val (.long q1), .second, .val (.int p2), .val (.int p3), .val (.long dd), .second, .val (.long mm), .second, .val (.int bo), .val (.int bi), .val (.ref b1), .val (.long ((own_pos ((((0 : Int64) + bo.toInt64) + bi.toInt64) - (mm * (1048576 : Int64)))) / mm)), .second, .val (.long (((bi.toInt64) + (mm * (dd - (1048576 : Int64)))) / mm)), .second, .val (.long ((bi.toInt64) + (mm * (dd - (1048576 : Int64))))), .second] [])) _
      refine Rch.go (fun _ kk_ => XS.lload X7.here hx rfl (hb hby at_114) rfl  kk_) ?_
      show Rch p e below (T7.setTop (mkF m 116 #[.val (.long q0), .second, .val (.long q1), .second, .val (.int p2), .val (.int p3), .val (.long dd), .second, .val (.long mm), .second, .val (.int bo), .val (.int bi), .val (.ref b1), .val (.long ((own_pos ((((0 : Int64) + bo.toInt64) + bi.toInt64) - (mm * (1048576 : Int64)))) / mm)), .second, .val (.long (((bi.toInt64) + (mm * (dd - (1048576 : Int64)))) / mm)), .second, .val (.long ((bi.toInt64) + (mm * (dd - (1048576 : Int64))))), .second] [(.long ((own_pos ((((0 : Int64) + bo.toInt64) + bi.toInt64) - (mm * (1048576 : Int64)))) / mm))])) _
      refine Rch.go (fun _ kk_ => XS.lload X7.here hx rfl (hb hby at_116) rfl  kk_) ?_
      show Rch p e below (T7.setTop (mkF m 118 #[.val (.long q0), .second, .val (.long q1), .second, .val (.int p2), .val (.int p3), .val (.long dd), .second, .val (.long mm), .second, .val (.int bo), .val (.int bi), .val (.ref b1), .val (.long ((own_pos ((((0 : Int64) + bo.toInt64) + bi.toInt64) - (mm * (1048576 : Int64)))) / mm)), .second, .val (.long (((bi.toInt64) + (mm * (dd - (1048576 : Int64)))) / mm)), .second, .val (.long ((bi.toInt64) + (mm * (dd - (1048576 : Int64))))), .second] [(.long (((bi.toInt64) + (mm * (dd - (1048576 : Int64)))) / mm)), (.long ((own_pos ((((0 : Int64) + bo.toInt64) + bi.toInt64) - (mm * (1048576 : Int64)))) / mm))])) _
      refine Rch.go (fun _ kk_ => XS.lcmp X7.here hx rfl (hb hby at_118) rfl kk_) ?_
      show Rch p e below (T7.setTop (mkF m 119 #[.val (.long q0), .second, .val (.long q1), .second, .val (.int p2), .val (.int p3), .val (.long dd), .second, .val (.long mm), .second, .val (.int bo), .val (.int bi), .val (.ref b1), .val (.long ((own_pos ((((0 : Int64) + bo.toInt64) + bi.toInt64) - (mm * (1048576 : Int64)))) / mm)), .second, .val (.long (((bi.toInt64) + (mm * (dd - (1048576 : Int64)))) / mm)), .second, .val (.long ((bi.toInt64) + (mm * (dd - (1048576 : Int64))))), .second] [(.int (lcmpW ((own_pos ((((0 : Int64) + bo.toInt64) + bi.toInt64) - (mm * (1048576 : Int64)))) / mm) (((bi.toInt64) + (mm * (dd - (1048576 : Int64)))) / mm)))])) _
      refine Rch.go (fun _ kk_ => XS.ifNo X7.here hx rfl (hb hby at_119) rfl ((if0 _ _).trans (teq ((lw_eq _ _).mpr (by rw [own_eq hbo]; exact own_fin1 hc104_8))).2) kk_) ?_
      show Rch p e below (T7.setTop (mkF m 122 #[.val (.long q0), .second, .val (.long q1), .second, .val (.int p2), .val (.int p3), .val (.long dd), .second, .val (.long mm), .second, .val (.int bo), .val (.int bi), .val (.ref b1), .val (.long ((own_pos ((((0 : Int64) + bo.toInt64) + bi.toInt64) - (mm * (1048576 : Int64)))) / mm)), .second, .val (.long (((bi.toInt64) + (mm * (dd - (1048576 : Int64)))) / mm)), .second, .val (.long ((bi.toInt64) + (mm * (dd - (1048576 : Int64))))), .second] [])) _
      refine Rch.go (fun _ kk_ => XS.iconst X7.here hx rfl (hb hby at_122) kk_) ?_
      show Rch p e below (T7.setTop (mkF m 123 #[.val (.long q0), .second, .val (.long q1), .second, .val (.int p2), .val (.int p3), .val (.long dd), .second, .val (.long mm), .second, .val (.int bo), .val (.int bi), .val (.ref b1), .val (.long ((own_pos ((((0 : Int64) + bo.toInt64) + bi.toInt64) - (mm * (1048576 : Int64)))) / mm)), .second, .val (.long (((bi.toInt64) + (mm * (dd - (1048576 : Int64)))) / mm)), .second, .val (.long ((bi.toInt64) + (mm * (dd - (1048576 : Int64))))), .second] [(.int (1 : Int32))])) _
      refine Rch.go (fun _ kk_ => XS.goto X7.here hx rfl (pc0 := 123) (pc' := 127) rfl (hb hby at_123) (by decide) (by decide) kk_) ?_
      show Rch p e below (T7.setTop (mkF m 127 #[.val (.long q0), .second, .val (.long q1), .second, .val (.int p2), .val (.int p3), .val (.long dd), .second, .val (.long mm), .second, .val (.int bo), .val (.int bi), .val (.ref b1), .val (.long ((own_pos ((((0 : Int64) + bo.toInt64) + bi.toInt64) - (mm * (1048576 : Int64)))) / mm)), .second, .val (.long (((bi.toInt64) + (mm * (dd - (1048576 : Int64)))) / mm)), .second, .val (.long ((bi.toInt64) + (mm * (dd - (1048576 : Int64))))), .second] [(.int (1 : Int32))])) _
      exact Rch.ret X7 hlk (fun h => by rw [hret] at h; cases h) (fun fs hr => retN X7 hx (t := .boolean) hret (by simp) (hb hby at_127) hr) ⟨rfl, N7⟩ (by decide) (by decide)
    · refine Rch.go (fun _ kk_ => XS.ifYes X7.here hx rfl (pc0 := 104) (pc' := 114) rfl (hb hby at_104) rfl ((if0 _ _).trans (flt hc104_8).2.2.2) (by decide) (by decide) kk_) ?_
      show Rch p e below (T7.setTop (mkF m 114 #[.val (.long q0), .second, .val (.long q1), .second, .val (.int p2), .val (.int p3), .val (.long dd), .second, .val (.long mm), .second, .val (.int bo), .val (.int bi), .val (.ref b1), .val (.long ((own_pos ((((0 : Int64) + bo.toInt64) + bi.toInt64) - (mm * (1048576 : Int64)))) / mm)), .second, .val (.long (0 : Int64)), .second, .val (.long ((bi.toInt64) + (mm * (dd - (1048576 : Int64))))), .second] [])) _
      refine Rch.go (fun _ kk_ => XS.lload X7.here hx rfl (hb hby at_114) rfl  kk_) ?_
      show Rch p e below (T7.setTop (mkF m 116 #[.val (.long q0), .second, .val (.long q1), .second, .val (.int p2), .val (.int p3), .val (.long dd), .second, .val (.long mm), .second, .val (.int bo), .val (.int bi), .val (.ref b1), .val (.long ((own_pos ((((0 : Int64) + bo.toInt64) + bi.toInt64) - (mm * (1048576 : Int64)))) / mm)), .second, .val (.long (0 : Int64)), .second, .val (.long ((bi.toInt64) + (mm * (dd - (1048576 : Int64))))), .second] [(.long ((own_pos ((((0 : Int64) + bo.toInt64) + bi.toInt64) - (mm * (1048576 : Int64)))) / mm))])) _
      refine Rch.go (fun _ kk_ => XS.lload X7.here hx rfl (hb hby at_116) rfl  kk_) ?_
      show Rch p e below (T7.setTop (mkF m 118 #[.val (.long q0), .second, .val (.long q1), .second, .val (.int p2), .val (.int p3), .val (.long dd), .second, .val (.long mm), .second, .val (.int bo), .val (.int bi), .val (.ref b1), .val (.long ((own_pos ((((0 : Int64) + bo.toInt64) + bi.toInt64) - (mm * (1048576 : Int64)))) / mm)), .second, .val (.long (0 : Int64)), .second, .val (.long ((bi.toInt64) + (mm * (dd - (1048576 : Int64))))), .second] [(.long (0 : Int64)), (.long ((own_pos ((((0 : Int64) + bo.toInt64) + bi.toInt64) - (mm * (1048576 : Int64)))) / mm))])) _
      refine Rch.go (fun _ kk_ => XS.lcmp X7.here hx rfl (hb hby at_118) rfl kk_) ?_
      show Rch p e below (T7.setTop (mkF m 119 #[.val (.long q0), .second, .val (.long q1), .second, .val (.int p2), .val (.int p3), .val (.long dd), .second, .val (.long mm), .second, .val (.int bo), .val (.int bi), .val (.ref b1), .val (.long ((own_pos ((((0 : Int64) + bo.toInt64) + bi.toInt64) - (mm * (1048576 : Int64)))) / mm)), .second, .val (.long (0 : Int64)), .second, .val (.long ((bi.toInt64) + (mm * (dd - (1048576 : Int64))))), .second] [(.int (lcmpW ((own_pos ((((0 : Int64) + bo.toInt64) + bi.toInt64) - (mm * (1048576 : Int64)))) / mm) (0 : Int64)))])) _
      refine Rch.go (fun _ kk_ => XS.ifNo X7.here hx rfl (hb hby at_119) rfl ((if0 _ _).trans (teq ((lw_eq _ _).mpr (by rw [own_eq hbo]; exact own_fin0 hc104_8))).2) kk_) ?_
      show Rch p e below (T7.setTop (mkF m 122 #[.val (.long q0), .second, .val (.long q1), .second, .val (.int p2), .val (.int p3), .val (.long dd), .second, .val (.long mm), .second, .val (.int bo), .val (.int bi), .val (.ref b1), .val (.long ((own_pos ((((0 : Int64) + bo.toInt64) + bi.toInt64) - (mm * (1048576 : Int64)))) / mm)), .second, .val (.long (0 : Int64)), .second, .val (.long ((bi.toInt64) + (mm * (dd - (1048576 : Int64))))), .second] [])) _
      refine Rch.go (fun _ kk_ => XS.iconst X7.here hx rfl (hb hby at_122) kk_) ?_
      show Rch p e below (T7.setTop (mkF m 123 #[.val (.long q0), .second, .val (.long q1), .second, .val (.int p2), .val (.int p3), .val (.long dd), .second, .val (.long mm), .second, .val (.int bo), .val (.int bi), .val (.ref b1), .val (.long ((own_pos ((((0 : Int64) + bo.toInt64) + bi.toInt64) - (mm * (1048576 : Int64)))) / mm)), .second, .val (.long (0 : Int64)), .second, .val (.long ((bi.toInt64) + (mm * (dd - (1048576 : Int64))))), .second] [(.int (1 : Int32))])) _
      refine Rch.go (fun _ kk_ => XS.goto X7.here hx rfl (pc0 := 123) (pc' := 127) rfl (hb hby at_123) (by decide) (by decide) kk_) ?_
      show Rch p e below (T7.setTop (mkF m 127 #[.val (.long q0), .second, .val (.long q1), .second, .val (.int p2), .val (.int p3), .val (.long dd), .second, .val (.long mm), .second, .val (.int bo), .val (.int bi), .val (.ref b1), .val (.long ((own_pos ((((0 : Int64) + bo.toInt64) + bi.toInt64) - (mm * (1048576 : Int64)))) / mm)), .second, .val (.long (0 : Int64)), .second, .val (.long ((bi.toInt64) + (mm * (dd - (1048576 : Int64))))), .second] [(.int (1 : Int32))])) _
      exact Rch.ret X7 hlk (fun h => by rw [hret] at h; cases h) (fun fs hr => retN X7 hx (t := .boolean) hret (by simp) (hb hby at_127) hr) ⟨rfl, N7⟩ (by decide) (by decide)
set_option maxRecDepth 65536 in
set_option maxHeartbeats 40000000 in
theorem comes_1 {Post : Tables → Env → Array Value → State → Outcome → State → Prop} (hpost : ∀ tb e args s v u, (limb_1_1.after args s (.returned v) u = true ∧ limb_1_2.after args s (.returned v) u = true ∧ True) → FrameEnd s (.returned v) u (Jvm.fieldLocs frame_1_writes args s ++ Jvm.arrayLocs frame_1_arrays args s ++ Jvm.staticLocs frame_1_statics s) 16 384 → Post tb e args s (.returned v) u) :
    ArmFor flags0 classFile x code maxLocals ret World_1 tables_1 room_1 Calls_1 rest_1 Pre_1 Post := by
  intro l hfl _ _ p e ha hc hk s m args below hf hA hF happ hP
  obtain ⟨hcalls, hrest, hpre⟩ := hP
  obtain ⟨-, -, -, hnamed, -, -, -, hat⟩ := (Spec.applies_iff hf).mp happ
  obtain ⟨hg, hn⟩ := and_e (Cond.before_iff.mp (show (Jvm.Cond.and given_1 narrow_1).before args s = true from hpre))
  obtain ⟨hcount, q0⟩ := and_e hg
  obtain ⟨b0, q1⟩ := and_e q0
  obtain ⟨b1, q2⟩ := and_e q1
  obtain ⟨b2, q3⟩ := and_e q2
  obtain ⟨w0, w1, w2, w3, rfl⟩ : ∃ w0 w1 w2 w3 : Value, args = #[w0, w1, w2, w3] := by
    have hs : args.size = 4 := by simpa [Cond.value, given_1] using hcount
    obtain ⟨L⟩ := args
    match L, hs with
    | [w0, w1, w2, w3], _ => exact ⟨w0, w1, w2, w3, rfl⟩
  have hw := fun d (hd : d ∈ tables_1) => atoms_spec (ws := Jvm.Cond.code x code maxLocals ret :: tables_1) hat d (List.mem_cons_of_mem _ hd)
  have hfit : Fit s := fun {y c} hc i hi => by
    obtain ⟨ha, rfl⟩ := Array.getElem?_eq_some_iff.mp hc
    have q := List.all_eq_true.mp ((Array.all_eq_true_iff_forall_mem.mp hF) _ (Array.getElem_mem ha)) i (List.mem_range.mpr hi)
    simpa [Array.getElem?_eq_getElem hi] using q
  obtain ⟨hsets, hown0⟩ := atoms_of _ (rest_1_c_eq ▸ (show rest_1_c.before _ s = true from hrest))
  have hr0 := Cond.before_iff.mp hown0
  obtain ⟨i0, ei0⟩ := isL_v b0
  obtain rfl : w0 = (.long i0) := Option.some.inj ei0
  obtain ⟨i1, ei1⟩ := isL_v b1
  obtain rfl : w1 = (.long i1) := Option.some.inj ei1
  obtain ⟨i2, ei2⟩ := is_v b2
  obtain rfl : w2 = (.int i2) := Option.some.inj ei2
  obtain ⟨i3, ei3⟩ := is_v q3
  obtain rfl : w3 = (.int i3) := Option.some.inj ei3
  obtain ⟨ms, _, cell, kk0, ev, _⟩ := Cond.exactly_spec (hsets _ (List.mem_of_getElem? (i := 2) rfl))
  have S_ms := Sta.start ev (Or.inl (hsets _ (List.mem_of_getElem? (i := 1) rfl)))
  have E_ms := Exa.start ev (Cond.before_iff.mp (hsets _ (List.mem_of_getElem? (i := 2) rfl)))
  have F_scale := own_fld (f := "scale") ev (Cond.before_iff.mp (hsets _ (List.mem_of_getElem? (i := 5) rfl)))
  have F_max := own_fld (f := "maxNanos") ev (Cond.before_iff.mp (hsets _ (List.mem_of_getElem? (i := 6) rfl)))
  obtain ⟨n, o, h1, h2, h3, _, L, rfl, ⟨rfl, N⟩, hq⟩ := rm0 l s _ hw tables_1 i0 i1 i2 i3 ms s.heap s.heap.size (Nat.le_refl _) (Old.start s) S_ms E_ms F_scale F_max p e ha hc hk s m _ below hf ((Spec.applies_iff_loose hf).mp happ).1 ⟨rfl, State.Warmed39.refl s, rfl⟩ trivial
  refine ⟨n, _, h1, h2, h3, hpost _ _ _ _ _ _ ⟨Cond.after_iff.mpr rfl, Cond.after_iff.mpr (eq_i res_at (Term.int_eval (1)) rfl), trivial⟩ ⟨hq.1, hq.2.1, (hq.2.2.sift fun y hy => Or.inr (N y hy)).mono (by decide) (by decide)⟩⟩
theorem main_1_1 : Claimed_1_1 := comes_1 fun _ _ _ _ _ _ h hF => ⟨h.1, hF⟩
theorem main_1_2 : Claimed_1_2 := comes_1 fun _ _ _ _ _ _ h hF => ⟨h.2.1, hF⟩
end Jvm.Pilot.@@N@@
namespace Jvm.Pilot.@@N@@
open Jvm Jvm.ClassFile Sem Op Lib Jvm.Free Jvm.Stand Jvm.Pilot.@@N@@.Jvm.D
/-! MADE BY PROGRAM (witnessworld.py) out of the Statement's table words and the real class files: 19 classes; the members and pool entries that the words name. The judged class is class 1, her method 1. -/
namespace start1
open Jvm.ClassFile
def u (s : String) : CpInfo := .utf8 (stringToUtf16 s)
/-- a pool by its gaps: so many unusable entries, then the entry; so many at the end -/
def gap : Nat → List CpInfo → List CpInfo
  | 0, r => r
  | n + 1, r => .unusable :: gap n r
def poolList (es : List (Nat × CpInfo)) (last : Nat) : List CpInfo := es.foldr (fun e r => gap e.1 (e.2 :: r)) (gap last [])
def pool (es : List (Nat × CpInfo)) (last : Nat) : Array CpInfo := ⟨poolList es last⟩
def fileOf (pool : Array CpInfo) (this : Nat) (attrs : Array Attribute := #[]) (ms : Array MethodInfo := #[]) (fl : Nat := 33) (sup : Nat := 0) (ifs : Array Nat := #[]) (fds : Array FieldInfo := #[]) : ClassFile where
  minorVersion := 0
  majorVersion := 65
  constantPool := pool
  accessFlags := fl
  thisClass := this
  superClass := sup
  interfaces := ifs
  fields := fds
  methods := ms
  attributes := attrs
def plain (name : String) (sup : Option ClassId) : Class where
  name := name
  kind := .ordinary
  loader := none
  accessFlags := 33
  super := sup
  interfaces := #[]
  cf := none
  fields := #[]
  methods := #[]
  instanceTypes := #[]
  staticTypes := #[]
  resolved := #[]
  callSites := []
  init := .initialized
  statics := none
  mirror := none

def pool0 : Array CpInfo := pool [(5, u "<init>"), (0, u "()V"), (1, .class_ 10), (1, u "java/lang/Object")] 113

def k0c0 : Code := { maxStack := 0, maxLocals := 1, code := object_method_1_code, exceptionTable := #[], attributes := #[] }
def k0m0 : Method := { name := "<init>", desc := "()V", sig := { parameters := [], returnType := none }, accessFlags := 1, code := some k0c0 }
/-- java/lang/Object -/
def k0 : Class := { plain "java/lang/Object" none with
  accessFlags := 33
  interfaces := #[]
  cf := some (fileOf pool0 8 #[] #[{ accessFlags := 1, nameIndex := 5, descriptorIndex := 6, attributes := #[] }] 33 0 #[] #[])
  fields := #[]
  methods := #[k0m0]
  instanceTypes := #[]
  staticTypes := #[]
  resolved := Array.replicate 124 none
  statics := none }

def pool1 : Array CpInfo := pool [(2, .class_ 4), (0, .nameAndType 5 6), (0, u "java/lang/Object"), (0, u "<init>"), (0, u "()V"), (0, .long 2097151), (1, .integer 2147483647), (0, .class_ 11), (0, u "com/example/urchin/urchin/service/Silence$Handover"), (0, .methodref 10 3), (0, .methodref 10 14), (0, .nameAndType 15 16), (0, u "handed"), (0, u "(JI)V"), (0, .long 1048576), (1, .methodref 10 20), (0, .nameAndType 21 22), (0, u "drain"), (0, u "(J)J"), (0, .long 1000000), (1, .class_ 26), (0, u "com/example/urchin/urchin/service/HandoverHandedPinLaw"), (2, u "law"), (0, u "(JJII)Z")] 7

def k1m0 : Method := { name := "<init>", desc := "()V", sig := { parameters := [], returnType := none }, accessFlags := 1, code := none }
def k1c1 : Code := { maxStack := 8, maxLocals := 19, code := code, exceptionTable := #[], attributes := #[] }
def k1m1 : Method := { name := "law", desc := "(JJII)Z", sig := { parameters := [.long, .long, .int, .int], returnType := some .boolean }, accessFlags := 9, code := some k1c1 }
/-- com/example/urchin/urchin/service/HandoverHandedPinLaw -/
def k1 : Class := { plain "com/example/urchin/urchin/service/HandoverHandedPinLaw" (some 0) with
  accessFlags := 49
  interfaces := #[]
  cf := some (fileOf pool1 25 #[] #[{ accessFlags := 1, nameIndex := 5, descriptorIndex := 6, attributes := #[] }, { accessFlags := 9, nameIndex := 29, descriptorIndex := 30, attributes := #[] }] 49 2 #[] #[])
  fields := #[]
  methods := #[k1m0, k1m1]
  instanceTypes := #[]
  staticTypes := #[]
  resolved := Array.replicate 38 none
  statics := none }

def pool2 : Array CpInfo := pool [(3, .methodref 4 5), (0, .class_ 6), (0, .nameAndType 7 8), (0, u "java/lang/Object"), (0, u "<init>"), (0, u "()V"), (0, .class_ 10), (0, u "com/example/urchin/urchin/service/Silence$Handover"), (0, .fieldref 9 12), (0, .nameAndType 13 14), (0, u "times"), (0, u "[J"), (0, .fieldref 9 16), (0, .nameAndType 17 14), (0, u "counts"), (0, .fieldref 19 20), (0, .class_ 21), (0, .nameAndType 22 23), (0, u "java/util/concurrent/TimeUnit"), (0, u "MILLISECONDS"), (0, u "Ljava/util/concurrent/TimeUnit;"), (0, .methodref 19 25), (0, .nameAndType 26 27), (0, u "toNanos"), (0, u "(J)J"), (0, .fieldref 9 29), (0, .nameAndType 30 31), (0, u "spacing"), (0, u "J"), (0, .fieldref 9 33), (0, .nameAndType 34 35), (0, u "kept"), (0, u "I"), (3, .fieldref 9 40), (0, .nameAndType 41 31), (0, u "count"), (0, .long 2), (2, .class_ 47), (1, u "java/lang/Math"), (0, u "max"), (1, .methodref 45 51), (0, .nameAndType 48 52), (0, u "(DD)D"), (0, .double 4881901996069617664), (1, .methodref 45 56), (0, .nameAndType 57 52), (0, u "min"), (0, u "MOMENTS"), (2, u "LONGEST"), (4, u "handed"), (0, u "(JI)V"), (1, u "drain"), (3, .class_ 74), (0, u "com/example/urchin/urchin/service/Silence")] 2

def k2c0 : Code := { maxStack := 4, maxLocals := 1, code := prog_25_method_1_code, exceptionTable := #[], attributes := #[] }
def k2m0 : Method := { name := "<init>", desc := "()V", sig := { parameters := [], returnType := none }, accessFlags := 0, code := some k2c0 }
def k2c1 : Code := { maxStack := 5, maxLocals := 4, code := prog_25_method_2_code, exceptionTable := #[], attributes := #[] }
def k2m1 : Method := { name := "handed", desc := "(JI)V", sig := { parameters := [.long, .int], returnType := none }, accessFlags := 0, code := some k2c1 }
def k2c2 : Code := { maxStack := 10, maxLocals := 15, code := prog_25_method_4_code, exceptionTable := #[], attributes := #[] }
def k2m2 : Method := { name := "drain", desc := "(J)J", sig := { parameters := [.long], returnType := some .long }, accessFlags := 0, code := some k2c2 }
/-- com/example/urchin/urchin/service/Silence$Handover -/
def k2 : Class := { plain "com/example/urchin/urchin/service/Silence$Handover" (some 0) with
  accessFlags := 32
  interfaces := #[]
  cf := some (fileOf pool2 9 #[.nestHost 73] #[{ accessFlags := 0, nameIndex := 7, descriptorIndex := 8, attributes := #[] }, { accessFlags := 0, nameIndex := 66, descriptorIndex := 67, attributes := #[] }, { accessFlags := 0, nameIndex := 69, descriptorIndex := 27, attributes := #[] }] 32 4 #[] #[{ accessFlags := 26, nameIndex := 58, descriptorIndex := 35, attributes := #[] }, { accessFlags := 26, nameIndex := 61, descriptorIndex := 31, attributes := #[] }, { accessFlags := 18, nameIndex := 13, descriptorIndex := 14, attributes := #[] }, { accessFlags := 18, nameIndex := 17, descriptorIndex := 14, attributes := #[] }, { accessFlags := 2, nameIndex := 34, descriptorIndex := 35, attributes := #[] }, { accessFlags := 2, nameIndex := 30, descriptorIndex := 31, attributes := #[] }, { accessFlags := 2, nameIndex := 41, descriptorIndex := 31, attributes := #[] }])
  fields := #[{ name := "MOMENTS", type := .int, accessFlags := 26, slot := 0, constantValue := 0 }, { name := "LONGEST", type := .long, accessFlags := 26, slot := 1, constantValue := 0 }, { name := "times", type := (.array .long), accessFlags := 18, slot := 0, constantValue := 0 }, { name := "counts", type := (.array .long), accessFlags := 18, slot := 1, constantValue := 0 }, { name := "kept", type := .int, accessFlags := 2, slot := 2, constantValue := 0 }, { name := "spacing", type := .long, accessFlags := 2, slot := 3, constantValue := 0 }, { name := "count", type := .long, accessFlags := 2, slot := 4, constantValue := 0 }]
  methods := #[k2m0, k2m1, k2m2]
  instanceTypes := #[(.array .long), (.array .long), .int, .long, .long]
  staticTypes := #[.int, .long]
  resolved := Array.replicate 77 none
  statics := none }

def pool3 : Array CpInfo := pool [(1, .class_ 2), (0, u "java/lang/constant/Constable"), (0, .class_ 4), (0, u "java/lang/Object")] 6

/-- java/lang/constant/Constable -/
def k3 : Class := { plain "java/lang/constant/Constable" (some 0) with
  accessFlags := 1537
  interfaces := #[]
  cf := some (fileOf pool3 1 #[] #[] 1537 3 #[] #[])
  fields := #[]
  methods := #[]
  instanceTypes := #[]
  staticTypes := #[]
  resolved := Array.replicate 11 none
  statics := none }

def pool4 : Array CpInfo := pool [(1, .class_ 2), (0, u "java/lang/Comparable"), (0, .class_ 4), (0, u "java/lang/Object")] 7

/-- java/lang/Comparable -/
def k4 : Class := { plain "java/lang/Comparable" (some 0) with
  accessFlags := 1537
  interfaces := #[]
  cf := some (fileOf pool4 1 #[] #[] 1537 3 #[] #[])
  fields := #[]
  methods := #[]
  instanceTypes := #[]
  staticTypes := #[]
  resolved := Array.replicate 12 none
  statics := none }

def pool5 : Array CpInfo := pool [(1, .class_ 2), (0, u "java/io/Serializable"), (0, .class_ 4), (0, u "java/lang/Object")] 2

/-- java/io/Serializable -/
def k5 : Class := { plain "java/io/Serializable" (some 0) with
  accessFlags := 1537
  interfaces := #[]
  cf := some (fileOf pool5 1 #[] #[] 1537 3 #[] #[])
  fields := #[]
  methods := #[]
  instanceTypes := #[]
  staticTypes := #[]
  resolved := Array.replicate 7 none
  statics := none }

def pool6 : Array CpInfo := pool [(2, .class_ 4), (1, u "java/lang/Enum"), (0, u "name"), (0, u "Ljava/lang/String;"), (2, u "ordinal"), (0, u "I"), (1, .class_ 14), (1, u "java/lang/Object"), (4, u "hash"), (86, .class_ 108), (1, u "java/lang/Enum$EnumDesc"), (2, .class_ 112), (0, u "java/lang/constant/Constable"), (0, .class_ 114), (0, u "java/lang/Comparable"), (0, .class_ 116), (0, u "java/io/Serializable")] 87

/-- java/lang/Enum -/
def k6 : Class := { plain "java/lang/Enum" (some 0) with
  accessFlags := 1057
  interfaces := #[3, 4, 5]
  cf := some (fileOf pool6 2 #[.nestMembers #[106]] #[] 1057 12 #[111, 113, 115] #[{ accessFlags := 18, nameIndex := 5, descriptorIndex := 6, attributes := #[] }, { accessFlags := 18, nameIndex := 9, descriptorIndex := 10, attributes := #[] }, { accessFlags := 2, nameIndex := 19, descriptorIndex := 10, attributes := #[] }])
  fields := #[{ name := "name", type := (.object "java/lang/String"), accessFlags := 18, slot := 0, constantValue := 0 }, { name := "ordinal", type := .int, accessFlags := 18, slot := 1, constantValue := 0 }, { name := "hash", type := .int, accessFlags := 2, slot := 2, constantValue := 0 }]
  methods := #[]
  instanceTypes := #[(.object "java/lang/String"), .int, .int]
  staticTypes := #[]
  resolved := Array.replicate 204 none
  statics := none }

def pool7 : Array CpInfo := pool [(1, .class_ 2), (0, u "java/util/concurrent/TimeUnit"), (2, u "NANOSECONDS"), (0, u "Ljava/util/concurrent/TimeUnit;"), (2, u "MICROSECONDS"), (2, u "MILLISECONDS"), (2, u "SECONDS"), (2, u "MINUTES"), (2, u "HOURS"), (2, u "DAYS"), (2, u "$VALUES"), (0, u "[Ljava/util/concurrent/TimeUnit;"), (6, .class_ 37), (1, u "java/lang/Enum"), (6, .fieldref 1 45), (0, .nameAndType 46 47), (0, u "scale"), (0, u "J"), (4, .fieldref 1 53), (0, .nameAndType 54 47), (0, u "maxNanos"), (4, u "microRatio"), (2, u "maxMicros"), (4, u "milliRatio"), (0, u "I"), (2, u "maxMillis"), (4, u "secRatio"), (2, u "maxSecs"), (8, u "toNanos"), (0, u "(J)J"), (73, .class_ 165), (1, u "java/util/concurrent/TimeUnit$1"), (46, u "NANO_SCALE"), (3, u "MICRO_SCALE"), (0, u "MILLI_SCALE"), (0, u "SECOND_SCALE"), (0, u "MINUTE_SCALE"), (0, u "HOUR_SCALE"), (0, u "DAY_SCALE")] 61

def k7c0 : Code := { maxStack := 6, maxLocals := 7, code := jdk_2799_method_7_code, exceptionTable := #[], attributes := #[] }
def k7m0 : Method := { name := "toNanos", desc := "(J)J", sig := { parameters := [.long], returnType := some .long }, accessFlags := 1, code := some k7c0 }
/-- java/util/concurrent/TimeUnit -/
def k7 : Class := { plain "java/util/concurrent/TimeUnit" (some 6) with
  accessFlags := 16433
  interfaces := #[]
  cf := some (fileOf pool7 1 #[.nestMembers #[163]] #[{ accessFlags := 1, nameIndex := 88, descriptorIndex := 89, attributes := #[] }] 16433 35 #[] #[{ accessFlags := 16409, nameIndex := 5, descriptorIndex := 6, attributes := #[] }, { accessFlags := 16409, nameIndex := 9, descriptorIndex := 6, attributes := #[] }, { accessFlags := 16409, nameIndex := 12, descriptorIndex := 6, attributes := #[] }, { accessFlags := 16409, nameIndex := 15, descriptorIndex := 6, attributes := #[] }, { accessFlags := 16409, nameIndex := 18, descriptorIndex := 6, attributes := #[] }, { accessFlags := 16409, nameIndex := 21, descriptorIndex := 6, attributes := #[] }, { accessFlags := 16409, nameIndex := 24, descriptorIndex := 6, attributes := #[] }, { accessFlags := 26, nameIndex := 212, descriptorIndex := 47, attributes := #[] }, { accessFlags := 26, nameIndex := 216, descriptorIndex := 47, attributes := #[] }, { accessFlags := 26, nameIndex := 217, descriptorIndex := 47, attributes := #[] }, { accessFlags := 26, nameIndex := 218, descriptorIndex := 47, attributes := #[] }, { accessFlags := 26, nameIndex := 219, descriptorIndex := 47, attributes := #[] }, { accessFlags := 26, nameIndex := 220, descriptorIndex := 47, attributes := #[] }, { accessFlags := 26, nameIndex := 221, descriptorIndex := 47, attributes := #[] }, { accessFlags := 18, nameIndex := 46, descriptorIndex := 47, attributes := #[] }, { accessFlags := 18, nameIndex := 54, descriptorIndex := 47, attributes := #[] }, { accessFlags := 18, nameIndex := 62, descriptorIndex := 47, attributes := #[] }, { accessFlags := 18, nameIndex := 71, descriptorIndex := 47, attributes := #[] }, { accessFlags := 18, nameIndex := 79, descriptorIndex := 47, attributes := #[] }, { accessFlags := 18, nameIndex := 59, descriptorIndex := 47, attributes := #[] }, { accessFlags := 18, nameIndex := 67, descriptorIndex := 68, attributes := #[] }, { accessFlags := 18, nameIndex := 76, descriptorIndex := 68, attributes := #[] }, { accessFlags := 4122, nameIndex := 27, descriptorIndex := 28, attributes := #[] }])
  fields := #[{ name := "NANOSECONDS", type := (.object "java/util/concurrent/TimeUnit"), accessFlags := 16409, slot := 0, constantValue := 0 }, { name := "MICROSECONDS", type := (.object "java/util/concurrent/TimeUnit"), accessFlags := 16409, slot := 1, constantValue := 0 }, { name := "MILLISECONDS", type := (.object "java/util/concurrent/TimeUnit"), accessFlags := 16409, slot := 2, constantValue := 0 }, { name := "SECONDS", type := (.object "java/util/concurrent/TimeUnit"), accessFlags := 16409, slot := 3, constantValue := 0 }, { name := "MINUTES", type := (.object "java/util/concurrent/TimeUnit"), accessFlags := 16409, slot := 4, constantValue := 0 }, { name := "HOURS", type := (.object "java/util/concurrent/TimeUnit"), accessFlags := 16409, slot := 5, constantValue := 0 }, { name := "DAYS", type := (.object "java/util/concurrent/TimeUnit"), accessFlags := 16409, slot := 6, constantValue := 0 }, { name := "NANO_SCALE", type := .long, accessFlags := 26, slot := 7, constantValue := 0 }, { name := "MICRO_SCALE", type := .long, accessFlags := 26, slot := 8, constantValue := 0 }, { name := "MILLI_SCALE", type := .long, accessFlags := 26, slot := 9, constantValue := 0 }, { name := "SECOND_SCALE", type := .long, accessFlags := 26, slot := 10, constantValue := 0 }, { name := "MINUTE_SCALE", type := .long, accessFlags := 26, slot := 11, constantValue := 0 }, { name := "HOUR_SCALE", type := .long, accessFlags := 26, slot := 12, constantValue := 0 }, { name := "DAY_SCALE", type := .long, accessFlags := 26, slot := 13, constantValue := 0 }, { name := "scale", type := .long, accessFlags := 18, slot := 3, constantValue := 0 }, { name := "maxNanos", type := .long, accessFlags := 18, slot := 4, constantValue := 0 }, { name := "maxMicros", type := .long, accessFlags := 18, slot := 5, constantValue := 0 }, { name := "maxMillis", type := .long, accessFlags := 18, slot := 6, constantValue := 0 }, { name := "maxSecs", type := .long, accessFlags := 18, slot := 7, constantValue := 0 }, { name := "microRatio", type := .long, accessFlags := 18, slot := 8, constantValue := 0 }, { name := "milliRatio", type := .int, accessFlags := 18, slot := 9, constantValue := 0 }, { name := "secRatio", type := .int, accessFlags := 18, slot := 10, constantValue := 0 }, { name := "$VALUES", type := (.array (.object "java/util/concurrent/TimeUnit")), accessFlags := 4122, slot := 14, constantValue := 0 }]
  methods := #[k7m0]
  instanceTypes := #[(.object "java/lang/String"), .int, .int, .long, .long, .long, .long, .long, .long, .int, .int]
  staticTypes := #[(.object "java/util/concurrent/TimeUnit"), (.object "java/util/concurrent/TimeUnit"), (.object "java/util/concurrent/TimeUnit"), (.object "java/util/concurrent/TimeUnit"), (.object "java/util/concurrent/TimeUnit"), (.object "java/util/concurrent/TimeUnit"), (.object "java/util/concurrent/TimeUnit"), .long, .long, .long, .long, .long, .long, .long, (.array (.object "java/util/concurrent/TimeUnit"))]
  resolved := Array.replicate 283 none
  statics := some 0 }

def pool8 : Array CpInfo := pool [(1, .class_ 2), (0, u "java/lang/Math"), (1, .class_ 6), (1, u "java/lang/Object"), (0, u "<init>"), (0, u "()V"), (43, u "(DD)D"), (45, .class_ 100), (1, u "java/lang/Math$RandomNumberGeneratorHolder"), (71, u "negativeZeroFloatBits"), (0, u "J"), (2, u "negativeZeroDoubleBits"), (21, u "max"), (2, u "min"), (43, u "$assertionsDisabled"), (0, u "Z"), (91, u "twoToTheDoubleScaleDown"), (0, u "D"), (4, u "twoToTheDoubleScaleUp"), (9, u "E"), (3, u "PI"), (2, u "TAU"), (2, u "DEGREES_TO_RADIANS"), (0, u "RADIANS_TO_DEGREES")] 94

def k8m0 : Method := { name := "<init>", desc := "()V", sig := { parameters := [], returnType := none }, accessFlags := 2, code := none }
def k8c1 : Code := { maxStack := 4, maxLocals := 4, code := jdk_29_method_68_code, exceptionTable := #[], attributes := #[] }
def k8m1 : Method := { name := "max", desc := "(DD)D", sig := { parameters := [.double, .double], returnType := some .double }, accessFlags := 9, code := some k8c1 }
def k8c2 : Code := { maxStack := 4, maxLocals := 4, code := jdk_29_method_72_code, exceptionTable := #[], attributes := #[] }
def k8m2 : Method := { name := "min", desc := "(DD)D", sig := { parameters := [.double, .double], returnType := some .double }, accessFlags := 9, code := some k8c2 }
/-- java/lang/Math -/
def k8 : Class := { plain "java/lang/Math" (some 0) with
  accessFlags := 49
  interfaces := #[]
  cf := some (fileOf pool8 1 #[.nestMembers #[98]] #[{ accessFlags := 2, nameIndex := 7, descriptorIndex := 8, attributes := #[] }, { accessFlags := 9, nameIndex := 198, descriptorIndex := 52, attributes := #[] }, { accessFlags := 9, nameIndex := 201, descriptorIndex := 52, attributes := #[] }] 49 4 #[] #[{ accessFlags := 25, nameIndex := 354, descriptorIndex := 339, attributes := #[] }, { accessFlags := 25, nameIndex := 358, descriptorIndex := 339, attributes := #[] }, { accessFlags := 25, nameIndex := 361, descriptorIndex := 339, attributes := #[] }, { accessFlags := 26, nameIndex := 364, descriptorIndex := 339, attributes := #[] }, { accessFlags := 26, nameIndex := 365, descriptorIndex := 339, attributes := #[] }, { accessFlags := 26, nameIndex := 172, descriptorIndex := 173, attributes := #[] }, { accessFlags := 26, nameIndex := 176, descriptorIndex := 173, attributes := #[] }, { accessFlags := 8, nameIndex := 344, descriptorIndex := 339, attributes := #[] }, { accessFlags := 8, nameIndex := 338, descriptorIndex := 339, attributes := #[] }, { accessFlags := 4120, nameIndex := 245, descriptorIndex := 246, attributes := #[] }])
  fields := #[{ name := "E", type := .double, accessFlags := 25, slot := 0, constantValue := 0 }, { name := "PI", type := .double, accessFlags := 25, slot := 1, constantValue := 0 }, { name := "TAU", type := .double, accessFlags := 25, slot := 2, constantValue := 0 }, { name := "DEGREES_TO_RADIANS", type := .double, accessFlags := 26, slot := 3, constantValue := 0 }, { name := "RADIANS_TO_DEGREES", type := .double, accessFlags := 26, slot := 4, constantValue := 0 }, { name := "negativeZeroFloatBits", type := .long, accessFlags := 26, slot := 5, constantValue := 0 }, { name := "negativeZeroDoubleBits", type := .long, accessFlags := 26, slot := 6, constantValue := 0 }, { name := "twoToTheDoubleScaleUp", type := .double, accessFlags := 8, slot := 7, constantValue := 0 }, { name := "twoToTheDoubleScaleDown", type := .double, accessFlags := 8, slot := 8, constantValue := 0 }, { name := "$assertionsDisabled", type := .boolean, accessFlags := 4120, slot := 9, constantValue := 0 }]
  methods := #[k8m0, k8m1, k8m2]
  instanceTypes := #[]
  staticTypes := #[.double, .double, .double, .double, .double, .long, .long, .double, .double, .boolean]
  resolved := Array.replicate 460 none
  statics := none }

def pool9 : Array CpInfo := pool [(2, .class_ 4), (1, u "java/lang/CharSequence"), (42, .class_ 48), (0, u "java/lang/CharSequence$1CodePointIterator"), (10, .class_ 60), (0, u "java/lang/CharSequence$1CharIterator"), (5, .class_ 67), (0, u "java/lang/Object")] 63

/-- java/lang/CharSequence -/
def k9 : Class := { plain "java/lang/CharSequence" (some 0) with
  accessFlags := 1537
  interfaces := #[]
  cf := some (fileOf pool9 2 #[.nestMembers #[47, 59]] #[] 1537 66 #[] #[])
  fields := #[]
  methods := #[]
  instanceTypes := #[]
  staticTypes := #[]
  resolved := Array.replicate 131 none
  statics := none }

def pool10 : Array CpInfo := pool [(1, .class_ 2), (0, u "java/lang/constant/ConstantDesc"), (0, .class_ 4), (0, u "java/lang/Object")] 32

/-- java/lang/constant/ConstantDesc -/
def k10 : Class := { plain "java/lang/constant/ConstantDesc" (some 0) with
  accessFlags := 1537
  interfaces := #[]
  cf := some (fileOf pool10 1 #[] #[] 1537 3 #[] #[])
  fields := #[]
  methods := #[]
  instanceTypes := #[]
  staticTypes := #[]
  resolved := Array.replicate 37 none
  statics := none }

def pool11 : Array CpInfo := pool [(2, .class_ 4), (1, u "java/lang/Object"), (0, u "<init>"), (0, u "()V"), (3, .class_ 12), (1, u "java/lang/String"), (0, u "value"), (0, u "[B"), (2, u "coder"), (0, u "B"), (2, u "hash"), (0, u "I"), (2, u "hashIsZero"), (0, u "Z"), (13, u "COMPACT_STRINGS"), (534, .class_ 576), (0, u "java/lang/CharSequence"), (22, u "CASE_INSENSITIVE_ORDER"), (0, u "Ljava/util/Comparator;"), (500, u "serialPersistentFields"), (0, u "[Ljava/io/ObjectStreamField;"), (0, .class_ 1104), (0, u "java/lang/String$CaseInsensitiveComparator"), (1, .class_ 1107), (0, u "java/io/Serializable"), (0, .class_ 1109), (0, u "java/lang/Comparable"), (0, .class_ 1111), (0, u "java/lang/constant/Constable"), (0, .class_ 1113), (0, u "java/lang/constant/ConstantDesc"), (2, u "serialVersionUID"), (0, u "J"), (3, u "REPL"), (0, u "C"), (2, u "LATIN1"), (1, u "UTF16")] 323

def k11m0 : Method := { name := "<init>", desc := "()V", sig := { parameters := [], returnType := none }, accessFlags := 1, code := none }
/-- java/lang/String -/
def k11 : Class := { plain "java/lang/String" (some 0) with
  accessFlags := 49
  interfaces := #[5, 4, 9, 3, 10]
  cf := some (fileOf pool11 10 #[.nestMembers #[1103]] #[{ accessFlags := 1, nameIndex := 5, descriptorIndex := 6, attributes := #[] }] 49 2 #[1106, 1108, 575, 1110, 1112] #[{ accessFlags := 18, nameIndex := 13, descriptorIndex := 14, attributes := #[] }, { accessFlags := 18, nameIndex := 17, descriptorIndex := 18, attributes := #[] }, { accessFlags := 2, nameIndex := 21, descriptorIndex := 22, attributes := #[] }, { accessFlags := 2, nameIndex := 25, descriptorIndex := 26, attributes := #[] }, { accessFlags := 26, nameIndex := 1116, descriptorIndex := 1117, attributes := #[] }, { accessFlags := 24, nameIndex := 40, descriptorIndex := 26, attributes := #[] }, { accessFlags := 26, nameIndex := 1101, descriptorIndex := 1102, attributes := #[] }, { accessFlags := 26, nameIndex := 1121, descriptorIndex := 1122, attributes := #[] }, { accessFlags := 25, nameIndex := 599, descriptorIndex := 600, attributes := #[] }, { accessFlags := 24, nameIndex := 1125, descriptorIndex := 18, attributes := #[] }, { accessFlags := 24, nameIndex := 1127, descriptorIndex := 18, attributes := #[] }])
  fields := #[{ name := "value", type := (.array .byte), accessFlags := 18, slot := 0, constantValue := 0 }, { name := "coder", type := .byte, accessFlags := 18, slot := 1, constantValue := 0 }, { name := "hash", type := .int, accessFlags := 2, slot := 2, constantValue := 0 }, { name := "hashIsZero", type := .boolean, accessFlags := 2, slot := 3, constantValue := 0 }, { name := "serialVersionUID", type := .long, accessFlags := 26, slot := 0, constantValue := 0 }, { name := "COMPACT_STRINGS", type := .boolean, accessFlags := 24, slot := 1, constantValue := 0 }, { name := "serialPersistentFields", type := (.array (.object "java/io/ObjectStreamField")), accessFlags := 26, slot := 2, constantValue := 0 }, { name := "REPL", type := .char, accessFlags := 26, slot := 3, constantValue := 0 }, { name := "CASE_INSENSITIVE_ORDER", type := (.object "java/util/Comparator"), accessFlags := 25, slot := 4, constantValue := 0 }, { name := "LATIN1", type := .byte, accessFlags := 24, slot := 5, constantValue := 0 }, { name := "UTF16", type := .byte, accessFlags := 24, slot := 6, constantValue := 0 }]
  methods := #[k11m0]
  instanceTypes := #[(.array .byte), .byte, .int, .boolean]
  staticTypes := #[.long, .boolean, (.array (.object "java/io/ObjectStreamField")), .char, (.object "java/util/Comparator"), .byte, .byte]
  resolved := Array.replicate 1451 none
  statics := none }

def pool12 : Array CpInfo := pool [(1, u "java/lang/Cloneable"), (0, .class_ 1), (0, u "java/lang/Object"), (0, .class_ 3)] 3

/-- java/lang/Cloneable -/
def k12 : Class := { plain "java/lang/Cloneable" (some 0) with
  accessFlags := 1537
  interfaces := #[]
  cf := some (fileOf pool12 2 #[] #[] 1537 4 #[] #[])
  fields := #[]
  methods := #[]
  instanceTypes := #[]
  staticTypes := #[]
  resolved := Array.replicate 8 none
  statics := none }

/-- the primitive byte -/
def k13 : Class := { plain "byte" none with kind := .primitive 'B', accessFlags := 0x411 }
/-- [B -/
def k14 : Class := { plain "[B" (some 0) with kind := .array 13 .byte, interfaces := #[12, 5], accessFlags := 1041 }

/-- the primitive int -/
def k15 : Class := { plain "int" none with kind := .primitive 'I', accessFlags := 0x411 }
/-- [I -/
def k16 : Class := { plain "[I" (some 0) with kind := .array 15 .int, interfaces := #[12, 5], accessFlags := 1041 }

/-- the primitive long -/
def k17 : Class := { plain "long" none with kind := .primitive 'J', accessFlags := 0x411 }
/-- [J -/
def k18 : Class := { plain "[J" (some 0) with kind := .array 17 .long, interfaces := #[12, 5], accessFlags := 1041 }

def heap : Heap := #[{ cls := 7, slots := #[.null, .null, .ref 2, .null, .null, .null, .null, .long 0, .long 0, .long 0, .long 0, .long 0, .long 0, .long 0, .null], vm := .statics 7 },
  { cls := 11, slots := #[.null, .int 0, .int 0, .int 0], vm := .none },
  { cls := 7, slots := #[.ref 1, .int 2, .int 0, .long 1000000, .long 9223372036854, .long 9223372036854775, .long 9223372036854775807, .long 9223372036854775, .long 1000, .int 1, .int 1000], vm := .none }]
def classes : Array Class := #[k0, k1, k2, k3, k4, k5, k6, k7, k8, k9, k10, k11, k12, k13, k14, k15, k16, k17, k18]
def interned : List (Array UInt16 × Addr) := []
def slotsUsed : Nat := 30
def theMethod : MethodId := ⟨1, 1⟩
def args0 : Array Value := #[.long 0, .long 0, .int 0, .int 0]
def aboutOver (below : List Frame) : State where
  vm := { classes := classes, interned := interned.toArray }
  heap := heap
  slotsUsed := slotsUsed
  threads := #[{ frames := .invoking theMethod args0 :: below }]
def below0 : List Frame := [.native { method := ⟨0, 0⟩, args := #[] }]
def about1 : State := aboutOver below0
def p0 : Program := .bare "" "" ""
def e0 : Env := launch0.env 0 0 0
theorem w_frames : about1.frames = Frame.invoking theMethod args0 :: below0 := rfl
set_option maxRecDepth 65536 in
theorem w_args : argsFit about1.vm theMethod args0 = true := by decide +kernel
set_option maxRecDepth 65536 in
theorem w_heap : heapFits about1 = true := by decide +kernel
set_option maxRecDepth 65536 in
theorem w_runnable : about1.curStatus? = some .runnable := by decide +kernel
set_option maxRecDepth 65536 in
theorem w_alone : about1.alone = true := by decide +kernel
set_option maxRecDepth 65536 in
theorem w_named : about1.methodNamed? x = some theMethod := by decide +kernel
set_option maxRecDepth 65536 in
theorem w_hears : about1.hears theMethod below0 = true := by decide +kernel
set_option maxRecDepth 65536 in
theorem w_ripe : about1.ripe theMethod args0 below0 = true := by decide +kernel
theorem w_running : about1.status = .running := rfl
set_option maxRecDepth 65536 in
theorem w_room : about1.hasRoom e0.platform room_1 = true :=
  launch0.hasRoom_least _ room_1 (by decide +kernel) (by decide +kernel) (by decide +kernel) (by decide +kernel) (by decide +kernel) (by decide +kernel)
theorem allAtoms_all (ts : List Jvm.Cond) (a : Array Jvm.Value) (st : Jvm.State) : (allAtoms ts).before a st = ts.all (fun c => c.before a st) := by
  induction ts with
  | nil => rfl
  | cons c t ih =>
    show (Jvm.Cond.and c (allAtoms t)).before a st = _
    rw [Jvm.Cond.before_and, ih, List.all_cons]
def words1 : List Jvm.Cond := Jvm.Cond.code x code maxLocals ret :: tables_1
/-- a 'code' word, met by the world's own term for the bytes: nothing is compared byte by byte -/
theorem code_word {y : MethodName} {bytes : ByteArray} {mx : Nat} {rt : Option FieldType} {a : Array Value} {s : State} {m : MethodId} {meth : Method} {c : Code} (h1 : s.methodNamed? y = some m) (h2 : s.vm.method? m = some meth) (h3 : meth.code = some c) (h4 : c.code = bytes)
    (h5 : (c.maxLocals == mx && c.exceptionTable.isEmpty && decide (c.maxStack ≤ mostOperands) && decide (meth.sig.returnType = rt) && !meth.locks && decide (parseMethodDescriptor y.desc = some meth.sig)) = true) : (Jvm.Cond.code y bytes mx rt).before a s = true := by
  simp only [Bool.and_eq_true, beq_iff_eq, Bool.not_eq_true', decide_eq_true_eq] at h5
  obtain ⟨⟨⟨⟨⟨g1, g2⟩, g3⟩, g4⟩, g5⟩, g6⟩ := h5
  simp [Cond.before, Cond.holds, Cond.value, h1, h2, h3, h4, g1, g2, g3, g4, g5, g6]
def isCode : Jvm.Cond → Bool
  | .code _ _ _ _ => true
  | _ => false
theorem all_split {L : List Jvm.Cond} {P : Jvm.Cond → Bool} (h1 : L.all (fun c => isCode c || P c) = true) (h2 : ∀ c ∈ L.filter isCode, P c = true) : L.all P = true := by
  refine List.all_eq_true.mpr fun c hc => ?_
  have h := List.all_eq_true.mp h1 c hc
  rcases Bool.eq_false_or_eq_true (isCode c) with hi | hi
  · exact h2 c (List.mem_filter.mpr ⟨hc, hi⟩)
  · simpa [hi] using h
set_option maxRecDepth 65536 in
theorem w_c0 : (Jvm.Cond.code x code maxLocals ret).before args0 about1 = true := code_word (m := ⟨1, 1⟩) (meth := k1m1) (c := k1c1) (by decide +kernel) rfl rfl rfl (by decide +kernel)
set_option maxRecDepth 65536 in
theorem w_c1 : (Jvm.Cond.code ({ cls := "com/example/urchin/urchin/service/Silence$Handover", name := "<init>", desc := "()V" } : Jvm.MethodName) prog_25_method_1_code (1 : Nat) (Option.none : Option Jvm.ClassFile.FieldType)).before args0 about1 = true := code_word (m := ⟨2, 0⟩) (meth := k2m0) (c := k2c0) (by decide +kernel) rfl rfl rfl (by decide +kernel)
set_option maxRecDepth 65536 in
theorem w_c2 : (Jvm.Cond.code ({ cls := "java/lang/Object", name := "<init>", desc := "()V" } : Jvm.MethodName) object_method_1_code (1 : Nat) (Option.none : Option Jvm.ClassFile.FieldType)).before args0 about1 = true := code_word (m := ⟨0, 0⟩) (meth := k0m0) (c := k0c0) (by decide +kernel) rfl rfl rfl (by decide +kernel)
set_option maxRecDepth 65536 in
theorem w_c3 : (Jvm.Cond.code ({ cls := "java/util/concurrent/TimeUnit", name := "toNanos", desc := "(J)J" } : Jvm.MethodName) jdk_2799_method_7_code (7 : Nat) (Option.some Jvm.ClassFile.FieldType.long)).before args0 about1 = true := code_word (m := ⟨7, 0⟩) (meth := k7m0) (c := k7c0) (by decide +kernel) rfl rfl rfl (by decide +kernel)
set_option maxRecDepth 65536 in
theorem w_c4 : (Jvm.Cond.code ({ cls := "com/example/urchin/urchin/service/Silence$Handover", name := "handed", desc := "(JI)V" } : Jvm.MethodName) prog_25_method_2_code (4 : Nat) (Option.none : Option Jvm.ClassFile.FieldType)).before args0 about1 = true := code_word (m := ⟨2, 1⟩) (meth := k2m1) (c := k2c1) (by decide +kernel) rfl rfl rfl (by decide +kernel)
set_option maxRecDepth 65536 in
theorem w_c5 : (Jvm.Cond.code ({ cls := "com/example/urchin/urchin/service/Silence$Handover", name := "drain", desc := "(J)J" } : Jvm.MethodName) prog_25_method_4_code (15 : Nat) (Option.some Jvm.ClassFile.FieldType.long)).before args0 about1 = true := code_word (m := ⟨2, 2⟩) (meth := k2m2) (c := k2c2) (by decide +kernel) rfl rfl rfl (by decide +kernel)
set_option maxRecDepth 65536 in
theorem w_c6 : (Jvm.Cond.code ({ cls := "java/lang/Math", name := "max", desc := "(DD)D" } : Jvm.MethodName) jdk_29_method_68_code (4 : Nat) (Option.some Jvm.ClassFile.FieldType.double)).before args0 about1 = true := code_word (m := ⟨8, 1⟩) (meth := k8m1) (c := k8c1) (by decide +kernel) rfl rfl rfl (by decide +kernel)
set_option maxRecDepth 65536 in
theorem w_c7 : (Jvm.Cond.code ({ cls := "java/lang/Math", name := "min", desc := "(DD)D" } : Jvm.MethodName) jdk_29_method_72_code (4 : Nat) (Option.some Jvm.ClassFile.FieldType.double)).before args0 about1 = true := code_word (m := ⟨8, 2⟩) (meth := k8m2) (c := k8c2) (by decide +kernel) rfl rfl rfl (by decide +kernel)
def codes1 : List Jvm.Cond := [Jvm.Cond.code x code maxLocals ret, Jvm.Cond.code ({ cls := "com/example/urchin/urchin/service/Silence$Handover", name := "<init>", desc := "()V" } : Jvm.MethodName) prog_25_method_1_code (1 : Nat) (Option.none : Option Jvm.ClassFile.FieldType), Jvm.Cond.code ({ cls := "java/lang/Object", name := "<init>", desc := "()V" } : Jvm.MethodName) object_method_1_code (1 : Nat) (Option.none : Option Jvm.ClassFile.FieldType), Jvm.Cond.code ({ cls := "java/util/concurrent/TimeUnit", name := "toNanos", desc := "(J)J" } : Jvm.MethodName) jdk_2799_method_7_code (7 : Nat) (Option.some Jvm.ClassFile.FieldType.long), Jvm.Cond.code ({ cls := "com/example/urchin/urchin/service/Silence$Handover", name := "handed", desc := "(JI)V" } : Jvm.MethodName) prog_25_method_2_code (4 : Nat) (Option.none : Option Jvm.ClassFile.FieldType), Jvm.Cond.code ({ cls := "com/example/urchin/urchin/service/Silence$Handover", name := "drain", desc := "(J)J" } : Jvm.MethodName) prog_25_method_4_code (15 : Nat) (Option.some Jvm.ClassFile.FieldType.long), Jvm.Cond.code ({ cls := "java/lang/Math", name := "max", desc := "(DD)D" } : Jvm.MethodName) jdk_29_method_68_code (4 : Nat) (Option.some Jvm.ClassFile.FieldType.double), Jvm.Cond.code ({ cls := "java/lang/Math", name := "min", desc := "(DD)D" } : Jvm.MethodName) jdk_29_method_72_code (4 : Nat) (Option.some Jvm.ClassFile.FieldType.double)]
set_option maxRecDepth 65536 in
theorem codes_eq : words1.filter isCode = codes1 := rfl
theorem w_codes : ∀ c ∈ words1.filter isCode, c.before args0 about1 = true := by
  rw [codes_eq]
  intro c hc
  simp only [codes1, List.mem_cons, List.not_mem_nil, or_false] at hc
  rcases hc with rfl | rfl | rfl | rfl | rfl | rfl | rfl | rfl
  · exact w_c0
  · exact w_c1
  · exact w_c2
  · exact w_c3
  · exact w_c4
  · exact w_c5
  · exact w_c6
  · exact w_c7
set_option maxRecDepth 65536 in
theorem w_t1 : (words1.take 24).all (fun c => isCode c || c.before args0 about1) = true := by decide +kernel
set_option maxRecDepth 65536 in
theorem w_t2 : ((words1.drop 24).take 24).all (fun c => isCode c || c.before args0 about1) = true := by decide +kernel
set_option maxRecDepth 65536 in
theorem w_t3 : ((words1.drop 24).drop 24).all (fun c => isCode c || c.before args0 about1) = true := by decide +kernel
theorem w_tables : (allAtoms (Jvm.Cond.code x code maxLocals ret :: tables_1)).before args0 about1 = true := by
  rw [allAtoms_all]
  show words1.all (fun c => c.before args0 about1) = true
  refine all_split ?_ w_codes
  rw [← List.take_append_drop 24 words1, List.all_append, w_t1, ← List.take_append_drop 24 (words1.drop 24), List.all_append, w_t2, w_t3]
  rfl
set_option maxRecDepth 65536 in
theorem w_rest : rest_1_c.before args0 about1 = true := by decide +kernel
set_option maxRecDepth 65536 in
theorem w_case : (Jvm.Cond.and given_1 narrow_1).before args0 about1 = true := by decide +kernel
theorem w_applies : (headSpec (Jvm.Cond.code x code maxLocals ret :: tables_1) room_1).applies x e0.platform about1 = true :=
  (Spec.applies_iff w_frames).mpr ⟨w_running, w_runnable, w_alone, w_named, w_hears, w_ripe, w_room, w_tables⟩
theorem atStart : AtStart classFile x code maxLocals ret World_1 tables_1 room_1 Calls_1 rest_1 Pre_1 launch0 p0 e0 about1 theMethod args0 below0 :=
  ⟨lists_1, trivial, launch0.admits_env _ _ _, launch0.least_env, fairChoices_fair.cas, fairChoices_fair.clock, w_frames, w_args, w_heap, w_applies, trivial, w_rest, w_case⟩
end start1
theorem witness_1 : WitnessClaimed_1 := ⟨start1.p0, start1.e0, start1.about1, start1.theMethod, start1.args0, start1.below0, start1.atStart⟩
end Jvm.Pilot.@@N@@
