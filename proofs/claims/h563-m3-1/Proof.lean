import JvmDerived
import JvmDerived.Pilot.@@N@@Statement
import JvmDerived.Pilot.@@N@@Code
set_option linter.unusedVariables false
set_option linter.unusedSimpArgs false
namespace Jvm.OwnKit
open Sem ClassFile Op Lib Jvm.Stand Jvm.Free Jvm.LawKit Jvm.RoadKit
/-- from A the run comes to a state of which P holds -/
def Rch (p : Program) (e : Env) (below : List Frame) (A : State) (P : State → Prop) : Prop := ∃ B, Steps p.tables e below A B ∧ P B
/-- the end of a body: it returned v, and Q says what it left -/
def Fin1 (s : State) (below : List Frame) (Q : Option Value → Heap → List Loc → Prop) (k n : Nat) (B : State) : Prop := ∃ v L, B.status = .running ∧ Ended B below (.returned v) ∧ Q v B.heap L ∧ FrameEnd s (.returned v) B L k n
section Own
variable {p : Program} {l : Launch} {e : Env} {R : Room} {s : State} {m : MethodId} {args : Array Value} {below : List Frame} {meth : Method} {c : Code} {T : State} {locs : List Loc} {cells slots : Nat} {A A' : State} {P P' : State → Prop} {Z : State} {a0 : Array Value} {h : Heap}
theorem Rch.go (h1 : ∀ t, Steps p.tables e below A' t → Steps p.tables e below A t) (k : Rch p e below A' P) : Rch p e below A P := by
  obtain ⟨B, q1, q2⟩ := k; exact ⟨B, h1 _ q1, q2⟩
theorem Rch.of (h1 : Steps p.tables e below A A') (k : Rch p e below A' P) : Rch p e below A P := by
  obtain ⟨B, q1, q2⟩ := k; exact ⟨B, h1.trans q1, q2⟩
theorem Rch.here (h1 : P A) : Rch p e below A P := ⟨A, Steps.refl _, h1⟩
theorem Rch.bind (k : Rch p e below A P) (f : ∀ B, P B → Rch p e below B P') : Rch p e below A P' := by
  obtain ⟨B, q1, q2⟩ := k
  obtain ⟨D, q3, q4⟩ := f B q2
  exact ⟨D, q1.trans q3, q4⟩
theorem Rch.ret {Q : Option Value → Heap → List Loc → Prop} {k n : Nat} (X : Stand p l e R s m args below meth c T locs cells slots) (hlk : meth.locks = false) {v : Option Value} (hv : meth.sig.returnType = none → v = none)
    (hA : ∀ fs, (∀ (f : JFrame) (acts : List Action), f.method = m → f.locked = none → f.entered = [] → (doReturn e (T.setTop f) acts v).1 = T.setFrames fs) → Steps p.tables e below A (T.setFrames fs))
    (hQ : Q v T.heap locs) (hk : cells ≤ k) (hn : slots ≤ n) : Rch p e below A (Fin1 s below Q k n) := by
  obtain ⟨fs, hr, hrun, hended, hW, hsame⟩ := X.leave (v := v) hv hlk
  exact ⟨_, hA fs hr, v, locs, hrun, hended, hQ, ⟨_, rfl⟩, hW, hsame.mono hk hn⟩
theorem wider (X : Stand p l e R s m args below meth c T locs cells slots) {k n : Nat} (hk : cells ≤ k) (hn : slots ≤ n) : Stand p l e R s m args below meth c T locs k n := { X with same := X.same.mono hk hn }
theorem retI' (X : Stand p l e R s m args below meth c T locs cells slots) (hx : p.tables.exec = Jvm.exec) {pc : Nat} {Ls : Array Slot} {z : Int32} {rest : List Value} (hret : meth.sig.returnType = some .int) (hd : decode c.code pc = .ok (.ireturn, 1)) {fs : List Frame}
    (hl : ∀ (f : JFrame) (acts : List Action), f.method = m → f.locked = none → f.entered = [] → (doReturn e (T.setTop f) acts (some (.int z))).1 = T.setFrames fs) : Steps p.tables e below (T.setTop (mkF m pc Ls (.int z :: rest))) (T.setFrames fs) := by
  have hm' : T.vm.method? m = some meth := X.method'
  have hn : narrow .int (.int z) = .int z := rfl
  show Steps p.tables e below (T.setTop { method := m, pc := pc, locals := Ls, stack := _ :: rest, locked := none }) _
  jvm_step X.here [X.here.top, hx, hd, hm', hret, hn]
  first | (intro acts; rw [hl _ acts rfl rfl rfl]) | rw [hl _ _ rfl rfl rfl]
  exact Steps.refl _
theorem retR' (X : Stand p l e R s m args below meth c T locs cells slots) (hx : p.tables.exec = Jvm.exec) {pc : Nat} {Ls : Array Slot} {w : Value} {t : FieldType} {rest : List Value} (hret : meth.sig.returnType = some t) (ht : t.isReference = true) (hw : w.isRef = true) (hd : decode c.code pc = .ok (.areturn, 1)) {fs : List Frame}
    (hl : ∀ (f : JFrame) (acts : List Action), f.method = m → f.locked = none → f.entered = [] → (doReturn e (T.setTop f) acts (some w)).1 = T.setFrames fs) : Steps p.tables e below (T.setTop (mkF m pc Ls (w :: rest))) (T.setFrames fs) :=
  retOut X hx hret (by rcases ref_cases hw with rfl | ⟨a, rfl⟩ <;> cases t <;> first | rfl | cases ht) (Or.inr (Or.inr (Or.inr (Or.inr ⟨rfl, ht, hw⟩)))) hd hl
theorem own_body {y : MethodName} {bytes : ByteArray} {maxL : Nat} {ret : Option FieldType} {ws : List Jvm.Cond} {rm : Room} {as' : Array Value} {h0 : Heap} {Q : Option Value → Heap → List Loc → Prop} {k n : Nat} (hp : plainFor y = true)
    (body : ∀ (p : Program) (e : Env) (s : State) (m : MethodId) (below : List Frame) (meth : Method) (c : Code) (s₁ : State), Stand p l e rm s m as' below meth c s₁ [] 0 0 → p.tables.exec = Jvm.exec → c.code = bytes → c.maxLocals = maxL → s.vm.findClass y.cls = some m.cls → meth.name = y.name → meth.sig.returnType = ret → meth.locks = false → Z.Warmed39 s.vm → s₁.heap = h0 →
      Rch p e below (s₁.setTop (entryFrame m as' maxL)) (Fin1 s below Q k n)) :
    MetFree l y (head1 (Jvm.Cond.code y bytes maxL ret :: ws) rm) (fun a U => a = as' ∧ Z.Warmed39 U.vm ∧ U.heap = h0) (fun _ _ _ _ _ => True) (fun _ U o U' => ∃ v L, o = .returned v ∧ Q v U'.heap L ∧ FrameEnd U o U' L k n) := by
  refine MetFree.of_bodySF hp hisR ?_
  intro p e s m args below meth c s₁ Bd hml0 hP hK
  obtain ⟨rfl, hZ, hh⟩ := hP
  obtain ⟨B, hs, v, L, h1, h2, h3, h4⟩ := body p e s m below meth c s₁ (Stand.of_body Bd) Bd.exec Bd.bytes hml0 (findClass_of_methodNamed Bd.named) ((name_of_methodNamed Bd.named Bd.method).1) Bd.returns (BodyLoose.notSynchronized Bd) hZ (by rw [← hh, Bd.state]; rfl)
  exact ⟨B, _, hs, h1, h2, v, L, rfl, h3, h4⟩
abbrev Met1 (l : Launch) (y : MethodName) (bytes : ByteArray) (maxL : Nat) (ret : Option FieldType) (rm : Room) (Z : State) (as' : Array Value) (h : Heap) (Q : Option Value → Heap → List Loc → Prop) : Prop :=
  MetFree l y (head1 [Jvm.Cond.code y bytes maxL ret] rm) (fun a U => a = as' ∧ Z.Warmed39 U.vm ∧ U.heap = h) (fun _ _ _ _ _ => True) (fun _ U o U' => ∃ v L, o = .returned v ∧ Q v U'.heap L ∧ FrameEnd U o U' L rm.cells rm.slots)
/-- a static call by the callee's contract -/
theorem Rch.callS (X : Stand p l e R s m args below meth c T locs cells slots) (hx : p.tables.exec = Jvm.exec) (hZ : Z.Warmed39 s.vm) {own : String} {index : Nat} {y : MethodName} {bytes : ByteArray} {maxL : Nat} {ret : Option FieldType} {rm : Room} {as' : Array Value} {Q : Option Value → Heap → List Loc → Prop}
    (hown : s.vm.findClass own = some m.cls) (w1 : (Jvm.Cond.methodLink own index y).before a0 Z = true) (w2 : (Jvm.Cond.static y).before a0 Z = true) (w3 : (Jvm.Cond.initialized y.cls).before a0 Z = true) (w4 : (Jvm.Cond.code y bytes maxL ret).before a0 Z = true) (hy : y.cls ≠ "java/lang/invoke/MethodHandle" ∧ y.cls ≠ "java/lang/invoke/VarHandle")
    (hM : Met1 l y bytes maxL ret rm Z as' h Q) (W : Nat) (hf : rm.frames + 1 ≤ R.frames) (hl : W + (maxL + 11) + rm.locals ≤ R.locals) (hc : cells + rm.cells ≤ R.cells) (hs : slots + rm.slots ≤ R.slots) (eT : T.heap = h)
    {g : JFrame} (hg : g.method = m) (hsize : g.locals.size = c.maxLocals) (argsL rest : List Value) (has : argsL.toArray = as') (hlen : ∀ sig, parseMethodDescriptor y.desc = some sig → argsL.length = sig.parameters.length)
    (hstack : g.stack = argsL.reverse ++ rest) (hW : 2 * g.monitorRoom + (rest.map fun v => v.category).sum ≤ W) (hdg : decode c.code g.pc = .ok (.invokestatic index, 3))
    (k : ∀ v T' L, Stand p l e R s m args below meth c T' (locs ++ L) (cells + rm.cells) (slots + rm.slots) → Q v T'.heap L → Rch p e below (T'.setTop { g with pc := g.pc + 3, stack := v.toList ++ rest }) P) : Rch p e below (T.setTop g) P := by
  obtain ⟨v, _, ⟨T1, L1, k1, n1⟩, -, X1, ⟨Lc, hQ, l1, y1, z1⟩, st⟩ := Jvm.LawKit.callS X hx (y := y) hown (mvT hZ w1) (mvT hZ w2) (mvT hZ w3) (mvT hZ w4) hy (backOf (W := W) hM hZ w4 w3 hf hl) (g := g) hg hsize (argsL := argsL) (rest := rest) hlen hstack hW hdg (fun _ _ => ⟨has, eT, hc, hs⟩)
  dsimp only [Pt.U, Pt.locs, Pt.cells, Pt.slots] at X1 l1 y1 z1 st hQ
  subst l1 y1 z1
  exact Rch.go st (k v T1 Lc X1 hQ)
/-- a constructor by its contract -/
theorem Rch.callC (X : Stand p l e R s m args below meth c T locs cells slots) (hx : p.tables.exec = Jvm.exec) (hZ : Z.Warmed39 s.vm) {own : String} {index : Nat} {y : MethodName} {bytes : ByteArray} {maxL : Nat} {rm : Room} {as' : Array Value} {Q : Option Value → Heap → List Loc → Prop} (hy1 : y.name = "<init>")
    (hown : s.vm.findClass own = some m.cls) (w1 : (Jvm.Cond.methodLink own index y).before a0 Z = true) (w2 : (Jvm.Cond.instanceMethod y).before a0 Z = true) (w3 : (Jvm.Cond.initialized y.cls).before a0 Z = true) (w4 : (Jvm.Cond.code y bytes maxL none).before a0 Z = true) (hy : y.cls ≠ "java/lang/invoke/MethodHandle" ∧ y.cls ≠ "java/lang/invoke/VarHandle")
    (hM : Met1 l y bytes maxL none rm Z as' h Q) (W : Nat) (hf : rm.frames + 1 ≤ R.frames) (hl : W + (maxL + 11) + rm.locals ≤ R.locals) (hc : cells + rm.cells ≤ R.cells) (hs : slots + rm.slots ≤ R.slots) (eT : T.heap = h)
    {g : JFrame} (hg : g.method = m) (hsize : g.locals.size = c.maxLocals) (a : Addr) (argsL rest : List Value) (has : (.ref a :: argsL).toArray = as') (hlen : ∀ sig, parseMethodDescriptor y.desc = some sig → argsL.length = sig.parameters.length)
    (hstack : g.stack = argsL.reverse ++ .ref a :: rest) (hW : 2 * g.monitorRoom + (rest.map fun v => v.category).sum ≤ W) (hdg : decode c.code g.pc = .ok (.invokespecial index, 3))
    (k : ∀ v T' L, Stand p l e R s m args below meth c T' (locs ++ L) (cells + rm.cells) (slots + rm.slots) → Q v T'.heap L → Rch p e below (T'.setTop { g with pc := g.pc + 3, stack := v.toList ++ rest }) P) : Rch p e below (T.setTop g) P := by
  obtain ⟨v, _, ⟨T1, L1, k1, n1⟩, -, X1, ⟨Lc, hQ, l1, y1, z1⟩, st⟩ := X.specialBack hx (y := y) hy1 hown (mvT hZ w1) (mvT hZ w2) (mvT hZ w4) hy (backOf (W := W) hM hZ w4 w3 hf hl) (g := g) hg hsize (Steps.refl _) (a := a) (argsL := argsL) (rest := rest) hlen hstack hW hdg (fun _ _ => ⟨has, eT, hc, hs⟩)
  dsimp only [Pt.U, Pt.locs, Pt.cells, Pt.slots] at X1 l1 y1 z1 st hQ
  subst l1 y1 z1
  exact Rch.of st (k v T1 Lc X1 hQ)
/-- an instance method, selected by the receiver's class C, by the contract of the selected one -/
theorem Rch.callV (X : Stand p l e R s m args below meth c T locs cells slots) (hx : p.tables.exec = Jvm.exec) (hZ : Z.Warmed39 s.vm) {own C : String} {index : Nat} {y z : MethodName} {bytes : ByteArray} {maxL : Nat} {ret : Option FieldType} {rm : Room} {as' : Array Value} {Q : Option Value → Heap → List Loc → Prop}
    (hown : s.vm.findClass own = some m.cls) (w1 : (Jvm.Cond.methodLink own index y).before a0 Z = true) (w2 : (Jvm.Cond.declares y).before a0 Z = true) (hnf : NotFace s y) (w5 : (Jvm.Cond.selects C y z).before a0 Z = true) (w6 : (Jvm.Cond.instanceMethod z).before a0 Z = true) (w3 : (Jvm.Cond.initialized z.cls).before a0 Z = true) (w4 : (Jvm.Cond.code z bytes maxL ret).before a0 Z = true) (hy : y.cls ≠ "java/lang/invoke/MethodHandle" ∧ y.cls ≠ "java/lang/invoke/VarHandle")
    (hM : Met1 l z bytes maxL ret rm Z as' h Q) (W : Nat) (hf : rm.frames + 1 ≤ R.frames) (hl : W + (maxL + 11) + rm.locals ≤ R.locals) (hc : cells + rm.cells ≤ R.cells) (hs : slots + rm.slots ≤ R.slots) (eT : T.heap = h) {b : Addr} (hE : Exa Z h b C)
    {g : JFrame} (hg : g.method = m) (hsize : g.locals.size = c.maxLocals) (argsL rest : List Value) (has : (.ref b :: argsL).toArray = as') (hlen : ∀ sig, parseMethodDescriptor y.desc = some sig → argsL.length = sig.parameters.length)
    (hstack : g.stack = argsL.reverse ++ .ref b :: rest) (hW : 2 * g.monitorRoom + (rest.map fun v => v.category).sum ≤ W) (hdg : decode c.code g.pc = .ok (.invokevirtual index, 3))
    (k : ∀ v T' L, Stand p l e R s m args below meth c T' (locs ++ L) (cells + rm.cells) (slots + rm.slots) → Q v T'.heap L → Rch p e below (T'.setTop { g with pc := g.pc + 3, stack := v.toList ++ rest }) P) : Rch p e below (T.setTop g) P := by
  obtain ⟨cq, kq, q1, q2, q3⟩ := isOf hZ eT hE
  obtain ⟨v, _, ⟨T1, L1, k1, n1⟩, -, X1, ⟨Lc, hQ, l1, y1, z1⟩, st⟩ := X.virtualBack hx (y := y) (z := z) hown (mvT hZ w1) (mvT hZ w2) hnf (mvT hZ w5) (mvT hZ w6) hy (backOf (W := W) hM hZ w4 w3 hf hl) q1 q3 (g := g) hg hsize (Steps.refl _) (argsL := argsL) (rest := rest) hlen hstack hW hdg (fun _ _ => ⟨has, eT, hc, hs⟩)
  dsimp only [Pt.U, Pt.locs, Pt.cells, Pt.slots] at X1 l1 y1 z1 st hQ
  subst l1 y1 z1
  exact Rch.of st (k v T1 Lc X1 hQ)
/-- a private instance method, by invokevirtual -/
theorem Rch.callP (X : Stand p l e R s m args below meth c T locs cells slots) (hx : p.tables.exec = Jvm.exec) (hZ : Z.Warmed39 s.vm) {own C : String} {index : Nat} {y : MethodName} {bytes : ByteArray} {maxL : Nat} {ret : Option FieldType} {rm : Room} {as' : Array Value} {Q : Option Value → Heap → List Loc → Prop}
    (hown : s.vm.findClass own = some m.cls) (w1 : (Jvm.Cond.methodLink own index y).before a0 Z = true) (w6 : (Jvm.Cond.instanceMethod y).before a0 Z = true) (w5 : (Jvm.Cond.selects y.cls y y).before a0 Z = true) (w7 : (Jvm.Cond.privateMethod y).before a0 Z = true) (w3 : (Jvm.Cond.initialized y.cls).before a0 Z = true) (w4 : (Jvm.Cond.code y bytes maxL ret).before a0 Z = true) (hy : y.cls ≠ "java/lang/invoke/MethodHandle" ∧ y.cls ≠ "java/lang/invoke/VarHandle")
    (hM : Met1 l y bytes maxL ret rm Z as' h Q) (W : Nat) (hf : rm.frames + 1 ≤ R.frames) (hl : W + (maxL + 11) + rm.locals ≤ R.locals) (hc : cells + rm.cells ≤ R.cells) (hs : slots + rm.slots ≤ R.slots) (eT : T.heap = h) {b : Addr} (hE : Exa Z h b C)
    {g : JFrame} (hg : g.method = m) (hsize : g.locals.size = c.maxLocals) (argsL rest : List Value) (has : (.ref b :: argsL).toArray = as') (hlen : ∀ sig, parseMethodDescriptor y.desc = some sig → argsL.length = sig.parameters.length)
    (hstack : g.stack = argsL.reverse ++ .ref b :: rest) (hW : 2 * g.monitorRoom + (rest.map fun v => v.category).sum ≤ W) (hdg : decode c.code g.pc = .ok (.invokevirtual index, 3))
    (k : ∀ v T' L, Stand p l e R s m args below meth c T' (locs ++ L) (cells + rm.cells) (slots + rm.slots) → Q v T'.heap L → Rch p e below (T'.setTop { g with pc := g.pc + 3, stack := v.toList ++ rest }) P) : Rch p e below (T.setTop g) P := by
  obtain ⟨cq, q1, q2⟩ := hE.cell
  obtain ⟨v, _, ⟨T1, L1, k1, n1⟩, -, X1, ⟨Lc, hQ, l1, y1, z1⟩, st⟩ := X.privateBack hx (y := y) hown (mvT hZ w1) (mvT hZ w6) (mvT hZ w5) (Cond.privateMethod_at (mvP hZ w7 (args := #[]))) (mvT hZ w4) hy (backOf (W := W) hM hZ w4 w3 hf hl) (g := g) hg hsize (Steps.refl _) (a := b) (by rw [eT]; exact q1) q2 (argsL := argsL) (rest := rest) hlen hstack hW hdg (fun _ _ => ⟨has, eT, hc, hs⟩)
  dsimp only [Pt.U, Pt.locs, Pt.cells, Pt.slots] at X1 l1 y1 z1 st hQ
  subst l1 y1 z1
  exact Rch.of st (k v T1 Lc X1 hQ)
end Own
end Jvm.OwnKit
namespace Jvm.OwnKit
open Sem ClassFile Op Lib Jvm.Stand Jvm.Free Jvm.LawKit Jvm.RoadKit
/-- two places are unlike (behind a name, so that arithmetic doesn't split on it) -/
def NeA (a b : Addr) : Prop := a ≠ b
/-- the byte[] at a has n places, and place j holds f j -/
def BA (Z : State) (h : Heap) (a : Addr) (n : Nat) (f : Nat → Int32) : Prop := ∃ c : Cell, Arr Z h a c .byte ∧ c.slots.size = n ∧ ∀ j, j < n → c.slots[j]? = some (.int (f j))
def updI (f : Nat → Int32) (k : Nat) (x : Int32) : Nat → Int32 := fun j => if j = k then x else f j
section OwnB
variable {Z : State} {h h' : Heap} {a b : Addr} {n : Nat} {f g : Nat → Int32} {sl : Nat} {v : Value} {ws : List Addr}
theorem BA.lt (F : BA Z h a n f) : a < h.size := by obtain ⟨c, A, -⟩ := F; exact A.lt
theorem BA.ext (F : BA Z h a n f) (E : Ext h h') : BA Z h' a n f := by obtain ⟨c, A, r⟩ := F; exact ⟨c, A.ext E, r⟩
theorem BA.other (F : BA Z h b n f) (W : Wr h h' a sl v) (q : b ≠ a) : BA Z h' b n f := by obtain ⟨c, A, r⟩ := F; exact ⟨c, A.other W q, r⟩
theorem BA.keep (F : BA Z h a n f) (K : Keep h h' ws) (q : a ∉ ws) : BA Z h' a n f := by obtain ⟨c, A, r⟩ := F; exact ⟨c, ⟨K.2.1 a c A.1 q, A.2⟩, r⟩
theorem BA.congr (F : BA Z h a n f) (q : ∀ j, j < n → f j = g j) : BA Z h a n g := by obtain ⟨c, A, S, r⟩ := F; exact ⟨c, A, S, fun j hj => by rw [← q j hj]; exact r j hj⟩
theorem BA.new {cA : ClassId} {z : Int32} (A : Arr Z h a (newA cA .byte z) .byte) (q : z.toNatClampNeg = n) : BA Z h a n (fun _ => 0) :=
  ⟨_, A, by rw [sz_new]; exact q, fun j hj => by rw [← q] at hj; simp [newA, hj, defaultValue]⟩
theorem BA.set (F : BA Z h a n f) {j x : Int32} {k : Nat} (hj : j.toNatClampNeg = k) (hk : k < n) (W : Wr h h' a j.toNatClampNeg (.int x)) : BA Z h' a n (updI f k x) := by
  obtain ⟨c, A, S, r⟩ := F
  refine ⟨_, A.same W, by rw [sz_set]; exact S, fun i hi => ?_⟩
  rw [hj]
  by_cases u : i = k
  · subst u; simp [Cell.setSlot, updI, S, hi]
  · have := r i hi
    simp only [Cell.setSlot, updI, if_neg u]
    rw [Array.getElem?_setIfInBounds_ne (Ne.symm u)]; exact this
theorem inb {c : Cell} {j : Int32} {k : Nat} (S : c.slots.size = n) (hn : ¬ j < 0) (hj : j.toNatClampNeg = k) (hk : k < n) : ¬ (j < 0 ∨ c.slots.size ≤ j.toNatClampNeg) := fun q => q.elim hn fun q => by rw [S, hj] at q; omega
theorem natOf {k : Nat} (hk : k < 2 ^ 31) : ¬ Int32.ofNat k < 0 ∧ (Int32.ofNat k).toNatClampNeg = k ∧ (Int32.ofNat k).toInt = k := by
  have e : (Int32.ofNat k).toInt = k := Int32.toInt_ofNat_of_lt (by omega)
  refine ⟨?_, ?_, e⟩
  · rw [Int32.lt_iff_toInt_lt, e, show (0 : Int32).toInt = 0 from rfl]; omega
  · rw [Int32.toNatClampNeg, e]; rfl
theorem ofNat_lt {i k : Nat} (hi : i < 2 ^ 31) (hk : k < 2 ^ 31) : Int32.ofNat i < Int32.ofNat k ↔ i < k := by
  rw [Int32.lt_iff_toInt_lt, (natOf hi).2.2, (natOf hk).2.2]; omega
theorem ofNat_inj {i k : Nat} (hi : i < 2 ^ 31) (hk : k < 2 ^ 31) : Int32.ofNat i = Int32.ofNat k ↔ i = k := by
  refine ⟨fun q => ?_, fun q => by rw [q]⟩
  have := congrArg Int32.toInt q
  rw [(natOf hi).2.2, (natOf hk).2.2] at this; omega
theorem ofNat_succ (i : Nat) : Int32.ofNat i + (1 : Int32) = Int32.ofNat (i + 1) := (Int32.ofNat_add i 1).symm
theorem mask_of (x : Int32) (k : Nat) (hk : k < 2 ^ 31) : ∃ n : Nat, n ≤ k ∧ (x &&& Int32.ofNat k) = Int32.ofNat n := by
  refine ⟨(x &&& Int32.ofNat k).toBitVec.toNat, ?_, ?_⟩
  · simp only [Int32.toBitVec_and, BitVec.toNat_and, Int32.toBitVec_ofNat, BitVec.toNat_ofNat]
    exact Nat.le_trans Nat.and_le_right (Nat.mod_le _ _)
  · apply Int32.toBitVec_inj.mp
    show _ = BitVec.ofNat 32 _
    rw [BitVec.ofNat_toNat]; simp
theorem nar_nar (x : Int32) : nar .byte (nar .byte x) = nar .byte x := by simp [nar]
end OwnB
end Jvm.OwnKit
namespace Jvm.OwnKit
open Sem ClassFile Op Lib Jvm.Stand Jvm.Free Jvm.LawKit Jvm.RoadKit
/-- the byte[] at a (of the class [B) has n places, place j holds f j, each a byte -/
def BB (Z : State) (h : Heap) (a : Addr) (n : Nat) (f : Nat → Int32) : Prop := ∃ c : Cell, Jvm.RoadKit.Arr Z h a c .byte ∧ Z.vm.findClass "[B" = some c.cls ∧ c.slots.size = n ∧ n < 2 ^ 31 ∧ ∀ j, j < n → c.slots[j]? = some (.int (f j)) ∧ fits .byte (.int (f j)) = true
section OwnBB
variable {Z : State} {h h' : Heap} {a b : Addr} {n : Nat} {f g : Nat → Int32} {sl : Nat} {v : Value} {ws : List Addr}
theorem BB.lt (F : BB Z h a n f) : a < h.size := by obtain ⟨c, A, -⟩ := F; exact A.lt
theorem BB.ext (F : BB Z h a n f) (E : Ext h h') : BB Z h' a n f := by obtain ⟨c, A, r⟩ := F; exact ⟨c, A.ext E, r⟩
theorem BB.other (F : BB Z h b n f) (W : Wr h h' a sl v) (q : b ≠ a) : BB Z h' b n f := by obtain ⟨c, A, r⟩ := F; exact ⟨c, A.other W q, r⟩
theorem BB.keep (F : BB Z h a n f) (K : Keep h h' ws) (q : a ∉ ws) : BB Z h' a n f := by obtain ⟨c, A, r⟩ := F; exact ⟨c, ⟨K.2.1 a c A.1 q, A.2⟩, r⟩
theorem BB.congr (F : BB Z h a n f) (q : ∀ j, j < n → f j = g j) : BB Z h a n g := by
  obtain ⟨c, A, C, S, N, r⟩ := F; exact ⟨c, A, C, S, N, fun j hj => by rw [← q j hj]; exact r j hj⟩
theorem BB.set (F : BB Z h a n f) {j x : Int32} {k : Nat} (hj : j.toNatClampNeg = k) (hk : k < n) (hf : fits .byte (.int x) = true) (W : Wr h h' a j.toNatClampNeg (.int x)) : BB Z h' a n (updI f k x) := by
  obtain ⟨c, A, C, S, N, r⟩ := F
  refine ⟨_, A.same W, C, by rw [sz_set]; exact S, N, fun i hi => ?_⟩
  rw [hj]
  by_cases u : i = k
  · subst u; exact ⟨by simp [Cell.setSlot, updI, S, hi], by simp only [updI, if_true]; exact hf⟩
  · have := r i hi
    simp only [Cell.setSlot, updI, if_neg u]
    rw [Array.getElem?_setIfInBounds_ne (Ne.symm u)]; exact this
theorem BB.toBA (F : BB Z h a n f) : BA Z h a n f := by obtain ⟨c, A, C, S, N, r⟩ := F; exact ⟨c, A, S, fun j hj => (r j hj).1⟩
end OwnBB
section OwnBX
variable {p : Program} {l : Launch} {e : Env} {R : Room} {s : State} {m : MethodId} {args : Array Value} {below : List Frame} {meth : Method} {c : Code} {T : State} {locs : List Loc} {cells slots : Nat} {P : State → Prop} {Z : State} {a0 : Array Value} {h : Heap}
theorem toXT (X : Stand p l e R s m args below meth c T locs cells slots) (hZ : Z.Warmed39 s.vm) (eT : T.heap = h) {a : Addr} {cl : Cell} (A : Jvm.RoadKit.Arr Z h a cl .byte) (hs : cl.slots.size < 2 ^ 31) : Jvm.Free.XT.Arr .byte a cl T :=
  ⟨by rw [eT]; exact A.1, State.isArrayOf_alike (hZ.alike.trans X.warmed.alike) A.2.1, A.2.2, hs⟩
theorem newBB (X : Stand p l e R s m args below meth c T locs cells slots) (hx : p.tables.exec = Jvm.exec) (hZ : Z.Warmed39 s.vm) (w : (Jvm.Cond.arrayClass .byte).before a0 Z = true) (eT : T.heap = h) {n : Nat} (hn : n ≤ 536870912) {g : JFrame} (hg : g.method = m) (hd : decode c.code g.pc = .ok (.newarray .byte, 2)) {rest : List Value} (hs : g.stack = .int (Int32.ofNat n) :: rest)
    (hc : cells + 1 ≤ R.cells) (hl : slots + n ≤ R.slots) :
    ∃ T' h', Stand p l e R s m args below meth c T' locs (cells + 1) (slots + n) ∧ T'.heap = h' ∧ Ext h h' ∧ BB Z h' h.size n (fun _ => 0) ∧ ∀ target, Steps p.tables e below (T'.setTop { g with pc := g.pc + 2, stack := .ref h.size :: rest }) target → Steps p.tables e below (T.setTop g) target := by
  obtain ⟨T', B, X', hA, hsl, hvm, hp, hf, st⟩ := X.anew hx (atype := .byte) (mvA hZ w) rfl (by show n * 1 ≤ _; omega) (by omega) hg hd hs hc hl
  subst eT
  refine ⟨T', _, X', rfl, ⟨by rw [hp]; simp, fun x cx hx' => ?_⟩, ⟨B, ⟨hA.1, State.isArrayOf_alike (hZ.alike.trans X'.warmed.alike).symm hA.2.1, hA.2.2.1⟩, ?_, by rw [hsl]; simp, by omega, fun j hj => ⟨by rw [hsl]; simp [hj, newarray.typeOf, defaultValue], rfl⟩⟩, st⟩
  · rw [hp, Array.getElem?_push_lt (Array.getElem?_eq_some_iff.mp hx').1]; exact (Array.getElem?_eq_getElem _).symm.trans hx'
  · rw [← hZ.alike.findClass]; exact hf
theorem loadBB (X : Stand p l e R s m args below meth c T locs cells slots) (hx : p.tables.exec = Jvm.exec) (hZ : Z.Warmed39 s.vm) (eT : T.heap = h) {a : Addr} {n k : Nat} {f : Nat → Int32} (B : BB Z h a n f) (hk : k < n) {g : JFrame} (hg : g.method = m) (hd : decode c.code g.pc = .ok (.baload, 1)) {rest : List Value} (hs : g.stack = .int (Int32.ofNat k) :: .ref a :: rest) :
    ∀ target, Steps p.tables e below (T.setTop { g with pc := g.pc + 1, stack := .int (f k) :: rest }) target → Steps p.tables e below (T.setTop g) target := by
  obtain ⟨cl, A, C, S, N, r⟩ := B
  exact X.baloadBytes hx (j := Int32.ofNat k) (v := .int (f k)) (by rw [eT]; exact A.1) (State.isArrayOf_alike hZ.alike A.2.1) A.2.2 (inb (k := k) S (natOf (by omega)).1 (natOf (by omega)).2.1 hk) (by rw [(natOf (by omega)).2.1]; exact (r k hk).1) hg hs hd
theorem lenBB (X : Stand p l e R s m args below meth c T locs cells slots) (hx : p.tables.exec = Jvm.exec) (hZ : Z.Warmed39 s.vm) (eT : T.heap = h) {a : Addr} {n : Nat} {f : Nat → Int32} (B : BB Z h a n f) {g : JFrame} (hg : g.method = m) (hd : decode c.code g.pc = .ok (.arraylength, 1)) {rest : List Value} (hs : g.stack = .ref a :: rest) :
    ∀ target, Steps p.tables e below (T.setTop { g with pc := g.pc + 1, stack := .int (Int32.ofNat n) :: rest }) target → Steps p.tables e below (T.setTop g) target := by
  obtain ⟨cl, A, C, S, N, r⟩ := B
  intro target k
  refine X.arraylength hx (cell := cl) (by rw [eT]; exact A.1) (State.isArrayOf_alike hZ.alike A.2.1) hg hs hd _ ?_
  rw [S]; exact k
/-- System.arraycopy of n bytes -/
theorem copyBB (X : Stand p l e R s m args below meth c T locs cells slots) (hx : p.tables.exec = Jvm.exec) (hZ : Z.Warmed39 s.vm) {own : String} {index : Nat} (hown : s.vm.findClass own = some m.cls) (hw : ∀ w ∈ Jvm.Free.XT.acW own index, w.before args s = true) (eT : T.heap = h) {a b : Addr} {na nb o q n : Nat} {f f' : Nat → Int32} (A : BB Z h a na f) (B : BB Z h b nb f') (h4 : o + n ≤ na) (h5 : q + n ≤ nb)
    {g : JFrame} (hg : g.method = m) (hsize : g.locals.size = c.maxLocals) {rest : List Value} (hstack : g.stack = .int (Int32.ofNat n) :: .int (Int32.ofNat q) :: .ref b :: .int (Int32.ofNat o) :: .ref a :: rest) (hdg : decode c.code g.pc = .ok (.invokestatic index, 3)) {W : Nat} (hW : 2 * g.monitorRoom + (rest.map fun v => v.category).sum ≤ W) (hfr : 1 ≤ R.frames) (hlo : W + 40 ≤ R.locals) :
    ∃ T' h', Stand p l e R s m args below meth c T' (locs ++ copyLocs b q n) cells slots ∧ T'.heap = h' ∧ Keep h h' [b] ∧ BB Z h' b nb (fun j => if q ≤ j ∧ j < q + n then f (o + (j - q)) else f' j) ∧ ∀ target, Steps p.tables e below (T'.setTop { g with pc := g.pc + 3, stack := rest }) target → Steps p.tables e below (T.setTop g) target := by
  obtain ⟨cA, A1, A2, A3, A4, A5⟩ := A
  obtain ⟨cB, B1, B2, B3, B4, B5⟩ := B
  have hgo : Jvm.Free.XT.Goes .byte cA o n cB T := fun i hi => ⟨by
    have := A5 (o + i) (by omega)
    rw [show cA.slots.getD (o + i) .null = .int (f (o + i)) by simp [Array.getD_eq_getD_getElem?, this.1]]
    exact this.2, fun hr => by cases hr⟩
  obtain ⟨T', B', X', hput, e1, e2, e3, e4, st⟩ := X.acopy hx hown hw (toXT X hZ eT A1 (by omega)) (toXT X hZ eT B1 (by omega)) rfl rfl rfl rfl (by omega) (by omega) hgo hg hsize hstack hdg hW hfr hlo
  subst eT
  refine ⟨T', _, X', rfl, ⟨by rw [hput.2.2]; exact Nat.le_refl _, fun x cx hx' hn => ?_, fun x cx hx' => ?_⟩, ⟨B', ⟨hput.1, ?_, by rw [e2]; exact B1.2.2⟩, by rw [e1]; exact B2, by rw [e3]; exact B3, B4, fun j hj => ?_⟩, st⟩
  · rw [hput.2.1 x (fun q => hn (by simp [q]))]; exact hx'
  · by_cases u : x = b
    · subst u
      cases B1.1.symm.trans hx'
      exact ⟨B', hput.1, e1, e2, e3⟩
    · exact ⟨cx, by rw [hput.2.1 x u]; exact hx', rfl, rfl, rfl⟩
  · obtain ⟨q1, k, q2, q3⟩ := B1.2.1
    exact ⟨by rw [e2]; exact q1, k, by rw [e1]; exact q2, q3⟩
  · rw [e4]
    by_cases u : q ≤ j ∧ j < q + n
    · have := A5 (o + (j - q)) (by omega)
      simp only [if_pos u]
      exact ⟨by simp [Array.getD_eq_getD_getElem?, this.1], this.2⟩
    · simp only [if_neg u]; exact B5 j hj
theorem Fr.copy {n0 : Nat} {b : Addr} (q n : Nat) (hb : n0 ≤ b) : Fr n0 (copyLocs b q n) := fun y hy => by
  simp only [copyLocs, List.mem_map] at hy
  obtain ⟨_, _, rfl⟩ := hy
  exact hb
/-- Arrays.copyOf(byte[], int) -/
theorem Rch.copyOf (X : Stand p l e R s m args below meth c T locs cells slots) (hx : p.tables.exec = Jvm.exec) (hZ : Z.Warmed39 s.vm) {own : String} {index : Nat} (hown : s.vm.findClass own = some m.cls)
    (w1 : (Jvm.Cond.methodLink own index Jvm.Free.JA.CopyOfB.yN).before a0 Z = true) (w2 : (Jvm.Cond.static Jvm.Free.JA.CopyOfB.yN).before a0 Z = true) (w3 : (Jvm.Cond.initialized "java/util/Arrays").before a0 Z = true) (w4 : (Jvm.Cond.code Jvm.Free.JA.CopyOfB.yN Jvm.Free.JA.CopyOfB.yB 3 (some (.array .byte))).before a0 Z = true)
    (wt : Jvm.Free.JA.CopyOfB.tab.before args s = true) (W : Nat) (hf : 2 ≤ R.frames) (hl : W + 54 ≤ R.locals) (eT : T.heap = h) {a : Addr} {na n : Nat} {f : Nat → Int32} (B : BB Z h a na f) (hn : n ≤ 536870912) (hc : cells + 1 ≤ R.cells) (hs : slots + n ≤ R.slots)
    {g : JFrame} (hg : g.method = m) (hsize : g.locals.size = c.maxLocals) (rest : List Value) (hstack : g.stack = [.int (Int32.ofNat n), .ref a] ++ rest) (hW : 2 * g.monitorRoom + (rest.map fun v => v.category).sum ≤ W) (hdg : decode c.code g.pc = .ok (.invokestatic index, 3))
    (k : ∀ T' h', Stand p l e R s m args below meth c T' (locs ++ []) (cells + 1) (slots + n) → T'.heap = h' → Ext h h' → BB Z h' h.size n (fun j => if j < na then f j else 0) → Rch p e below (T'.setTop { g with pc := g.pc + 3, stack := .ref h.size :: rest }) P) : Rch p e below (T.setTop g) P := by
  obtain ⟨cA, A1, A2, A3, A4, A5⟩ := B
  have hty : Jvm.Free.XT.Typed .byte cA := fun i v hv => by
    have hi := (Array.getElem?_eq_some_iff.mp hv).1
    have := A5 i (by omega)
    rw [this.1] at hv; cases hv; exact this.2
  obtain ⟨v, vm1, ⟨T1, L1, k1, n1⟩, hvm, X1, ⟨⟨hv, Bc, b1, b2, b3, b4, b5, b6⟩, l1, y1, z1⟩, st⟩ := Jvm.LawKit.callS X hx (y := Jvm.Free.JA.CopyOfB.yN) hown (mvT hZ w1) (mvT hZ w2) (mvT hZ w3) (mvT hZ w4) (by decide) (Jvm.Free.JA.CopyOfB.pays (W := W) a cA n wt hf hl) (g := g) hg hsize (argsL := [.ref a, .int (Int32.ofNat n)]) (rest := rest) (fun sig hq => by cases (by decide +kernel : parseMethodDescriptor Jvm.Free.JA.CopyOfB.yN.desc = some ⟨[.array .byte, .int], some (.array .byte)⟩).symm.trans hq; rfl) hstack hW hdg
    (fun vm₁ hvm₁ => ⟨hc, hs, rfl, ⟨by show T.heap[a]? = _; rw [eT]; exact A1.1, State.isArrayOf_alike (hZ.alike.trans hvm₁.alike) A1.2.1, A1.2.2, by omega⟩, by show vm₁.findClass _ = _; rw [hvm₁.alike.findClass, hZ.alike.findClass]; exact A2, hty, hn⟩)
  dsimp only [Pt.U, Pt.locs, Pt.cells, Pt.slots] at X1 hv b1 b3 b6 l1 y1 z1 st
  subst l1 y1 z1 hv
  subst eT
  refine Rch.go st (k T1 T1.heap X1 rfl ⟨?_, fun x cx hq => b6 x cx hq⟩ ⟨Bc, ⟨b1.1, State.isArrayOf_alike (hZ.alike.trans X1.warmed.alike).symm b1.2.1, b1.2.2.1⟩, ?_, b4, by omega, fun j hj => ?_⟩)
  · have := (Array.getElem?_eq_some_iff.mp b1.1).1
    have h2 : (T.setVm vm1).heap.size = T.heap.size := rfl
    omega
  · rw [← b3, (hZ.alike.trans X1.warmed.alike).findClass]
  · rw [b5 j hj]
    by_cases u : j < na
    · have := A5 j u
      simp only [if_pos u]
      exact ⟨by simp [Array.getD_eq_getD_getElem?, this.1], this.2⟩
    · simp only [if_neg u]
      exact ⟨by simp [Array.getD_eq_getD_getElem?, A3, u, defaultValue], rfl⟩
end OwnBX
end Jvm.OwnKit
namespace Jvm.Pilot.@@N@@
open Jvm Jvm.ClassFile Sem Op Lib Jvm.Free Jvm.Stand Jvm.LawKit Jvm.RoadKit Bundle Jvm.OwnKit Jvm.Pilot.@@N@@.Jvm.D

theorem ofNat_sub {i k : Nat} (h : k ≤ i) : Int32.ofNat i - Int32.ofNat k = Int32.ofNat (i - k) := by
  have e : Int32.ofNat i = Int32.ofNat (i - k) + Int32.ofNat k := by rw [← Int32.ofNat_add]; congr 1; omega
  rw [e, Int32.add_sub_cancel]
theorem ofNat_add' (i k : Nat) : Int32.ofNat i + Int32.ofNat k = Int32.ofNat (i + k) := (Int32.ofNat_add _ _).symm
theorem ofNat_two (i : Nat) : (2 : Int32) * Int32.ofNat i = Int32.ofNat (2 * i) := (Int32.ofNat_mul 2 i).symm
theorem own_max (len : Nat) (h : len ≤ 1048576) : (1048576 : Int32) - Int32.ofNat len = Int32.ofNat (1048576 - len) := ofNat_sub (i := 1048576) h
theorem nar_fix {x : Int32} (h : fits .byte (.int x) = true) : nar .byte x = x := by
  simp only [fits, Bool.and_eq_true, decide_eq_true_eq, Int32.le_iff_toInt_le] at h
  have k1 : (-128 : Int32).toInt = -128 := rfl
  have k2 : (127 : Int32).toInt = 127 := rfl
  apply Int32.toInt_inj.mp
  show x.toInt8.toInt32.toInt = x.toInt
  rw [Int8.toInt_toInt32, Int32.toInt_toInt8]
  rw [Int.bmod_eq_of_le (by omega) (by omega)]
theorem d4_0 : decode jdk_29_method_69_code 0 = .ok (.iload_n 0, 1) := by decide +kernel
theorem d4_1 : decode jdk_29_method_69_code 1 = .ok (.iload_n 1, 1) := by decide +kernel
theorem d4_2 : decode jdk_29_method_69_code 2 = .ok (.if_icmp .gt 7, 3) := by decide +kernel
theorem d4_5 : decode jdk_29_method_69_code 5 = .ok (.iload_n 0, 1) := by decide +kernel
theorem d4_6 : decode jdk_29_method_69_code 6 = .ok (.goto 4, 3) := by decide +kernel
theorem d4_9 : decode jdk_29_method_69_code 9 = .ok (.iload_n 1, 1) := by decide +kernel
theorem d4_10 : decode jdk_29_method_69_code 10 = .ok (.ireturn, 1) := by decide +kernel
theorem pn_4 : plainFor (⟨"java/lang/Math", "min", "(II)I"⟩ : MethodName) = true := Jvm.Free.JP.mathPlain rfl (by decide +kernel)
theorem ef_4 (m : MethodId) (x0 : Int32) (x1 : Int32) : entryFrame m #[(.int x0), (.int x1)] 2 = mkF m 0 #[.val (.int x0), .val (.int x1)] [] := by first | (simp [entryFrame, mkF, argsToLocals, Value.category]; done) | rfl
def own_min (p1 : Int32) (p2 : Int32) : Int32 := (if p2 < p1 then p2 else p1)
def own_Q_rm4 (Z : State) (p1 : Int32) (p2 : Int32) (h0 : Heap) (n0 : Nat) (v : Option Value) (h : Heap) (L : List Loc) : Prop := v = some (.int (own_min p1 p2)) ∧ Fr n0 L ∧ h = h0
set_option maxRecDepth 65536 in
set_option maxHeartbeats 40000000 in
theorem rm4 (l : Launch) (Z : State) (a0 : Array Value) (hw : ∀ d ∈ tables_1, d.before a0 Z = true) (ws : List Jvm.Cond) (p1 : Int32) (p2 : Int32) (h0 : Heap) (n0 : Nat) (Z0 : n0 ≤ h0.size)  :
    MetFree l (⟨"java/lang/Math", "min", "(II)I"⟩ : MethodName) (head1 (Jvm.Cond.code (⟨"java/lang/Math", "min", "(II)I"⟩ : MethodName) jdk_29_method_69_code 2 (some .int) :: ws) ({ frames := 0, cells := 0, slots := 0, locals := 0 } : Room)) (fun a U => a = #[(.int p1), (.int p2)] ∧ Z.Warmed39 U.vm ∧ U.heap = h0) (fun _ _ _ _ _ => True) (fun _ U o U' => ∃ v L, o = .returned v ∧ own_Q_rm4 Z p1 p2 h0 n0 v U'.heap L ∧ FrameEnd U o U' L ({ frames := 0, cells := 0, slots := 0, locals := 0 } : Room).cells ({ frames := 0, cells := 0, slots := 0, locals := 0 } : Room).slots) := by
  refine own_body (Q := (own_Q_rm4 Z p1 p2 h0 n0)) pn_4 ?_
  intro p e s m below meth c s₁ X0 hx hby hml hown hnm hret hlk hZ e0
  have N0 := Fr.nil n0
  refine Rch.go (fun tt_ kk_ => castTop (ef_4 m p1 p2) kk_) ?_
  show Rch p e below (s₁.setTop (mkF m 0 #[.val (.int p1), .val (.int p2)] [])) _
  refine Rch.go (fun _ kk_ => XS.iloadN X0.here hx rfl (hb hby d4_0) rfl  kk_) ?_
  show Rch p e below (s₁.setTop (mkF m 1 #[.val (.int p1), .val (.int p2)] [(.int p1)])) _
  refine Rch.go (fun _ kk_ => XS.iloadN X0.here hx rfl (hb hby d4_1) rfl  kk_) ?_
  show Rch p e below (s₁.setTop (mkF m 2 #[.val (.int p1), .val (.int p2)] [(.int p2), (.int p1)])) _
  by_cases hc2_1 : p2 < p1
  · refine Rch.go (fun _ kk_ => XS.icmpYes X0.here hx rfl (pc0 := 2) (pc' := 9) rfl (hb hby d4_2) rfl (tlt hc2_1).2.2.1 (by decide) (by decide) kk_) ?_
    show Rch p e below (s₁.setTop (mkF m 9 #[.val (.int p1), .val (.int p2)] [])) _
    refine Rch.go (fun _ kk_ => XS.iloadN X0.here hx rfl (hb hby d4_9) rfl  kk_) ?_
    show Rch p e below (s₁.setTop (mkF m 10 #[.val (.int p1), .val (.int p2)] [(.int p2)])) _
    have hv : own_min p1 p2 = p2 := by simp only [own_min, if_pos hc2_1]
    exact Rch.ret X0 hlk (fun h => by rw [hret] at h; cases h) (fun fs hr => retI' X0 hx hret (hb hby d4_10) hr) ⟨by rw [hv], N0, e0⟩ (by decide) (by decide)
  · refine Rch.go (fun _ kk_ => XS.icmpNo X0.here hx rfl (hb hby d4_2) rfl (flt hc2_1).2.2.1 kk_) ?_
    show Rch p e below (s₁.setTop (mkF m 5 #[.val (.int p1), .val (.int p2)] [])) _
    refine Rch.go (fun _ kk_ => XS.iloadN X0.here hx rfl (hb hby d4_5) rfl  kk_) ?_
    show Rch p e below (s₁.setTop (mkF m 6 #[.val (.int p1), .val (.int p2)] [(.int p1)])) _
    refine Rch.go (fun _ kk_ => XS.goto X0.here hx rfl (pc0 := 6) (pc' := 10) rfl (hb hby d4_6) (by decide) (by decide) kk_) ?_
    show Rch p e below (s₁.setTop (mkF m 10 #[.val (.int p1), .val (.int p2)] [(.int p1)])) _
    have hv : own_min p1 p2 = p1 := by simp only [own_min, if_neg hc2_1]
    exact Rch.ret X0 hlk (fun h => by rw [hret] at h; cases h) (fun fs hr => retI' X0 hx hret (hb hby d4_10) hr) ⟨by rw [hv], N0, e0⟩ (by decide) (by decide)
theorem own_min_l {i k : Nat} (h : i ≤ k) (hk : k < 2 ^ 31) : own_min (Int32.ofNat i) (Int32.ofNat k) = Int32.ofNat i := by
  unfold own_min
  rw [if_neg (fun q => absurd ((ofNat_lt hk (by omega)).mp q) (by omega))]
theorem own_min_max {i : Nat} (h : i < 1048576) : own_min (1048576 : Int32) (Int32.ofNat i) = Int32.ofNat i := by
  unfold own_min
  rw [if_pos (show Int32.ofNat i < (1048576 : Int32) from (ofNat_lt (k := 1048576) (by omega) (by decide)).mpr h)]
theorem own_tab {Z s : State} {a0 args : Array Value} (hZ : Z.Warmed39 s.vm) (hw : ∀ d ∈ tables_1, d.before a0 Z = true) : Jvm.Free.JA.CopyOfB.tab.before args s = true := by
  refine Jvm.Free.XT.unparts (mvT hZ (hw _ (List.mem_of_getElem? (i := 45) rfl))) ?_
  intro w hm
  simp only [Jvm.Free.JA.CopyOfB.site, Jvm.Free.XT.cloneW, Jvm.Free.XT.staticW, Jvm.Free.XT.acW, List.cons_append, List.nil_append, List.mem_cons, List.not_mem_nil, or_false] at hm
  rcases hm with rfl | rfl | rfl | rfl | rfl | rfl | rfl | rfl | rfl | rfl | rfl | rfl | rfl | rfl | rfl | rfl | rfl
  · exact mvT hZ (hw _ (List.mem_of_getElem? (i := 44) rfl))
  · exact mvT hZ (hw _ (List.mem_of_getElem? (i := 62) rfl))
  · exact mvT hZ (hw _ (List.mem_of_getElem? (i := 63) rfl))
  · exact mvA hZ (hw _ (List.mem_of_getElem? (i := 0) rfl))
  · exact Jvm.Free.XT.unparts (mvT hZ (hw _ (List.mem_of_getElem? (i := 24) rfl))) (fun w hm => by
      simp only [Jvm.Free.JP.Math_min_II.site, List.mem_cons, List.not_mem_nil, or_false] at hm
      subst hm; exact mvT hZ (hw _ (List.mem_of_getElem? (i := 23) rfl)))
  · exact mvT hZ (hw _ (List.mem_of_getElem? (i := 55) rfl))
  · exact mvT hZ (hw _ (List.mem_of_getElem? (i := 56) rfl))
  · exact mvT hZ (hw _ (List.mem_of_getElem? (i := 60) rfl))
  · exact mvT hZ (hw _ (List.mem_of_getElem? (i := 58) rfl))
  · exact mvT hZ (hw _ (List.mem_of_getElem? (i := 59) rfl))
  · exact mvT hZ (hw _ (List.mem_of_getElem? (i := 61) rfl))
  · exact mvT hZ (hw _ (List.mem_of_getElem? (i := 46) rfl))
  · exact mvT hZ (hw _ (List.mem_of_getElem? (i := 22) rfl))
  · exact mvT hZ (hw _ (List.mem_of_getElem? (i := 47) rfl))
  · exact mvT hZ (hw _ (List.mem_of_getElem? (i := 28) rfl))
  · exact mvT hZ (hw _ (List.mem_of_getElem? (i := 26) rfl))
  · exact mvT hZ (hw _ (List.mem_of_getElem? (i := 27) rfl))
theorem own_ac {Z s : State} {a0 args : Array Value} (hZ : Z.Warmed39 s.vm) (hw : ∀ d ∈ tables_1, d.before a0 Z = true) : ∀ w ∈ Jvm.Free.XT.acW "com/example/vaxwire/vaxwire/hl7/BoundedBytes" 37, w.before args s = true := by
  intro w hm
  simp only [Jvm.Free.XT.acW, List.mem_cons, List.not_mem_nil, or_false] at hm
  rcases hm with rfl | rfl | rfl | rfl
  · exact mvT hZ (hw _ (List.mem_of_getElem? (i := 25) rfl))
  · exact mvT hZ (hw _ (List.mem_of_getElem? (i := 28) rfl))
  · exact mvT hZ (hw _ (List.mem_of_getElem? (i := 26) rfl))
  · exact mvT hZ (hw _ (List.mem_of_getElem? (i := 27) rfl))
theorem d1_0 : decode prog_4_method_1_code 0 = .ok (.aload_n 0, 1) := by decide +kernel
theorem d1_1 : decode prog_4_method_1_code 1 = .ok (.invokespecial 1, 3) := by decide +kernel
theorem d1_4 : decode prog_4_method_1_code 4 = .ok (.aload_n 0, 1) := by decide +kernel
theorem d1_5 : decode prog_4_method_1_code 5 = .ok (.sipush 256, 3) := by decide +kernel
theorem d1_8 : decode prog_4_method_1_code 8 = .ok (.newarray .byte, 2) := by decide +kernel
theorem d1_10 : decode prog_4_method_1_code 10 = .ok (.putfield 9, 3) := by decide +kernel
theorem d1_13 : decode prog_4_method_1_code 13 = .ok (.return_, 1) := by decide +kernel
theorem pn_1 : plainFor (⟨"com/example/vaxwire/vaxwire/hl7/BoundedBytes", "<init>", "()V"⟩ : MethodName) = true := plainFor_of_name (by first | (simp [plainName, overriddenIn]; done) | decide +kernel)
theorem ef_1 (m : MethodId) (x0 : Addr) : entryFrame m #[(.ref x0)] 1 = mkF m 0 #[.val (.ref x0)] [] := by first | (simp [entryFrame, mkF, argsToLocals, Value.category]; done) | rfl
def own_Q_rm1 (Z : State) (a1 : Addr) (u : Value) (h0 : Heap) (n0 : Nat) (v : Option Value) (h : Heap) (L : List Loc) : Prop := ∃ b : Addr, v = none ∧ Fr n0 L ∧ Keep h0 h [a1] ∧ n0 ≤ b ∧ h0.size ≤ b ∧ Exa Z h a1 "com/example/vaxwire/vaxwire/hl7/BoundedBytes" ∧ Fld Z h a1 "com/example/vaxwire/vaxwire/hl7/BoundedBytes" "bytes" "[B" (.ref b) ∧ Fld Z h a1 "com/example/vaxwire/vaxwire/hl7/BoundedBytes" "length" "I" (.int (Int32.ofNat 0)) ∧ Fld Z h a1 "com/example/vaxwire/vaxwire/hl7/BoundedBytes" "overflowed" "Z" u ∧ BB Z h b 256 (fun _ => 0)
set_option maxRecDepth 65536 in
set_option maxHeartbeats 40000000 in
theorem rm1 (l : Launch) (Z : State) (a0 : Array Value) (hw : ∀ d ∈ tables_1, d.before a0 Z = true) (ws : List Jvm.Cond) (a1 : Addr) (u : Value) (h0 : Heap) (n0 : Nat) (Z0 : n0 ≤ h0.size) (E_a1 : Exa Z h0 a1 "com/example/vaxwire/vaxwire/hl7/BoundedBytes") (g_a1 : n0 ≤ a1) (F_bytes : Fld Z h0 a1 "com/example/vaxwire/vaxwire/hl7/BoundedBytes" "bytes" "[B" .null) (F_length : Fld Z h0 a1 "com/example/vaxwire/vaxwire/hl7/BoundedBytes" "length" "I" (.int (Int32.ofNat 0))) (F_over : Fld Z h0 a1 "com/example/vaxwire/vaxwire/hl7/BoundedBytes" "overflowed" "Z" u) :
    MetFree l (⟨"com/example/vaxwire/vaxwire/hl7/BoundedBytes", "<init>", "()V"⟩ : MethodName) (head1 (Jvm.Cond.code (⟨"com/example/vaxwire/vaxwire/hl7/BoundedBytes", "<init>", "()V"⟩ : MethodName) prog_4_method_1_code 1 none :: ws) ({ frames := 1, cells := 1, slots := 256, locals := 12 } : Room)) (fun a U => a = #[(.ref a1)] ∧ Z.Warmed39 U.vm ∧ U.heap = h0) (fun _ _ _ _ _ => True) (fun _ U o U' => ∃ v L, o = .returned v ∧ own_Q_rm1 Z a1 u h0 n0 v U'.heap L ∧ FrameEnd U o U' L ({ frames := 1, cells := 1, slots := 256, locals := 12 } : Room).cells ({ frames := 1, cells := 1, slots := 256, locals := 12 } : Room).slots) := by
  refine own_body (Q := (own_Q_rm1 Z a1 u h0 n0)) pn_1 ?_
  intro p e s m below meth c s₁ X0 hx hby hml hown hnm hret hlk hZ e0
  have N0 := Fr.nil n0
  refine Rch.go (fun tt_ kk_ => castTop (ef_1 m a1) kk_) ?_
  have K0 := Keep.refl h0 [a1]
  show Rch p e below (s₁.setTop (mkF m 0 #[.val (.ref a1)] [])) _
  refine Rch.go (fun _ kk_ => XS.aloadN X0.here hx rfl (hb hby d1_0) rfl rfl kk_) ?_
  show Rch p e below (s₁.setTop (mkF m 1 #[.val (.ref a1)] [(.ref a1)])) _
  obtain ⟨T1, X1, e1, st1⟩ := initO X0 hx hZ hown (hw _ (List.mem_of_getElem? (i := 8) rfl)) (hw _ (List.mem_of_getElem? (i := 9) rfl)) (hw _ (List.mem_of_getElem? (i := 10) rfl)) e0 (g := (mkF m 1 #[.val (.ref a1)] [(.ref a1)])) rfl (by rw [hml]; rfl) rfl (hb hby d1_1) (by decide) (W := 0) (by show 2 * 0 + _ ≤ _; exact Nat.le_of_eq rfl) (by decide)
  refine Rch.go st1 ?_
  show Rch p e below (T1.setTop (mkF m 4 #[.val (.ref a1)] [])) _
  refine Rch.go (fun _ kk_ => XS.aloadN X1.here hx rfl (hb hby d1_4) rfl rfl kk_) ?_
  show Rch p e below (T1.setTop (mkF m 5 #[.val (.ref a1)] [(.ref a1)])) _
  refine Rch.go (fun _ kk_ => XS.sipush X1.here hx rfl (hb hby d1_5) kk_) ?_
  show Rch p e below (T1.setTop (mkF m 8 #[.val (.ref a1)] [(.int (256 : Int32)), (.ref a1)])) _
  obtain ⟨T2, h2, X2, e2, E2, A2, st2⟩ := newBB X1 hx hZ (hw _ (List.mem_of_getElem? (i := 0) rfl)) e1 (n := 256) (by decide) (g := (mkF m 8 #[.val (.ref a1)] [(.int (256 : Int32)), (.ref a1)])) rfl (hb hby d1_8) rfl (by decide) (by decide)
  obtain ⟨b2, g2⟩ : ∃ z, z = h0.size := ⟨_, rfl⟩
  rw [← g2] at A2 st2
  have ne_a1_b2 : a1 ≠ b2 := Nat.ne_of_lt (Nat.lt_of_lt_of_le F_bytes.lt (Nat.le_of_eq g2.symm))
  have g_b2 : n0 ≤ b2 := Nat.le_trans Z0 (Nat.le_of_eq g2.symm)
  have sz_b2 : h0.size ≤ b2 := Nat.le_trans K0.1 (Nat.le_of_eq g2.symm)
  have E_a1 := E_a1.ext E2
  have F_bytes := F_bytes.ext E2
  have F_length := F_length.ext E2
  have F_over := F_over.ext E2
  have K0 := K0.ext E2
  have Z0 := Nat.le_trans Z0 E2.1
  have B_b2 := A2
  refine Rch.go st2 ?_
  show Rch p e below (T2.setTop (mkF m 10 #[.val (.ref a1)] [(.ref b2), (.ref a1)])) _
  obtain ⟨T3, h3, X3, e3, W3, st3⟩ := putF X2 hx hZ hown (host := "") (Or.inl (hw _ (List.mem_of_getElem? (i := 11) rfl))) Via.refl e2 F_bytes E_a1 (Or.inl (hw _ (List.mem_of_getElem? (i := 12) rfl))) (hw _ (List.mem_of_getElem? (i := 3) rfl)) (ty := (.array .byte)) (by decide) rfl rfl (g := (mkF m 10 #[.val (.ref a1)] [(.ref b2), (.ref a1)])) rfl rfl (hb hby d1_10)
  have E_a1 := E_a1.wr W3
  have F_length := F_length.other W3 (Or.inr (slot_ne (Or.inl (hw _ (List.mem_of_getElem? (i := 20) rfl))) (Or.inl (hw _ (List.mem_of_getElem? (i := 12) rfl))) (by decide) (t := .int) (t' := (.array .byte)) (by decide) (by decide)))
  have F_over := F_over.other W3 (Or.inr (slot_ne (Or.inl (hw _ (List.mem_of_getElem? (i := 36) rfl))) (Or.inl (hw _ (List.mem_of_getElem? (i := 12) rfl))) (by decide) (t := .boolean) (t' := (.array .byte)) (by decide) (by decide)))
  have B_b2 := B_b2.other W3 (Ne.symm ne_a1_b2)
  have K0 := K0.wr W3 (Or.inl (List.mem_of_getElem? (i := 0) rfl))
  have Z0 := Nat.le_trans Z0 (Keep.of_wr W3).1
  have F_bytes := F_bytes.same W3
  have N3 := Fr.snoc X3 N0 g_a1
  refine Rch.go st3 ?_
  show Rch p e below (T3.setTop (mkF m 13 #[.val (.ref a1)] [])) _
  exact Rch.ret X3 hlk (fun _ => rfl) (fun fs hr => X3.returnOut hx hret (hb hby d1_13) hr) (by rw [e3]; exact ⟨b2, rfl, N3, K0, g_b2, sz_b2, E_a1, F_bytes, F_length, F_over, B_b2⟩) (by decide) (by decide)
theorem d3_0 : decode prog_4_method_3_code 0 = .ok (.iload_n 3, 1) := by decide +kernel
theorem d3_1 : decode prog_4_method_3_code 1 = .ok (.iload_n 2, 1) := by decide +kernel
theorem d3_2 : decode prog_4_method_3_code 2 = .ok (.isub, 1) := by decide +kernel
theorem d3_3 : decode prog_4_method_3_code 3 = .ok (.ldc 24, 2) := by decide +kernel
theorem d3_5 : decode prog_4_method_3_code 5 = .ok (.aload_n 0, 1) := by decide +kernel
theorem d3_6 : decode prog_4_method_3_code 6 = .ok (.getfield 14, 3) := by decide +kernel
theorem d3_9 : decode prog_4_method_3_code 9 = .ok (.isub, 1) := by decide +kernel
theorem d3_10 : decode prog_4_method_3_code 10 = .ok (.invokestatic 25, 3) := by decide +kernel
theorem d3_13 : decode prog_4_method_3_code 13 = .ok (.istore 4, 2) := by decide +kernel
theorem d3_15 : decode prog_4_method_3_code 15 = .ok (.iload 4, 2) := by decide +kernel
theorem d3_17 : decode prog_4_method_3_code 17 = .ok (.iload_n 3, 1) := by decide +kernel
theorem d3_18 : decode prog_4_method_3_code 18 = .ok (.iload_n 2, 1) := by decide +kernel
theorem d3_19 : decode prog_4_method_3_code 19 = .ok (.isub, 1) := by decide +kernel
theorem d3_20 : decode prog_4_method_3_code 20 = .ok (.if_icmp .ge 8, 3) := by decide +kernel
theorem d3_28 : decode prog_4_method_3_code 28 = .ok (.aload_n 0, 1) := by decide +kernel
theorem d3_29 : decode prog_4_method_3_code 29 = .ok (.getfield 14, 3) := by decide +kernel
theorem d3_32 : decode prog_4_method_3_code 32 = .ok (.iload 4, 2) := by decide +kernel
theorem d3_34 : decode prog_4_method_3_code 34 = .ok (.iadd, 1) := by decide +kernel
theorem d3_35 : decode prog_4_method_3_code 35 = .ok (.aload_n 0, 1) := by decide +kernel
theorem d3_36 : decode prog_4_method_3_code 36 = .ok (.getfield 9, 3) := by decide +kernel
theorem d3_39 : decode prog_4_method_3_code 39 = .ok (.arraylength, 1) := by decide +kernel
theorem d3_40 : decode prog_4_method_3_code 40 = .ok (.if_icmp .le 28, 3) := by decide +kernel
theorem d3_43 : decode prog_4_method_3_code 43 = .ok (.aload_n 0, 1) := by decide +kernel
theorem d3_44 : decode prog_4_method_3_code 44 = .ok (.aload_n 0, 1) := by decide +kernel
theorem d3_45 : decode prog_4_method_3_code 45 = .ok (.getfield 9, 3) := by decide +kernel
theorem d3_48 : decode prog_4_method_3_code 48 = .ok (.ldc 24, 2) := by decide +kernel
theorem d3_50 : decode prog_4_method_3_code 50 = .ok (.iconst 2, 1) := by decide +kernel
theorem d3_51 : decode prog_4_method_3_code 51 = .ok (.aload_n 0, 1) := by decide +kernel
theorem d3_52 : decode prog_4_method_3_code 52 = .ok (.getfield 14, 3) := by decide +kernel
theorem d3_55 : decode prog_4_method_3_code 55 = .ok (.iload 4, 2) := by decide +kernel
theorem d3_57 : decode prog_4_method_3_code 57 = .ok (.iadd, 1) := by decide +kernel
theorem d3_58 : decode prog_4_method_3_code 58 = .ok (.imul, 1) := by decide +kernel
theorem d3_59 : decode prog_4_method_3_code 59 = .ok (.invokestatic 25, 3) := by decide +kernel
theorem d3_62 : decode prog_4_method_3_code 62 = .ok (.invokestatic 31, 3) := by decide +kernel
theorem d3_65 : decode prog_4_method_3_code 65 = .ok (.putfield 9, 3) := by decide +kernel
theorem d3_68 : decode prog_4_method_3_code 68 = .ok (.aload_n 1, 1) := by decide +kernel
theorem d3_69 : decode prog_4_method_3_code 69 = .ok (.iload_n 2, 1) := by decide +kernel
theorem d3_70 : decode prog_4_method_3_code 70 = .ok (.aload_n 0, 1) := by decide +kernel
theorem d3_71 : decode prog_4_method_3_code 71 = .ok (.getfield 9, 3) := by decide +kernel
theorem d3_74 : decode prog_4_method_3_code 74 = .ok (.aload_n 0, 1) := by decide +kernel
theorem d3_75 : decode prog_4_method_3_code 75 = .ok (.getfield 14, 3) := by decide +kernel
theorem d3_78 : decode prog_4_method_3_code 78 = .ok (.iload 4, 2) := by decide +kernel
theorem d3_80 : decode prog_4_method_3_code 80 = .ok (.invokestatic 37, 3) := by decide +kernel
theorem d3_83 : decode prog_4_method_3_code 83 = .ok (.aload_n 0, 1) := by decide +kernel
theorem d3_84 : decode prog_4_method_3_code 84 = .ok (.dup, 1) := by decide +kernel
theorem d3_85 : decode prog_4_method_3_code 85 = .ok (.getfield 14, 3) := by decide +kernel
theorem d3_88 : decode prog_4_method_3_code 88 = .ok (.iload 4, 2) := by decide +kernel
theorem d3_90 : decode prog_4_method_3_code 90 = .ok (.iadd, 1) := by decide +kernel
theorem d3_91 : decode prog_4_method_3_code 91 = .ok (.putfield 14, 3) := by decide +kernel
theorem d3_94 : decode prog_4_method_3_code 94 = .ok (.return_, 1) := by decide +kernel
theorem pd3_0 : parseMethodDescriptor "(II)I" = some ⟨[.int, .int], some .int⟩ := by decide +kernel
theorem pn_3 : plainFor (⟨"com/example/vaxwire/vaxwire/hl7/BoundedBytes", "append", "([BII)V"⟩ : MethodName) = true := plainFor_of_name (by first | (simp [plainName, overriddenIn]; done) | decide +kernel)
theorem ef_3 (m : MethodId) (x0 x1 : Addr) (x2 x3 : Int32) : entryFrame m #[(.ref x0), (.ref x1), (.int x2), (.int x3)] 5 = mkF m 0 #[.val (.ref x0), .val (.ref x1), .val (.int x2), .val (.int x3), .unset] [] := by first | (simp [entryFrame, mkF, argsToLocals, Value.category]; done) | rfl
def own_Q_rm3 (Z : State) (a1 src : Addr) (f t len cap ns : Nat) (b : Addr) (fb fs : Nat → Int32) (u : Value) (h0 : Heap) (n0 : Nat) (v : Option Value) (h : Heap) (L : List Loc) : Prop := ∃ (b' : Addr) (cap' : Nat) (f' : Nat → Int32), v = none ∧ Fr n0 L ∧ Keep h0 h [a1, b] ∧ n0 ≤ b' ∧ (b' = b ∨ h0.size ≤ b') ∧ Exa Z h a1 "com/example/vaxwire/vaxwire/hl7/BoundedBytes" ∧ Fld Z h a1 "com/example/vaxwire/vaxwire/hl7/BoundedBytes" "bytes" "[B" (.ref b') ∧ Fld Z h a1 "com/example/vaxwire/vaxwire/hl7/BoundedBytes" "length" "I" (.int (Int32.ofNat (len + (t - f)))) ∧ Fld Z h a1 "com/example/vaxwire/vaxwire/hl7/BoundedBytes" "overflowed" "Z" u ∧ BB Z h b' cap' f' ∧ len + (t - f) ≤ cap' ∧ cap' ≤ 616 ∧ (∀ j, j < len → f' j = fb j) ∧ (∀ j, j < t - f → f' (len + j) = fs (f + j))
set_option maxRecDepth 65536 in
set_option maxHeartbeats 40000000 in
theorem rm3 (l : Launch) (Z : State) (a0 : Array Value) (hw : ∀ d ∈ tables_1, d.before a0 Z = true) (ws : List Jvm.Cond) (a1 src : Addr) (f t len cap ns : Nat) (b : Addr) (fb fs : Nat → Int32) (u : Value) (h0 : Heap) (n0 : Nat) (Z0 : n0 ≤ h0.size) (hft : f ≤ t) (ht : t ≤ ns) (hlen : len ≤ cap) (h308 : len + (t - f) ≤ 308) (hcap : cap ≤ 616) (E_a1 : Exa Z h0 a1 "com/example/vaxwire/vaxwire/hl7/BoundedBytes") (g_a1 : n0 ≤ a1) (F_bytes : Fld Z h0 a1 "com/example/vaxwire/vaxwire/hl7/BoundedBytes" "bytes" "[B" (.ref b)) (F_length : Fld Z h0 a1 "com/example/vaxwire/vaxwire/hl7/BoundedBytes" "length" "I" (.int (Int32.ofNat len))) (F_over : Fld Z h0 a1 "com/example/vaxwire/vaxwire/hl7/BoundedBytes" "overflowed" "Z" u) (g_b : n0 ≤ b) (B_b : BB Z h0 b cap fb) (B_src : BB Z h0 src ns fs) (ne_b_a1 : b ≠ a1) (ne_src_a1 : src ≠ a1) (ne_src_b : src ≠ b) :
    MetFree l (⟨"com/example/vaxwire/vaxwire/hl7/BoundedBytes", "append", "([BII)V"⟩ : MethodName) (head1 (Jvm.Cond.code (⟨"com/example/vaxwire/vaxwire/hl7/BoundedBytes", "append", "([BII)V"⟩ : MethodName) prog_4_method_3_code 5 none :: ws) ({ frames := 2, cells := 1, slots := 616, locals := 55 } : Room)) (fun a U => a = #[(.ref a1), (.ref src), (.int (Int32.ofNat f)), (.int (Int32.ofNat t))] ∧ Z.Warmed39 U.vm ∧ U.heap = h0) (fun _ _ _ _ _ => True) (fun _ U o U' => ∃ v L, o = .returned v ∧ own_Q_rm3 Z a1 src f t len cap ns b fb fs u h0 n0 v U'.heap L ∧ FrameEnd U o U' L ({ frames := 2, cells := 1, slots := 616, locals := 55 } : Room).cells ({ frames := 2, cells := 1, slots := 616, locals := 55 } : Room).slots) := by
  refine own_body (Q := (own_Q_rm3 Z a1 src f t len cap ns b fb fs u h0 n0)) pn_3 ?_
  intro p e s m below meth c s₁ X0 hx hby hml hown hnm hret hlk hZ e0
  have N0 := Fr.nil n0
  refine Rch.go (fun tt_ kk_ => castTop (ef_3 m a1 src (Int32.ofNat f) (Int32.ofNat t)) kk_) ?_
  have K0 := Keep.refl h0 [a1, b]
  show Rch p e below (s₁.setTop (mkF m 0 #[.val (.ref a1), .val (.ref src), .val (.int (Int32.ofNat f)), .val (.int (Int32.ofNat t)), .unset] [])) _
  refine Rch.go (fun _ kk_ => XS.iloadN X0.here hx rfl (hb hby d3_0) rfl  kk_) ?_
  show Rch p e below (s₁.setTop (mkF m 1 #[.val (.ref a1), .val (.ref src), .val (.int (Int32.ofNat f)), .val (.int (Int32.ofNat t)), .unset] [(.int (Int32.ofNat t))])) _
  refine Rch.go (fun _ kk_ => XS.iloadN X0.here hx rfl (hb hby d3_1) rfl  kk_) ?_
  show Rch p e below (s₁.setTop (mkF m 2 #[.val (.ref a1), .val (.ref src), .val (.int (Int32.ofNat f)), .val (.int (Int32.ofNat t)), .unset] [(.int (Int32.ofNat f)), (.int (Int32.ofNat t))])) _
  refine Rch.go (fun _ kk_ => XS.isub X0.here hx rfl (hb hby d3_2) rfl kk_) ?_
  show Rch p e below (s₁.setTop (mkF m 3 #[.val (.ref a1), .val (.ref src), .val (.int (Int32.ofNat f)), .val (.int (Int32.ofNat t)), .unset] [(.int ((Int32.ofNat t) - (Int32.ofNat f)))])) _
  rw [ofNat_sub hft]
  show Rch p e below (s₁.setTop (mkF m 3 #[.val (.ref a1), .val (.ref src), .val (.int (Int32.ofNat f)), .val (.int (Int32.ofNat t)), .unset] [(.int (Int32.ofNat (t - f)))])) _
  refine Rch.go (fun _ kk_ => X0.ldcInt hx hown (mvT hZ (hw _ (List.mem_of_getElem? (i := 18) rfl))) (g := (mkF m 3 #[.val (.ref a1), .val (.ref src), .val (.int (Int32.ofNat f)), .val (.int (Int32.ofNat t)), .unset] [(.int (Int32.ofNat (t - f)))])) rfl (hb hby d3_3) _ kk_) ?_
  show Rch p e below (s₁.setTop (mkF m 5 #[.val (.ref a1), .val (.ref src), .val (.int (Int32.ofNat f)), .val (.int (Int32.ofNat t)), .unset] [(.int (1048576 : Int32)), (.int (Int32.ofNat (t - f)))])) _
  refine Rch.go (fun _ kk_ => XS.aloadN X0.here hx rfl (hb hby d3_5) rfl rfl kk_) ?_
  show Rch p e below (s₁.setTop (mkF m 6 #[.val (.ref a1), .val (.ref src), .val (.int (Int32.ofNat f)), .val (.int (Int32.ofNat t)), .unset] [(.ref a1), (.int (1048576 : Int32)), (.int (Int32.ofNat (t - f)))])) _
  obtain ⟨T1, X1, e1, st1⟩ := getF X0 hx hZ hown (host := "") (Or.inl (hw _ (List.mem_of_getElem? (i := 19) rfl))) Via.refl e0 F_length (g := (mkF m 6 #[.val (.ref a1), .val (.ref src), .val (.int (Int32.ofNat f)), .val (.int (Int32.ofNat t)), .unset] [(.ref a1), (.int (1048576 : Int32)), (.int (Int32.ofNat (t - f)))])) rfl rfl (hb hby d3_6)
  refine Rch.go st1 ?_
  show Rch p e below (T1.setTop (mkF m 9 #[.val (.ref a1), .val (.ref src), .val (.int (Int32.ofNat f)), .val (.int (Int32.ofNat t)), .unset] [(.int (Int32.ofNat len)), (.int (1048576 : Int32)), (.int (Int32.ofNat (t - f)))])) _
  refine Rch.go (fun _ kk_ => XS.isub X1.here hx rfl (hb hby d3_9) rfl kk_) ?_
  show Rch p e below (T1.setTop (mkF m 10 #[.val (.ref a1), .val (.ref src), .val (.int (Int32.ofNat f)), .val (.int (Int32.ofNat t)), .unset] [(.int ((1048576 : Int32) - (Int32.ofNat len))), (.int (Int32.ofNat (t - f)))])) _
  rw [own_max len (by omega)]
  show Rch p e below (T1.setTop (mkF m 10 #[.val (.ref a1), .val (.ref src), .val (.int (Int32.ofNat f)), .val (.int (Int32.ofNat t)), .unset] [(.int (Int32.ofNat (1048576 - len))), (.int (Int32.ofNat (t - f)))])) _
  refine Rch.callS X1 hx hZ hown (hw _ (List.mem_of_getElem? (i := 21) rfl)) (hw _ (List.mem_of_getElem? (i := 22) rfl)) (hw _ (List.mem_of_getElem? (i := 23) rfl)) (hw _ (List.mem_of_getElem? (i := 24) rfl)) (by decide) (rm4 l Z a0 hw [] (Int32.ofNat (t - f)) (Int32.ofNat (1048576 - len)) h0 n0 Z0) 0 (by decide) (by decide) (by decide) (by decide) e1 (g := (mkF m 10 #[.val (.ref a1), .val (.ref src), .val (.int (Int32.ofNat f)), .val (.int (Int32.ofNat t)), .unset] [(.int (Int32.ofNat (1048576 - len))), (.int (Int32.ofNat (t - f)))])) rfl (by rw [hml]; rfl) [(.int (Int32.ofNat (t - f))), (.int (Int32.ofNat (1048576 - len)))] [] rfl (lenOf pd3_0 rfl) rfl (by show 2 * 0 + _ ≤ _; exact Nat.le_of_eq rfl) (hb hby d3_10) ?_
  intro v2 T2 L2 X2 hQ2
  obtain ⟨rfl, N2q, e2⟩ := hQ2
  have N2 := Fr.app N0 N2q
  rw [own_min_l (by omega) (by omega)]
  show Rch p e below (T2.setTop (mkF m 13 #[.val (.ref a1), .val (.ref src), .val (.int (Int32.ofNat f)), .val (.int (Int32.ofNat t)), .unset] [(.int (Int32.ofNat (t - f)))])) _
  refine Rch.go (fun _ kk_ => XS.istore X2.here hx rfl (hb hby d3_13) rfl (l' := #[.val (.ref a1), .val (.ref src), .val (.int (Int32.ofNat f)), .val (.int (Int32.ofNat t)), .val (.int (Int32.ofNat (t - f)))]) rfl kk_) ?_
  show Rch p e below (T2.setTop (mkF m 15 #[.val (.ref a1), .val (.ref src), .val (.int (Int32.ofNat f)), .val (.int (Int32.ofNat t)), .val (.int (Int32.ofNat (t - f)))] [])) _
  refine Rch.go (fun _ kk_ => XS.iload X2.here hx rfl (hb hby d3_15) rfl  kk_) ?_
  show Rch p e below (T2.setTop (mkF m 17 #[.val (.ref a1), .val (.ref src), .val (.int (Int32.ofNat f)), .val (.int (Int32.ofNat t)), .val (.int (Int32.ofNat (t - f)))] [(.int (Int32.ofNat (t - f)))])) _
  refine Rch.go (fun _ kk_ => XS.iloadN X2.here hx rfl (hb hby d3_17) rfl  kk_) ?_
  show Rch p e below (T2.setTop (mkF m 18 #[.val (.ref a1), .val (.ref src), .val (.int (Int32.ofNat f)), .val (.int (Int32.ofNat t)), .val (.int (Int32.ofNat (t - f)))] [(.int (Int32.ofNat t)), (.int (Int32.ofNat (t - f)))])) _
  refine Rch.go (fun _ kk_ => XS.iloadN X2.here hx rfl (hb hby d3_18) rfl  kk_) ?_
  show Rch p e below (T2.setTop (mkF m 19 #[.val (.ref a1), .val (.ref src), .val (.int (Int32.ofNat f)), .val (.int (Int32.ofNat t)), .val (.int (Int32.ofNat (t - f)))] [(.int (Int32.ofNat f)), (.int (Int32.ofNat t)), (.int (Int32.ofNat (t - f)))])) _
  refine Rch.go (fun _ kk_ => XS.isub X2.here hx rfl (hb hby d3_19) rfl kk_) ?_
  show Rch p e below (T2.setTop (mkF m 20 #[.val (.ref a1), .val (.ref src), .val (.int (Int32.ofNat f)), .val (.int (Int32.ofNat t)), .val (.int (Int32.ofNat (t - f)))] [(.int ((Int32.ofNat t) - (Int32.ofNat f))), (.int (Int32.ofNat (t - f)))])) _
  rw [ofNat_sub hft]
  show Rch p e below (T2.setTop (mkF m 20 #[.val (.ref a1), .val (.ref src), .val (.int (Int32.ofNat f)), .val (.int (Int32.ofNat t)), .val (.int (Int32.ofNat (t - f)))] [(.int (Int32.ofNat (t - f))), (.int (Int32.ofNat (t - f)))])) _
  refine Rch.go (fun _ kk_ => XS.icmpYes X2.here hx rfl (pc0 := 20) (pc' := 28) rfl (hb hby d3_20) rfl (flt (Int32.lt_irrefl)).2.1 (by decide) (by decide) kk_) ?_
  show Rch p e below (T2.setTop (mkF m 28 #[.val (.ref a1), .val (.ref src), .val (.int (Int32.ofNat f)), .val (.int (Int32.ofNat t)), .val (.int (Int32.ofNat (t - f)))] [])) _
  refine Rch.go (fun _ kk_ => XS.aloadN X2.here hx rfl (hb hby d3_28) rfl rfl kk_) ?_
  show Rch p e below (T2.setTop (mkF m 29 #[.val (.ref a1), .val (.ref src), .val (.int (Int32.ofNat f)), .val (.int (Int32.ofNat t)), .val (.int (Int32.ofNat (t - f)))] [(.ref a1)])) _
  obtain ⟨T3, X3, e3, st3⟩ := getF X2 hx hZ hown (host := "") (Or.inl (hw _ (List.mem_of_getElem? (i := 19) rfl))) Via.refl e2 F_length (g := (mkF m 29 #[.val (.ref a1), .val (.ref src), .val (.int (Int32.ofNat f)), .val (.int (Int32.ofNat t)), .val (.int (Int32.ofNat (t - f)))] [(.ref a1)])) rfl rfl (hb hby d3_29)
  refine Rch.go st3 ?_
  show Rch p e below (T3.setTop (mkF m 32 #[.val (.ref a1), .val (.ref src), .val (.int (Int32.ofNat f)), .val (.int (Int32.ofNat t)), .val (.int (Int32.ofNat (t - f)))] [(.int (Int32.ofNat len))])) _
  refine Rch.go (fun _ kk_ => XS.iload X3.here hx rfl (hb hby d3_32) rfl  kk_) ?_
  show Rch p e below (T3.setTop (mkF m 34 #[.val (.ref a1), .val (.ref src), .val (.int (Int32.ofNat f)), .val (.int (Int32.ofNat t)), .val (.int (Int32.ofNat (t - f)))] [(.int (Int32.ofNat (t - f))), (.int (Int32.ofNat len))])) _
  refine Rch.go (fun _ kk_ => XS.iadd X3.here hx rfl (hb hby d3_34) rfl kk_) ?_
  show Rch p e below (T3.setTop (mkF m 35 #[.val (.ref a1), .val (.ref src), .val (.int (Int32.ofNat f)), .val (.int (Int32.ofNat t)), .val (.int (Int32.ofNat (t - f)))] [(.int ((Int32.ofNat len) + (Int32.ofNat (t - f))))])) _
  rw [ofNat_add']
  show Rch p e below (T3.setTop (mkF m 35 #[.val (.ref a1), .val (.ref src), .val (.int (Int32.ofNat f)), .val (.int (Int32.ofNat t)), .val (.int (Int32.ofNat (t - f)))] [(.int (Int32.ofNat (len + (t - f))))])) _
  refine Rch.go (fun _ kk_ => XS.aloadN X3.here hx rfl (hb hby d3_35) rfl rfl kk_) ?_
  show Rch p e below (T3.setTop (mkF m 36 #[.val (.ref a1), .val (.ref src), .val (.int (Int32.ofNat f)), .val (.int (Int32.ofNat t)), .val (.int (Int32.ofNat (t - f)))] [(.ref a1), (.int (Int32.ofNat (len + (t - f))))])) _
  obtain ⟨T4, X4, e4, st4⟩ := getF X3 hx hZ hown (host := "") (Or.inl (hw _ (List.mem_of_getElem? (i := 11) rfl))) Via.refl e3 F_bytes (g := (mkF m 36 #[.val (.ref a1), .val (.ref src), .val (.int (Int32.ofNat f)), .val (.int (Int32.ofNat t)), .val (.int (Int32.ofNat (t - f)))] [(.ref a1), (.int (Int32.ofNat (len + (t - f))))])) rfl rfl (hb hby d3_36)
  refine Rch.go st4 ?_
  show Rch p e below (T4.setTop (mkF m 39 #[.val (.ref a1), .val (.ref src), .val (.int (Int32.ofNat f)), .val (.int (Int32.ofNat t)), .val (.int (Int32.ofNat (t - f)))] [(.ref b), (.int (Int32.ofNat (len + (t - f))))])) _
  refine Rch.go (lenBB X4 hx hZ e4 B_b (g := (mkF m 39 #[.val (.ref a1), .val (.ref src), .val (.int (Int32.ofNat f)), .val (.int (Int32.ofNat t)), .val (.int (Int32.ofNat (t - f)))] [(.ref b), (.int (Int32.ofNat (len + (t - f))))])) rfl (hb hby d3_39) rfl) ?_
  show Rch p e below (T4.setTop (mkF m 40 #[.val (.ref a1), .val (.ref src), .val (.int (Int32.ofNat f)), .val (.int (Int32.ofNat t)), .val (.int (Int32.ofNat (t - f)))] [(.int (Int32.ofNat cap)), (.int (Int32.ofNat (len + (t - f))))])) _
  by_cases hgr : cap < len + (t - f)
  · refine Rch.go (fun _ kk_ => XS.icmpNo X4.here hx rfl (hb hby d3_40) rfl (tlt ((ofNat_lt (by omega) (by omega)).mpr hgr)).2.2.2 kk_) ?_
    show Rch p e below (T4.setTop (mkF m 43 #[.val (.ref a1), .val (.ref src), .val (.int (Int32.ofNat f)), .val (.int (Int32.ofNat t)), .val (.int (Int32.ofNat (t - f)))] [])) _
    refine Rch.go (fun _ kk_ => XS.aloadN X4.here hx rfl (hb hby d3_43) rfl rfl kk_) ?_
    show Rch p e below (T4.setTop (mkF m 44 #[.val (.ref a1), .val (.ref src), .val (.int (Int32.ofNat f)), .val (.int (Int32.ofNat t)), .val (.int (Int32.ofNat (t - f)))] [(.ref a1)])) _
    refine Rch.go (fun _ kk_ => XS.aloadN X4.here hx rfl (hb hby d3_44) rfl rfl kk_) ?_
    show Rch p e below (T4.setTop (mkF m 45 #[.val (.ref a1), .val (.ref src), .val (.int (Int32.ofNat f)), .val (.int (Int32.ofNat t)), .val (.int (Int32.ofNat (t - f)))] [(.ref a1), (.ref a1)])) _
    obtain ⟨T5, X5, e5, st5⟩ := getF X4 hx hZ hown (host := "") (Or.inl (hw _ (List.mem_of_getElem? (i := 11) rfl))) Via.refl e4 F_bytes (g := (mkF m 45 #[.val (.ref a1), .val (.ref src), .val (.int (Int32.ofNat f)), .val (.int (Int32.ofNat t)), .val (.int (Int32.ofNat (t - f)))] [(.ref a1), (.ref a1)])) rfl rfl (hb hby d3_45)
    refine Rch.go st5 ?_
    show Rch p e below (T5.setTop (mkF m 48 #[.val (.ref a1), .val (.ref src), .val (.int (Int32.ofNat f)), .val (.int (Int32.ofNat t)), .val (.int (Int32.ofNat (t - f)))] [(.ref b), (.ref a1)])) _
    refine Rch.go (fun _ kk_ => X5.ldcInt hx hown (mvT hZ (hw _ (List.mem_of_getElem? (i := 18) rfl))) (g := (mkF m 48 #[.val (.ref a1), .val (.ref src), .val (.int (Int32.ofNat f)), .val (.int (Int32.ofNat t)), .val (.int (Int32.ofNat (t - f)))] [(.ref b), (.ref a1)])) rfl (hb hby d3_48) _ kk_) ?_
    show Rch p e below (T5.setTop (mkF m 50 #[.val (.ref a1), .val (.ref src), .val (.int (Int32.ofNat f)), .val (.int (Int32.ofNat t)), .val (.int (Int32.ofNat (t - f)))] [(.int (1048576 : Int32)), (.ref b), (.ref a1)])) _
    refine Rch.go (fun _ kk_ => XS.iconst X5.here hx rfl (hb hby d3_50) kk_) ?_
    show Rch p e below (T5.setTop (mkF m 51 #[.val (.ref a1), .val (.ref src), .val (.int (Int32.ofNat f)), .val (.int (Int32.ofNat t)), .val (.int (Int32.ofNat (t - f)))] [(.int (2 : Int32)), (.int (1048576 : Int32)), (.ref b), (.ref a1)])) _
    refine Rch.go (fun _ kk_ => XS.aloadN X5.here hx rfl (hb hby d3_51) rfl rfl kk_) ?_
    show Rch p e below (T5.setTop (mkF m 52 #[.val (.ref a1), .val (.ref src), .val (.int (Int32.ofNat f)), .val (.int (Int32.ofNat t)), .val (.int (Int32.ofNat (t - f)))] [(.ref a1), (.int (2 : Int32)), (.int (1048576 : Int32)), (.ref b), (.ref a1)])) _
    obtain ⟨T6, X6, e6, st6⟩ := getF X5 hx hZ hown (host := "") (Or.inl (hw _ (List.mem_of_getElem? (i := 19) rfl))) Via.refl e5 F_length (g := (mkF m 52 #[.val (.ref a1), .val (.ref src), .val (.int (Int32.ofNat f)), .val (.int (Int32.ofNat t)), .val (.int (Int32.ofNat (t - f)))] [(.ref a1), (.int (2 : Int32)), (.int (1048576 : Int32)), (.ref b), (.ref a1)])) rfl rfl (hb hby d3_52)
    refine Rch.go st6 ?_
    show Rch p e below (T6.setTop (mkF m 55 #[.val (.ref a1), .val (.ref src), .val (.int (Int32.ofNat f)), .val (.int (Int32.ofNat t)), .val (.int (Int32.ofNat (t - f)))] [(.int (Int32.ofNat len)), (.int (2 : Int32)), (.int (1048576 : Int32)), (.ref b), (.ref a1)])) _
    refine Rch.go (fun _ kk_ => XS.iload X6.here hx rfl (hb hby d3_55) rfl  kk_) ?_
    show Rch p e below (T6.setTop (mkF m 57 #[.val (.ref a1), .val (.ref src), .val (.int (Int32.ofNat f)), .val (.int (Int32.ofNat t)), .val (.int (Int32.ofNat (t - f)))] [(.int (Int32.ofNat (t - f))), (.int (Int32.ofNat len)), (.int (2 : Int32)), (.int (1048576 : Int32)), (.ref b), (.ref a1)])) _
    refine Rch.go (fun _ kk_ => XS.iadd X6.here hx rfl (hb hby d3_57) rfl kk_) ?_
    show Rch p e below (T6.setTop (mkF m 58 #[.val (.ref a1), .val (.ref src), .val (.int (Int32.ofNat f)), .val (.int (Int32.ofNat t)), .val (.int (Int32.ofNat (t - f)))] [(.int ((Int32.ofNat len) + (Int32.ofNat (t - f)))), (.int (2 : Int32)), (.int (1048576 : Int32)), (.ref b), (.ref a1)])) _
    rw [ofNat_add']
    show Rch p e below (T6.setTop (mkF m 58 #[.val (.ref a1), .val (.ref src), .val (.int (Int32.ofNat f)), .val (.int (Int32.ofNat t)), .val (.int (Int32.ofNat (t - f)))] [(.int (Int32.ofNat (len + (t - f)))), (.int (2 : Int32)), (.int (1048576 : Int32)), (.ref b), (.ref a1)])) _
    refine Rch.go (fun _ kk_ => XS.imul X6.here hx rfl (hb hby d3_58) rfl kk_) ?_
    show Rch p e below (T6.setTop (mkF m 59 #[.val (.ref a1), .val (.ref src), .val (.int (Int32.ofNat f)), .val (.int (Int32.ofNat t)), .val (.int (Int32.ofNat (t - f)))] [(.int ((2 : Int32) * (Int32.ofNat (len + (t - f))))), (.int (1048576 : Int32)), (.ref b), (.ref a1)])) _
    rw [ofNat_two]
    show Rch p e below (T6.setTop (mkF m 59 #[.val (.ref a1), .val (.ref src), .val (.int (Int32.ofNat f)), .val (.int (Int32.ofNat t)), .val (.int (Int32.ofNat (t - f)))] [(.int (Int32.ofNat (2 * (len + (t - f))))), (.int (1048576 : Int32)), (.ref b), (.ref a1)])) _
    refine Rch.callS X6 hx hZ hown (hw _ (List.mem_of_getElem? (i := 21) rfl)) (hw _ (List.mem_of_getElem? (i := 22) rfl)) (hw _ (List.mem_of_getElem? (i := 23) rfl)) (hw _ (List.mem_of_getElem? (i := 24) rfl)) (by decide) (rm4 l Z a0 hw [] (1048576 : Int32) (Int32.ofNat (2 * (len + (t - f)))) h0 n0 Z0) 2 (by decide) (by decide) (by decide) (by decide) e6 (g := (mkF m 59 #[.val (.ref a1), .val (.ref src), .val (.int (Int32.ofNat f)), .val (.int (Int32.ofNat t)), .val (.int (Int32.ofNat (t - f)))] [(.int (Int32.ofNat (2 * (len + (t - f))))), (.int (1048576 : Int32)), (.ref b), (.ref a1)])) rfl (by rw [hml]; rfl) [(.int (1048576 : Int32)), (.int (Int32.ofNat (2 * (len + (t - f)))))] [(.ref b), (.ref a1)] rfl (lenOf pd3_0 rfl) rfl (by show 2 * 0 + _ ≤ _; exact Nat.le_of_eq rfl) (hb hby d3_59) ?_
    intro v7 T7 L7 X7 hQ7
    obtain ⟨rfl, N7q, e7⟩ := hQ7
    have N7 := Fr.app N2 N7q
    rw [own_min_max (by omega)]
    show Rch p e below (T7.setTop (mkF m 62 #[.val (.ref a1), .val (.ref src), .val (.int (Int32.ofNat f)), .val (.int (Int32.ofNat t)), .val (.int (Int32.ofNat (t - f)))] [(.int (Int32.ofNat (2 * (len + (t - f))))), (.ref b), (.ref a1)])) _
    refine Rch.copyOf X7 hx hZ hown (hw _ (List.mem_of_getElem? (i := 42) rfl)) (hw _ (List.mem_of_getElem? (i := 43) rfl)) (hw _ (List.mem_of_getElem? (i := 44) rfl)) (hw _ (List.mem_of_getElem? (i := 45) rfl)) (own_tab hZ hw) 1 (by decide) (by decide) e7 B_b (n := (2 * (len + (t - f)))) (by omega) (by decide) (by show 0 + _ ≤ 616; omega) (g := (mkF m 62 #[.val (.ref a1), .val (.ref src), .val (.int (Int32.ofNat f)), .val (.int (Int32.ofNat t)), .val (.int (Int32.ofNat (t - f)))] [(.int (Int32.ofNat (2 * (len + (t - f))))), (.ref b), (.ref a1)])) rfl (by rw [hml]; rfl) [(.ref a1)] rfl (by show 2 * 0 + _ ≤ _; exact Nat.le_of_eq rfl) (hb hby d3_62) ?_
    intro T8 h8 X8 e8 E8 A8
    obtain ⟨b8, g8⟩ : ∃ z, z = h0.size := ⟨_, rfl⟩
    rw [← g8] at A8 ⊢
    have ne_a1_b8 : a1 ≠ b8 := Nat.ne_of_lt (Nat.lt_of_lt_of_le F_bytes.lt (Nat.le_of_eq g8.symm))
    have ne_b_b8 : b ≠ b8 := Nat.ne_of_lt (Nat.lt_of_lt_of_le B_b.lt (Nat.le_of_eq g8.symm))
    have ne_src_b8 : src ≠ b8 := Nat.ne_of_lt (Nat.lt_of_lt_of_le B_src.lt (Nat.le_of_eq g8.symm))
    have g_b8 : n0 ≤ b8 := Nat.le_trans Z0 (Nat.le_of_eq g8.symm)
    have sz_b8 : h0.size ≤ b8 := Nat.le_trans K0.1 (Nat.le_of_eq g8.symm)
    have E_a1 := E_a1.ext E8
    have F_bytes := F_bytes.ext E8
    have F_length := F_length.ext E8
    have F_over := F_over.ext E8
    have B_b := B_b.ext E8
    have B_src := B_src.ext E8
    have K0 := K0.ext E8
    have Z0 := Nat.le_trans Z0 E8.1
    have B_b8 := A8
    have N8 := Fr.app N7 (Fr.nil n0)
    show Rch p e below (T8.setTop (mkF m 65 #[.val (.ref a1), .val (.ref src), .val (.int (Int32.ofNat f)), .val (.int (Int32.ofNat t)), .val (.int (Int32.ofNat (t - f)))] [(.ref b8), (.ref a1)])) _
    obtain ⟨T9, h9, X9, e9, W9, st9⟩ := putF X8 hx hZ hown (host := "") (Or.inl (hw _ (List.mem_of_getElem? (i := 11) rfl))) Via.refl e8 F_bytes E_a1 (Or.inl (hw _ (List.mem_of_getElem? (i := 12) rfl))) (hw _ (List.mem_of_getElem? (i := 3) rfl)) (ty := (.array .byte)) (by decide) rfl rfl (g := (mkF m 65 #[.val (.ref a1), .val (.ref src), .val (.int (Int32.ofNat f)), .val (.int (Int32.ofNat t)), .val (.int (Int32.ofNat (t - f)))] [(.ref b8), (.ref a1)])) rfl rfl (hb hby d3_65)
    have E_a1 := E_a1.wr W9
    have F_length := F_length.other W9 (Or.inr (slot_ne (Or.inl (hw _ (List.mem_of_getElem? (i := 20) rfl))) (Or.inl (hw _ (List.mem_of_getElem? (i := 12) rfl))) (by decide) (t := .int) (t' := (.array .byte)) (by decide) (by decide)))
    have F_over := F_over.other W9 (Or.inr (slot_ne (Or.inl (hw _ (List.mem_of_getElem? (i := 36) rfl))) (Or.inl (hw _ (List.mem_of_getElem? (i := 12) rfl))) (by decide) (t := .boolean) (t' := (.array .byte)) (by decide) (by decide)))
    have B_b := B_b.other W9 ne_b_a1
    have B_src := B_src.other W9 ne_src_a1
    have B_b8 := B_b8.other W9 (Ne.symm ne_a1_b8)
    have K0 := K0.wr W9 (Or.inl (List.mem_of_getElem? (i := 0) rfl))
    have Z0 := Nat.le_trans Z0 (Keep.of_wr W9).1
    have F_bytes := F_bytes.same W9
    have N9 := Fr.snoc X9 N8 g_a1
    refine Rch.go st9 ?_
    show Rch p e below (T9.setTop (mkF m 68 #[.val (.ref a1), .val (.ref src), .val (.int (Int32.ofNat f)), .val (.int (Int32.ofNat t)), .val (.int (Int32.ofNat (t - f)))] [])) _
    refine Rch.go (fun _ kk_ => XS.aloadN X9.here hx rfl (hb hby d3_68) rfl rfl kk_) ?_
    show Rch p e below (T9.setTop (mkF m 69 #[.val (.ref a1), .val (.ref src), .val (.int (Int32.ofNat f)), .val (.int (Int32.ofNat t)), .val (.int (Int32.ofNat (t - f)))] [(.ref src)])) _
    refine Rch.go (fun _ kk_ => XS.iloadN X9.here hx rfl (hb hby d3_69) rfl  kk_) ?_
    show Rch p e below (T9.setTop (mkF m 70 #[.val (.ref a1), .val (.ref src), .val (.int (Int32.ofNat f)), .val (.int (Int32.ofNat t)), .val (.int (Int32.ofNat (t - f)))] [(.int (Int32.ofNat f)), (.ref src)])) _
    refine Rch.go (fun _ kk_ => XS.aloadN X9.here hx rfl (hb hby d3_70) rfl rfl kk_) ?_
    show Rch p e below (T9.setTop (mkF m 71 #[.val (.ref a1), .val (.ref src), .val (.int (Int32.ofNat f)), .val (.int (Int32.ofNat t)), .val (.int (Int32.ofNat (t - f)))] [(.ref a1), (.int (Int32.ofNat f)), (.ref src)])) _
    obtain ⟨T10, X10, e10, st10⟩ := getF X9 hx hZ hown (host := "") (Or.inl (hw _ (List.mem_of_getElem? (i := 11) rfl))) Via.refl e9 F_bytes (g := (mkF m 71 #[.val (.ref a1), .val (.ref src), .val (.int (Int32.ofNat f)), .val (.int (Int32.ofNat t)), .val (.int (Int32.ofNat (t - f)))] [(.ref a1), (.int (Int32.ofNat f)), (.ref src)])) rfl rfl (hb hby d3_71)
    refine Rch.go st10 ?_
    show Rch p e below (T10.setTop (mkF m 74 #[.val (.ref a1), .val (.ref src), .val (.int (Int32.ofNat f)), .val (.int (Int32.ofNat t)), .val (.int (Int32.ofNat (t - f)))] [(.ref b8), (.int (Int32.ofNat f)), (.ref src)])) _
    refine Rch.go (fun _ kk_ => XS.aloadN X10.here hx rfl (hb hby d3_74) rfl rfl kk_) ?_
    show Rch p e below (T10.setTop (mkF m 75 #[.val (.ref a1), .val (.ref src), .val (.int (Int32.ofNat f)), .val (.int (Int32.ofNat t)), .val (.int (Int32.ofNat (t - f)))] [(.ref a1), (.ref b8), (.int (Int32.ofNat f)), (.ref src)])) _
    obtain ⟨T11, X11, e11, st11⟩ := getF X10 hx hZ hown (host := "") (Or.inl (hw _ (List.mem_of_getElem? (i := 19) rfl))) Via.refl e10 F_length (g := (mkF m 75 #[.val (.ref a1), .val (.ref src), .val (.int (Int32.ofNat f)), .val (.int (Int32.ofNat t)), .val (.int (Int32.ofNat (t - f)))] [(.ref a1), (.ref b8), (.int (Int32.ofNat f)), (.ref src)])) rfl rfl (hb hby d3_75)
    refine Rch.go st11 ?_
    show Rch p e below (T11.setTop (mkF m 78 #[.val (.ref a1), .val (.ref src), .val (.int (Int32.ofNat f)), .val (.int (Int32.ofNat t)), .val (.int (Int32.ofNat (t - f)))] [(.int (Int32.ofNat len)), (.ref b8), (.int (Int32.ofNat f)), (.ref src)])) _
    refine Rch.go (fun _ kk_ => XS.iload X11.here hx rfl (hb hby d3_78) rfl  kk_) ?_
    show Rch p e below (T11.setTop (mkF m 80 #[.val (.ref a1), .val (.ref src), .val (.int (Int32.ofNat f)), .val (.int (Int32.ofNat t)), .val (.int (Int32.ofNat (t - f)))] [(.int (Int32.ofNat (t - f))), (.int (Int32.ofNat len)), (.ref b8), (.int (Int32.ofNat f)), (.ref src)])) _
    obtain ⟨T12, h12, X12, e12, Ka12, Bn12, st12⟩ := copyBB X11 hx hZ hown (own_ac hZ hw) e11 (o := f) (q := len) (n := t - f) B_src B_b8 (by omega) (by omega) (g := (mkF m 80 #[.val (.ref a1), .val (.ref src), .val (.int (Int32.ofNat f)), .val (.int (Int32.ofNat t)), .val (.int (Int32.ofNat (t - f)))] [(.int (Int32.ofNat (t - f))), (.int (Int32.ofNat len)), (.ref b8), (.int (Int32.ofNat f)), (.ref src)])) rfl (by rw [hml]; rfl) rfl (hb hby d3_80) (W := 0) (by show 2 * 0 + _ ≤ _; exact Nat.le_of_eq rfl) (by decide) (by decide)
    have E_a1 := E_a1.keep Ka12
    have F_bytes := F_bytes.keep Ka12 (ninS ne_a1_b8 nin0)
    have F_length := F_length.keep Ka12 (ninS ne_a1_b8 nin0)
    have F_over := F_over.keep Ka12 (ninS ne_a1_b8 nin0)
    have B_b := B_b.keep Ka12 (ninS ne_b_b8 nin0)
    have B_src := B_src.keep Ka12 (ninS ne_src_b8 nin0)
    have K0 := K0.trans Ka12 (allS (Or.inr sz_b8) all0)
    have Z0 := Nat.le_trans Z0 Ka12.1
    have B_b8 := Bn12
    have N12 := Fr.app N9 (Fr.copy len (t - f) g_b8)
    refine Rch.go st12 ?_
    show Rch p e below (T12.setTop (mkF m 83 #[.val (.ref a1), .val (.ref src), .val (.int (Int32.ofNat f)), .val (.int (Int32.ofNat t)), .val (.int (Int32.ofNat (t - f)))] [])) _
    refine Rch.go (fun _ kk_ => XS.aloadN X12.here hx rfl (hb hby d3_83) rfl rfl kk_) ?_
    show Rch p e below (T12.setTop (mkF m 84 #[.val (.ref a1), .val (.ref src), .val (.int (Int32.ofNat f)), .val (.int (Int32.ofNat t)), .val (.int (Int32.ofNat (t - f)))] [(.ref a1)])) _
    refine Rch.go (fun _ kk_ => XS.dup X12.here hx rfl (hb hby d3_84) rfl rfl kk_) ?_
    show Rch p e below (T12.setTop (mkF m 85 #[.val (.ref a1), .val (.ref src), .val (.int (Int32.ofNat f)), .val (.int (Int32.ofNat t)), .val (.int (Int32.ofNat (t - f)))] [(.ref a1), (.ref a1)])) _
    obtain ⟨T13, X13, e13, st13⟩ := getF X12 hx hZ hown (host := "") (Or.inl (hw _ (List.mem_of_getElem? (i := 19) rfl))) Via.refl e12 F_length (g := (mkF m 85 #[.val (.ref a1), .val (.ref src), .val (.int (Int32.ofNat f)), .val (.int (Int32.ofNat t)), .val (.int (Int32.ofNat (t - f)))] [(.ref a1), (.ref a1)])) rfl rfl (hb hby d3_85)
    refine Rch.go st13 ?_
    show Rch p e below (T13.setTop (mkF m 88 #[.val (.ref a1), .val (.ref src), .val (.int (Int32.ofNat f)), .val (.int (Int32.ofNat t)), .val (.int (Int32.ofNat (t - f)))] [(.int (Int32.ofNat len)), (.ref a1)])) _
    refine Rch.go (fun _ kk_ => XS.iload X13.here hx rfl (hb hby d3_88) rfl  kk_) ?_
    show Rch p e below (T13.setTop (mkF m 90 #[.val (.ref a1), .val (.ref src), .val (.int (Int32.ofNat f)), .val (.int (Int32.ofNat t)), .val (.int (Int32.ofNat (t - f)))] [(.int (Int32.ofNat (t - f))), (.int (Int32.ofNat len)), (.ref a1)])) _
    refine Rch.go (fun _ kk_ => XS.iadd X13.here hx rfl (hb hby d3_90) rfl kk_) ?_
    show Rch p e below (T13.setTop (mkF m 91 #[.val (.ref a1), .val (.ref src), .val (.int (Int32.ofNat f)), .val (.int (Int32.ofNat t)), .val (.int (Int32.ofNat (t - f)))] [(.int ((Int32.ofNat len) + (Int32.ofNat (t - f)))), (.ref a1)])) _
    rw [ofNat_add']
    show Rch p e below (T13.setTop (mkF m 91 #[.val (.ref a1), .val (.ref src), .val (.int (Int32.ofNat f)), .val (.int (Int32.ofNat t)), .val (.int (Int32.ofNat (t - f)))] [(.int (Int32.ofNat (len + (t - f)))), (.ref a1)])) _
    obtain ⟨T14, h14, X14, e14, W14, st14⟩ := putF X13 hx hZ hown (host := "") (Or.inl (hw _ (List.mem_of_getElem? (i := 19) rfl))) Via.refl e13 F_length E_a1 (Or.inl (hw _ (List.mem_of_getElem? (i := 20) rfl))) (hw _ (List.mem_of_getElem? (i := 3) rfl)) (ty := .int) (by decide) rfl rfl (g := (mkF m 91 #[.val (.ref a1), .val (.ref src), .val (.int (Int32.ofNat f)), .val (.int (Int32.ofNat t)), .val (.int (Int32.ofNat (t - f)))] [(.int (Int32.ofNat (len + (t - f)))), (.ref a1)])) rfl rfl (hb hby d3_91)
    have E_a1 := E_a1.wr W14
    have F_bytes := F_bytes.other W14 (Or.inr (slot_ne (Or.inl (hw _ (List.mem_of_getElem? (i := 12) rfl))) (Or.inl (hw _ (List.mem_of_getElem? (i := 20) rfl))) (by decide) (t := (.array .byte)) (t' := .int) (by decide) (by decide)))
    have F_over := F_over.other W14 (Or.inr (slot_ne (Or.inl (hw _ (List.mem_of_getElem? (i := 36) rfl))) (Or.inl (hw _ (List.mem_of_getElem? (i := 20) rfl))) (by decide) (t := .boolean) (t' := .int) (by decide) (by decide)))
    have B_b := B_b.other W14 ne_b_a1
    have B_src := B_src.other W14 ne_src_a1
    have B_b8 := B_b8.other W14 (Ne.symm ne_a1_b8)
    have K0 := K0.wr W14 (Or.inl (List.mem_of_getElem? (i := 0) rfl))
    have Z0 := Nat.le_trans Z0 (Keep.of_wr W14).1
    have F_length := F_length.same W14
    have N14 := Fr.snoc X14 N12 g_a1
    refine Rch.go st14 ?_
    show Rch p e below (T14.setTop (mkF m 94 #[.val (.ref a1), .val (.ref src), .val (.int (Int32.ofNat f)), .val (.int (Int32.ofNat t)), .val (.int (Int32.ofNat (t - f)))] [])) _
    exact Rch.ret X14 hlk (fun _ => rfl) (fun fs hr => X14.returnOut hx hret (hb hby d3_94) hr) (by
    rw [e14]
    refine ⟨b8, (2 * (len + (t - f))), _, rfl, N14, K0, g_b8, (Or.inr sz_b8), E_a1, F_bytes, F_length, F_over, B_b8, by omega, by omega, fun j hj => ?_, fun j hj => ?_⟩
    · show (if len ≤ j ∧ j < len + (t - f) then _ else _) = _
      rw [if_neg (by omega)]
      show (if j < cap then fb j else 0) = _
      rw [if_pos (by omega)]
    · show (if len ≤ len + j ∧ len + j < len + (t - f) then _ else _) = _
      rw [if_pos (by omega)]; congr 1; omega) (by decide) (by show 0 + 2 * (len + (t - f)) ≤ 616; omega)
  · refine Rch.go (fun _ kk_ => XS.icmpYes X4.here hx rfl (pc0 := 40) (pc' := 68) rfl (hb hby d3_40) rfl (flt (fun q => hgr ((ofNat_lt (by omega) (by omega)).mp q))).2.2.2 (by decide) (by decide) kk_) ?_
    show Rch p e below (T4.setTop (mkF m 68 #[.val (.ref a1), .val (.ref src), .val (.int (Int32.ofNat f)), .val (.int (Int32.ofNat t)), .val (.int (Int32.ofNat (t - f)))] [])) _
    refine Rch.go (fun _ kk_ => XS.aloadN X4.here hx rfl (hb hby d3_68) rfl rfl kk_) ?_
    show Rch p e below (T4.setTop (mkF m 69 #[.val (.ref a1), .val (.ref src), .val (.int (Int32.ofNat f)), .val (.int (Int32.ofNat t)), .val (.int (Int32.ofNat (t - f)))] [(.ref src)])) _
    refine Rch.go (fun _ kk_ => XS.iloadN X4.here hx rfl (hb hby d3_69) rfl  kk_) ?_
    show Rch p e below (T4.setTop (mkF m 70 #[.val (.ref a1), .val (.ref src), .val (.int (Int32.ofNat f)), .val (.int (Int32.ofNat t)), .val (.int (Int32.ofNat (t - f)))] [(.int (Int32.ofNat f)), (.ref src)])) _
    refine Rch.go (fun _ kk_ => XS.aloadN X4.here hx rfl (hb hby d3_70) rfl rfl kk_) ?_
    show Rch p e below (T4.setTop (mkF m 71 #[.val (.ref a1), .val (.ref src), .val (.int (Int32.ofNat f)), .val (.int (Int32.ofNat t)), .val (.int (Int32.ofNat (t - f)))] [(.ref a1), (.int (Int32.ofNat f)), (.ref src)])) _
    obtain ⟨T15, X15, e15, st15⟩ := getF X4 hx hZ hown (host := "") (Or.inl (hw _ (List.mem_of_getElem? (i := 11) rfl))) Via.refl e4 F_bytes (g := (mkF m 71 #[.val (.ref a1), .val (.ref src), .val (.int (Int32.ofNat f)), .val (.int (Int32.ofNat t)), .val (.int (Int32.ofNat (t - f)))] [(.ref a1), (.int (Int32.ofNat f)), (.ref src)])) rfl rfl (hb hby d3_71)
    refine Rch.go st15 ?_
    show Rch p e below (T15.setTop (mkF m 74 #[.val (.ref a1), .val (.ref src), .val (.int (Int32.ofNat f)), .val (.int (Int32.ofNat t)), .val (.int (Int32.ofNat (t - f)))] [(.ref b), (.int (Int32.ofNat f)), (.ref src)])) _
    refine Rch.go (fun _ kk_ => XS.aloadN X15.here hx rfl (hb hby d3_74) rfl rfl kk_) ?_
    show Rch p e below (T15.setTop (mkF m 75 #[.val (.ref a1), .val (.ref src), .val (.int (Int32.ofNat f)), .val (.int (Int32.ofNat t)), .val (.int (Int32.ofNat (t - f)))] [(.ref a1), (.ref b), (.int (Int32.ofNat f)), (.ref src)])) _
    obtain ⟨T16, X16, e16, st16⟩ := getF X15 hx hZ hown (host := "") (Or.inl (hw _ (List.mem_of_getElem? (i := 19) rfl))) Via.refl e15 F_length (g := (mkF m 75 #[.val (.ref a1), .val (.ref src), .val (.int (Int32.ofNat f)), .val (.int (Int32.ofNat t)), .val (.int (Int32.ofNat (t - f)))] [(.ref a1), (.ref b), (.int (Int32.ofNat f)), (.ref src)])) rfl rfl (hb hby d3_75)
    refine Rch.go st16 ?_
    show Rch p e below (T16.setTop (mkF m 78 #[.val (.ref a1), .val (.ref src), .val (.int (Int32.ofNat f)), .val (.int (Int32.ofNat t)), .val (.int (Int32.ofNat (t - f)))] [(.int (Int32.ofNat len)), (.ref b), (.int (Int32.ofNat f)), (.ref src)])) _
    refine Rch.go (fun _ kk_ => XS.iload X16.here hx rfl (hb hby d3_78) rfl  kk_) ?_
    show Rch p e below (T16.setTop (mkF m 80 #[.val (.ref a1), .val (.ref src), .val (.int (Int32.ofNat f)), .val (.int (Int32.ofNat t)), .val (.int (Int32.ofNat (t - f)))] [(.int (Int32.ofNat (t - f))), (.int (Int32.ofNat len)), (.ref b), (.int (Int32.ofNat f)), (.ref src)])) _
    obtain ⟨T17, h17, X17, e17, Ka17, Bn17, st17⟩ := copyBB X16 hx hZ hown (own_ac hZ hw) e16 (o := f) (q := len) (n := t - f) B_src B_b (by omega) (by omega) (g := (mkF m 80 #[.val (.ref a1), .val (.ref src), .val (.int (Int32.ofNat f)), .val (.int (Int32.ofNat t)), .val (.int (Int32.ofNat (t - f)))] [(.int (Int32.ofNat (t - f))), (.int (Int32.ofNat len)), (.ref b), (.int (Int32.ofNat f)), (.ref src)])) rfl (by rw [hml]; rfl) rfl (hb hby d3_80) (W := 0) (by show 2 * 0 + _ ≤ _; exact Nat.le_of_eq rfl) (by decide) (by decide)
    have E_a1 := E_a1.keep Ka17
    have F_bytes := F_bytes.keep Ka17 (ninS (Ne.symm ne_b_a1) nin0)
    have F_length := F_length.keep Ka17 (ninS (Ne.symm ne_b_a1) nin0)
    have F_over := F_over.keep Ka17 (ninS (Ne.symm ne_b_a1) nin0)
    have B_src := B_src.keep Ka17 (ninS ne_src_b nin0)
    have K0 := K0.trans Ka17 (allS (Or.inl (List.mem_of_getElem? (i := 1) rfl)) all0)
    have Z0 := Nat.le_trans Z0 Ka17.1
    have B_b := Bn17
    have N17 := Fr.app N2 (Fr.copy len (t - f) g_b)
    refine Rch.go st17 ?_
    show Rch p e below (T17.setTop (mkF m 83 #[.val (.ref a1), .val (.ref src), .val (.int (Int32.ofNat f)), .val (.int (Int32.ofNat t)), .val (.int (Int32.ofNat (t - f)))] [])) _
    refine Rch.go (fun _ kk_ => XS.aloadN X17.here hx rfl (hb hby d3_83) rfl rfl kk_) ?_
    show Rch p e below (T17.setTop (mkF m 84 #[.val (.ref a1), .val (.ref src), .val (.int (Int32.ofNat f)), .val (.int (Int32.ofNat t)), .val (.int (Int32.ofNat (t - f)))] [(.ref a1)])) _
    refine Rch.go (fun _ kk_ => XS.dup X17.here hx rfl (hb hby d3_84) rfl rfl kk_) ?_
    show Rch p e below (T17.setTop (mkF m 85 #[.val (.ref a1), .val (.ref src), .val (.int (Int32.ofNat f)), .val (.int (Int32.ofNat t)), .val (.int (Int32.ofNat (t - f)))] [(.ref a1), (.ref a1)])) _
    obtain ⟨T18, X18, e18, st18⟩ := getF X17 hx hZ hown (host := "") (Or.inl (hw _ (List.mem_of_getElem? (i := 19) rfl))) Via.refl e17 F_length (g := (mkF m 85 #[.val (.ref a1), .val (.ref src), .val (.int (Int32.ofNat f)), .val (.int (Int32.ofNat t)), .val (.int (Int32.ofNat (t - f)))] [(.ref a1), (.ref a1)])) rfl rfl (hb hby d3_85)
    refine Rch.go st18 ?_
    show Rch p e below (T18.setTop (mkF m 88 #[.val (.ref a1), .val (.ref src), .val (.int (Int32.ofNat f)), .val (.int (Int32.ofNat t)), .val (.int (Int32.ofNat (t - f)))] [(.int (Int32.ofNat len)), (.ref a1)])) _
    refine Rch.go (fun _ kk_ => XS.iload X18.here hx rfl (hb hby d3_88) rfl  kk_) ?_
    show Rch p e below (T18.setTop (mkF m 90 #[.val (.ref a1), .val (.ref src), .val (.int (Int32.ofNat f)), .val (.int (Int32.ofNat t)), .val (.int (Int32.ofNat (t - f)))] [(.int (Int32.ofNat (t - f))), (.int (Int32.ofNat len)), (.ref a1)])) _
    refine Rch.go (fun _ kk_ => XS.iadd X18.here hx rfl (hb hby d3_90) rfl kk_) ?_
    show Rch p e below (T18.setTop (mkF m 91 #[.val (.ref a1), .val (.ref src), .val (.int (Int32.ofNat f)), .val (.int (Int32.ofNat t)), .val (.int (Int32.ofNat (t - f)))] [(.int ((Int32.ofNat len) + (Int32.ofNat (t - f)))), (.ref a1)])) _
    rw [ofNat_add']
    show Rch p e below (T18.setTop (mkF m 91 #[.val (.ref a1), .val (.ref src), .val (.int (Int32.ofNat f)), .val (.int (Int32.ofNat t)), .val (.int (Int32.ofNat (t - f)))] [(.int (Int32.ofNat (len + (t - f)))), (.ref a1)])) _
    obtain ⟨T19, h19, X19, e19, W19, st19⟩ := putF X18 hx hZ hown (host := "") (Or.inl (hw _ (List.mem_of_getElem? (i := 19) rfl))) Via.refl e18 F_length E_a1 (Or.inl (hw _ (List.mem_of_getElem? (i := 20) rfl))) (hw _ (List.mem_of_getElem? (i := 3) rfl)) (ty := .int) (by decide) rfl rfl (g := (mkF m 91 #[.val (.ref a1), .val (.ref src), .val (.int (Int32.ofNat f)), .val (.int (Int32.ofNat t)), .val (.int (Int32.ofNat (t - f)))] [(.int (Int32.ofNat (len + (t - f)))), (.ref a1)])) rfl rfl (hb hby d3_91)
    have E_a1 := E_a1.wr W19
    have F_bytes := F_bytes.other W19 (Or.inr (slot_ne (Or.inl (hw _ (List.mem_of_getElem? (i := 12) rfl))) (Or.inl (hw _ (List.mem_of_getElem? (i := 20) rfl))) (by decide) (t := (.array .byte)) (t' := .int) (by decide) (by decide)))
    have F_over := F_over.other W19 (Or.inr (slot_ne (Or.inl (hw _ (List.mem_of_getElem? (i := 36) rfl))) (Or.inl (hw _ (List.mem_of_getElem? (i := 20) rfl))) (by decide) (t := .boolean) (t' := .int) (by decide) (by decide)))
    have B_src := B_src.other W19 ne_src_a1
    have B_b := B_b.other W19 ne_b_a1
    have K0 := K0.wr W19 (Or.inl (List.mem_of_getElem? (i := 0) rfl))
    have Z0 := Nat.le_trans Z0 (Keep.of_wr W19).1
    have F_length := F_length.same W19
    have N19 := Fr.snoc X19 N17 g_a1
    refine Rch.go st19 ?_
    show Rch p e below (T19.setTop (mkF m 94 #[.val (.ref a1), .val (.ref src), .val (.int (Int32.ofNat f)), .val (.int (Int32.ofNat t)), .val (.int (Int32.ofNat (t - f)))] [])) _
    exact Rch.ret X19 hlk (fun _ => rfl) (fun fs hr => X19.returnOut hx hret (hb hby d3_94) hr) (by
    rw [e19]
    refine ⟨b, cap, _, rfl, N19, K0, g_b, (Or.inl rfl), E_a1, F_bytes, F_length, F_over, B_b, by omega, by omega, fun j hj => ?_, fun j hj => ?_⟩
    · show (if len ≤ j ∧ j < len + (t - f) then _ else _) = _
      rw [if_neg (by omega)]
    · show (if len ≤ len + j ∧ len + j < len + (t - f) then _ else _) = _
      rw [if_pos (by omega)]; congr 1; omega) (by decide) (by decide)
theorem d5_0 : decode prog_4_method_2_code 0 = .ok (.aload_n 0, 1) := by decide +kernel
theorem d5_1 : decode prog_4_method_2_code 1 = .ok (.getfield 9, 3) := by decide +kernel
theorem d5_4 : decode prog_4_method_2_code 4 = .ok (.arraylength, 1) := by decide +kernel
theorem d5_5 : decode prog_4_method_2_code 5 = .ok (.ldc 13, 2) := by decide +kernel
theorem d5_7 : decode prog_4_method_2_code 7 = .ok (.if_icmp .le 12, 3) := by decide +kernel
theorem d5_19 : decode prog_4_method_2_code 19 = .ok (.aload_n 0, 1) := by decide +kernel
theorem d5_20 : decode prog_4_method_2_code 20 = .ok (.iconst 0, 1) := by decide +kernel
theorem d5_21 : decode prog_4_method_2_code 21 = .ok (.putfield 14, 3) := by decide +kernel
theorem d5_24 : decode prog_4_method_2_code 24 = .ok (.aload_n 0, 1) := by decide +kernel
theorem d5_25 : decode prog_4_method_2_code 25 = .ok (.iconst 0, 1) := by decide +kernel
theorem d5_26 : decode prog_4_method_2_code 26 = .ok (.putfield 18, 3) := by decide +kernel
theorem d5_29 : decode prog_4_method_2_code 29 = .ok (.return_, 1) := by decide +kernel
theorem pn_5 : plainFor (⟨"com/example/vaxwire/vaxwire/hl7/BoundedBytes", "clear", "()V"⟩ : MethodName) = true := plainFor_of_name (by first | (simp [plainName, overriddenIn]; done) | decide +kernel)
theorem ef_5 (m : MethodId) (x0 : Addr) : entryFrame m #[(.ref x0)] 1 = mkF m 0 #[.val (.ref x0)] [] := by first | (simp [entryFrame, mkF, argsToLocals, Value.category]; done) | rfl
def own_Q_rm5 (Z : State) (a1 : Addr) (cap : Nat) (b : Addr) (fb : Nat → Int32) (u1 u : Value) (h0 : Heap) (n0 : Nat) (v : Option Value) (h : Heap) (L : List Loc) : Prop := v = none ∧ Fr n0 L ∧ Keep h0 h [a1] ∧ Exa Z h a1 "com/example/vaxwire/vaxwire/hl7/BoundedBytes" ∧ Fld Z h a1 "com/example/vaxwire/vaxwire/hl7/BoundedBytes" "bytes" "[B" (.ref b) ∧ Fld Z h a1 "com/example/vaxwire/vaxwire/hl7/BoundedBytes" "length" "I" (.int (Int32.ofNat 0)) ∧ ∃ u2 : Value, Fld Z h a1 "com/example/vaxwire/vaxwire/hl7/BoundedBytes" "overflowed" "Z" u2
set_option maxRecDepth 65536 in
set_option maxHeartbeats 40000000 in
theorem rm5 (l : Launch) (Z : State) (a0 : Array Value) (hw : ∀ d ∈ tables_1, d.before a0 Z = true) (ws : List Jvm.Cond) (a1 : Addr) (cap : Nat) (b : Addr) (fb : Nat → Int32) (u1 u : Value) (h0 : Heap) (n0 : Nat) (Z0 : n0 ≤ h0.size) (hcap : cap ≤ 616) (E_a1 : Exa Z h0 a1 "com/example/vaxwire/vaxwire/hl7/BoundedBytes") (g_a1 : n0 ≤ a1) (F_bytes : Fld Z h0 a1 "com/example/vaxwire/vaxwire/hl7/BoundedBytes" "bytes" "[B" (.ref b)) (F_length : Fld Z h0 a1 "com/example/vaxwire/vaxwire/hl7/BoundedBytes" "length" "I" u1) (F_over : Fld Z h0 a1 "com/example/vaxwire/vaxwire/hl7/BoundedBytes" "overflowed" "Z" u) (B_b : BB Z h0 b cap fb) (ne_b_a1 : b ≠ a1) :
    MetFree l (⟨"com/example/vaxwire/vaxwire/hl7/BoundedBytes", "clear", "()V"⟩ : MethodName) (head1 (Jvm.Cond.code (⟨"com/example/vaxwire/vaxwire/hl7/BoundedBytes", "clear", "()V"⟩ : MethodName) prog_4_method_2_code 1 none :: ws) ({ frames := 0, cells := 0, slots := 0, locals := 0 } : Room)) (fun a U => a = #[(.ref a1)] ∧ Z.Warmed39 U.vm ∧ U.heap = h0) (fun _ _ _ _ _ => True) (fun _ U o U' => ∃ v L, o = .returned v ∧ own_Q_rm5 Z a1 cap b fb u1 u h0 n0 v U'.heap L ∧ FrameEnd U o U' L ({ frames := 0, cells := 0, slots := 0, locals := 0 } : Room).cells ({ frames := 0, cells := 0, slots := 0, locals := 0 } : Room).slots) := by
  refine own_body (Q := (own_Q_rm5 Z a1 cap b fb u1 u h0 n0)) pn_5 ?_
  intro p e s m below meth c s₁ X0 hx hby hml hown hnm hret hlk hZ e0
  have N0 := Fr.nil n0
  refine Rch.go (fun tt_ kk_ => castTop (ef_5 m a1) kk_) ?_
  have K0 := Keep.refl h0 [a1]
  show Rch p e below (s₁.setTop (mkF m 0 #[.val (.ref a1)] [])) _
  refine Rch.go (fun _ kk_ => XS.aloadN X0.here hx rfl (hb hby d5_0) rfl rfl kk_) ?_
  show Rch p e below (s₁.setTop (mkF m 1 #[.val (.ref a1)] [(.ref a1)])) _
  obtain ⟨T1, X1, e1, st1⟩ := getF X0 hx hZ hown (host := "") (Or.inl (hw _ (List.mem_of_getElem? (i := 11) rfl))) Via.refl e0 F_bytes (g := (mkF m 1 #[.val (.ref a1)] [(.ref a1)])) rfl rfl (hb hby d5_1)
  refine Rch.go st1 ?_
  show Rch p e below (T1.setTop (mkF m 4 #[.val (.ref a1)] [(.ref b)])) _
  refine Rch.go (lenBB X1 hx hZ e1 B_b (g := (mkF m 4 #[.val (.ref a1)] [(.ref b)])) rfl (hb hby d5_4) rfl) ?_
  show Rch p e below (T1.setTop (mkF m 5 #[.val (.ref a1)] [(.int (Int32.ofNat cap))])) _
  refine Rch.go (fun _ kk_ => X1.ldcInt hx hown (mvT hZ (hw _ (List.mem_of_getElem? (i := 34) rfl))) (g := (mkF m 5 #[.val (.ref a1)] [(.int (Int32.ofNat cap))])) rfl (hb hby d5_5) _ kk_) ?_
  show Rch p e below (T1.setTop (mkF m 7 #[.val (.ref a1)] [(.int (65536 : Int32)), (.int (Int32.ofNat cap))])) _
  refine Rch.go (fun _ kk_ => XS.icmpYes X1.here hx rfl (pc0 := 7) (pc' := 19) rfl (hb hby d5_7) rfl (flt (fun q => absurd ((ofNat_lt (i := 65536) (by decide) (by omega)).mp q) (by omega))).2.2.2 (by decide) (by decide) kk_) ?_
  show Rch p e below (T1.setTop (mkF m 19 #[.val (.ref a1)] [])) _
  refine Rch.go (fun _ kk_ => XS.aloadN X1.here hx rfl (hb hby d5_19) rfl rfl kk_) ?_
  show Rch p e below (T1.setTop (mkF m 20 #[.val (.ref a1)] [(.ref a1)])) _
  refine Rch.go (fun _ kk_ => XS.iconst X1.here hx rfl (hb hby d5_20) kk_) ?_
  show Rch p e below (T1.setTop (mkF m 21 #[.val (.ref a1)] [(.int (0 : Int32)), (.ref a1)])) _
  obtain ⟨T2, h2, X2, e2, W2, st2⟩ := putF X1 hx hZ hown (host := "") (Or.inl (hw _ (List.mem_of_getElem? (i := 19) rfl))) Via.refl e1 F_length E_a1 (Or.inl (hw _ (List.mem_of_getElem? (i := 20) rfl))) (hw _ (List.mem_of_getElem? (i := 3) rfl)) (ty := .int) (by decide) rfl rfl (g := (mkF m 21 #[.val (.ref a1)] [(.int (0 : Int32)), (.ref a1)])) rfl rfl (hb hby d5_21)
  have E_a1 := E_a1.wr W2
  have F_bytes := F_bytes.other W2 (Or.inr (slot_ne (Or.inl (hw _ (List.mem_of_getElem? (i := 12) rfl))) (Or.inl (hw _ (List.mem_of_getElem? (i := 20) rfl))) (by decide) (t := (.array .byte)) (t' := .int) (by decide) (by decide)))
  have F_over := F_over.other W2 (Or.inr (slot_ne (Or.inl (hw _ (List.mem_of_getElem? (i := 36) rfl))) (Or.inl (hw _ (List.mem_of_getElem? (i := 20) rfl))) (by decide) (t := .boolean) (t' := .int) (by decide) (by decide)))
  have B_b := B_b.other W2 ne_b_a1
  have K0 := K0.wr W2 (Or.inl (List.mem_of_getElem? (i := 0) rfl))
  have Z0 := Nat.le_trans Z0 (Keep.of_wr W2).1
  have F_length := F_length.same W2
  have N2 := Fr.snoc X2 N0 g_a1
  refine Rch.go st2 ?_
  show Rch p e below (T2.setTop (mkF m 24 #[.val (.ref a1)] [])) _
  refine Rch.go (fun _ kk_ => XS.aloadN X2.here hx rfl (hb hby d5_24) rfl rfl kk_) ?_
  show Rch p e below (T2.setTop (mkF m 25 #[.val (.ref a1)] [(.ref a1)])) _
  refine Rch.go (fun _ kk_ => XS.iconst X2.here hx rfl (hb hby d5_25) kk_) ?_
  show Rch p e below (T2.setTop (mkF m 26 #[.val (.ref a1)] [(.int (0 : Int32)), (.ref a1)])) _
  obtain ⟨T3, h3, X3, e3, W3, st3⟩ := putFN X2 hx hZ hown (hw _ (List.mem_of_getElem? (i := 35) rfl)) Via.refl e2 F_over E_a1 (Or.inl (hw _ (List.mem_of_getElem? (i := 36) rfl))) (hw _ (List.mem_of_getElem? (i := 3) rfl)) (ty := .boolean) (v' := (.int (nar .boolean (0 : Int32)))) (by decide) rfl (fits_nar_bool _) (g := (mkF m 26 #[.val (.ref a1)] [(.int (0 : Int32)), (.ref a1)])) rfl rfl (hb hby d5_26)
  have E_a1 := E_a1.wr W3
  have F_bytes := F_bytes.other W3 (Or.inr (slot_ne (Or.inl (hw _ (List.mem_of_getElem? (i := 12) rfl))) (Or.inl (hw _ (List.mem_of_getElem? (i := 36) rfl))) (by decide) (t := (.array .byte)) (t' := .boolean) (by decide) (by decide)))
  have F_length := F_length.other W3 (Or.inr (slot_ne (Or.inl (hw _ (List.mem_of_getElem? (i := 20) rfl))) (Or.inl (hw _ (List.mem_of_getElem? (i := 36) rfl))) (by decide) (t := .int) (t' := .boolean) (by decide) (by decide)))
  have B_b := B_b.other W3 ne_b_a1
  have K0 := K0.wr W3 (Or.inl (List.mem_of_getElem? (i := 0) rfl))
  have Z0 := Nat.le_trans Z0 (Keep.of_wr W3).1
  have F_over := F_over.same W3
  have N3 := Fr.snoc X3 N2 g_a1
  refine Rch.go st3 ?_
  show Rch p e below (T3.setTop (mkF m 29 #[.val (.ref a1)] [])) _
  exact Rch.ret X3 hlk (fun _ => rfl) (fun fs hr => X3.returnOut hx hret (hb hby d5_29) hr) (by rw [e3]; exact ⟨rfl, N3, K0, E_a1, F_bytes, F_length, ⟨_, F_over⟩⟩) (by decide) (by decide)
theorem d6_0 : decode prog_4_method_5_code 0 = .ok (.aload_n 0, 1) := by decide +kernel
theorem d6_1 : decode prog_4_method_5_code 1 = .ok (.getfield 9, 3) := by decide +kernel
theorem d6_4 : decode prog_4_method_5_code 4 = .ok (.aload_n 0, 1) := by decide +kernel
theorem d6_5 : decode prog_4_method_5_code 5 = .ok (.getfield 14, 3) := by decide +kernel
theorem d6_8 : decode prog_4_method_5_code 8 = .ok (.invokestatic 31, 3) := by decide +kernel
theorem d6_11 : decode prog_4_method_5_code 11 = .ok (.areturn, 1) := by decide +kernel
theorem pn_6 : plainFor (⟨"com/example/vaxwire/vaxwire/hl7/BoundedBytes", "toArray", "()[B"⟩ : MethodName) = true := plainFor_of_name (by first | (simp [plainName, overriddenIn]; done) | decide +kernel)
theorem ef_6 (m : MethodId) (x0 : Addr) : entryFrame m #[(.ref x0)] 1 = mkF m 0 #[.val (.ref x0)] [] := by first | (simp [entryFrame, mkF, argsToLocals, Value.category]; done) | rfl
def own_Q_rm6 (Z : State) (a1 : Addr) (len cap : Nat) (b : Addr) (fb : Nat → Int32) (h0 : Heap) (n0 : Nat) (v : Option Value) (h : Heap) (L : List Loc) : Prop := ∃ r : Addr, v = some (.ref r) ∧ Fr n0 L ∧ Keep h0 h [] ∧ n0 ≤ r ∧ h0.size ≤ r ∧ BB Z h r len (fun j => if j < cap then fb j else 0)
set_option maxRecDepth 65536 in
set_option maxHeartbeats 40000000 in
theorem rm6 (l : Launch) (Z : State) (a0 : Array Value) (hw : ∀ d ∈ tables_1, d.before a0 Z = true) (ws : List Jvm.Cond) (a1 : Addr) (len cap : Nat) (b : Addr) (fb : Nat → Int32) (h0 : Heap) (n0 : Nat) (Z0 : n0 ≤ h0.size) (h308 : len ≤ 308) (F_bytes : Fld Z h0 a1 "com/example/vaxwire/vaxwire/hl7/BoundedBytes" "bytes" "[B" (.ref b)) (F_length : Fld Z h0 a1 "com/example/vaxwire/vaxwire/hl7/BoundedBytes" "length" "I" (.int (Int32.ofNat len))) (B_b : BB Z h0 b cap fb) :
    MetFree l (⟨"com/example/vaxwire/vaxwire/hl7/BoundedBytes", "toArray", "()[B"⟩ : MethodName) (head1 (Jvm.Cond.code (⟨"com/example/vaxwire/vaxwire/hl7/BoundedBytes", "toArray", "()[B"⟩ : MethodName) prog_4_method_5_code 1 (some (.array .byte)) :: ws) ({ frames := 2, cells := 1, slots := 308, locals := 54 } : Room)) (fun a U => a = #[(.ref a1)] ∧ Z.Warmed39 U.vm ∧ U.heap = h0) (fun _ _ _ _ _ => True) (fun _ U o U' => ∃ v L, o = .returned v ∧ own_Q_rm6 Z a1 len cap b fb h0 n0 v U'.heap L ∧ FrameEnd U o U' L ({ frames := 2, cells := 1, slots := 308, locals := 54 } : Room).cells ({ frames := 2, cells := 1, slots := 308, locals := 54 } : Room).slots) := by
  refine own_body (Q := (own_Q_rm6 Z a1 len cap b fb h0 n0)) pn_6 ?_
  intro p e s m below meth c s₁ X0 hx hby hml hown hnm hret hlk hZ e0
  have N0 := Fr.nil n0
  refine Rch.go (fun tt_ kk_ => castTop (ef_6 m a1) kk_) ?_
  have K0 := Keep.refl h0 []
  show Rch p e below (s₁.setTop (mkF m 0 #[.val (.ref a1)] [])) _
  refine Rch.go (fun _ kk_ => XS.aloadN X0.here hx rfl (hb hby d6_0) rfl rfl kk_) ?_
  show Rch p e below (s₁.setTop (mkF m 1 #[.val (.ref a1)] [(.ref a1)])) _
  obtain ⟨T1, X1, e1, st1⟩ := getF X0 hx hZ hown (host := "") (Or.inl (hw _ (List.mem_of_getElem? (i := 11) rfl))) Via.refl e0 F_bytes (g := (mkF m 1 #[.val (.ref a1)] [(.ref a1)])) rfl rfl (hb hby d6_1)
  refine Rch.go st1 ?_
  show Rch p e below (T1.setTop (mkF m 4 #[.val (.ref a1)] [(.ref b)])) _
  refine Rch.go (fun _ kk_ => XS.aloadN X1.here hx rfl (hb hby d6_4) rfl rfl kk_) ?_
  show Rch p e below (T1.setTop (mkF m 5 #[.val (.ref a1)] [(.ref a1), (.ref b)])) _
  obtain ⟨T2, X2, e2, st2⟩ := getF X1 hx hZ hown (host := "") (Or.inl (hw _ (List.mem_of_getElem? (i := 19) rfl))) Via.refl e1 F_length (g := (mkF m 5 #[.val (.ref a1)] [(.ref a1), (.ref b)])) rfl rfl (hb hby d6_5)
  refine Rch.go st2 ?_
  show Rch p e below (T2.setTop (mkF m 8 #[.val (.ref a1)] [(.int (Int32.ofNat len)), (.ref b)])) _
  refine Rch.copyOf X2 hx hZ hown (hw _ (List.mem_of_getElem? (i := 42) rfl)) (hw _ (List.mem_of_getElem? (i := 43) rfl)) (hw _ (List.mem_of_getElem? (i := 44) rfl)) (hw _ (List.mem_of_getElem? (i := 45) rfl)) (own_tab hZ hw) 0 (by decide) (by decide) e2 B_b (n := len) (by omega) (by decide) (by show 0 + _ ≤ 308; omega) (g := (mkF m 8 #[.val (.ref a1)] [(.int (Int32.ofNat len)), (.ref b)])) rfl (by rw [hml]; rfl) [] rfl (by show 2 * 0 + _ ≤ _; exact Nat.le_of_eq rfl) (hb hby d6_8) ?_
  intro T3 h3 X3 e3 E3 A3
  obtain ⟨b3, g3⟩ : ∃ z, z = h0.size := ⟨_, rfl⟩
  rw [← g3] at A3 ⊢
  have ne_a1_b3 : a1 ≠ b3 := Nat.ne_of_lt (Nat.lt_of_lt_of_le F_bytes.lt (Nat.le_of_eq g3.symm))
  have ne_b_b3 : b ≠ b3 := Nat.ne_of_lt (Nat.lt_of_lt_of_le B_b.lt (Nat.le_of_eq g3.symm))
  have g_b3 : n0 ≤ b3 := Nat.le_trans Z0 (Nat.le_of_eq g3.symm)
  have sz_b3 : h0.size ≤ b3 := Nat.le_trans K0.1 (Nat.le_of_eq g3.symm)
  have F_bytes := F_bytes.ext E3
  have F_length := F_length.ext E3
  have B_b := B_b.ext E3
  have K0 := K0.ext E3
  have Z0 := Nat.le_trans Z0 E3.1
  have B_b3 := A3
  have N3 := Fr.app N0 (Fr.nil n0)
  show Rch p e below (T3.setTop (mkF m 11 #[.val (.ref a1)] [(.ref b3)])) _
  exact Rch.ret X3 hlk (fun h => by rw [hret] at h; cases h) (fun fs hr => retR' X3 hx hret rfl rfl (hb hby d6_11) hr) (by rw [e3]; exact ⟨b3, rfl, N3, K0, g_b3, sz_b3, B_b3⟩) (by decide) (by show _ ≤ 308; omega)
def own_expv (f1 l1 pre f2 : Nat) (g1 g2 : Nat → Int32) (k : Nat) : Int32 := if k < pre then (if k < l1 then g1 (f1 + k) else (0 : Int32)) else g2 (f2 + k - pre)
theorem own_fit {Z : State} {h : Heap} {a : Addr} {n k : Nat} {f : Nat → Int32} (B : BB Z h a n f) (hk : k < n) : fits .byte (.int (f k)) = true := by
  obtain ⟨_, _, _, _, _, r⟩ := B; exact (r k hk).2
theorem d9_0 : decode method_3_code 0 = .ok (.iload 6, 2) := by decide +kernel
theorem d9_2 : decode method_3_code 2 = .ok (.iload_n 3, 1) := by decide +kernel
theorem d9_3 : decode method_3_code 3 = .ok (.if_icmp .ge 18, 3) := by decide +kernel
theorem d9_6 : decode method_3_code 6 = .ok (.iload 6, 2) := by decide +kernel
theorem d9_8 : decode method_3_code 8 = .ok (.iload_n 2, 1) := by decide +kernel
theorem d9_9 : decode method_3_code 9 = .ok (.if_icmp .ge 10, 3) := by decide +kernel
theorem d9_12 : decode method_3_code 12 = .ok (.aload_n 0, 1) := by decide +kernel
theorem d9_13 : decode method_3_code 13 = .ok (.iload_n 1, 1) := by decide +kernel
theorem d9_14 : decode method_3_code 14 = .ok (.iload 6, 2) := by decide +kernel
theorem d9_16 : decode method_3_code 16 = .ok (.iadd, 1) := by decide +kernel
theorem d9_17 : decode method_3_code 17 = .ok (.baload, 1) := by decide +kernel
theorem d9_18 : decode method_3_code 18 = .ok (.ireturn, 1) := by decide +kernel
theorem d9_19 : decode method_3_code 19 = .ok (.iconst 0, 1) := by decide +kernel
theorem d9_20 : decode method_3_code 20 = .ok (.ireturn, 1) := by decide +kernel
theorem d9_21 : decode method_3_code 21 = .ok (.aload 4, 2) := by decide +kernel
theorem d9_23 : decode method_3_code 23 = .ok (.iload 5, 2) := by decide +kernel
theorem d9_25 : decode method_3_code 25 = .ok (.iload 6, 2) := by decide +kernel
theorem d9_27 : decode method_3_code 27 = .ok (.iadd, 1) := by decide +kernel
theorem d9_28 : decode method_3_code 28 = .ok (.iload_n 3, 1) := by decide +kernel
theorem d9_29 : decode method_3_code 29 = .ok (.isub, 1) := by decide +kernel
theorem d9_30 : decode method_3_code 30 = .ok (.baload, 1) := by decide +kernel
theorem d9_31 : decode method_3_code 31 = .ok (.ireturn, 1) := by decide +kernel
theorem pn_9 : plainFor (⟨"com/example/vaxwire/vaxwire/hl7/BoundedBytesToArrayPinLaw", "exp", "([BIII[BII)B"⟩ : MethodName) = true := plainFor_of_name (by first | (simp [plainName, overriddenIn]; done) | decide +kernel)
theorem ef_9 (m : MethodId) (x0 : Addr) (x1 x2 x3 : Int32) (x4 : Addr) (x5 x6 : Int32) : entryFrame m #[(.ref x0), (.int x1), (.int x2), (.int x3), (.ref x4), (.int x5), (.int x6)] 7 = mkF m 0 #[.val (.ref x0), .val (.int x1), .val (.int x2), .val (.int x3), .val (.ref x4), .val (.int x5), .val (.int x6)] [] := by first | (simp [entryFrame, mkF, argsToLocals, Value.category]; done) | rfl
def own_Q_rm9 (Z : State) (s1 s2 : Addr) (f1 l1 pre f2 : Nat) (g1 g2 : Nat → Int32) (k : Nat) (h0 : Heap) (n0 : Nat) (v : Option Value) (h : Heap) (L : List Loc) : Prop := v = some (.int (own_expv f1 l1 pre f2 g1 g2 k)) ∧ Fr n0 L ∧ h = h0
set_option maxRecDepth 65536 in
set_option maxHeartbeats 40000000 in
theorem rm9 (l : Launch) (Z : State) (a0 : Array Value) (hw : ∀ d ∈ tables_1, d.before a0 Z = true) (ws : List Jvm.Cond) (s1 s2 : Addr) (f1 l1 pre f2 : Nat) (g1 g2 : Nat → Int32) (k : Nat) (h0 : Heap) (n0 : Nat) (Z0 : n0 ≤ h0.size) (hk1 : k < pre → k < l1 → f1 + k < 4) (hk2 : ¬ k < pre → f2 + k - pre < 4) (hbig : k < 2 ^ 30 ∧ pre < 2 ^ 30 ∧ l1 < 2 ^ 30 ∧ f1 < 2 ^ 30 ∧ f2 < 2 ^ 30) (B_s1 : BB Z h0 s1 4 g1) (B_s2 : BB Z h0 s2 4 g2) :
    MetFree l (⟨"com/example/vaxwire/vaxwire/hl7/BoundedBytesToArrayPinLaw", "exp", "([BIII[BII)B"⟩ : MethodName) (head1 (Jvm.Cond.code (⟨"com/example/vaxwire/vaxwire/hl7/BoundedBytesToArrayPinLaw", "exp", "([BIII[BII)B"⟩ : MethodName) method_3_code 7 (some .byte) :: ws) ({ frames := 0, cells := 0, slots := 0, locals := 0 } : Room)) (fun a U => a = #[(.ref s1), (.int (Int32.ofNat f1)), (.int (Int32.ofNat l1)), (.int (Int32.ofNat pre)), (.ref s2), (.int (Int32.ofNat f2)), (.int (Int32.ofNat k))] ∧ Z.Warmed39 U.vm ∧ U.heap = h0) (fun _ _ _ _ _ => True) (fun _ U o U' => ∃ v L, o = .returned v ∧ own_Q_rm9 Z s1 s2 f1 l1 pre f2 g1 g2 k h0 n0 v U'.heap L ∧ FrameEnd U o U' L ({ frames := 0, cells := 0, slots := 0, locals := 0 } : Room).cells ({ frames := 0, cells := 0, slots := 0, locals := 0 } : Room).slots) := by
  refine own_body (Q := (own_Q_rm9 Z s1 s2 f1 l1 pre f2 g1 g2 k h0 n0)) pn_9 ?_
  intro p e s m below meth c s₁ X0 hx hby hml hown hnm hret hlk hZ e0
  have N0 := Fr.nil n0
  refine Rch.go (fun tt_ kk_ => castTop (ef_9 m s1 (Int32.ofNat f1) (Int32.ofNat l1) (Int32.ofNat pre) s2 (Int32.ofNat f2) (Int32.ofNat k)) kk_) ?_
  show Rch p e below (s₁.setTop (mkF m 0 #[.val (.ref s1), .val (.int (Int32.ofNat f1)), .val (.int (Int32.ofNat l1)), .val (.int (Int32.ofNat pre)), .val (.ref s2), .val (.int (Int32.ofNat f2)), .val (.int (Int32.ofNat k))] [])) _
  refine Rch.go (fun _ kk_ => XS.iload X0.here hx rfl (hb hby d9_0) rfl  kk_) ?_
  show Rch p e below (s₁.setTop (mkF m 2 #[.val (.ref s1), .val (.int (Int32.ofNat f1)), .val (.int (Int32.ofNat l1)), .val (.int (Int32.ofNat pre)), .val (.ref s2), .val (.int (Int32.ofNat f2)), .val (.int (Int32.ofNat k))] [(.int (Int32.ofNat k))])) _
  refine Rch.go (fun _ kk_ => XS.iloadN X0.here hx rfl (hb hby d9_2) rfl  kk_) ?_
  show Rch p e below (s₁.setTop (mkF m 3 #[.val (.ref s1), .val (.int (Int32.ofNat f1)), .val (.int (Int32.ofNat l1)), .val (.int (Int32.ofNat pre)), .val (.ref s2), .val (.int (Int32.ofNat f2)), .val (.int (Int32.ofNat k))] [(.int (Int32.ofNat pre)), (.int (Int32.ofNat k))])) _
  by_cases hn3 : k < pre
  · refine Rch.go (fun _ kk_ => XS.icmpNo X0.here hx rfl (hb hby d9_3) rfl (tlt ((ofNat_lt (by omega) (by omega)).mpr hn3)).2.1 kk_) ?_
    show Rch p e below (s₁.setTop (mkF m 6 #[.val (.ref s1), .val (.int (Int32.ofNat f1)), .val (.int (Int32.ofNat l1)), .val (.int (Int32.ofNat pre)), .val (.ref s2), .val (.int (Int32.ofNat f2)), .val (.int (Int32.ofNat k))] [])) _
    refine Rch.go (fun _ kk_ => XS.iload X0.here hx rfl (hb hby d9_6) rfl  kk_) ?_
    show Rch p e below (s₁.setTop (mkF m 8 #[.val (.ref s1), .val (.int (Int32.ofNat f1)), .val (.int (Int32.ofNat l1)), .val (.int (Int32.ofNat pre)), .val (.ref s2), .val (.int (Int32.ofNat f2)), .val (.int (Int32.ofNat k))] [(.int (Int32.ofNat k))])) _
    refine Rch.go (fun _ kk_ => XS.iloadN X0.here hx rfl (hb hby d9_8) rfl  kk_) ?_
    show Rch p e below (s₁.setTop (mkF m 9 #[.val (.ref s1), .val (.int (Int32.ofNat f1)), .val (.int (Int32.ofNat l1)), .val (.int (Int32.ofNat pre)), .val (.ref s2), .val (.int (Int32.ofNat f2)), .val (.int (Int32.ofNat k))] [(.int (Int32.ofNat l1)), (.int (Int32.ofNat k))])) _
    by_cases hn9 : k < l1
    · refine Rch.go (fun _ kk_ => XS.icmpNo X0.here hx rfl (hb hby d9_9) rfl (tlt ((ofNat_lt (by omega) (by omega)).mpr hn9)).2.1 kk_) ?_
      show Rch p e below (s₁.setTop (mkF m 12 #[.val (.ref s1), .val (.int (Int32.ofNat f1)), .val (.int (Int32.ofNat l1)), .val (.int (Int32.ofNat pre)), .val (.ref s2), .val (.int (Int32.ofNat f2)), .val (.int (Int32.ofNat k))] [])) _
      refine Rch.go (fun _ kk_ => XS.aloadN X0.here hx rfl (hb hby d9_12) rfl rfl kk_) ?_
      show Rch p e below (s₁.setTop (mkF m 13 #[.val (.ref s1), .val (.int (Int32.ofNat f1)), .val (.int (Int32.ofNat l1)), .val (.int (Int32.ofNat pre)), .val (.ref s2), .val (.int (Int32.ofNat f2)), .val (.int (Int32.ofNat k))] [(.ref s1)])) _
      refine Rch.go (fun _ kk_ => XS.iloadN X0.here hx rfl (hb hby d9_13) rfl  kk_) ?_
      show Rch p e below (s₁.setTop (mkF m 14 #[.val (.ref s1), .val (.int (Int32.ofNat f1)), .val (.int (Int32.ofNat l1)), .val (.int (Int32.ofNat pre)), .val (.ref s2), .val (.int (Int32.ofNat f2)), .val (.int (Int32.ofNat k))] [(.int (Int32.ofNat f1)), (.ref s1)])) _
      refine Rch.go (fun _ kk_ => XS.iload X0.here hx rfl (hb hby d9_14) rfl  kk_) ?_
      show Rch p e below (s₁.setTop (mkF m 16 #[.val (.ref s1), .val (.int (Int32.ofNat f1)), .val (.int (Int32.ofNat l1)), .val (.int (Int32.ofNat pre)), .val (.ref s2), .val (.int (Int32.ofNat f2)), .val (.int (Int32.ofNat k))] [(.int (Int32.ofNat k)), (.int (Int32.ofNat f1)), (.ref s1)])) _
      refine Rch.go (fun _ kk_ => XS.iadd X0.here hx rfl (hb hby d9_16) rfl kk_) ?_
      show Rch p e below (s₁.setTop (mkF m 17 #[.val (.ref s1), .val (.int (Int32.ofNat f1)), .val (.int (Int32.ofNat l1)), .val (.int (Int32.ofNat pre)), .val (.ref s2), .val (.int (Int32.ofNat f2)), .val (.int (Int32.ofNat k))] [(.int ((Int32.ofNat f1) + (Int32.ofNat k))), (.ref s1)])) _
      rw [ofNat_add']
      show Rch p e below (s₁.setTop (mkF m 17 #[.val (.ref s1), .val (.int (Int32.ofNat f1)), .val (.int (Int32.ofNat l1)), .val (.int (Int32.ofNat pre)), .val (.ref s2), .val (.int (Int32.ofNat f2)), .val (.int (Int32.ofNat k))] [(.int (Int32.ofNat (f1 + k))), (.ref s1)])) _
      refine Rch.go (loadBB X0 hx hZ e0 B_s1 (k := (f1 + k)) (by omega) (g := (mkF m 17 #[.val (.ref s1), .val (.int (Int32.ofNat f1)), .val (.int (Int32.ofNat l1)), .val (.int (Int32.ofNat pre)), .val (.ref s2), .val (.int (Int32.ofNat f2)), .val (.int (Int32.ofNat k))] [(.int (Int32.ofNat (f1 + k))), (.ref s1)])) rfl (hb hby d9_17) rfl) ?_
      show Rch p e below (s₁.setTop (mkF m 18 #[.val (.ref s1), .val (.int (Int32.ofNat f1)), .val (.int (Int32.ofNat l1)), .val (.int (Int32.ofNat pre)), .val (.ref s2), .val (.int (Int32.ofNat f2)), .val (.int (Int32.ofNat k))] [(.int (g1 (f1 + k)))])) _
      have hv : own_expv f1 l1 pre f2 g1 g2 k = (g1 (f1 + k)) := by simp only [own_expv, if_pos hn3, if_pos hn9]
      exact Rch.ret X0 hlk (fun h => by rw [hret] at h; cases h) (fun fs hr => retN X0 hx (t := .byte) hret (by simp) (hb hby d9_18) hr) ⟨by rw [hv]; exact congrArg (fun z => some (Value.int z)) (nar_fix (own_fit B_s1 (by omega))), N0, e0⟩ (by decide) (by decide)
    · refine Rch.go (fun _ kk_ => XS.icmpYes X0.here hx rfl (pc0 := 9) (pc' := 19) rfl (hb hby d9_9) rfl (flt (fun q => hn9 ((ofNat_lt (by omega) (by omega)).mp q))).2.1 (by decide) (by decide) kk_) ?_
      show Rch p e below (s₁.setTop (mkF m 19 #[.val (.ref s1), .val (.int (Int32.ofNat f1)), .val (.int (Int32.ofNat l1)), .val (.int (Int32.ofNat pre)), .val (.ref s2), .val (.int (Int32.ofNat f2)), .val (.int (Int32.ofNat k))] [])) _
      refine Rch.go (fun _ kk_ => XS.iconst X0.here hx rfl (hb hby d9_19) kk_) ?_
      show Rch p e below (s₁.setTop (mkF m 20 #[.val (.ref s1), .val (.int (Int32.ofNat f1)), .val (.int (Int32.ofNat l1)), .val (.int (Int32.ofNat pre)), .val (.ref s2), .val (.int (Int32.ofNat f2)), .val (.int (Int32.ofNat k))] [(.int (0 : Int32))])) _
      have hv : own_expv f1 l1 pre f2 g1 g2 k = (0 : Int32) := by simp only [own_expv, if_pos hn3, if_neg hn9]
      exact Rch.ret X0 hlk (fun h => by rw [hret] at h; cases h) (fun fs hr => retN X0 hx (t := .byte) hret (by simp) (hb hby d9_20) hr) ⟨by rw [hv]; exact congrArg (fun z => some (Value.int z)) (nar_fix rfl), N0, e0⟩ (by decide) (by decide)
  · refine Rch.go (fun _ kk_ => XS.icmpYes X0.here hx rfl (pc0 := 3) (pc' := 21) rfl (hb hby d9_3) rfl (flt (fun q => hn3 ((ofNat_lt (by omega) (by omega)).mp q))).2.1 (by decide) (by decide) kk_) ?_
    show Rch p e below (s₁.setTop (mkF m 21 #[.val (.ref s1), .val (.int (Int32.ofNat f1)), .val (.int (Int32.ofNat l1)), .val (.int (Int32.ofNat pre)), .val (.ref s2), .val (.int (Int32.ofNat f2)), .val (.int (Int32.ofNat k))] [])) _
    refine Rch.go (fun _ kk_ => XS.aload X0.here hx rfl (hb hby d9_21) rfl rfl kk_) ?_
    show Rch p e below (s₁.setTop (mkF m 23 #[.val (.ref s1), .val (.int (Int32.ofNat f1)), .val (.int (Int32.ofNat l1)), .val (.int (Int32.ofNat pre)), .val (.ref s2), .val (.int (Int32.ofNat f2)), .val (.int (Int32.ofNat k))] [(.ref s2)])) _
    refine Rch.go (fun _ kk_ => XS.iload X0.here hx rfl (hb hby d9_23) rfl  kk_) ?_
    show Rch p e below (s₁.setTop (mkF m 25 #[.val (.ref s1), .val (.int (Int32.ofNat f1)), .val (.int (Int32.ofNat l1)), .val (.int (Int32.ofNat pre)), .val (.ref s2), .val (.int (Int32.ofNat f2)), .val (.int (Int32.ofNat k))] [(.int (Int32.ofNat f2)), (.ref s2)])) _
    refine Rch.go (fun _ kk_ => XS.iload X0.here hx rfl (hb hby d9_25) rfl  kk_) ?_
    show Rch p e below (s₁.setTop (mkF m 27 #[.val (.ref s1), .val (.int (Int32.ofNat f1)), .val (.int (Int32.ofNat l1)), .val (.int (Int32.ofNat pre)), .val (.ref s2), .val (.int (Int32.ofNat f2)), .val (.int (Int32.ofNat k))] [(.int (Int32.ofNat k)), (.int (Int32.ofNat f2)), (.ref s2)])) _
    refine Rch.go (fun _ kk_ => XS.iadd X0.here hx rfl (hb hby d9_27) rfl kk_) ?_
    show Rch p e below (s₁.setTop (mkF m 28 #[.val (.ref s1), .val (.int (Int32.ofNat f1)), .val (.int (Int32.ofNat l1)), .val (.int (Int32.ofNat pre)), .val (.ref s2), .val (.int (Int32.ofNat f2)), .val (.int (Int32.ofNat k))] [(.int ((Int32.ofNat f2) + (Int32.ofNat k))), (.ref s2)])) _
    rw [ofNat_add']
    show Rch p e below (s₁.setTop (mkF m 28 #[.val (.ref s1), .val (.int (Int32.ofNat f1)), .val (.int (Int32.ofNat l1)), .val (.int (Int32.ofNat pre)), .val (.ref s2), .val (.int (Int32.ofNat f2)), .val (.int (Int32.ofNat k))] [(.int (Int32.ofNat (f2 + k))), (.ref s2)])) _
    refine Rch.go (fun _ kk_ => XS.iloadN X0.here hx rfl (hb hby d9_28) rfl  kk_) ?_
    show Rch p e below (s₁.setTop (mkF m 29 #[.val (.ref s1), .val (.int (Int32.ofNat f1)), .val (.int (Int32.ofNat l1)), .val (.int (Int32.ofNat pre)), .val (.ref s2), .val (.int (Int32.ofNat f2)), .val (.int (Int32.ofNat k))] [(.int (Int32.ofNat pre)), (.int (Int32.ofNat (f2 + k))), (.ref s2)])) _
    refine Rch.go (fun _ kk_ => XS.isub X0.here hx rfl (hb hby d9_29) rfl kk_) ?_
    show Rch p e below (s₁.setTop (mkF m 30 #[.val (.ref s1), .val (.int (Int32.ofNat f1)), .val (.int (Int32.ofNat l1)), .val (.int (Int32.ofNat pre)), .val (.ref s2), .val (.int (Int32.ofNat f2)), .val (.int (Int32.ofNat k))] [(.int ((Int32.ofNat (f2 + k)) - (Int32.ofNat pre))), (.ref s2)])) _
    rw [ofNat_sub (by omega)]
    show Rch p e below (s₁.setTop (mkF m 30 #[.val (.ref s1), .val (.int (Int32.ofNat f1)), .val (.int (Int32.ofNat l1)), .val (.int (Int32.ofNat pre)), .val (.ref s2), .val (.int (Int32.ofNat f2)), .val (.int (Int32.ofNat k))] [(.int (Int32.ofNat (f2 + k - pre))), (.ref s2)])) _
    refine Rch.go (loadBB X0 hx hZ e0 B_s2 (k := (f2 + k - pre)) (by omega) (g := (mkF m 30 #[.val (.ref s1), .val (.int (Int32.ofNat f1)), .val (.int (Int32.ofNat l1)), .val (.int (Int32.ofNat pre)), .val (.ref s2), .val (.int (Int32.ofNat f2)), .val (.int (Int32.ofNat k))] [(.int (Int32.ofNat (f2 + k - pre))), (.ref s2)])) rfl (hb hby d9_30) rfl) ?_
    show Rch p e below (s₁.setTop (mkF m 31 #[.val (.ref s1), .val (.int (Int32.ofNat f1)), .val (.int (Int32.ofNat l1)), .val (.int (Int32.ofNat pre)), .val (.ref s2), .val (.int (Int32.ofNat f2)), .val (.int (Int32.ofNat k))] [(.int (g2 (f2 + k - pre)))])) _
    have hv : own_expv f1 l1 pre f2 g1 g2 k = (g2 (f2 + k - pre)) := by simp only [own_expv, if_neg hn3]
    exact Rch.ret X0 hlk (fun h => by rw [hret] at h; cases h) (fun fs hr => retN X0 hx (t := .byte) hret (by simp) (hb hby d9_31) hr) ⟨by rw [hv]; exact congrArg (fun z => some (Value.int z)) (nar_fix (own_fit B_s2 (by omega))), N0, e0⟩ (by decide) (by decide)
theorem own_nat {i : Int32} (h : ¬ i < 0) : ∃ k : Nat, k < 2 ^ 31 ∧ i = Int32.ofNat k := by
  rw [Int32.lt_iff_toInt_lt, show (0 : Int32).toInt = 0 from rfl] at h
  have := i.toInt_lt
  refine ⟨i.toInt.toNat, by omega, ?_⟩
  apply Int32.toInt_inj.mp
  rw [(natOf (by omega)).2.2]; omega
theorem d8_0 : decode method_4_code 0 = .ok (.iload 7, 2) := by decide +kernel
theorem d8_2 : decode method_4_code 2 = .ok (.ifCond .lt 10, 3) := by decide +kernel
theorem d8_5 : decode method_4_code 5 = .ok (.iload 7, 2) := by decide +kernel
theorem d8_7 : decode method_4_code 7 = .ok (.aload_n 0, 1) := by decide +kernel
theorem d8_8 : decode method_4_code 8 = .ok (.arraylength, 1) := by decide +kernel
theorem d8_9 : decode method_4_code 9 = .ok (.if_icmp .lt 5, 3) := by decide +kernel
theorem d8_12 : decode method_4_code 12 = .ok (.iconst 1, 1) := by decide +kernel
theorem d8_13 : decode method_4_code 13 = .ok (.ireturn, 1) := by decide +kernel
theorem d8_14 : decode method_4_code 14 = .ok (.aload_n 0, 1) := by decide +kernel
theorem d8_15 : decode method_4_code 15 = .ok (.iload 7, 2) := by decide +kernel
theorem d8_17 : decode method_4_code 17 = .ok (.baload, 1) := by decide +kernel
theorem d8_18 : decode method_4_code 18 = .ok (.aload_n 1, 1) := by decide +kernel
theorem d8_19 : decode method_4_code 19 = .ok (.iload_n 2, 1) := by decide +kernel
theorem d8_20 : decode method_4_code 20 = .ok (.iload_n 3, 1) := by decide +kernel
theorem d8_21 : decode method_4_code 21 = .ok (.iload 4, 2) := by decide +kernel
theorem d8_23 : decode method_4_code 23 = .ok (.aload 5, 2) := by decide +kernel
theorem d8_25 : decode method_4_code 25 = .ok (.iload 6, 2) := by decide +kernel
theorem d8_27 : decode method_4_code 27 = .ok (.iload 7, 2) := by decide +kernel
theorem d8_29 : decode method_4_code 29 = .ok (.invokestatic 28, 3) := by decide +kernel
theorem d8_32 : decode method_4_code 32 = .ok (.if_icmp .ne 7, 3) := by decide +kernel
theorem d8_35 : decode method_4_code 35 = .ok (.iconst 1, 1) := by decide +kernel
theorem d8_36 : decode method_4_code 36 = .ok (.goto 4, 3) := by decide +kernel
theorem d8_40 : decode method_4_code 40 = .ok (.ireturn, 1) := by decide +kernel
theorem pd8_0 : parseMethodDescriptor "([BIII[BII)B" = some ⟨[(.array .byte), .int, .int, .int, (.array .byte), .int, .int], some .byte⟩ := by decide +kernel
theorem pn_8 : plainFor (⟨"com/example/vaxwire/vaxwire/hl7/BoundedBytesToArrayPinLaw", "at", "([B[BIII[BII)Z"⟩ : MethodName) = true := plainFor_of_name (by first | (simp [plainName, overriddenIn]; done) | decide +kernel)
theorem ef_8 (m : MethodId) (x0 x1 : Addr) (x2 x3 x4 : Int32) (x5 : Addr) (x6 x7 : Int32) : entryFrame m #[(.ref x0), (.ref x1), (.int x2), (.int x3), (.int x4), (.ref x5), (.int x6), (.int x7)] 8 = mkF m 0 #[.val (.ref x0), .val (.ref x1), .val (.int x2), .val (.int x3), .val (.int x4), .val (.ref x5), .val (.int x6), .val (.int x7)] [] := by first | (simp [entryFrame, mkF, argsToLocals, Value.category]; done) | rfl
def own_Q_rm8 (Z : State) (o1 s1 s2 : Addr) (f1 l1 pre f2 n : Nat) (fo g1 g2 : Nat → Int32) (i : Int32) (h0 : Heap) (n0 : Nat) (v : Option Value) (h : Heap) (L : List Loc) : Prop := v = some (.int 1) ∧ Fr n0 L ∧ h = h0
set_option maxRecDepth 65536 in
set_option maxHeartbeats 40000000 in
theorem rm8 (l : Launch) (Z : State) (a0 : Array Value) (hw : ∀ d ∈ tables_1, d.before a0 Z = true) (ws : List Jvm.Cond) (o1 s1 s2 : Addr) (f1 l1 pre f2 n : Nat) (fo g1 g2 : Nat → Int32) (i : Int32) (h0 : Heap) (n0 : Nat) (Z0 : n0 ≤ h0.size) (h1 : f1 + l1 ≤ 4) (hpn : f2 + (n - pre) ≤ 4) (hn : n ≤ 1000) (hp : pre ≤ n) (hall : ∀ k, k < n → fo k = own_expv f1 l1 pre f2 g1 g2 k) (B_o : BB Z h0 o1 n fo) (B_s1 : BB Z h0 s1 4 g1) (B_s2 : BB Z h0 s2 4 g2) :
    MetFree l (⟨"com/example/vaxwire/vaxwire/hl7/BoundedBytesToArrayPinLaw", "at", "([B[BIII[BII)Z"⟩ : MethodName) (head1 (Jvm.Cond.code (⟨"com/example/vaxwire/vaxwire/hl7/BoundedBytesToArrayPinLaw", "at", "([B[BIII[BII)Z"⟩ : MethodName) method_4_code 8 (some .boolean) :: ws) ({ frames := 1, cells := 0, slots := 0, locals := 19 } : Room)) (fun a U => a = #[(.ref o1), (.ref s1), (.int (Int32.ofNat f1)), (.int (Int32.ofNat l1)), (.int (Int32.ofNat pre)), (.ref s2), (.int (Int32.ofNat f2)), (.int i)] ∧ Z.Warmed39 U.vm ∧ U.heap = h0) (fun _ _ _ _ _ => True) (fun _ U o U' => ∃ v L, o = .returned v ∧ own_Q_rm8 Z o1 s1 s2 f1 l1 pre f2 n fo g1 g2 i h0 n0 v U'.heap L ∧ FrameEnd U o U' L ({ frames := 1, cells := 0, slots := 0, locals := 19 } : Room).cells ({ frames := 1, cells := 0, slots := 0, locals := 19 } : Room).slots) := by
  refine own_body (Q := (own_Q_rm8 Z o1 s1 s2 f1 l1 pre f2 n fo g1 g2 i h0 n0)) pn_8 ?_
  intro p e s m below meth c s₁ X0 hx hby hml hown hnm hret hlk hZ e0
  have N0 := Fr.nil n0
  refine Rch.go (fun tt_ kk_ => castTop (ef_8 m o1 s1 (Int32.ofNat f1) (Int32.ofNat l1) (Int32.ofNat pre) s2 (Int32.ofNat f2) i) kk_) ?_
  show Rch p e below (s₁.setTop (mkF m 0 #[.val (.ref o1), .val (.ref s1), .val (.int (Int32.ofNat f1)), .val (.int (Int32.ofNat l1)), .val (.int (Int32.ofNat pre)), .val (.ref s2), .val (.int (Int32.ofNat f2)), .val (.int i)] [])) _
  refine Rch.go (fun _ kk_ => XS.iload X0.here hx rfl (hb hby d8_0) rfl  kk_) ?_
  show Rch p e below (s₁.setTop (mkF m 2 #[.val (.ref o1), .val (.ref s1), .val (.int (Int32.ofNat f1)), .val (.int (Int32.ofNat l1)), .val (.int (Int32.ofNat pre)), .val (.ref s2), .val (.int (Int32.ofNat f2)), .val (.int i)] [(.int i)])) _
  by_cases hc2_1 : i < (0 : Int32)
  · refine Rch.go (fun _ kk_ => XS.ifYes X0.here hx rfl (pc0 := 2) (pc' := 12) rfl (hb hby d8_2) rfl ((if0 _ _).trans (tlt hc2_1).1) (by decide) (by decide) kk_) ?_
    show Rch p e below (s₁.setTop (mkF m 12 #[.val (.ref o1), .val (.ref s1), .val (.int (Int32.ofNat f1)), .val (.int (Int32.ofNat l1)), .val (.int (Int32.ofNat pre)), .val (.ref s2), .val (.int (Int32.ofNat f2)), .val (.int i)] [])) _
    refine Rch.go (fun _ kk_ => XS.iconst X0.here hx rfl (hb hby d8_12) kk_) ?_
    show Rch p e below (s₁.setTop (mkF m 13 #[.val (.ref o1), .val (.ref s1), .val (.int (Int32.ofNat f1)), .val (.int (Int32.ofNat l1)), .val (.int (Int32.ofNat pre)), .val (.ref s2), .val (.int (Int32.ofNat f2)), .val (.int i)] [(.int (1 : Int32))])) _
    exact Rch.ret X0 hlk (fun h => by rw [hret] at h; cases h) (fun fs hr => retN X0 hx (t := .boolean) hret (by simp) (hb hby d8_13) hr) ⟨rfl, N0, e0⟩ (by decide) (by decide)
  · refine Rch.go (fun _ kk_ => XS.ifNo X0.here hx rfl (hb hby d8_2) rfl ((if0 _ _).trans (flt hc2_1).1) kk_) ?_
    show Rch p e below (s₁.setTop (mkF m 5 #[.val (.ref o1), .val (.ref s1), .val (.int (Int32.ofNat f1)), .val (.int (Int32.ofNat l1)), .val (.int (Int32.ofNat pre)), .val (.ref s2), .val (.int (Int32.ofNat f2)), .val (.int i)] [])) _
    obtain ⟨k, hk31, rfl⟩ := own_nat hc2_1
    show Rch p e below (s₁.setTop (mkF m 5 #[.val (.ref o1), .val (.ref s1), .val (.int (Int32.ofNat f1)), .val (.int (Int32.ofNat l1)), .val (.int (Int32.ofNat pre)), .val (.ref s2), .val (.int (Int32.ofNat f2)), .val (.int (Int32.ofNat k))] [])) _
    refine Rch.go (fun _ kk_ => XS.iload X0.here hx rfl (hb hby d8_5) rfl  kk_) ?_
    show Rch p e below (s₁.setTop (mkF m 7 #[.val (.ref o1), .val (.ref s1), .val (.int (Int32.ofNat f1)), .val (.int (Int32.ofNat l1)), .val (.int (Int32.ofNat pre)), .val (.ref s2), .val (.int (Int32.ofNat f2)), .val (.int (Int32.ofNat k))] [(.int (Int32.ofNat k))])) _
    refine Rch.go (fun _ kk_ => XS.aloadN X0.here hx rfl (hb hby d8_7) rfl rfl kk_) ?_
    show Rch p e below (s₁.setTop (mkF m 8 #[.val (.ref o1), .val (.ref s1), .val (.int (Int32.ofNat f1)), .val (.int (Int32.ofNat l1)), .val (.int (Int32.ofNat pre)), .val (.ref s2), .val (.int (Int32.ofNat f2)), .val (.int (Int32.ofNat k))] [(.ref o1), (.int (Int32.ofNat k))])) _
    refine Rch.go (lenBB X0 hx hZ e0 B_o (g := (mkF m 8 #[.val (.ref o1), .val (.ref s1), .val (.int (Int32.ofNat f1)), .val (.int (Int32.ofNat l1)), .val (.int (Int32.ofNat pre)), .val (.ref s2), .val (.int (Int32.ofNat f2)), .val (.int (Int32.ofNat k))] [(.ref o1), (.int (Int32.ofNat k))])) rfl (hb hby d8_8) rfl) ?_
    show Rch p e below (s₁.setTop (mkF m 9 #[.val (.ref o1), .val (.ref s1), .val (.int (Int32.ofNat f1)), .val (.int (Int32.ofNat l1)), .val (.int (Int32.ofNat pre)), .val (.ref s2), .val (.int (Int32.ofNat f2)), .val (.int (Int32.ofNat k))] [(.int (Int32.ofNat n)), (.int (Int32.ofNat k))])) _
    by_cases hkn : k < n
    · refine Rch.go (fun _ kk_ => XS.icmpYes X0.here hx rfl (pc0 := 9) (pc' := 14) rfl (hb hby d8_9) rfl (tlt ((ofNat_lt (by omega) (by omega)).mpr hkn)).1 (by decide) (by decide) kk_) ?_
      show Rch p e below (s₁.setTop (mkF m 14 #[.val (.ref o1), .val (.ref s1), .val (.int (Int32.ofNat f1)), .val (.int (Int32.ofNat l1)), .val (.int (Int32.ofNat pre)), .val (.ref s2), .val (.int (Int32.ofNat f2)), .val (.int (Int32.ofNat k))] [])) _
      refine Rch.go (fun _ kk_ => XS.aloadN X0.here hx rfl (hb hby d8_14) rfl rfl kk_) ?_
      show Rch p e below (s₁.setTop (mkF m 15 #[.val (.ref o1), .val (.ref s1), .val (.int (Int32.ofNat f1)), .val (.int (Int32.ofNat l1)), .val (.int (Int32.ofNat pre)), .val (.ref s2), .val (.int (Int32.ofNat f2)), .val (.int (Int32.ofNat k))] [(.ref o1)])) _
      refine Rch.go (fun _ kk_ => XS.iload X0.here hx rfl (hb hby d8_15) rfl  kk_) ?_
      show Rch p e below (s₁.setTop (mkF m 17 #[.val (.ref o1), .val (.ref s1), .val (.int (Int32.ofNat f1)), .val (.int (Int32.ofNat l1)), .val (.int (Int32.ofNat pre)), .val (.ref s2), .val (.int (Int32.ofNat f2)), .val (.int (Int32.ofNat k))] [(.int (Int32.ofNat k)), (.ref o1)])) _
      refine Rch.go (loadBB X0 hx hZ e0 B_o (k := k) (by omega) (g := (mkF m 17 #[.val (.ref o1), .val (.ref s1), .val (.int (Int32.ofNat f1)), .val (.int (Int32.ofNat l1)), .val (.int (Int32.ofNat pre)), .val (.ref s2), .val (.int (Int32.ofNat f2)), .val (.int (Int32.ofNat k))] [(.int (Int32.ofNat k)), (.ref o1)])) rfl (hb hby d8_17) rfl) ?_
      show Rch p e below (s₁.setTop (mkF m 18 #[.val (.ref o1), .val (.ref s1), .val (.int (Int32.ofNat f1)), .val (.int (Int32.ofNat l1)), .val (.int (Int32.ofNat pre)), .val (.ref s2), .val (.int (Int32.ofNat f2)), .val (.int (Int32.ofNat k))] [(.int (fo k))])) _
      refine Rch.go (fun _ kk_ => XS.aloadN X0.here hx rfl (hb hby d8_18) rfl rfl kk_) ?_
      show Rch p e below (s₁.setTop (mkF m 19 #[.val (.ref o1), .val (.ref s1), .val (.int (Int32.ofNat f1)), .val (.int (Int32.ofNat l1)), .val (.int (Int32.ofNat pre)), .val (.ref s2), .val (.int (Int32.ofNat f2)), .val (.int (Int32.ofNat k))] [(.ref s1), (.int (fo k))])) _
      refine Rch.go (fun _ kk_ => XS.iloadN X0.here hx rfl (hb hby d8_19) rfl  kk_) ?_
      show Rch p e below (s₁.setTop (mkF m 20 #[.val (.ref o1), .val (.ref s1), .val (.int (Int32.ofNat f1)), .val (.int (Int32.ofNat l1)), .val (.int (Int32.ofNat pre)), .val (.ref s2), .val (.int (Int32.ofNat f2)), .val (.int (Int32.ofNat k))] [(.int (Int32.ofNat f1)), (.ref s1), (.int (fo k))])) _
      refine Rch.go (fun _ kk_ => XS.iloadN X0.here hx rfl (hb hby d8_20) rfl  kk_) ?_
      show Rch p e below (s₁.setTop (mkF m 21 #[.val (.ref o1), .val (.ref s1), .val (.int (Int32.ofNat f1)), .val (.int (Int32.ofNat l1)), .val (.int (Int32.ofNat pre)), .val (.ref s2), .val (.int (Int32.ofNat f2)), .val (.int (Int32.ofNat k))] [(.int (Int32.ofNat l1)), (.int (Int32.ofNat f1)), (.ref s1), (.int (fo k))])) _
      refine Rch.go (fun _ kk_ => XS.iload X0.here hx rfl (hb hby d8_21) rfl  kk_) ?_
      show Rch p e below (s₁.setTop (mkF m 23 #[.val (.ref o1), .val (.ref s1), .val (.int (Int32.ofNat f1)), .val (.int (Int32.ofNat l1)), .val (.int (Int32.ofNat pre)), .val (.ref s2), .val (.int (Int32.ofNat f2)), .val (.int (Int32.ofNat k))] [(.int (Int32.ofNat pre)), (.int (Int32.ofNat l1)), (.int (Int32.ofNat f1)), (.ref s1), (.int (fo k))])) _
      refine Rch.go (fun _ kk_ => XS.aload X0.here hx rfl (hb hby d8_23) rfl rfl kk_) ?_
      show Rch p e below (s₁.setTop (mkF m 25 #[.val (.ref o1), .val (.ref s1), .val (.int (Int32.ofNat f1)), .val (.int (Int32.ofNat l1)), .val (.int (Int32.ofNat pre)), .val (.ref s2), .val (.int (Int32.ofNat f2)), .val (.int (Int32.ofNat k))] [(.ref s2), (.int (Int32.ofNat pre)), (.int (Int32.ofNat l1)), (.int (Int32.ofNat f1)), (.ref s1), (.int (fo k))])) _
      refine Rch.go (fun _ kk_ => XS.iload X0.here hx rfl (hb hby d8_25) rfl  kk_) ?_
      show Rch p e below (s₁.setTop (mkF m 27 #[.val (.ref o1), .val (.ref s1), .val (.int (Int32.ofNat f1)), .val (.int (Int32.ofNat l1)), .val (.int (Int32.ofNat pre)), .val (.ref s2), .val (.int (Int32.ofNat f2)), .val (.int (Int32.ofNat k))] [(.int (Int32.ofNat f2)), (.ref s2), (.int (Int32.ofNat pre)), (.int (Int32.ofNat l1)), (.int (Int32.ofNat f1)), (.ref s1), (.int (fo k))])) _
      refine Rch.go (fun _ kk_ => XS.iload X0.here hx rfl (hb hby d8_27) rfl  kk_) ?_
      show Rch p e below (s₁.setTop (mkF m 29 #[.val (.ref o1), .val (.ref s1), .val (.int (Int32.ofNat f1)), .val (.int (Int32.ofNat l1)), .val (.int (Int32.ofNat pre)), .val (.ref s2), .val (.int (Int32.ofNat f2)), .val (.int (Int32.ofNat k))] [(.int (Int32.ofNat k)), (.int (Int32.ofNat f2)), (.ref s2), (.int (Int32.ofNat pre)), (.int (Int32.ofNat l1)), (.int (Int32.ofNat f1)), (.ref s1), (.int (fo k))])) _
      refine Rch.callS X0 hx hZ hown (hw _ (List.mem_of_getElem? (i := 52) rfl)) (hw _ (List.mem_of_getElem? (i := 53) rfl)) (hw _ (List.mem_of_getElem? (i := 50) rfl)) (hw _ (List.mem_of_getElem? (i := 54) rfl)) (by decide) (rm9 l Z a0 hw [] s1 s2 f1 l1 pre f2 g1 g2 k h0 n0 Z0 (fun q1 q2 => by omega) (fun q => by have := hpn; omega) ⟨by omega, by omega, by omega, by omega, by omega⟩ B_s1 B_s2) 1 (by decide) (by decide) (by decide) (by decide) e0 (g := (mkF m 29 #[.val (.ref o1), .val (.ref s1), .val (.int (Int32.ofNat f1)), .val (.int (Int32.ofNat l1)), .val (.int (Int32.ofNat pre)), .val (.ref s2), .val (.int (Int32.ofNat f2)), .val (.int (Int32.ofNat k))] [(.int (Int32.ofNat k)), (.int (Int32.ofNat f2)), (.ref s2), (.int (Int32.ofNat pre)), (.int (Int32.ofNat l1)), (.int (Int32.ofNat f1)), (.ref s1), (.int (fo k))])) rfl (by rw [hml]; rfl) [(.ref s1), (.int (Int32.ofNat f1)), (.int (Int32.ofNat l1)), (.int (Int32.ofNat pre)), (.ref s2), (.int (Int32.ofNat f2)), (.int (Int32.ofNat k))] [(.int (fo k))] rfl (lenOf pd8_0 rfl) rfl (by show 2 * 0 + _ ≤ _; exact Nat.le_of_eq rfl) (hb hby d8_29) ?_
      intro v2 T2 L2 X2 hQ2
      obtain ⟨rfl, N2q, e2⟩ := hQ2
      have N2 := Fr.app N0 N2q
      show Rch p e below (T2.setTop (mkF m 32 #[.val (.ref o1), .val (.ref s1), .val (.int (Int32.ofNat f1)), .val (.int (Int32.ofNat l1)), .val (.int (Int32.ofNat pre)), .val (.ref s2), .val (.int (Int32.ofNat f2)), .val (.int (Int32.ofNat k))] [(.int (own_expv f1 l1 pre f2 g1 g2 k)), (.int (fo k))])) _
      refine Rch.go (fun _ kk_ => XS.icmpNo X2.here hx rfl (hb hby d8_32) rfl (teq (hall k hkn)).2 kk_) ?_
      show Rch p e below (T2.setTop (mkF m 35 #[.val (.ref o1), .val (.ref s1), .val (.int (Int32.ofNat f1)), .val (.int (Int32.ofNat l1)), .val (.int (Int32.ofNat pre)), .val (.ref s2), .val (.int (Int32.ofNat f2)), .val (.int (Int32.ofNat k))] [])) _
      refine Rch.go (fun _ kk_ => XS.iconst X2.here hx rfl (hb hby d8_35) kk_) ?_
      show Rch p e below (T2.setTop (mkF m 36 #[.val (.ref o1), .val (.ref s1), .val (.int (Int32.ofNat f1)), .val (.int (Int32.ofNat l1)), .val (.int (Int32.ofNat pre)), .val (.ref s2), .val (.int (Int32.ofNat f2)), .val (.int (Int32.ofNat k))] [(.int (1 : Int32))])) _
      refine Rch.go (fun _ kk_ => XS.goto X2.here hx rfl (pc0 := 36) (pc' := 40) rfl (hb hby d8_36) (by decide) (by decide) kk_) ?_
      show Rch p e below (T2.setTop (mkF m 40 #[.val (.ref o1), .val (.ref s1), .val (.int (Int32.ofNat f1)), .val (.int (Int32.ofNat l1)), .val (.int (Int32.ofNat pre)), .val (.ref s2), .val (.int (Int32.ofNat f2)), .val (.int (Int32.ofNat k))] [(.int (1 : Int32))])) _
      exact Rch.ret X2 hlk (fun h => by rw [hret] at h; cases h) (fun fs hr => retN X2 hx (t := .boolean) hret (by simp) (hb hby d8_40) hr) ⟨rfl, N2, e2⟩ (by decide) (by decide)
    · refine Rch.go (fun _ kk_ => XS.icmpNo X0.here hx rfl (hb hby d8_9) rfl (flt (fun q => hkn ((ofNat_lt (by omega) (by omega)).mp q))).1 kk_) ?_
      show Rch p e below (s₁.setTop (mkF m 12 #[.val (.ref o1), .val (.ref s1), .val (.int (Int32.ofNat f1)), .val (.int (Int32.ofNat l1)), .val (.int (Int32.ofNat pre)), .val (.ref s2), .val (.int (Int32.ofNat f2)), .val (.int (Int32.ofNat k))] [])) _
      refine Rch.go (fun _ kk_ => XS.iconst X0.here hx rfl (hb hby d8_12) kk_) ?_
      show Rch p e below (s₁.setTop (mkF m 13 #[.val (.ref o1), .val (.ref s1), .val (.int (Int32.ofNat f1)), .val (.int (Int32.ofNat l1)), .val (.int (Int32.ofNat pre)), .val (.ref s2), .val (.int (Int32.ofNat f2)), .val (.int (Int32.ofNat k))] [(.int (1 : Int32))])) _
      exact Rch.ret X0 hlk (fun h => by rw [hret] at h; cases h) (fun fs hr => retN X0 hx (t := .boolean) hret (by simp) (hb hby d8_13) hr) ⟨rfl, N0, e0⟩ (by decide) (by decide)
theorem own_rem {a d : Nat} (ha : a < 2 ^ 31) (hd : d < 2 ^ 31) : Int32.ofNat a % Int32.ofNat d = Int32.ofNat (a % d) := by
  have hlt : a % d < 2 ^ 31 := Nat.lt_of_le_of_lt (Nat.mod_le _ _) ha
  apply Int32.toInt_inj.mp
  rw [Int32.toInt_mod, (natOf ha).2.2, (natOf hd).2.2, (natOf hlt).2.2, Int.ofNat_tmod]
theorem own_five (x : Int32) : ∃ n : Nat, n ≤ 4 ∧ ((x &&& (255 : Int32)) % (5 : Int32)) = Int32.ofNat n := by
  obtain ⟨a, h1, h2⟩ := mask_of x 255 (by decide)
  exact ⟨a % 5, by omega, by rw [show (x &&& (255 : Int32)) = Int32.ofNat a from h2]; exact own_rem (d := 5) (by omega) (by decide)⟩
theorem own_remd (x : Int32) {d : Nat} (h0 : 0 < d) (h5 : d ≤ 5) : ∃ n : Nat, n < d ∧ ((x &&& (255 : Int32)) % Int32.ofNat d) = Int32.ofNat n := by
  obtain ⟨a, h1, h2⟩ := mask_of x 255 (by decide)
  exact ⟨a % d, Nat.mod_lt _ h0, by rw [show (x &&& (255 : Int32)) = Int32.ofNat a from h2]; exact own_rem (by omega) (by omega)⟩
theorem own_z301 (x : Int32) : ∃ n : Nat, n ≤ 300 ∧ ((x &&& (2147483647 : Int32)) % (301 : Int32)) = Int32.ofNat n := by
  obtain ⟨a, h1, h2⟩ := mask_of x 2147483647 (by decide)
  exact ⟨a % 301, by omega, by rw [show (x &&& (2147483647 : Int32)) = Int32.ofNat a from h2]; exact own_rem (d := 301) (by omega) (by decide)⟩
theorem own_nz {d : Nat} (h0 : 0 < d) (h5 : d ≤ 5) : Int32.ofNat d ≠ 0 := fun q => absurd ((ofNat_inj (k := 0) (by omega) (by decide)).mp q) (by omega)
def own_clr_S0 (p5 : Int32) : Int32 := (if (p5 &&& (1 : Int32)) = (0 : Int32) then (0 : Int32) else (1 : Int32))
def own_pre_S0 (cl : Int32) (f1 : Nat) (d1 : Nat) (zc : Nat) : Int32 := (if cl = (0 : Int32) then ((Int32.ofNat (f1 + d1 - f1)) + (Int32.ofNat zc)) else (0 : Int32))
theorem pd0_0 : parseMethodDescriptor "()V" = some ⟨[], none⟩ := by decide +kernel
theorem pd0_1 : parseMethodDescriptor "([BII)V" = some ⟨[(.array .byte), .int, .int], none⟩ := by decide +kernel
theorem pd0_2 : parseMethodDescriptor "()[B" = some ⟨[], some (.array .byte)⟩ := by decide +kernel
theorem pd0_3 : parseMethodDescriptor "([B[BIII[BII)Z" = some ⟨[(.array .byte), (.array .byte), .int, .int, .int, (.array .byte), .int, .int], some .boolean⟩ := by decide +kernel
theorem pn_0 : plainFor x = true := plainFor_of_name (by first | (simp [plainName, overriddenIn]; done) | decide +kernel)
theorem ef_0 (m : MethodId) (x0 : Int32) (x1 : Int32) (x2 : Int32) (x3 : Int32) (x4 : Int32) (x5 : Int32) : entryFrame m #[(.int x0), (.int x1), (.int x2), (.int x3), (.int x4), (.int x5)] maxLocals = mkF m 0 #[.val (.int x0), .val (.int x1), .val (.int x2), .val (.int x3), .val (.int x4), .val (.int x5), .unset, .unset, .unset, .unset, .unset, .unset, .unset, .unset, .unset, .unset, .unset, .unset, .unset, .unset, .unset, .unset, .unset] [] := by first | (simp [entryFrame, mkF, argsToLocals, Value.category, maxLocals]; done) | rfl
def own_Q_rm0 (Z : State) (p0 p1 p2 p3 p4 p5 : Int32) (h0 : Heap) (n0 : Nat) (v : Option Value) (h : Heap) (L : List Loc) : Prop := v = some (.int 1) ∧ Fr n0 L
set_option maxRecDepth 65536 in
set_option maxHeartbeats 40000000 in
theorem rm0 (l : Launch) (Z : State) (a0 : Array Value) (hw : ∀ d ∈ tables_1, d.before a0 Z = true) (ws : List Jvm.Cond) (p0 p1 p2 p3 p4 p5 : Int32) (h0 : Heap) (n0 : Nat) (Z0 : n0 ≤ h0.size)  :
    MetFree l x (head1 (Jvm.Cond.code x code maxLocals ret :: ws) room_1) (fun a U => a = #[(.int p0), (.int p1), (.int p2), (.int p3), (.int p4), (.int p5)] ∧ Z.Warmed39 U.vm ∧ U.heap = h0) (fun _ _ _ _ _ => True) (fun _ U o U' => ∃ v L, o = .returned v ∧ own_Q_rm0 Z p0 p1 p2 p3 p4 p5 h0 n0 v U'.heap L ∧ FrameEnd U o U' L 24 3584) := by
  refine own_body (Q := (own_Q_rm0 Z p0 p1 p2 p3 p4 p5 h0 n0)) pn_0 ?_
  intro p e s m below meth c s₁ X0 hx hby hml hown hnm hret hlk hZ e0
  have N0 := Fr.nil n0
  refine Rch.go (fun tt_ kk_ => castTop (ef_0 m p0 p1 p2 p3 p4 p5) kk_) ?_
  show Rch p e below (s₁.setTop (mkF m 0 #[.val (.int p0), .val (.int p1), .val (.int p2), .val (.int p3), .val (.int p4), .val (.int p5), .unset, .unset, .unset, .unset, .unset, .unset, .unset, .unset, .unset, .unset, .unset, .unset, .unset, .unset, .unset, .unset, .unset] [])) _
  refine Rch.go (fun _ kk_ => XS.iconst X0.here hx rfl (hb hby at_0) kk_) ?_
  show Rch p e below (s₁.setTop (mkF m 1 #[.val (.int p0), .val (.int p1), .val (.int p2), .val (.int p3), .val (.int p4), .val (.int p5), .unset, .unset, .unset, .unset, .unset, .unset, .unset, .unset, .unset, .unset, .unset, .unset, .unset, .unset, .unset, .unset, .unset] [(.int (4 : Int32))])) _
  obtain ⟨T1, h1, X1, e1, E1, A1, st1⟩ := newBB X0 hx hZ (hw _ (List.mem_of_getElem? (i := 0) rfl)) e0 (n := 4) (by decide) (g := (mkF m 1 #[.val (.int p0), .val (.int p1), .val (.int p2), .val (.int p3), .val (.int p4), .val (.int p5), .unset, .unset, .unset, .unset, .unset, .unset, .unset, .unset, .unset, .unset, .unset, .unset, .unset, .unset, .unset, .unset, .unset] [(.int (4 : Int32))])) rfl (hb hby at_1) rfl (by decide) (by decide)
  obtain ⟨b1, g1⟩ : ∃ z, z = h0.size := ⟨_, rfl⟩
  rw [← g1] at A1 st1
  have g_b1 : n0 ≤ b1 := Nat.le_trans Z0 (Nat.le_of_eq g1.symm)
  have Z0 := Nat.le_trans Z0 E1.1
  have B_b1 := A1
  refine Rch.go st1 ?_
  show Rch p e below (T1.setTop (mkF m 3 #[.val (.int p0), .val (.int p1), .val (.int p2), .val (.int p3), .val (.int p4), .val (.int p5), .unset, .unset, .unset, .unset, .unset, .unset, .unset, .unset, .unset, .unset, .unset, .unset, .unset, .unset, .unset, .unset, .unset] [(.ref b1)])) _
  refine Rch.go (fun _ kk_ => XS.dup X1.here hx rfl (hb hby at_3) rfl rfl kk_) ?_
  show Rch p e below (T1.setTop (mkF m 4 #[.val (.int p0), .val (.int p1), .val (.int p2), .val (.int p3), .val (.int p4), .val (.int p5), .unset, .unset, .unset, .unset, .unset, .unset, .unset, .unset, .unset, .unset, .unset, .unset, .unset, .unset, .unset, .unset, .unset] [(.ref b1), (.ref b1)])) _
  refine Rch.go (fun _ kk_ => XS.iconst X1.here hx rfl (hb hby at_4) kk_) ?_
  show Rch p e below (T1.setTop (mkF m 5 #[.val (.int p0), .val (.int p1), .val (.int p2), .val (.int p3), .val (.int p4), .val (.int p5), .unset, .unset, .unset, .unset, .unset, .unset, .unset, .unset, .unset, .unset, .unset, .unset, .unset, .unset, .unset, .unset, .unset] [(.int (0 : Int32)), (.ref b1), (.ref b1)])) _
  refine Rch.go (fun _ kk_ => XS.iloadN X1.here hx rfl (hb hby at_5) rfl  kk_) ?_
  show Rch p e below (T1.setTop (mkF m 6 #[.val (.int p0), .val (.int p1), .val (.int p2), .val (.int p3), .val (.int p4), .val (.int p5), .unset, .unset, .unset, .unset, .unset, .unset, .unset, .unset, .unset, .unset, .unset, .unset, .unset, .unset, .unset, .unset, .unset] [(.int p0), (.int (0 : Int32)), (.ref b1), (.ref b1)])) _
  refine Rch.go (fun _ kk_ => XS.i2b X1.here hx rfl (hb hby at_6) rfl kk_) ?_
  show Rch p e below (T1.setTop (mkF m 7 #[.val (.int p0), .val (.int p1), .val (.int p2), .val (.int p3), .val (.int p4), .val (.int p5), .unset, .unset, .unset, .unset, .unset, .unset, .unset, .unset, .unset, .unset, .unset, .unset, .unset, .unset, .unset, .unset, .unset] [(.int (p0.toInt8.toInt32)), (.int (0 : Int32)), (.ref b1), (.ref b1)])) _
  obtain ⟨cl2, Ar2, Cc2, Sz2, Nn2, At2⟩ := id B_b1
  obtain ⟨T2, h2, X2, e2, W2, st2⟩ := stB X1 hx hZ e1 Ar2 (j := (0 : Int32)) (inb (k := 0) Sz2 (by decide) (by decide) (by omega)) (g := (mkF m 7 #[.val (.int p0), .val (.int p1), .val (.int p2), .val (.int p3), .val (.int p4), .val (.int p5), .unset, .unset, .unset, .unset, .unset, .unset, .unset, .unset, .unset, .unset, .unset, .unset, .unset, .unset, .unset, .unset, .unset] [(.int (p0.toInt8.toInt32)), (.int (0 : Int32)), (.ref b1), (.ref b1)])) rfl rfl (hb hby at_7)
  have B_b1 := BB.set B_b1 (k := 0) (by decide) (by omega) (fits_nar_byte _) W2
  have Z0 := Nat.le_trans Z0 (Keep.of_wr W2).1
  have N2 := Fr.snoc X2 N0 g_b1
  refine Rch.go st2 ?_
  show Rch p e below (T2.setTop (mkF m 8 #[.val (.int p0), .val (.int p1), .val (.int p2), .val (.int p3), .val (.int p4), .val (.int p5), .unset, .unset, .unset, .unset, .unset, .unset, .unset, .unset, .unset, .unset, .unset, .unset, .unset, .unset, .unset, .unset, .unset] [(.ref b1)])) _
  refine Rch.go (fun _ kk_ => XS.dup X2.here hx rfl (hb hby at_8) rfl rfl kk_) ?_
  show Rch p e below (T2.setTop (mkF m 9 #[.val (.int p0), .val (.int p1), .val (.int p2), .val (.int p3), .val (.int p4), .val (.int p5), .unset, .unset, .unset, .unset, .unset, .unset, .unset, .unset, .unset, .unset, .unset, .unset, .unset, .unset, .unset, .unset, .unset] [(.ref b1), (.ref b1)])) _
  refine Rch.go (fun _ kk_ => XS.iconst X2.here hx rfl (hb hby at_9) kk_) ?_
  show Rch p e below (T2.setTop (mkF m 10 #[.val (.int p0), .val (.int p1), .val (.int p2), .val (.int p3), .val (.int p4), .val (.int p5), .unset, .unset, .unset, .unset, .unset, .unset, .unset, .unset, .unset, .unset, .unset, .unset, .unset, .unset, .unset, .unset, .unset] [(.int (1 : Int32)), (.ref b1), (.ref b1)])) _
  refine Rch.go (fun _ kk_ => XS.iloadN X2.here hx rfl (hb hby at_10) rfl  kk_) ?_
  show Rch p e below (T2.setTop (mkF m 11 #[.val (.int p0), .val (.int p1), .val (.int p2), .val (.int p3), .val (.int p4), .val (.int p5), .unset, .unset, .unset, .unset, .unset, .unset, .unset, .unset, .unset, .unset, .unset, .unset, .unset, .unset, .unset, .unset, .unset] [(.int p0), (.int (1 : Int32)), (.ref b1), (.ref b1)])) _
  refine Rch.go (fun _ kk_ => XS.bipush X2.here hx rfl (hb hby at_11) kk_) ?_
  show Rch p e below (T2.setTop (mkF m 13 #[.val (.int p0), .val (.int p1), .val (.int p2), .val (.int p3), .val (.int p4), .val (.int p5), .unset, .unset, .unset, .unset, .unset, .unset, .unset, .unset, .unset, .unset, .unset, .unset, .unset, .unset, .unset, .unset, .unset] [(.int (8 : Int32)), (.int p0), (.int (1 : Int32)), (.ref b1), (.ref b1)])) _
  refine Rch.go (fun _ kk_ => XS.ishr X2.here hx rfl (hb hby at_13) rfl kk_) ?_
  show Rch p e below (T2.setTop (mkF m 14 #[.val (.int p0), .val (.int p1), .val (.int p2), .val (.int p3), .val (.int p4), .val (.int p5), .unset, .unset, .unset, .unset, .unset, .unset, .unset, .unset, .unset, .unset, .unset, .unset, .unset, .unset, .unset, .unset, .unset] [(.int (p0 >>> ((8 : Int32) &&& 31))), (.int (1 : Int32)), (.ref b1), (.ref b1)])) _
  refine Rch.go (fun _ kk_ => XS.i2b X2.here hx rfl (hb hby at_14) rfl kk_) ?_
  show Rch p e below (T2.setTop (mkF m 15 #[.val (.int p0), .val (.int p1), .val (.int p2), .val (.int p3), .val (.int p4), .val (.int p5), .unset, .unset, .unset, .unset, .unset, .unset, .unset, .unset, .unset, .unset, .unset, .unset, .unset, .unset, .unset, .unset, .unset] [(.int ((p0 >>> ((8 : Int32) &&& 31)).toInt8.toInt32)), (.int (1 : Int32)), (.ref b1), (.ref b1)])) _
  obtain ⟨cl3, Ar3, Cc3, Sz3, Nn3, At3⟩ := id B_b1
  obtain ⟨T3, h3, X3, e3, W3, st3⟩ := stB X2 hx hZ e2 Ar3 (j := (1 : Int32)) (inb (k := 1) Sz3 (by decide) (by decide) (by omega)) (g := (mkF m 15 #[.val (.int p0), .val (.int p1), .val (.int p2), .val (.int p3), .val (.int p4), .val (.int p5), .unset, .unset, .unset, .unset, .unset, .unset, .unset, .unset, .unset, .unset, .unset, .unset, .unset, .unset, .unset, .unset, .unset] [(.int ((p0 >>> ((8 : Int32) &&& 31)).toInt8.toInt32)), (.int (1 : Int32)), (.ref b1), (.ref b1)])) rfl rfl (hb hby at_15)
  have B_b1 := BB.set B_b1 (k := 1) (by decide) (by omega) (fits_nar_byte _) W3
  have Z0 := Nat.le_trans Z0 (Keep.of_wr W3).1
  have N3 := Fr.snoc X3 N2 g_b1
  refine Rch.go st3 ?_
  show Rch p e below (T3.setTop (mkF m 16 #[.val (.int p0), .val (.int p1), .val (.int p2), .val (.int p3), .val (.int p4), .val (.int p5), .unset, .unset, .unset, .unset, .unset, .unset, .unset, .unset, .unset, .unset, .unset, .unset, .unset, .unset, .unset, .unset, .unset] [(.ref b1)])) _
  refine Rch.go (fun _ kk_ => XS.dup X3.here hx rfl (hb hby at_16) rfl rfl kk_) ?_
  show Rch p e below (T3.setTop (mkF m 17 #[.val (.int p0), .val (.int p1), .val (.int p2), .val (.int p3), .val (.int p4), .val (.int p5), .unset, .unset, .unset, .unset, .unset, .unset, .unset, .unset, .unset, .unset, .unset, .unset, .unset, .unset, .unset, .unset, .unset] [(.ref b1), (.ref b1)])) _
  refine Rch.go (fun _ kk_ => XS.iconst X3.here hx rfl (hb hby at_17) kk_) ?_
  show Rch p e below (T3.setTop (mkF m 18 #[.val (.int p0), .val (.int p1), .val (.int p2), .val (.int p3), .val (.int p4), .val (.int p5), .unset, .unset, .unset, .unset, .unset, .unset, .unset, .unset, .unset, .unset, .unset, .unset, .unset, .unset, .unset, .unset, .unset] [(.int (2 : Int32)), (.ref b1), (.ref b1)])) _
  refine Rch.go (fun _ kk_ => XS.iloadN X3.here hx rfl (hb hby at_18) rfl  kk_) ?_
  show Rch p e below (T3.setTop (mkF m 19 #[.val (.int p0), .val (.int p1), .val (.int p2), .val (.int p3), .val (.int p4), .val (.int p5), .unset, .unset, .unset, .unset, .unset, .unset, .unset, .unset, .unset, .unset, .unset, .unset, .unset, .unset, .unset, .unset, .unset] [(.int p0), (.int (2 : Int32)), (.ref b1), (.ref b1)])) _
  refine Rch.go (fun _ kk_ => XS.bipush X3.here hx rfl (hb hby at_19) kk_) ?_
  show Rch p e below (T3.setTop (mkF m 21 #[.val (.int p0), .val (.int p1), .val (.int p2), .val (.int p3), .val (.int p4), .val (.int p5), .unset, .unset, .unset, .unset, .unset, .unset, .unset, .unset, .unset, .unset, .unset, .unset, .unset, .unset, .unset, .unset, .unset] [(.int (16 : Int32)), (.int p0), (.int (2 : Int32)), (.ref b1), (.ref b1)])) _
  refine Rch.go (fun _ kk_ => XS.ishr X3.here hx rfl (hb hby at_21) rfl kk_) ?_
  show Rch p e below (T3.setTop (mkF m 22 #[.val (.int p0), .val (.int p1), .val (.int p2), .val (.int p3), .val (.int p4), .val (.int p5), .unset, .unset, .unset, .unset, .unset, .unset, .unset, .unset, .unset, .unset, .unset, .unset, .unset, .unset, .unset, .unset, .unset] [(.int (p0 >>> ((16 : Int32) &&& 31))), (.int (2 : Int32)), (.ref b1), (.ref b1)])) _
  refine Rch.go (fun _ kk_ => XS.i2b X3.here hx rfl (hb hby at_22) rfl kk_) ?_
  show Rch p e below (T3.setTop (mkF m 23 #[.val (.int p0), .val (.int p1), .val (.int p2), .val (.int p3), .val (.int p4), .val (.int p5), .unset, .unset, .unset, .unset, .unset, .unset, .unset, .unset, .unset, .unset, .unset, .unset, .unset, .unset, .unset, .unset, .unset] [(.int ((p0 >>> ((16 : Int32) &&& 31)).toInt8.toInt32)), (.int (2 : Int32)), (.ref b1), (.ref b1)])) _
  obtain ⟨cl4, Ar4, Cc4, Sz4, Nn4, At4⟩ := id B_b1
  obtain ⟨T4, h4, X4, e4, W4, st4⟩ := stB X3 hx hZ e3 Ar4 (j := (2 : Int32)) (inb (k := 2) Sz4 (by decide) (by decide) (by omega)) (g := (mkF m 23 #[.val (.int p0), .val (.int p1), .val (.int p2), .val (.int p3), .val (.int p4), .val (.int p5), .unset, .unset, .unset, .unset, .unset, .unset, .unset, .unset, .unset, .unset, .unset, .unset, .unset, .unset, .unset, .unset, .unset] [(.int ((p0 >>> ((16 : Int32) &&& 31)).toInt8.toInt32)), (.int (2 : Int32)), (.ref b1), (.ref b1)])) rfl rfl (hb hby at_23)
  have B_b1 := BB.set B_b1 (k := 2) (by decide) (by omega) (fits_nar_byte _) W4
  have Z0 := Nat.le_trans Z0 (Keep.of_wr W4).1
  have N4 := Fr.snoc X4 N3 g_b1
  refine Rch.go st4 ?_
  show Rch p e below (T4.setTop (mkF m 24 #[.val (.int p0), .val (.int p1), .val (.int p2), .val (.int p3), .val (.int p4), .val (.int p5), .unset, .unset, .unset, .unset, .unset, .unset, .unset, .unset, .unset, .unset, .unset, .unset, .unset, .unset, .unset, .unset, .unset] [(.ref b1)])) _
  refine Rch.go (fun _ kk_ => XS.dup X4.here hx rfl (hb hby at_24) rfl rfl kk_) ?_
  show Rch p e below (T4.setTop (mkF m 25 #[.val (.int p0), .val (.int p1), .val (.int p2), .val (.int p3), .val (.int p4), .val (.int p5), .unset, .unset, .unset, .unset, .unset, .unset, .unset, .unset, .unset, .unset, .unset, .unset, .unset, .unset, .unset, .unset, .unset] [(.ref b1), (.ref b1)])) _
  refine Rch.go (fun _ kk_ => XS.iconst X4.here hx rfl (hb hby at_25) kk_) ?_
  show Rch p e below (T4.setTop (mkF m 26 #[.val (.int p0), .val (.int p1), .val (.int p2), .val (.int p3), .val (.int p4), .val (.int p5), .unset, .unset, .unset, .unset, .unset, .unset, .unset, .unset, .unset, .unset, .unset, .unset, .unset, .unset, .unset, .unset, .unset] [(.int (3 : Int32)), (.ref b1), (.ref b1)])) _
  refine Rch.go (fun _ kk_ => XS.iloadN X4.here hx rfl (hb hby at_26) rfl  kk_) ?_
  show Rch p e below (T4.setTop (mkF m 27 #[.val (.int p0), .val (.int p1), .val (.int p2), .val (.int p3), .val (.int p4), .val (.int p5), .unset, .unset, .unset, .unset, .unset, .unset, .unset, .unset, .unset, .unset, .unset, .unset, .unset, .unset, .unset, .unset, .unset] [(.int p0), (.int (3 : Int32)), (.ref b1), (.ref b1)])) _
  refine Rch.go (fun _ kk_ => XS.bipush X4.here hx rfl (hb hby at_27) kk_) ?_
  show Rch p e below (T4.setTop (mkF m 29 #[.val (.int p0), .val (.int p1), .val (.int p2), .val (.int p3), .val (.int p4), .val (.int p5), .unset, .unset, .unset, .unset, .unset, .unset, .unset, .unset, .unset, .unset, .unset, .unset, .unset, .unset, .unset, .unset, .unset] [(.int (24 : Int32)), (.int p0), (.int (3 : Int32)), (.ref b1), (.ref b1)])) _
  refine Rch.go (fun _ kk_ => XS.ishr X4.here hx rfl (hb hby at_29) rfl kk_) ?_
  show Rch p e below (T4.setTop (mkF m 30 #[.val (.int p0), .val (.int p1), .val (.int p2), .val (.int p3), .val (.int p4), .val (.int p5), .unset, .unset, .unset, .unset, .unset, .unset, .unset, .unset, .unset, .unset, .unset, .unset, .unset, .unset, .unset, .unset, .unset] [(.int (p0 >>> ((24 : Int32) &&& 31))), (.int (3 : Int32)), (.ref b1), (.ref b1)])) _
  refine Rch.go (fun _ kk_ => XS.i2b X4.here hx rfl (hb hby at_30) rfl kk_) ?_
  show Rch p e below (T4.setTop (mkF m 31 #[.val (.int p0), .val (.int p1), .val (.int p2), .val (.int p3), .val (.int p4), .val (.int p5), .unset, .unset, .unset, .unset, .unset, .unset, .unset, .unset, .unset, .unset, .unset, .unset, .unset, .unset, .unset, .unset, .unset] [(.int ((p0 >>> ((24 : Int32) &&& 31)).toInt8.toInt32)), (.int (3 : Int32)), (.ref b1), (.ref b1)])) _
  obtain ⟨cl5, Ar5, Cc5, Sz5, Nn5, At5⟩ := id B_b1
  obtain ⟨T5, h5, X5, e5, W5, st5⟩ := stB X4 hx hZ e4 Ar5 (j := (3 : Int32)) (inb (k := 3) Sz5 (by decide) (by decide) (by omega)) (g := (mkF m 31 #[.val (.int p0), .val (.int p1), .val (.int p2), .val (.int p3), .val (.int p4), .val (.int p5), .unset, .unset, .unset, .unset, .unset, .unset, .unset, .unset, .unset, .unset, .unset, .unset, .unset, .unset, .unset, .unset, .unset] [(.int ((p0 >>> ((24 : Int32) &&& 31)).toInt8.toInt32)), (.int (3 : Int32)), (.ref b1), (.ref b1)])) rfl rfl (hb hby at_31)
  have B_b1 := BB.set B_b1 (k := 3) (by decide) (by omega) (fits_nar_byte _) W5
  have Z0 := Nat.le_trans Z0 (Keep.of_wr W5).1
  have N5 := Fr.snoc X5 N4 g_b1
  refine Rch.go st5 ?_
  show Rch p e below (T5.setTop (mkF m 32 #[.val (.int p0), .val (.int p1), .val (.int p2), .val (.int p3), .val (.int p4), .val (.int p5), .unset, .unset, .unset, .unset, .unset, .unset, .unset, .unset, .unset, .unset, .unset, .unset, .unset, .unset, .unset, .unset, .unset] [(.ref b1)])) _
  refine Rch.go (fun _ kk_ => XS.astore X5.here hx rfl (hb hby at_32) rfl rfl (l' := #[.val (.int p0), .val (.int p1), .val (.int p2), .val (.int p3), .val (.int p4), .val (.int p5), .val (.ref b1), .unset, .unset, .unset, .unset, .unset, .unset, .unset, .unset, .unset, .unset, .unset, .unset, .unset, .unset, .unset, .unset]) rfl kk_) ?_
  show Rch p e below (T5.setTop (mkF m 34 #[.val (.int p0), .val (.int p1), .val (.int p2), .val (.int p3), .val (.int p4), .val (.int p5), .val (.ref b1), .unset, .unset, .unset, .unset, .unset, .unset, .unset, .unset, .unset, .unset, .unset, .unset, .unset, .unset, .unset, .unset] [])) _
  obtain ⟨g1, B_b1⟩ : ∃ g, BB Z h5 b1 4 g := ⟨_, B_b1⟩
  refine Rch.go (fun _ kk_ => XS.iconst X5.here hx rfl (hb hby at_34) kk_) ?_
  show Rch p e below (T5.setTop (mkF m 35 #[.val (.int p0), .val (.int p1), .val (.int p2), .val (.int p3), .val (.int p4), .val (.int p5), .val (.ref b1), .unset, .unset, .unset, .unset, .unset, .unset, .unset, .unset, .unset, .unset, .unset, .unset, .unset, .unset, .unset, .unset] [(.int (4 : Int32))])) _
  obtain ⟨T6, h6, X6, e6, E6, A6, st6⟩ := newBB X5 hx hZ (hw _ (List.mem_of_getElem? (i := 0) rfl)) e5 (n := 4) (by decide) (g := (mkF m 35 #[.val (.int p0), .val (.int p1), .val (.int p2), .val (.int p3), .val (.int p4), .val (.int p5), .val (.ref b1), .unset, .unset, .unset, .unset, .unset, .unset, .unset, .unset, .unset, .unset, .unset, .unset, .unset, .unset, .unset, .unset] [(.int (4 : Int32))])) rfl (hb hby at_35) rfl (by decide) (by decide)
  obtain ⟨b6, g6⟩ : ∃ z, z = h5.size := ⟨_, rfl⟩
  rw [← g6] at A6 st6
  have ne_b1_b6 : NeA b1 b6 := Nat.ne_of_lt (Nat.lt_of_lt_of_le B_b1.lt (Nat.le_of_eq g6.symm))
  have g_b6 : n0 ≤ b6 := Nat.le_trans Z0 (Nat.le_of_eq g6.symm)
  have B_b1 := B_b1.ext E6
  have Z0 := Nat.le_trans Z0 E6.1
  have B_b6 := A6
  refine Rch.go st6 ?_
  show Rch p e below (T6.setTop (mkF m 37 #[.val (.int p0), .val (.int p1), .val (.int p2), .val (.int p3), .val (.int p4), .val (.int p5), .val (.ref b1), .unset, .unset, .unset, .unset, .unset, .unset, .unset, .unset, .unset, .unset, .unset, .unset, .unset, .unset, .unset, .unset] [(.ref b6)])) _
  refine Rch.go (fun _ kk_ => XS.dup X6.here hx rfl (hb hby at_37) rfl rfl kk_) ?_
  show Rch p e below (T6.setTop (mkF m 38 #[.val (.int p0), .val (.int p1), .val (.int p2), .val (.int p3), .val (.int p4), .val (.int p5), .val (.ref b1), .unset, .unset, .unset, .unset, .unset, .unset, .unset, .unset, .unset, .unset, .unset, .unset, .unset, .unset, .unset, .unset] [(.ref b6), (.ref b6)])) _
  refine Rch.go (fun _ kk_ => XS.iconst X6.here hx rfl (hb hby at_38) kk_) ?_
  show Rch p e below (T6.setTop (mkF m 39 #[.val (.int p0), .val (.int p1), .val (.int p2), .val (.int p3), .val (.int p4), .val (.int p5), .val (.ref b1), .unset, .unset, .unset, .unset, .unset, .unset, .unset, .unset, .unset, .unset, .unset, .unset, .unset, .unset, .unset, .unset] [(.int (0 : Int32)), (.ref b6), (.ref b6)])) _
  refine Rch.go (fun _ kk_ => XS.iloadN X6.here hx rfl (hb hby at_39) rfl  kk_) ?_
  show Rch p e below (T6.setTop (mkF m 40 #[.val (.int p0), .val (.int p1), .val (.int p2), .val (.int p3), .val (.int p4), .val (.int p5), .val (.ref b1), .unset, .unset, .unset, .unset, .unset, .unset, .unset, .unset, .unset, .unset, .unset, .unset, .unset, .unset, .unset, .unset] [(.int p1), (.int (0 : Int32)), (.ref b6), (.ref b6)])) _
  refine Rch.go (fun _ kk_ => XS.i2b X6.here hx rfl (hb hby at_40) rfl kk_) ?_
  show Rch p e below (T6.setTop (mkF m 41 #[.val (.int p0), .val (.int p1), .val (.int p2), .val (.int p3), .val (.int p4), .val (.int p5), .val (.ref b1), .unset, .unset, .unset, .unset, .unset, .unset, .unset, .unset, .unset, .unset, .unset, .unset, .unset, .unset, .unset, .unset] [(.int (p1.toInt8.toInt32)), (.int (0 : Int32)), (.ref b6), (.ref b6)])) _
  obtain ⟨cl7, Ar7, Cc7, Sz7, Nn7, At7⟩ := id B_b6
  obtain ⟨T7, h7, X7, e7, W7, st7⟩ := stB X6 hx hZ e6 Ar7 (j := (0 : Int32)) (inb (k := 0) Sz7 (by decide) (by decide) (by omega)) (g := (mkF m 41 #[.val (.int p0), .val (.int p1), .val (.int p2), .val (.int p3), .val (.int p4), .val (.int p5), .val (.ref b1), .unset, .unset, .unset, .unset, .unset, .unset, .unset, .unset, .unset, .unset, .unset, .unset, .unset, .unset, .unset, .unset] [(.int (p1.toInt8.toInt32)), (.int (0 : Int32)), (.ref b6), (.ref b6)])) rfl rfl (hb hby at_41)
  have B_b6 := BB.set B_b6 (k := 0) (by decide) (by omega) (fits_nar_byte _) W7
  have B_b1 := B_b1.other W7 ne_b1_b6
  have Z0 := Nat.le_trans Z0 (Keep.of_wr W7).1
  have N7 := Fr.snoc X7 N5 g_b6
  refine Rch.go st7 ?_
  show Rch p e below (T7.setTop (mkF m 42 #[.val (.int p0), .val (.int p1), .val (.int p2), .val (.int p3), .val (.int p4), .val (.int p5), .val (.ref b1), .unset, .unset, .unset, .unset, .unset, .unset, .unset, .unset, .unset, .unset, .unset, .unset, .unset, .unset, .unset, .unset] [(.ref b6)])) _
  refine Rch.go (fun _ kk_ => XS.dup X7.here hx rfl (hb hby at_42) rfl rfl kk_) ?_
  show Rch p e below (T7.setTop (mkF m 43 #[.val (.int p0), .val (.int p1), .val (.int p2), .val (.int p3), .val (.int p4), .val (.int p5), .val (.ref b1), .unset, .unset, .unset, .unset, .unset, .unset, .unset, .unset, .unset, .unset, .unset, .unset, .unset, .unset, .unset, .unset] [(.ref b6), (.ref b6)])) _
  refine Rch.go (fun _ kk_ => XS.iconst X7.here hx rfl (hb hby at_43) kk_) ?_
  show Rch p e below (T7.setTop (mkF m 44 #[.val (.int p0), .val (.int p1), .val (.int p2), .val (.int p3), .val (.int p4), .val (.int p5), .val (.ref b1), .unset, .unset, .unset, .unset, .unset, .unset, .unset, .unset, .unset, .unset, .unset, .unset, .unset, .unset, .unset, .unset] [(.int (1 : Int32)), (.ref b6), (.ref b6)])) _
  refine Rch.go (fun _ kk_ => XS.iloadN X7.here hx rfl (hb hby at_44) rfl  kk_) ?_
  show Rch p e below (T7.setTop (mkF m 45 #[.val (.int p0), .val (.int p1), .val (.int p2), .val (.int p3), .val (.int p4), .val (.int p5), .val (.ref b1), .unset, .unset, .unset, .unset, .unset, .unset, .unset, .unset, .unset, .unset, .unset, .unset, .unset, .unset, .unset, .unset] [(.int p1), (.int (1 : Int32)), (.ref b6), (.ref b6)])) _
  refine Rch.go (fun _ kk_ => XS.bipush X7.here hx rfl (hb hby at_45) kk_) ?_
  show Rch p e below (T7.setTop (mkF m 47 #[.val (.int p0), .val (.int p1), .val (.int p2), .val (.int p3), .val (.int p4), .val (.int p5), .val (.ref b1), .unset, .unset, .unset, .unset, .unset, .unset, .unset, .unset, .unset, .unset, .unset, .unset, .unset, .unset, .unset, .unset] [(.int (8 : Int32)), (.int p1), (.int (1 : Int32)), (.ref b6), (.ref b6)])) _
  refine Rch.go (fun _ kk_ => XS.ishr X7.here hx rfl (hb hby at_47) rfl kk_) ?_
  show Rch p e below (T7.setTop (mkF m 48 #[.val (.int p0), .val (.int p1), .val (.int p2), .val (.int p3), .val (.int p4), .val (.int p5), .val (.ref b1), .unset, .unset, .unset, .unset, .unset, .unset, .unset, .unset, .unset, .unset, .unset, .unset, .unset, .unset, .unset, .unset] [(.int (p1 >>> ((8 : Int32) &&& 31))), (.int (1 : Int32)), (.ref b6), (.ref b6)])) _
  refine Rch.go (fun _ kk_ => XS.i2b X7.here hx rfl (hb hby at_48) rfl kk_) ?_
  show Rch p e below (T7.setTop (mkF m 49 #[.val (.int p0), .val (.int p1), .val (.int p2), .val (.int p3), .val (.int p4), .val (.int p5), .val (.ref b1), .unset, .unset, .unset, .unset, .unset, .unset, .unset, .unset, .unset, .unset, .unset, .unset, .unset, .unset, .unset, .unset] [(.int ((p1 >>> ((8 : Int32) &&& 31)).toInt8.toInt32)), (.int (1 : Int32)), (.ref b6), (.ref b6)])) _
  obtain ⟨cl8, Ar8, Cc8, Sz8, Nn8, At8⟩ := id B_b6
  obtain ⟨T8, h8, X8, e8, W8, st8⟩ := stB X7 hx hZ e7 Ar8 (j := (1 : Int32)) (inb (k := 1) Sz8 (by decide) (by decide) (by omega)) (g := (mkF m 49 #[.val (.int p0), .val (.int p1), .val (.int p2), .val (.int p3), .val (.int p4), .val (.int p5), .val (.ref b1), .unset, .unset, .unset, .unset, .unset, .unset, .unset, .unset, .unset, .unset, .unset, .unset, .unset, .unset, .unset, .unset] [(.int ((p1 >>> ((8 : Int32) &&& 31)).toInt8.toInt32)), (.int (1 : Int32)), (.ref b6), (.ref b6)])) rfl rfl (hb hby at_49)
  have B_b6 := BB.set B_b6 (k := 1) (by decide) (by omega) (fits_nar_byte _) W8
  have B_b1 := B_b1.other W8 ne_b1_b6
  have Z0 := Nat.le_trans Z0 (Keep.of_wr W8).1
  have N8 := Fr.snoc X8 N7 g_b6
  refine Rch.go st8 ?_
  show Rch p e below (T8.setTop (mkF m 50 #[.val (.int p0), .val (.int p1), .val (.int p2), .val (.int p3), .val (.int p4), .val (.int p5), .val (.ref b1), .unset, .unset, .unset, .unset, .unset, .unset, .unset, .unset, .unset, .unset, .unset, .unset, .unset, .unset, .unset, .unset] [(.ref b6)])) _
  refine Rch.go (fun _ kk_ => XS.dup X8.here hx rfl (hb hby at_50) rfl rfl kk_) ?_
  show Rch p e below (T8.setTop (mkF m 51 #[.val (.int p0), .val (.int p1), .val (.int p2), .val (.int p3), .val (.int p4), .val (.int p5), .val (.ref b1), .unset, .unset, .unset, .unset, .unset, .unset, .unset, .unset, .unset, .unset, .unset, .unset, .unset, .unset, .unset, .unset] [(.ref b6), (.ref b6)])) _
  refine Rch.go (fun _ kk_ => XS.iconst X8.here hx rfl (hb hby at_51) kk_) ?_
  show Rch p e below (T8.setTop (mkF m 52 #[.val (.int p0), .val (.int p1), .val (.int p2), .val (.int p3), .val (.int p4), .val (.int p5), .val (.ref b1), .unset, .unset, .unset, .unset, .unset, .unset, .unset, .unset, .unset, .unset, .unset, .unset, .unset, .unset, .unset, .unset] [(.int (2 : Int32)), (.ref b6), (.ref b6)])) _
  refine Rch.go (fun _ kk_ => XS.iloadN X8.here hx rfl (hb hby at_52) rfl  kk_) ?_
  show Rch p e below (T8.setTop (mkF m 53 #[.val (.int p0), .val (.int p1), .val (.int p2), .val (.int p3), .val (.int p4), .val (.int p5), .val (.ref b1), .unset, .unset, .unset, .unset, .unset, .unset, .unset, .unset, .unset, .unset, .unset, .unset, .unset, .unset, .unset, .unset] [(.int p1), (.int (2 : Int32)), (.ref b6), (.ref b6)])) _
  refine Rch.go (fun _ kk_ => XS.bipush X8.here hx rfl (hb hby at_53) kk_) ?_
  show Rch p e below (T8.setTop (mkF m 55 #[.val (.int p0), .val (.int p1), .val (.int p2), .val (.int p3), .val (.int p4), .val (.int p5), .val (.ref b1), .unset, .unset, .unset, .unset, .unset, .unset, .unset, .unset, .unset, .unset, .unset, .unset, .unset, .unset, .unset, .unset] [(.int (16 : Int32)), (.int p1), (.int (2 : Int32)), (.ref b6), (.ref b6)])) _
  refine Rch.go (fun _ kk_ => XS.ishr X8.here hx rfl (hb hby at_55) rfl kk_) ?_
  show Rch p e below (T8.setTop (mkF m 56 #[.val (.int p0), .val (.int p1), .val (.int p2), .val (.int p3), .val (.int p4), .val (.int p5), .val (.ref b1), .unset, .unset, .unset, .unset, .unset, .unset, .unset, .unset, .unset, .unset, .unset, .unset, .unset, .unset, .unset, .unset] [(.int (p1 >>> ((16 : Int32) &&& 31))), (.int (2 : Int32)), (.ref b6), (.ref b6)])) _
  refine Rch.go (fun _ kk_ => XS.i2b X8.here hx rfl (hb hby at_56) rfl kk_) ?_
  show Rch p e below (T8.setTop (mkF m 57 #[.val (.int p0), .val (.int p1), .val (.int p2), .val (.int p3), .val (.int p4), .val (.int p5), .val (.ref b1), .unset, .unset, .unset, .unset, .unset, .unset, .unset, .unset, .unset, .unset, .unset, .unset, .unset, .unset, .unset, .unset] [(.int ((p1 >>> ((16 : Int32) &&& 31)).toInt8.toInt32)), (.int (2 : Int32)), (.ref b6), (.ref b6)])) _
  obtain ⟨cl9, Ar9, Cc9, Sz9, Nn9, At9⟩ := id B_b6
  obtain ⟨T9, h9, X9, e9, W9, st9⟩ := stB X8 hx hZ e8 Ar9 (j := (2 : Int32)) (inb (k := 2) Sz9 (by decide) (by decide) (by omega)) (g := (mkF m 57 #[.val (.int p0), .val (.int p1), .val (.int p2), .val (.int p3), .val (.int p4), .val (.int p5), .val (.ref b1), .unset, .unset, .unset, .unset, .unset, .unset, .unset, .unset, .unset, .unset, .unset, .unset, .unset, .unset, .unset, .unset] [(.int ((p1 >>> ((16 : Int32) &&& 31)).toInt8.toInt32)), (.int (2 : Int32)), (.ref b6), (.ref b6)])) rfl rfl (hb hby at_57)
  have B_b6 := BB.set B_b6 (k := 2) (by decide) (by omega) (fits_nar_byte _) W9
  have B_b1 := B_b1.other W9 ne_b1_b6
  have Z0 := Nat.le_trans Z0 (Keep.of_wr W9).1
  have N9 := Fr.snoc X9 N8 g_b6
  refine Rch.go st9 ?_
  show Rch p e below (T9.setTop (mkF m 58 #[.val (.int p0), .val (.int p1), .val (.int p2), .val (.int p3), .val (.int p4), .val (.int p5), .val (.ref b1), .unset, .unset, .unset, .unset, .unset, .unset, .unset, .unset, .unset, .unset, .unset, .unset, .unset, .unset, .unset, .unset] [(.ref b6)])) _
  refine Rch.go (fun _ kk_ => XS.dup X9.here hx rfl (hb hby at_58) rfl rfl kk_) ?_
  show Rch p e below (T9.setTop (mkF m 59 #[.val (.int p0), .val (.int p1), .val (.int p2), .val (.int p3), .val (.int p4), .val (.int p5), .val (.ref b1), .unset, .unset, .unset, .unset, .unset, .unset, .unset, .unset, .unset, .unset, .unset, .unset, .unset, .unset, .unset, .unset] [(.ref b6), (.ref b6)])) _
  refine Rch.go (fun _ kk_ => XS.iconst X9.here hx rfl (hb hby at_59) kk_) ?_
  show Rch p e below (T9.setTop (mkF m 60 #[.val (.int p0), .val (.int p1), .val (.int p2), .val (.int p3), .val (.int p4), .val (.int p5), .val (.ref b1), .unset, .unset, .unset, .unset, .unset, .unset, .unset, .unset, .unset, .unset, .unset, .unset, .unset, .unset, .unset, .unset] [(.int (3 : Int32)), (.ref b6), (.ref b6)])) _
  refine Rch.go (fun _ kk_ => XS.iloadN X9.here hx rfl (hb hby at_60) rfl  kk_) ?_
  show Rch p e below (T9.setTop (mkF m 61 #[.val (.int p0), .val (.int p1), .val (.int p2), .val (.int p3), .val (.int p4), .val (.int p5), .val (.ref b1), .unset, .unset, .unset, .unset, .unset, .unset, .unset, .unset, .unset, .unset, .unset, .unset, .unset, .unset, .unset, .unset] [(.int p1), (.int (3 : Int32)), (.ref b6), (.ref b6)])) _
  refine Rch.go (fun _ kk_ => XS.bipush X9.here hx rfl (hb hby at_61) kk_) ?_
  show Rch p e below (T9.setTop (mkF m 63 #[.val (.int p0), .val (.int p1), .val (.int p2), .val (.int p3), .val (.int p4), .val (.int p5), .val (.ref b1), .unset, .unset, .unset, .unset, .unset, .unset, .unset, .unset, .unset, .unset, .unset, .unset, .unset, .unset, .unset, .unset] [(.int (24 : Int32)), (.int p1), (.int (3 : Int32)), (.ref b6), (.ref b6)])) _
  refine Rch.go (fun _ kk_ => XS.ishr X9.here hx rfl (hb hby at_63) rfl kk_) ?_
  show Rch p e below (T9.setTop (mkF m 64 #[.val (.int p0), .val (.int p1), .val (.int p2), .val (.int p3), .val (.int p4), .val (.int p5), .val (.ref b1), .unset, .unset, .unset, .unset, .unset, .unset, .unset, .unset, .unset, .unset, .unset, .unset, .unset, .unset, .unset, .unset] [(.int (p1 >>> ((24 : Int32) &&& 31))), (.int (3 : Int32)), (.ref b6), (.ref b6)])) _
  refine Rch.go (fun _ kk_ => XS.i2b X9.here hx rfl (hb hby at_64) rfl kk_) ?_
  show Rch p e below (T9.setTop (mkF m 65 #[.val (.int p0), .val (.int p1), .val (.int p2), .val (.int p3), .val (.int p4), .val (.int p5), .val (.ref b1), .unset, .unset, .unset, .unset, .unset, .unset, .unset, .unset, .unset, .unset, .unset, .unset, .unset, .unset, .unset, .unset] [(.int ((p1 >>> ((24 : Int32) &&& 31)).toInt8.toInt32)), (.int (3 : Int32)), (.ref b6), (.ref b6)])) _
  obtain ⟨cl10, Ar10, Cc10, Sz10, Nn10, At10⟩ := id B_b6
  obtain ⟨T10, h10, X10, e10, W10, st10⟩ := stB X9 hx hZ e9 Ar10 (j := (3 : Int32)) (inb (k := 3) Sz10 (by decide) (by decide) (by omega)) (g := (mkF m 65 #[.val (.int p0), .val (.int p1), .val (.int p2), .val (.int p3), .val (.int p4), .val (.int p5), .val (.ref b1), .unset, .unset, .unset, .unset, .unset, .unset, .unset, .unset, .unset, .unset, .unset, .unset, .unset, .unset, .unset, .unset] [(.int ((p1 >>> ((24 : Int32) &&& 31)).toInt8.toInt32)), (.int (3 : Int32)), (.ref b6), (.ref b6)])) rfl rfl (hb hby at_65)
  have B_b6 := BB.set B_b6 (k := 3) (by decide) (by omega) (fits_nar_byte _) W10
  have B_b1 := B_b1.other W10 ne_b1_b6
  have Z0 := Nat.le_trans Z0 (Keep.of_wr W10).1
  have N10 := Fr.snoc X10 N9 g_b6
  refine Rch.go st10 ?_
  show Rch p e below (T10.setTop (mkF m 66 #[.val (.int p0), .val (.int p1), .val (.int p2), .val (.int p3), .val (.int p4), .val (.int p5), .val (.ref b1), .unset, .unset, .unset, .unset, .unset, .unset, .unset, .unset, .unset, .unset, .unset, .unset, .unset, .unset, .unset, .unset] [(.ref b6)])) _
  refine Rch.go (fun _ kk_ => XS.astore X10.here hx rfl (hb hby at_66) rfl rfl (l' := #[.val (.int p0), .val (.int p1), .val (.int p2), .val (.int p3), .val (.int p4), .val (.int p5), .val (.ref b1), .val (.ref b6), .unset, .unset, .unset, .unset, .unset, .unset, .unset, .unset, .unset, .unset, .unset, .unset, .unset, .unset, .unset]) rfl kk_) ?_
  show Rch p e below (T10.setTop (mkF m 68 #[.val (.int p0), .val (.int p1), .val (.int p2), .val (.int p3), .val (.int p4), .val (.int p5), .val (.ref b1), .val (.ref b6), .unset, .unset, .unset, .unset, .unset, .unset, .unset, .unset, .unset, .unset, .unset, .unset, .unset, .unset, .unset] [])) _
  obtain ⟨g2, B_b6⟩ : ∃ g, BB Z h10 b6 4 g := ⟨_, B_b6⟩
  refine Rch.go (fun _ kk_ => XS.sipush X10.here hx rfl (hb hby at_68) kk_) ?_
  show Rch p e below (T10.setTop (mkF m 71 #[.val (.int p0), .val (.int p1), .val (.int p2), .val (.int p3), .val (.int p4), .val (.int p5), .val (.ref b1), .val (.ref b6), .unset, .unset, .unset, .unset, .unset, .unset, .unset, .unset, .unset, .unset, .unset, .unset, .unset, .unset, .unset] [(.int (300 : Int32))])) _
  obtain ⟨T11, h11, X11, e11, E11, A11, st11⟩ := newBB X10 hx hZ (hw _ (List.mem_of_getElem? (i := 0) rfl)) e10 (n := 300) (by decide) (g := (mkF m 71 #[.val (.int p0), .val (.int p1), .val (.int p2), .val (.int p3), .val (.int p4), .val (.int p5), .val (.ref b1), .val (.ref b6), .unset, .unset, .unset, .unset, .unset, .unset, .unset, .unset, .unset, .unset, .unset, .unset, .unset, .unset, .unset] [(.int (300 : Int32))])) rfl (hb hby at_71) rfl (by decide) (by decide)
  obtain ⟨b11, g11⟩ : ∃ z, z = h10.size := ⟨_, rfl⟩
  rw [← g11] at A11 st11
  have ne_b1_b11 : NeA b1 b11 := Nat.ne_of_lt (Nat.lt_of_lt_of_le B_b1.lt (Nat.le_of_eq g11.symm))
  have ne_b6_b11 : NeA b6 b11 := Nat.ne_of_lt (Nat.lt_of_lt_of_le B_b6.lt (Nat.le_of_eq g11.symm))
  have g_b11 : n0 ≤ b11 := Nat.le_trans Z0 (Nat.le_of_eq g11.symm)
  have B_b1 := B_b1.ext E11
  have B_b6 := B_b6.ext E11
  have Z0 := Nat.le_trans Z0 E11.1
  have B_b11 := A11
  refine Rch.go st11 ?_
  show Rch p e below (T11.setTop (mkF m 73 #[.val (.int p0), .val (.int p1), .val (.int p2), .val (.int p3), .val (.int p4), .val (.int p5), .val (.ref b1), .val (.ref b6), .unset, .unset, .unset, .unset, .unset, .unset, .unset, .unset, .unset, .unset, .unset, .unset, .unset, .unset, .unset] [(.ref b11)])) _
  refine Rch.go (fun _ kk_ => XS.astore X11.here hx rfl (hb hby at_73) rfl rfl (l' := #[.val (.int p0), .val (.int p1), .val (.int p2), .val (.int p3), .val (.int p4), .val (.int p5), .val (.ref b1), .val (.ref b6), .val (.ref b11), .unset, .unset, .unset, .unset, .unset, .unset, .unset, .unset, .unset, .unset, .unset, .unset, .unset, .unset]) rfl kk_) ?_
  show Rch p e below (T11.setTop (mkF m 75 #[.val (.int p0), .val (.int p1), .val (.int p2), .val (.int p3), .val (.int p4), .val (.int p5), .val (.ref b1), .val (.ref b6), .val (.ref b11), .unset, .unset, .unset, .unset, .unset, .unset, .unset, .unset, .unset, .unset, .unset, .unset, .unset, .unset] [])) _
  refine Rch.go (fun _ kk_ => XS.iloadN X11.here hx rfl (hb hby at_75) rfl  kk_) ?_
  show Rch p e below (T11.setTop (mkF m 76 #[.val (.int p0), .val (.int p1), .val (.int p2), .val (.int p3), .val (.int p4), .val (.int p5), .val (.ref b1), .val (.ref b6), .val (.ref b11), .unset, .unset, .unset, .unset, .unset, .unset, .unset, .unset, .unset, .unset, .unset, .unset, .unset, .unset] [(.int p2)])) _
  refine Rch.go (fun _ kk_ => XS.sipush X11.here hx rfl (hb hby at_76) kk_) ?_
  show Rch p e below (T11.setTop (mkF m 79 #[.val (.int p0), .val (.int p1), .val (.int p2), .val (.int p3), .val (.int p4), .val (.int p5), .val (.ref b1), .val (.ref b6), .val (.ref b11), .unset, .unset, .unset, .unset, .unset, .unset, .unset, .unset, .unset, .unset, .unset, .unset, .unset, .unset] [(.int (255 : Int32)), (.int p2)])) _
  refine Rch.go (fun _ kk_ => XS.iand X11.here hx rfl (hb hby at_79) rfl kk_) ?_
  show Rch p e below (T11.setTop (mkF m 80 #[.val (.int p0), .val (.int p1), .val (.int p2), .val (.int p3), .val (.int p4), .val (.int p5), .val (.ref b1), .val (.ref b6), .val (.ref b11), .unset, .unset, .unset, .unset, .unset, .unset, .unset, .unset, .unset, .unset, .unset, .unset, .unset, .unset] [(.int (p2 &&& (255 : Int32)))])) _
  refine Rch.go (fun _ kk_ => XS.iconst X11.here hx rfl (hb hby at_80) kk_) ?_
  show Rch p e below (T11.setTop (mkF m 81 #[.val (.int p0), .val (.int p1), .val (.int p2), .val (.int p3), .val (.int p4), .val (.int p5), .val (.ref b1), .val (.ref b6), .val (.ref b11), .unset, .unset, .unset, .unset, .unset, .unset, .unset, .unset, .unset, .unset, .unset, .unset, .unset, .unset] [(.int (5 : Int32)), (.int (p2 &&& (255 : Int32)))])) _
  refine Rch.go (fun _ kk_ => iremM X11 hx rfl (hb hby at_81) rfl (by decide) kk_) ?_
  show Rch p e below (T11.setTop (mkF m 82 #[.val (.int p0), .val (.int p1), .val (.int p2), .val (.int p3), .val (.int p4), .val (.int p5), .val (.ref b1), .val (.ref b6), .val (.ref b11), .unset, .unset, .unset, .unset, .unset, .unset, .unset, .unset, .unset, .unset, .unset, .unset, .unset, .unset] [(.int ((p2 &&& (255 : Int32)) % (5 : Int32)))])) _
  obtain ⟨f1, hf1, ef1⟩ := own_five p2
  rw [ef1]
  show Rch p e below (T11.setTop (mkF m 82 #[.val (.int p0), .val (.int p1), .val (.int p2), .val (.int p3), .val (.int p4), .val (.int p5), .val (.ref b1), .val (.ref b6), .val (.ref b11), .unset, .unset, .unset, .unset, .unset, .unset, .unset, .unset, .unset, .unset, .unset, .unset, .unset, .unset] [(.int (Int32.ofNat f1))])) _
  refine Rch.go (fun _ kk_ => XS.istore X11.here hx rfl (hb hby at_82) rfl (l' := #[.val (.int p0), .val (.int p1), .val (.int p2), .val (.int p3), .val (.int p4), .val (.int p5), .val (.ref b1), .val (.ref b6), .val (.ref b11), .val (.int (Int32.ofNat f1)), .unset, .unset, .unset, .unset, .unset, .unset, .unset, .unset, .unset, .unset, .unset, .unset, .unset]) rfl kk_) ?_
  show Rch p e below (T11.setTop (mkF m 84 #[.val (.int p0), .val (.int p1), .val (.int p2), .val (.int p3), .val (.int p4), .val (.int p5), .val (.ref b1), .val (.ref b6), .val (.ref b11), .val (.int (Int32.ofNat f1)), .unset, .unset, .unset, .unset, .unset, .unset, .unset, .unset, .unset, .unset, .unset, .unset, .unset] [])) _
  refine Rch.go (fun _ kk_ => XS.iload X11.here hx rfl (hb hby at_84) rfl  kk_) ?_
  show Rch p e below (T11.setTop (mkF m 86 #[.val (.int p0), .val (.int p1), .val (.int p2), .val (.int p3), .val (.int p4), .val (.int p5), .val (.ref b1), .val (.ref b6), .val (.ref b11), .val (.int (Int32.ofNat f1)), .unset, .unset, .unset, .unset, .unset, .unset, .unset, .unset, .unset, .unset, .unset, .unset, .unset] [(.int (Int32.ofNat f1))])) _
  refine Rch.go (fun _ kk_ => XS.iloadN X11.here hx rfl (hb hby at_86) rfl  kk_) ?_
  show Rch p e below (T11.setTop (mkF m 87 #[.val (.int p0), .val (.int p1), .val (.int p2), .val (.int p3), .val (.int p4), .val (.int p5), .val (.ref b1), .val (.ref b6), .val (.ref b11), .val (.int (Int32.ofNat f1)), .unset, .unset, .unset, .unset, .unset, .unset, .unset, .unset, .unset, .unset, .unset, .unset, .unset] [(.int p2), (.int (Int32.ofNat f1))])) _
  refine Rch.go (fun _ kk_ => XS.bipush X11.here hx rfl (hb hby at_87) kk_) ?_
  show Rch p e below (T11.setTop (mkF m 89 #[.val (.int p0), .val (.int p1), .val (.int p2), .val (.int p3), .val (.int p4), .val (.int p5), .val (.ref b1), .val (.ref b6), .val (.ref b11), .val (.int (Int32.ofNat f1)), .unset, .unset, .unset, .unset, .unset, .unset, .unset, .unset, .unset, .unset, .unset, .unset, .unset] [(.int (8 : Int32)), (.int p2), (.int (Int32.ofNat f1))])) _
  refine Rch.go (fun _ kk_ => XS.iushr X11.here hx rfl (hb hby at_89) rfl kk_) ?_
  show Rch p e below (T11.setTop (mkF m 90 #[.val (.int p0), .val (.int p1), .val (.int p2), .val (.int p3), .val (.int p4), .val (.int p5), .val (.ref b1), .val (.ref b6), .val (.ref b11), .val (.int (Int32.ofNat f1)), .unset, .unset, .unset, .unset, .unset, .unset, .unset, .unset, .unset, .unset, .unset, .unset, .unset] [(.int ((p2.toUInt32 >>> ((8 : Int32) &&& 31).toUInt32).toInt32)), (.int (Int32.ofNat f1))])) _
  refine Rch.go (fun _ kk_ => XS.sipush X11.here hx rfl (hb hby at_90) kk_) ?_
  show Rch p e below (T11.setTop (mkF m 93 #[.val (.int p0), .val (.int p1), .val (.int p2), .val (.int p3), .val (.int p4), .val (.int p5), .val (.ref b1), .val (.ref b6), .val (.ref b11), .val (.int (Int32.ofNat f1)), .unset, .unset, .unset, .unset, .unset, .unset, .unset, .unset, .unset, .unset, .unset, .unset, .unset] [(.int (255 : Int32)), (.int ((p2.toUInt32 >>> ((8 : Int32) &&& 31).toUInt32).toInt32)), (.int (Int32.ofNat f1))])) _
  refine Rch.go (fun _ kk_ => XS.iand X11.here hx rfl (hb hby at_93) rfl kk_) ?_
  show Rch p e below (T11.setTop (mkF m 94 #[.val (.int p0), .val (.int p1), .val (.int p2), .val (.int p3), .val (.int p4), .val (.int p5), .val (.ref b1), .val (.ref b6), .val (.ref b11), .val (.int (Int32.ofNat f1)), .unset, .unset, .unset, .unset, .unset, .unset, .unset, .unset, .unset, .unset, .unset, .unset, .unset] [(.int (((p2.toUInt32 >>> ((8 : Int32) &&& 31).toUInt32).toInt32) &&& (255 : Int32))), (.int (Int32.ofNat f1))])) _
  refine Rch.go (fun _ kk_ => XS.iconst X11.here hx rfl (hb hby at_94) kk_) ?_
  show Rch p e below (T11.setTop (mkF m 95 #[.val (.int p0), .val (.int p1), .val (.int p2), .val (.int p3), .val (.int p4), .val (.int p5), .val (.ref b1), .val (.ref b6), .val (.ref b11), .val (.int (Int32.ofNat f1)), .unset, .unset, .unset, .unset, .unset, .unset, .unset, .unset, .unset, .unset, .unset, .unset, .unset] [(.int (5 : Int32)), (.int (((p2.toUInt32 >>> ((8 : Int32) &&& 31).toUInt32).toInt32) &&& (255 : Int32))), (.int (Int32.ofNat f1))])) _
  refine Rch.go (fun _ kk_ => XS.iload X11.here hx rfl (hb hby at_95) rfl  kk_) ?_
  show Rch p e below (T11.setTop (mkF m 97 #[.val (.int p0), .val (.int p1), .val (.int p2), .val (.int p3), .val (.int p4), .val (.int p5), .val (.ref b1), .val (.ref b6), .val (.ref b11), .val (.int (Int32.ofNat f1)), .unset, .unset, .unset, .unset, .unset, .unset, .unset, .unset, .unset, .unset, .unset, .unset, .unset] [(.int (Int32.ofNat f1)), (.int (5 : Int32)), (.int (((p2.toUInt32 >>> ((8 : Int32) &&& 31).toUInt32).toInt32) &&& (255 : Int32))), (.int (Int32.ofNat f1))])) _
  refine Rch.go (fun _ kk_ => XS.isub X11.here hx rfl (hb hby at_97) rfl kk_) ?_
  show Rch p e below (T11.setTop (mkF m 98 #[.val (.int p0), .val (.int p1), .val (.int p2), .val (.int p3), .val (.int p4), .val (.int p5), .val (.ref b1), .val (.ref b6), .val (.ref b11), .val (.int (Int32.ofNat f1)), .unset, .unset, .unset, .unset, .unset, .unset, .unset, .unset, .unset, .unset, .unset, .unset, .unset] [(.int ((5 : Int32) - (Int32.ofNat f1))), (.int (((p2.toUInt32 >>> ((8 : Int32) &&& 31).toUInt32).toInt32) &&& (255 : Int32))), (.int (Int32.ofNat f1))])) _
  rw [show ((5 : Int32) - (Int32.ofNat f1)) = Int32.ofNat (5 - f1) from ofNat_sub (i := 5) (by omega)]
  show Rch p e below (T11.setTop (mkF m 98 #[.val (.int p0), .val (.int p1), .val (.int p2), .val (.int p3), .val (.int p4), .val (.int p5), .val (.ref b1), .val (.ref b6), .val (.ref b11), .val (.int (Int32.ofNat f1)), .unset, .unset, .unset, .unset, .unset, .unset, .unset, .unset, .unset, .unset, .unset, .unset, .unset] [(.int (Int32.ofNat (5 - f1))), (.int (((p2.toUInt32 >>> ((8 : Int32) &&& 31).toUInt32).toInt32) &&& (255 : Int32))), (.int (Int32.ofNat f1))])) _
  refine Rch.go (fun _ kk_ => iremM X11 hx rfl (hb hby at_98) rfl (own_nz (by omega) (by omega)) kk_) ?_
  show Rch p e below (T11.setTop (mkF m 99 #[.val (.int p0), .val (.int p1), .val (.int p2), .val (.int p3), .val (.int p4), .val (.int p5), .val (.ref b1), .val (.ref b6), .val (.ref b11), .val (.int (Int32.ofNat f1)), .unset, .unset, .unset, .unset, .unset, .unset, .unset, .unset, .unset, .unset, .unset, .unset, .unset] [(.int ((((p2.toUInt32 >>> ((8 : Int32) &&& 31).toUInt32).toInt32) &&& (255 : Int32)) % (Int32.ofNat (5 - f1)))), (.int (Int32.ofNat f1))])) _
  obtain ⟨d1, hd1, ed1⟩ := own_remd ((p2.toUInt32 >>> ((8 : Int32) &&& 31).toUInt32).toInt32) (d := 5 - f1) (by omega) (by omega)
  rw [ed1]
  show Rch p e below (T11.setTop (mkF m 99 #[.val (.int p0), .val (.int p1), .val (.int p2), .val (.int p3), .val (.int p4), .val (.int p5), .val (.ref b1), .val (.ref b6), .val (.ref b11), .val (.int (Int32.ofNat f1)), .unset, .unset, .unset, .unset, .unset, .unset, .unset, .unset, .unset, .unset, .unset, .unset, .unset] [(.int (Int32.ofNat d1)), (.int (Int32.ofNat f1))])) _
  refine Rch.go (fun _ kk_ => XS.iadd X11.here hx rfl (hb hby at_99) rfl kk_) ?_
  show Rch p e below (T11.setTop (mkF m 100 #[.val (.int p0), .val (.int p1), .val (.int p2), .val (.int p3), .val (.int p4), .val (.int p5), .val (.ref b1), .val (.ref b6), .val (.ref b11), .val (.int (Int32.ofNat f1)), .unset, .unset, .unset, .unset, .unset, .unset, .unset, .unset, .unset, .unset, .unset, .unset, .unset] [(.int ((Int32.ofNat f1) + (Int32.ofNat d1)))])) _
  rw [ofNat_add']
  show Rch p e below (T11.setTop (mkF m 100 #[.val (.int p0), .val (.int p1), .val (.int p2), .val (.int p3), .val (.int p4), .val (.int p5), .val (.ref b1), .val (.ref b6), .val (.ref b11), .val (.int (Int32.ofNat f1)), .unset, .unset, .unset, .unset, .unset, .unset, .unset, .unset, .unset, .unset, .unset, .unset, .unset] [(.int (Int32.ofNat (f1 + d1)))])) _
  refine Rch.go (fun _ kk_ => XS.istore X11.here hx rfl (hb hby at_100) rfl (l' := #[.val (.int p0), .val (.int p1), .val (.int p2), .val (.int p3), .val (.int p4), .val (.int p5), .val (.ref b1), .val (.ref b6), .val (.ref b11), .val (.int (Int32.ofNat f1)), .val (.int (Int32.ofNat (f1 + d1))), .unset, .unset, .unset, .unset, .unset, .unset, .unset, .unset, .unset, .unset, .unset, .unset]) rfl kk_) ?_
  show Rch p e below (T11.setTop (mkF m 102 #[.val (.int p0), .val (.int p1), .val (.int p2), .val (.int p3), .val (.int p4), .val (.int p5), .val (.ref b1), .val (.ref b6), .val (.ref b11), .val (.int (Int32.ofNat f1)), .val (.int (Int32.ofNat (f1 + d1))), .unset, .unset, .unset, .unset, .unset, .unset, .unset, .unset, .unset, .unset, .unset, .unset] [])) _
  refine Rch.go (fun _ kk_ => XS.iloadN X11.here hx rfl (hb hby at_102) rfl  kk_) ?_
  show Rch p e below (T11.setTop (mkF m 103 #[.val (.int p0), .val (.int p1), .val (.int p2), .val (.int p3), .val (.int p4), .val (.int p5), .val (.ref b1), .val (.ref b6), .val (.ref b11), .val (.int (Int32.ofNat f1)), .val (.int (Int32.ofNat (f1 + d1))), .unset, .unset, .unset, .unset, .unset, .unset, .unset, .unset, .unset, .unset, .unset, .unset] [(.int p3)])) _
  refine Rch.go (fun _ kk_ => XS.sipush X11.here hx rfl (hb hby at_103) kk_) ?_
  show Rch p e below (T11.setTop (mkF m 106 #[.val (.int p0), .val (.int p1), .val (.int p2), .val (.int p3), .val (.int p4), .val (.int p5), .val (.ref b1), .val (.ref b6), .val (.ref b11), .val (.int (Int32.ofNat f1)), .val (.int (Int32.ofNat (f1 + d1))), .unset, .unset, .unset, .unset, .unset, .unset, .unset, .unset, .unset, .unset, .unset, .unset] [(.int (255 : Int32)), (.int p3)])) _
  refine Rch.go (fun _ kk_ => XS.iand X11.here hx rfl (hb hby at_106) rfl kk_) ?_
  show Rch p e below (T11.setTop (mkF m 107 #[.val (.int p0), .val (.int p1), .val (.int p2), .val (.int p3), .val (.int p4), .val (.int p5), .val (.ref b1), .val (.ref b6), .val (.ref b11), .val (.int (Int32.ofNat f1)), .val (.int (Int32.ofNat (f1 + d1))), .unset, .unset, .unset, .unset, .unset, .unset, .unset, .unset, .unset, .unset, .unset, .unset] [(.int (p3 &&& (255 : Int32)))])) _
  refine Rch.go (fun _ kk_ => XS.iconst X11.here hx rfl (hb hby at_107) kk_) ?_
  show Rch p e below (T11.setTop (mkF m 108 #[.val (.int p0), .val (.int p1), .val (.int p2), .val (.int p3), .val (.int p4), .val (.int p5), .val (.ref b1), .val (.ref b6), .val (.ref b11), .val (.int (Int32.ofNat f1)), .val (.int (Int32.ofNat (f1 + d1))), .unset, .unset, .unset, .unset, .unset, .unset, .unset, .unset, .unset, .unset, .unset, .unset] [(.int (5 : Int32)), (.int (p3 &&& (255 : Int32)))])) _
  refine Rch.go (fun _ kk_ => iremM X11 hx rfl (hb hby at_108) rfl (by decide) kk_) ?_
  show Rch p e below (T11.setTop (mkF m 109 #[.val (.int p0), .val (.int p1), .val (.int p2), .val (.int p3), .val (.int p4), .val (.int p5), .val (.ref b1), .val (.ref b6), .val (.ref b11), .val (.int (Int32.ofNat f1)), .val (.int (Int32.ofNat (f1 + d1))), .unset, .unset, .unset, .unset, .unset, .unset, .unset, .unset, .unset, .unset, .unset, .unset] [(.int ((p3 &&& (255 : Int32)) % (5 : Int32)))])) _
  obtain ⟨f2, hf2, ef2⟩ := own_five p3
  rw [ef2]
  show Rch p e below (T11.setTop (mkF m 109 #[.val (.int p0), .val (.int p1), .val (.int p2), .val (.int p3), .val (.int p4), .val (.int p5), .val (.ref b1), .val (.ref b6), .val (.ref b11), .val (.int (Int32.ofNat f1)), .val (.int (Int32.ofNat (f1 + d1))), .unset, .unset, .unset, .unset, .unset, .unset, .unset, .unset, .unset, .unset, .unset, .unset] [(.int (Int32.ofNat f2))])) _
  refine Rch.go (fun _ kk_ => XS.istore X11.here hx rfl (hb hby at_109) rfl (l' := #[.val (.int p0), .val (.int p1), .val (.int p2), .val (.int p3), .val (.int p4), .val (.int p5), .val (.ref b1), .val (.ref b6), .val (.ref b11), .val (.int (Int32.ofNat f1)), .val (.int (Int32.ofNat (f1 + d1))), .val (.int (Int32.ofNat f2)), .unset, .unset, .unset, .unset, .unset, .unset, .unset, .unset, .unset, .unset, .unset]) rfl kk_) ?_
  show Rch p e below (T11.setTop (mkF m 111 #[.val (.int p0), .val (.int p1), .val (.int p2), .val (.int p3), .val (.int p4), .val (.int p5), .val (.ref b1), .val (.ref b6), .val (.ref b11), .val (.int (Int32.ofNat f1)), .val (.int (Int32.ofNat (f1 + d1))), .val (.int (Int32.ofNat f2)), .unset, .unset, .unset, .unset, .unset, .unset, .unset, .unset, .unset, .unset, .unset] [])) _
  refine Rch.go (fun _ kk_ => XS.iload X11.here hx rfl (hb hby at_111) rfl  kk_) ?_
  show Rch p e below (T11.setTop (mkF m 113 #[.val (.int p0), .val (.int p1), .val (.int p2), .val (.int p3), .val (.int p4), .val (.int p5), .val (.ref b1), .val (.ref b6), .val (.ref b11), .val (.int (Int32.ofNat f1)), .val (.int (Int32.ofNat (f1 + d1))), .val (.int (Int32.ofNat f2)), .unset, .unset, .unset, .unset, .unset, .unset, .unset, .unset, .unset, .unset, .unset] [(.int (Int32.ofNat f2))])) _
  refine Rch.go (fun _ kk_ => XS.iloadN X11.here hx rfl (hb hby at_113) rfl  kk_) ?_
  show Rch p e below (T11.setTop (mkF m 114 #[.val (.int p0), .val (.int p1), .val (.int p2), .val (.int p3), .val (.int p4), .val (.int p5), .val (.ref b1), .val (.ref b6), .val (.ref b11), .val (.int (Int32.ofNat f1)), .val (.int (Int32.ofNat (f1 + d1))), .val (.int (Int32.ofNat f2)), .unset, .unset, .unset, .unset, .unset, .unset, .unset, .unset, .unset, .unset, .unset] [(.int p3), (.int (Int32.ofNat f2))])) _
  refine Rch.go (fun _ kk_ => XS.bipush X11.here hx rfl (hb hby at_114) kk_) ?_
  show Rch p e below (T11.setTop (mkF m 116 #[.val (.int p0), .val (.int p1), .val (.int p2), .val (.int p3), .val (.int p4), .val (.int p5), .val (.ref b1), .val (.ref b6), .val (.ref b11), .val (.int (Int32.ofNat f1)), .val (.int (Int32.ofNat (f1 + d1))), .val (.int (Int32.ofNat f2)), .unset, .unset, .unset, .unset, .unset, .unset, .unset, .unset, .unset, .unset, .unset] [(.int (8 : Int32)), (.int p3), (.int (Int32.ofNat f2))])) _
  refine Rch.go (fun _ kk_ => XS.iushr X11.here hx rfl (hb hby at_116) rfl kk_) ?_
  show Rch p e below (T11.setTop (mkF m 117 #[.val (.int p0), .val (.int p1), .val (.int p2), .val (.int p3), .val (.int p4), .val (.int p5), .val (.ref b1), .val (.ref b6), .val (.ref b11), .val (.int (Int32.ofNat f1)), .val (.int (Int32.ofNat (f1 + d1))), .val (.int (Int32.ofNat f2)), .unset, .unset, .unset, .unset, .unset, .unset, .unset, .unset, .unset, .unset, .unset] [(.int ((p3.toUInt32 >>> ((8 : Int32) &&& 31).toUInt32).toInt32)), (.int (Int32.ofNat f2))])) _
  refine Rch.go (fun _ kk_ => XS.sipush X11.here hx rfl (hb hby at_117) kk_) ?_
  show Rch p e below (T11.setTop (mkF m 120 #[.val (.int p0), .val (.int p1), .val (.int p2), .val (.int p3), .val (.int p4), .val (.int p5), .val (.ref b1), .val (.ref b6), .val (.ref b11), .val (.int (Int32.ofNat f1)), .val (.int (Int32.ofNat (f1 + d1))), .val (.int (Int32.ofNat f2)), .unset, .unset, .unset, .unset, .unset, .unset, .unset, .unset, .unset, .unset, .unset] [(.int (255 : Int32)), (.int ((p3.toUInt32 >>> ((8 : Int32) &&& 31).toUInt32).toInt32)), (.int (Int32.ofNat f2))])) _
  refine Rch.go (fun _ kk_ => XS.iand X11.here hx rfl (hb hby at_120) rfl kk_) ?_
  show Rch p e below (T11.setTop (mkF m 121 #[.val (.int p0), .val (.int p1), .val (.int p2), .val (.int p3), .val (.int p4), .val (.int p5), .val (.ref b1), .val (.ref b6), .val (.ref b11), .val (.int (Int32.ofNat f1)), .val (.int (Int32.ofNat (f1 + d1))), .val (.int (Int32.ofNat f2)), .unset, .unset, .unset, .unset, .unset, .unset, .unset, .unset, .unset, .unset, .unset] [(.int (((p3.toUInt32 >>> ((8 : Int32) &&& 31).toUInt32).toInt32) &&& (255 : Int32))), (.int (Int32.ofNat f2))])) _
  refine Rch.go (fun _ kk_ => XS.iconst X11.here hx rfl (hb hby at_121) kk_) ?_
  show Rch p e below (T11.setTop (mkF m 122 #[.val (.int p0), .val (.int p1), .val (.int p2), .val (.int p3), .val (.int p4), .val (.int p5), .val (.ref b1), .val (.ref b6), .val (.ref b11), .val (.int (Int32.ofNat f1)), .val (.int (Int32.ofNat (f1 + d1))), .val (.int (Int32.ofNat f2)), .unset, .unset, .unset, .unset, .unset, .unset, .unset, .unset, .unset, .unset, .unset] [(.int (5 : Int32)), (.int (((p3.toUInt32 >>> ((8 : Int32) &&& 31).toUInt32).toInt32) &&& (255 : Int32))), (.int (Int32.ofNat f2))])) _
  refine Rch.go (fun _ kk_ => XS.iload X11.here hx rfl (hb hby at_122) rfl  kk_) ?_
  show Rch p e below (T11.setTop (mkF m 124 #[.val (.int p0), .val (.int p1), .val (.int p2), .val (.int p3), .val (.int p4), .val (.int p5), .val (.ref b1), .val (.ref b6), .val (.ref b11), .val (.int (Int32.ofNat f1)), .val (.int (Int32.ofNat (f1 + d1))), .val (.int (Int32.ofNat f2)), .unset, .unset, .unset, .unset, .unset, .unset, .unset, .unset, .unset, .unset, .unset] [(.int (Int32.ofNat f2)), (.int (5 : Int32)), (.int (((p3.toUInt32 >>> ((8 : Int32) &&& 31).toUInt32).toInt32) &&& (255 : Int32))), (.int (Int32.ofNat f2))])) _
  refine Rch.go (fun _ kk_ => XS.isub X11.here hx rfl (hb hby at_124) rfl kk_) ?_
  show Rch p e below (T11.setTop (mkF m 125 #[.val (.int p0), .val (.int p1), .val (.int p2), .val (.int p3), .val (.int p4), .val (.int p5), .val (.ref b1), .val (.ref b6), .val (.ref b11), .val (.int (Int32.ofNat f1)), .val (.int (Int32.ofNat (f1 + d1))), .val (.int (Int32.ofNat f2)), .unset, .unset, .unset, .unset, .unset, .unset, .unset, .unset, .unset, .unset, .unset] [(.int ((5 : Int32) - (Int32.ofNat f2))), (.int (((p3.toUInt32 >>> ((8 : Int32) &&& 31).toUInt32).toInt32) &&& (255 : Int32))), (.int (Int32.ofNat f2))])) _
  rw [show ((5 : Int32) - (Int32.ofNat f2)) = Int32.ofNat (5 - f2) from ofNat_sub (i := 5) (by omega)]
  show Rch p e below (T11.setTop (mkF m 125 #[.val (.int p0), .val (.int p1), .val (.int p2), .val (.int p3), .val (.int p4), .val (.int p5), .val (.ref b1), .val (.ref b6), .val (.ref b11), .val (.int (Int32.ofNat f1)), .val (.int (Int32.ofNat (f1 + d1))), .val (.int (Int32.ofNat f2)), .unset, .unset, .unset, .unset, .unset, .unset, .unset, .unset, .unset, .unset, .unset] [(.int (Int32.ofNat (5 - f2))), (.int (((p3.toUInt32 >>> ((8 : Int32) &&& 31).toUInt32).toInt32) &&& (255 : Int32))), (.int (Int32.ofNat f2))])) _
  refine Rch.go (fun _ kk_ => iremM X11 hx rfl (hb hby at_125) rfl (own_nz (by omega) (by omega)) kk_) ?_
  show Rch p e below (T11.setTop (mkF m 126 #[.val (.int p0), .val (.int p1), .val (.int p2), .val (.int p3), .val (.int p4), .val (.int p5), .val (.ref b1), .val (.ref b6), .val (.ref b11), .val (.int (Int32.ofNat f1)), .val (.int (Int32.ofNat (f1 + d1))), .val (.int (Int32.ofNat f2)), .unset, .unset, .unset, .unset, .unset, .unset, .unset, .unset, .unset, .unset, .unset] [(.int ((((p3.toUInt32 >>> ((8 : Int32) &&& 31).toUInt32).toInt32) &&& (255 : Int32)) % (Int32.ofNat (5 - f2)))), (.int (Int32.ofNat f2))])) _
  obtain ⟨d2, hd2, ed2⟩ := own_remd ((p3.toUInt32 >>> ((8 : Int32) &&& 31).toUInt32).toInt32) (d := 5 - f2) (by omega) (by omega)
  rw [ed2]
  show Rch p e below (T11.setTop (mkF m 126 #[.val (.int p0), .val (.int p1), .val (.int p2), .val (.int p3), .val (.int p4), .val (.int p5), .val (.ref b1), .val (.ref b6), .val (.ref b11), .val (.int (Int32.ofNat f1)), .val (.int (Int32.ofNat (f1 + d1))), .val (.int (Int32.ofNat f2)), .unset, .unset, .unset, .unset, .unset, .unset, .unset, .unset, .unset, .unset, .unset] [(.int (Int32.ofNat d2)), (.int (Int32.ofNat f2))])) _
  refine Rch.go (fun _ kk_ => XS.iadd X11.here hx rfl (hb hby at_126) rfl kk_) ?_
  show Rch p e below (T11.setTop (mkF m 127 #[.val (.int p0), .val (.int p1), .val (.int p2), .val (.int p3), .val (.int p4), .val (.int p5), .val (.ref b1), .val (.ref b6), .val (.ref b11), .val (.int (Int32.ofNat f1)), .val (.int (Int32.ofNat (f1 + d1))), .val (.int (Int32.ofNat f2)), .unset, .unset, .unset, .unset, .unset, .unset, .unset, .unset, .unset, .unset, .unset] [(.int ((Int32.ofNat f2) + (Int32.ofNat d2)))])) _
  rw [ofNat_add']
  show Rch p e below (T11.setTop (mkF m 127 #[.val (.int p0), .val (.int p1), .val (.int p2), .val (.int p3), .val (.int p4), .val (.int p5), .val (.ref b1), .val (.ref b6), .val (.ref b11), .val (.int (Int32.ofNat f1)), .val (.int (Int32.ofNat (f1 + d1))), .val (.int (Int32.ofNat f2)), .unset, .unset, .unset, .unset, .unset, .unset, .unset, .unset, .unset, .unset, .unset] [(.int (Int32.ofNat (f2 + d2)))])) _
  refine Rch.go (fun _ kk_ => XS.istore X11.here hx rfl (hb hby at_127) rfl (l' := #[.val (.int p0), .val (.int p1), .val (.int p2), .val (.int p3), .val (.int p4), .val (.int p5), .val (.ref b1), .val (.ref b6), .val (.ref b11), .val (.int (Int32.ofNat f1)), .val (.int (Int32.ofNat (f1 + d1))), .val (.int (Int32.ofNat f2)), .val (.int (Int32.ofNat (f2 + d2))), .unset, .unset, .unset, .unset, .unset, .unset, .unset, .unset, .unset, .unset]) rfl kk_) ?_
  show Rch p e below (T11.setTop (mkF m 129 #[.val (.int p0), .val (.int p1), .val (.int p2), .val (.int p3), .val (.int p4), .val (.int p5), .val (.ref b1), .val (.ref b6), .val (.ref b11), .val (.int (Int32.ofNat f1)), .val (.int (Int32.ofNat (f1 + d1))), .val (.int (Int32.ofNat f2)), .val (.int (Int32.ofNat (f2 + d2))), .unset, .unset, .unset, .unset, .unset, .unset, .unset, .unset, .unset, .unset] [])) _
  refine Rch.go (fun _ kk_ => XS.iload X11.here hx rfl (hb hby at_129) rfl  kk_) ?_
  show Rch p e below (T11.setTop (mkF m 131 #[.val (.int p0), .val (.int p1), .val (.int p2), .val (.int p3), .val (.int p4), .val (.int p5), .val (.ref b1), .val (.ref b6), .val (.ref b11), .val (.int (Int32.ofNat f1)), .val (.int (Int32.ofNat (f1 + d1))), .val (.int (Int32.ofNat f2)), .val (.int (Int32.ofNat (f2 + d2))), .unset, .unset, .unset, .unset, .unset, .unset, .unset, .unset, .unset, .unset] [(.int p4)])) _
  refine Rch.go (fun _ kk_ => X11.ldcInt hx hown (mvT hZ (hw _ (List.mem_of_getElem? (i := 1) rfl))) (g := (mkF m 131 #[.val (.int p0), .val (.int p1), .val (.int p2), .val (.int p3), .val (.int p4), .val (.int p5), .val (.ref b1), .val (.ref b6), .val (.ref b11), .val (.int (Int32.ofNat f1)), .val (.int (Int32.ofNat (f1 + d1))), .val (.int (Int32.ofNat f2)), .val (.int (Int32.ofNat (f2 + d2))), .unset, .unset, .unset, .unset, .unset, .unset, .unset, .unset, .unset, .unset] [(.int p4)])) rfl (hb hby at_131) _ kk_) ?_
  show Rch p e below (T11.setTop (mkF m 133 #[.val (.int p0), .val (.int p1), .val (.int p2), .val (.int p3), .val (.int p4), .val (.int p5), .val (.ref b1), .val (.ref b6), .val (.ref b11), .val (.int (Int32.ofNat f1)), .val (.int (Int32.ofNat (f1 + d1))), .val (.int (Int32.ofNat f2)), .val (.int (Int32.ofNat (f2 + d2))), .unset, .unset, .unset, .unset, .unset, .unset, .unset, .unset, .unset, .unset] [(.int (2147483647 : Int32)), (.int p4)])) _
  refine Rch.go (fun _ kk_ => XS.iand X11.here hx rfl (hb hby at_133) rfl kk_) ?_
  show Rch p e below (T11.setTop (mkF m 134 #[.val (.int p0), .val (.int p1), .val (.int p2), .val (.int p3), .val (.int p4), .val (.int p5), .val (.ref b1), .val (.ref b6), .val (.ref b11), .val (.int (Int32.ofNat f1)), .val (.int (Int32.ofNat (f1 + d1))), .val (.int (Int32.ofNat f2)), .val (.int (Int32.ofNat (f2 + d2))), .unset, .unset, .unset, .unset, .unset, .unset, .unset, .unset, .unset, .unset] [(.int (p4 &&& (2147483647 : Int32)))])) _
  refine Rch.go (fun _ kk_ => XS.sipush X11.here hx rfl (hb hby at_134) kk_) ?_
  show Rch p e below (T11.setTop (mkF m 137 #[.val (.int p0), .val (.int p1), .val (.int p2), .val (.int p3), .val (.int p4), .val (.int p5), .val (.ref b1), .val (.ref b6), .val (.ref b11), .val (.int (Int32.ofNat f1)), .val (.int (Int32.ofNat (f1 + d1))), .val (.int (Int32.ofNat f2)), .val (.int (Int32.ofNat (f2 + d2))), .unset, .unset, .unset, .unset, .unset, .unset, .unset, .unset, .unset, .unset] [(.int (301 : Int32)), (.int (p4 &&& (2147483647 : Int32)))])) _
  refine Rch.go (fun _ kk_ => iremM X11 hx rfl (hb hby at_137) rfl (by decide) kk_) ?_
  show Rch p e below (T11.setTop (mkF m 138 #[.val (.int p0), .val (.int p1), .val (.int p2), .val (.int p3), .val (.int p4), .val (.int p5), .val (.ref b1), .val (.ref b6), .val (.ref b11), .val (.int (Int32.ofNat f1)), .val (.int (Int32.ofNat (f1 + d1))), .val (.int (Int32.ofNat f2)), .val (.int (Int32.ofNat (f2 + d2))), .unset, .unset, .unset, .unset, .unset, .unset, .unset, .unset, .unset, .unset] [(.int ((p4 &&& (2147483647 : Int32)) % (301 : Int32)))])) _
  obtain ⟨zc, hzc, ezc⟩ := own_z301 p4
  rw [ezc]
  show Rch p e below (T11.setTop (mkF m 138 #[.val (.int p0), .val (.int p1), .val (.int p2), .val (.int p3), .val (.int p4), .val (.int p5), .val (.ref b1), .val (.ref b6), .val (.ref b11), .val (.int (Int32.ofNat f1)), .val (.int (Int32.ofNat (f1 + d1))), .val (.int (Int32.ofNat f2)), .val (.int (Int32.ofNat (f2 + d2))), .unset, .unset, .unset, .unset, .unset, .unset, .unset, .unset, .unset, .unset] [(.int (Int32.ofNat zc))])) _
  refine Rch.go (fun _ kk_ => XS.istore X11.here hx rfl (hb hby at_138) rfl (l' := #[.val (.int p0), .val (.int p1), .val (.int p2), .val (.int p3), .val (.int p4), .val (.int p5), .val (.ref b1), .val (.ref b6), .val (.ref b11), .val (.int (Int32.ofNat f1)), .val (.int (Int32.ofNat (f1 + d1))), .val (.int (Int32.ofNat f2)), .val (.int (Int32.ofNat (f2 + d2))), .val (.int (Int32.ofNat zc)), .unset, .unset, .unset, .unset, .unset, .unset, .unset, .unset, .unset]) rfl kk_) ?_
  show Rch p e below (T11.setTop (mkF m 140 #[.val (.int p0), .val (.int p1), .val (.int p2), .val (.int p3), .val (.int p4), .val (.int p5), .val (.ref b1), .val (.ref b6), .val (.ref b11), .val (.int (Int32.ofNat f1)), .val (.int (Int32.ofNat (f1 + d1))), .val (.int (Int32.ofNat f2)), .val (.int (Int32.ofNat (f2 + d2))), .val (.int (Int32.ofNat zc)), .unset, .unset, .unset, .unset, .unset, .unset, .unset, .unset, .unset] [])) _
  have hj13 : ∀ P', Rch p e below (T11.setTop (mkF m 152 #[.val (.int p0), .val (.int p1), .val (.int p2), .val (.int p3), .val (.int p4), .val (.int p5), .val (.ref b1), .val (.ref b6), .val (.ref b11), .val (.int (Int32.ofNat f1)), .val (.int (Int32.ofNat (f1 + d1))), .val (.int (Int32.ofNat f2)), .val (.int (Int32.ofNat (f2 + d2))), .val (.int (Int32.ofNat zc)), .unset, .unset, .unset, .unset, .unset, .unset, .unset, .unset, .unset] [(.int (own_clr_S0 p5))])) P' → Rch p e below (T11.setTop (mkF m 140 #[.val (.int p0), .val (.int p1), .val (.int p2), .val (.int p3), .val (.int p4), .val (.int p5), .val (.ref b1), .val (.ref b6), .val (.ref b11), .val (.int (Int32.ofNat f1)), .val (.int (Int32.ofNat (f1 + d1))), .val (.int (Int32.ofNat f2)), .val (.int (Int32.ofNat (f2 + d2))), .val (.int (Int32.ofNat zc)), .unset, .unset, .unset, .unset, .unset, .unset, .unset, .unset, .unset] [])) P' := by
    intro P' kt
    refine Rch.go (fun _ kk_ => XS.iload X11.here hx rfl (hb hby at_140) rfl  kk_) ?_
    show Rch p e below (T11.setTop (mkF m 142 #[.val (.int p0), .val (.int p1), .val (.int p2), .val (.int p3), .val (.int p4), .val (.int p5), .val (.ref b1), .val (.ref b6), .val (.ref b11), .val (.int (Int32.ofNat f1)), .val (.int (Int32.ofNat (f1 + d1))), .val (.int (Int32.ofNat f2)), .val (.int (Int32.ofNat (f2 + d2))), .val (.int (Int32.ofNat zc)), .unset, .unset, .unset, .unset, .unset, .unset, .unset, .unset, .unset] [(.int p5)])) _
    refine Rch.go (fun _ kk_ => XS.iconst X11.here hx rfl (hb hby at_142) kk_) ?_
    show Rch p e below (T11.setTop (mkF m 143 #[.val (.int p0), .val (.int p1), .val (.int p2), .val (.int p3), .val (.int p4), .val (.int p5), .val (.ref b1), .val (.ref b6), .val (.ref b11), .val (.int (Int32.ofNat f1)), .val (.int (Int32.ofNat (f1 + d1))), .val (.int (Int32.ofNat f2)), .val (.int (Int32.ofNat (f2 + d2))), .val (.int (Int32.ofNat zc)), .unset, .unset, .unset, .unset, .unset, .unset, .unset, .unset, .unset] [(.int (1 : Int32)), (.int p5)])) _
    refine Rch.go (fun _ kk_ => XS.iand X11.here hx rfl (hb hby at_143) rfl kk_) ?_
    show Rch p e below (T11.setTop (mkF m 144 #[.val (.int p0), .val (.int p1), .val (.int p2), .val (.int p3), .val (.int p4), .val (.int p5), .val (.ref b1), .val (.ref b6), .val (.ref b11), .val (.int (Int32.ofNat f1)), .val (.int (Int32.ofNat (f1 + d1))), .val (.int (Int32.ofNat f2)), .val (.int (Int32.ofNat (f2 + d2))), .val (.int (Int32.ofNat zc)), .unset, .unset, .unset, .unset, .unset, .unset, .unset, .unset, .unset] [(.int (p5 &&& (1 : Int32)))])) _
    by_cases hc144_12 : (p5 &&& (1 : Int32)) = (0 : Int32)
    · refine Rch.go (fun _ kk_ => XS.ifYes X11.here hx rfl (pc0 := 144) (pc' := 151) rfl (hb hby at_144) rfl ((if0 _ _).trans (teq hc144_12).1) (by decide) (by decide) kk_) ?_
      show Rch p e below (T11.setTop (mkF m 151 #[.val (.int p0), .val (.int p1), .val (.int p2), .val (.int p3), .val (.int p4), .val (.int p5), .val (.ref b1), .val (.ref b6), .val (.ref b11), .val (.int (Int32.ofNat f1)), .val (.int (Int32.ofNat (f1 + d1))), .val (.int (Int32.ofNat f2)), .val (.int (Int32.ofNat (f2 + d2))), .val (.int (Int32.ofNat zc)), .unset, .unset, .unset, .unset, .unset, .unset, .unset, .unset, .unset] [])) _
      refine Rch.go (fun _ kk_ => XS.iconst X11.here hx rfl (hb hby at_151) kk_) ?_
      show Rch p e below (T11.setTop (mkF m 152 #[.val (.int p0), .val (.int p1), .val (.int p2), .val (.int p3), .val (.int p4), .val (.int p5), .val (.ref b1), .val (.ref b6), .val (.ref b11), .val (.int (Int32.ofNat f1)), .val (.int (Int32.ofNat (f1 + d1))), .val (.int (Int32.ofNat f2)), .val (.int (Int32.ofNat (f2 + d2))), .val (.int (Int32.ofNat zc)), .unset, .unset, .unset, .unset, .unset, .unset, .unset, .unset, .unset] [(.int (0 : Int32))])) _
      rw [show own_clr_S0 p5 = (0 : Int32) from by simp only [own_clr_S0, if_pos hc144_12]] at kt
      exact kt
    · refine Rch.go (fun _ kk_ => XS.ifNo X11.here hx rfl (hb hby at_144) rfl ((if0 _ _).trans (feq hc144_12).1) kk_) ?_
      show Rch p e below (T11.setTop (mkF m 147 #[.val (.int p0), .val (.int p1), .val (.int p2), .val (.int p3), .val (.int p4), .val (.int p5), .val (.ref b1), .val (.ref b6), .val (.ref b11), .val (.int (Int32.ofNat f1)), .val (.int (Int32.ofNat (f1 + d1))), .val (.int (Int32.ofNat f2)), .val (.int (Int32.ofNat (f2 + d2))), .val (.int (Int32.ofNat zc)), .unset, .unset, .unset, .unset, .unset, .unset, .unset, .unset, .unset] [])) _
      refine Rch.go (fun _ kk_ => XS.iconst X11.here hx rfl (hb hby at_147) kk_) ?_
      show Rch p e below (T11.setTop (mkF m 148 #[.val (.int p0), .val (.int p1), .val (.int p2), .val (.int p3), .val (.int p4), .val (.int p5), .val (.ref b1), .val (.ref b6), .val (.ref b11), .val (.int (Int32.ofNat f1)), .val (.int (Int32.ofNat (f1 + d1))), .val (.int (Int32.ofNat f2)), .val (.int (Int32.ofNat (f2 + d2))), .val (.int (Int32.ofNat zc)), .unset, .unset, .unset, .unset, .unset, .unset, .unset, .unset, .unset] [(.int (1 : Int32))])) _
      refine Rch.go (fun _ kk_ => XS.goto X11.here hx rfl (pc0 := 148) (pc' := 152) rfl (hb hby at_148) (by decide) (by decide) kk_) ?_
      show Rch p e below (T11.setTop (mkF m 152 #[.val (.int p0), .val (.int p1), .val (.int p2), .val (.int p3), .val (.int p4), .val (.int p5), .val (.ref b1), .val (.ref b6), .val (.ref b11), .val (.int (Int32.ofNat f1)), .val (.int (Int32.ofNat (f1 + d1))), .val (.int (Int32.ofNat f2)), .val (.int (Int32.ofNat (f2 + d2))), .val (.int (Int32.ofNat zc)), .unset, .unset, .unset, .unset, .unset, .unset, .unset, .unset, .unset] [(.int (1 : Int32))])) _
      rw [show own_clr_S0 p5 = (1 : Int32) from by simp only [own_clr_S0, if_neg hc144_12]] at kt
      exact kt
  refine hj13 _ ?_
  show Rch p e below (T11.setTop (mkF m 152 #[.val (.int p0), .val (.int p1), .val (.int p2), .val (.int p3), .val (.int p4), .val (.int p5), .val (.ref b1), .val (.ref b6), .val (.ref b11), .val (.int (Int32.ofNat f1)), .val (.int (Int32.ofNat (f1 + d1))), .val (.int (Int32.ofNat f2)), .val (.int (Int32.ofNat (f2 + d2))), .val (.int (Int32.ofNat zc)), .unset, .unset, .unset, .unset, .unset, .unset, .unset, .unset, .unset] [(.int (own_clr_S0 p5))])) _
  generalize hcl : (own_clr_S0 p5) = cl
  show Rch p e below (T11.setTop (mkF m 152 #[.val (.int p0), .val (.int p1), .val (.int p2), .val (.int p3), .val (.int p4), .val (.int p5), .val (.ref b1), .val (.ref b6), .val (.ref b11), .val (.int (Int32.ofNat f1)), .val (.int (Int32.ofNat (f1 + d1))), .val (.int (Int32.ofNat f2)), .val (.int (Int32.ofNat (f2 + d2))), .val (.int (Int32.ofNat zc)), .unset, .unset, .unset, .unset, .unset, .unset, .unset, .unset, .unset] [(.int cl)])) _
  refine Rch.go (fun _ kk_ => XS.istore X11.here hx rfl (hb hby at_152) rfl (l' := #[.val (.int p0), .val (.int p1), .val (.int p2), .val (.int p3), .val (.int p4), .val (.int p5), .val (.ref b1), .val (.ref b6), .val (.ref b11), .val (.int (Int32.ofNat f1)), .val (.int (Int32.ofNat (f1 + d1))), .val (.int (Int32.ofNat f2)), .val (.int (Int32.ofNat (f2 + d2))), .val (.int (Int32.ofNat zc)), .val (.int cl), .unset, .unset, .unset, .unset, .unset, .unset, .unset, .unset]) rfl kk_) ?_
  show Rch p e below (T11.setTop (mkF m 154 #[.val (.int p0), .val (.int p1), .val (.int p2), .val (.int p3), .val (.int p4), .val (.int p5), .val (.ref b1), .val (.ref b6), .val (.ref b11), .val (.int (Int32.ofNat f1)), .val (.int (Int32.ofNat (f1 + d1))), .val (.int (Int32.ofNat f2)), .val (.int (Int32.ofNat (f2 + d2))), .val (.int (Int32.ofNat zc)), .val (.int cl), .unset, .unset, .unset, .unset, .unset, .unset, .unset, .unset] [])) _
  obtain ⟨T14, h14, X14, e14, E14, A14, D14, -, st14⟩ := newO X11 hx hZ hown (hw _ (List.mem_of_getElem? (i := 2) rfl)) (hw _ (List.mem_of_getElem? (i := 3) rfl)) (hw _ (List.mem_of_getElem? (i := 4) rfl)) e11 (g := (mkF m 154 #[.val (.int p0), .val (.int p1), .val (.int p2), .val (.int p3), .val (.int p4), .val (.int p5), .val (.ref b1), .val (.ref b6), .val (.ref b11), .val (.int (Int32.ofNat f1)), .val (.int (Int32.ofNat (f1 + d1))), .val (.int (Int32.ofNat f2)), .val (.int (Int32.ofNat (f2 + d2))), .val (.int (Int32.ofNat zc)), .val (.int cl), .unset, .unset, .unset, .unset, .unset, .unset, .unset, .unset] [])) rfl (hb hby at_154) (by decide) (by decide)
  obtain ⟨b14, g14⟩ : ∃ z, z = h11.size := ⟨_, rfl⟩
  rw [← g14] at A14 D14 st14
  have ne_b1_b14 : NeA b1 b14 := Nat.ne_of_lt (Nat.lt_of_lt_of_le B_b1.lt (Nat.le_of_eq g14.symm))
  have ne_b6_b14 : NeA b6 b14 := Nat.ne_of_lt (Nat.lt_of_lt_of_le B_b6.lt (Nat.le_of_eq g14.symm))
  have ne_b11_b14 : NeA b11 b14 := Nat.ne_of_lt (Nat.lt_of_lt_of_le B_b11.lt (Nat.le_of_eq g14.symm))
  have g_b14 : n0 ≤ b14 := Nat.le_trans Z0 (Nat.le_of_eq g14.symm)
  have B_b1 := B_b1.ext E14
  have B_b6 := B_b6.ext E14
  have B_b11 := B_b11.ext E14
  have Z0 := Nat.le_trans Z0 E14.1
  have E_b14 := A14
  have F_bytes_b14 : Fld Z h14 b14 "com/example/vaxwire/vaxwire/hl7/BoundedBytes" "bytes" "[B" .null := D14 (Or.inl (hw _ (List.mem_of_getElem? (i := 12) rfl))) (ty := (.array .byte)) (by decide)
  have F_length_b14 : Fld Z h14 b14 "com/example/vaxwire/vaxwire/hl7/BoundedBytes" "length" "I" (.int (0 : Int32)) := D14 (Or.inl (hw _ (List.mem_of_getElem? (i := 20) rfl))) (ty := .int) (by decide)
  have F_overflowed_b14 : Fld Z h14 b14 "com/example/vaxwire/vaxwire/hl7/BoundedBytes" "overflowed" "Z" (.int (0 : Int32)) := D14 (Or.inl (hw _ (List.mem_of_getElem? (i := 36) rfl))) (ty := .boolean) (by decide)
  refine Rch.go st14 ?_
  show Rch p e below (T14.setTop (mkF m 157 #[.val (.int p0), .val (.int p1), .val (.int p2), .val (.int p3), .val (.int p4), .val (.int p5), .val (.ref b1), .val (.ref b6), .val (.ref b11), .val (.int (Int32.ofNat f1)), .val (.int (Int32.ofNat (f1 + d1))), .val (.int (Int32.ofNat f2)), .val (.int (Int32.ofNat (f2 + d2))), .val (.int (Int32.ofNat zc)), .val (.int cl), .unset, .unset, .unset, .unset, .unset, .unset, .unset, .unset] [(.ref b14)])) _
  refine Rch.go (fun _ kk_ => XS.dup X14.here hx rfl (hb hby at_157) rfl rfl kk_) ?_
  show Rch p e below (T14.setTop (mkF m 158 #[.val (.int p0), .val (.int p1), .val (.int p2), .val (.int p3), .val (.int p4), .val (.int p5), .val (.ref b1), .val (.ref b6), .val (.ref b11), .val (.int (Int32.ofNat f1)), .val (.int (Int32.ofNat (f1 + d1))), .val (.int (Int32.ofNat f2)), .val (.int (Int32.ofNat (f2 + d2))), .val (.int (Int32.ofNat zc)), .val (.int cl), .unset, .unset, .unset, .unset, .unset, .unset, .unset, .unset] [(.ref b14), (.ref b14)])) _
  refine Rch.callC X14 hx hZ rfl hown (hw _ (List.mem_of_getElem? (i := 5) rfl)) (hw _ (List.mem_of_getElem? (i := 6) rfl)) (hw _ (List.mem_of_getElem? (i := 4) rfl)) (hw _ (List.mem_of_getElem? (i := 7) rfl)) (by decide) (rm1 l Z a0 hw [] b14 (.int (0 : Int32)) h14 n0 Z0 E_b14 g_b14 F_bytes_b14 F_length_b14 F_overflowed_b14) 1 (by decide) (by decide) (by decide) (by decide) e14 (g := (mkF m 158 #[.val (.int p0), .val (.int p1), .val (.int p2), .val (.int p3), .val (.int p4), .val (.int p5), .val (.ref b1), .val (.ref b6), .val (.ref b11), .val (.int (Int32.ofNat f1)), .val (.int (Int32.ofNat (f1 + d1))), .val (.int (Int32.ofNat f2)), .val (.int (Int32.ofNat (f2 + d2))), .val (.int (Int32.ofNat zc)), .val (.int cl), .unset, .unset, .unset, .unset, .unset, .unset, .unset, .unset] [(.ref b14), (.ref b14)])) rfl (by rw [hml]; rfl) b14 [] [(.ref b14)] rfl (lenOf pd0_0 rfl) rfl (by show 2 * 0 + _ ≤ _; exact Nat.le_of_eq rfl) (hb hby at_158) ?_
  intro v15 T15 L15 X15 hQ15
  obtain ⟨bf0, rfl, N15q, K15, g_bf0, sz_bf0, _, Fb_b14, Fl_b14, Fo_b14, B_bf0⟩ := hQ15
  have ne_b14_bf0 : NeA b14 bf0 := Nat.ne_of_lt (Nat.lt_of_lt_of_le E_b14.lt sz_bf0)
  have ne_b1_bf0 : NeA b1 bf0 := Nat.ne_of_lt (Nat.lt_of_lt_of_le B_b1.lt sz_bf0)
  have ne_b6_bf0 : NeA b6 bf0 := Nat.ne_of_lt (Nat.lt_of_lt_of_le B_b6.lt sz_bf0)
  have ne_b11_bf0 : NeA b11 bf0 := Nat.ne_of_lt (Nat.lt_of_lt_of_le B_b11.lt sz_bf0)
  have E_b14 := E_b14.keep K15
  have B_b1 := B_b1.keep K15 (ninS ne_b1_b14 nin0)
  have B_b6 := B_b6.keep K15 (ninS ne_b6_b14 nin0)
  have B_b11 := B_b11.keep K15 (ninS ne_b11_b14 nin0)
  have Z0 := Nat.le_trans Z0 K15.1
  have N15 := Fr.app N10 N15q
  show Rch p e below (T15.setTop (mkF m 161 #[.val (.int p0), .val (.int p1), .val (.int p2), .val (.int p3), .val (.int p4), .val (.int p5), .val (.ref b1), .val (.ref b6), .val (.ref b11), .val (.int (Int32.ofNat f1)), .val (.int (Int32.ofNat (f1 + d1))), .val (.int (Int32.ofNat f2)), .val (.int (Int32.ofNat (f2 + d2))), .val (.int (Int32.ofNat zc)), .val (.int cl), .unset, .unset, .unset, .unset, .unset, .unset, .unset, .unset] [(.ref b14)])) _
  refine Rch.go (fun _ kk_ => XS.astore X15.here hx rfl (hb hby at_161) rfl rfl (l' := #[.val (.int p0), .val (.int p1), .val (.int p2), .val (.int p3), .val (.int p4), .val (.int p5), .val (.ref b1), .val (.ref b6), .val (.ref b11), .val (.int (Int32.ofNat f1)), .val (.int (Int32.ofNat (f1 + d1))), .val (.int (Int32.ofNat f2)), .val (.int (Int32.ofNat (f2 + d2))), .val (.int (Int32.ofNat zc)), .val (.int cl), .val (.ref b14), .unset, .unset, .unset, .unset, .unset, .unset, .unset]) rfl kk_) ?_
  show Rch p e below (T15.setTop (mkF m 163 #[.val (.int p0), .val (.int p1), .val (.int p2), .val (.int p3), .val (.int p4), .val (.int p5), .val (.ref b1), .val (.ref b6), .val (.ref b11), .val (.int (Int32.ofNat f1)), .val (.int (Int32.ofNat (f1 + d1))), .val (.int (Int32.ofNat f2)), .val (.int (Int32.ofNat (f2 + d2))), .val (.int (Int32.ofNat zc)), .val (.int cl), .val (.ref b14), .unset, .unset, .unset, .unset, .unset, .unset, .unset] [])) _
  refine Rch.go (fun _ kk_ => XS.aload X15.here hx rfl (hb hby at_163) rfl rfl kk_) ?_
  show Rch p e below (T15.setTop (mkF m 165 #[.val (.int p0), .val (.int p1), .val (.int p2), .val (.int p3), .val (.int p4), .val (.int p5), .val (.ref b1), .val (.ref b6), .val (.ref b11), .val (.int (Int32.ofNat f1)), .val (.int (Int32.ofNat (f1 + d1))), .val (.int (Int32.ofNat f2)), .val (.int (Int32.ofNat (f2 + d2))), .val (.int (Int32.ofNat zc)), .val (.int cl), .val (.ref b14), .unset, .unset, .unset, .unset, .unset, .unset, .unset] [(.ref b14)])) _
  refine Rch.go (fun _ kk_ => XS.aload X15.here hx rfl (hb hby at_165) rfl rfl kk_) ?_
  show Rch p e below (T15.setTop (mkF m 167 #[.val (.int p0), .val (.int p1), .val (.int p2), .val (.int p3), .val (.int p4), .val (.int p5), .val (.ref b1), .val (.ref b6), .val (.ref b11), .val (.int (Int32.ofNat f1)), .val (.int (Int32.ofNat (f1 + d1))), .val (.int (Int32.ofNat f2)), .val (.int (Int32.ofNat (f2 + d2))), .val (.int (Int32.ofNat zc)), .val (.int cl), .val (.ref b14), .unset, .unset, .unset, .unset, .unset, .unset, .unset] [(.ref b1), (.ref b14)])) _
  refine Rch.go (fun _ kk_ => XS.iload X15.here hx rfl (hb hby at_167) rfl  kk_) ?_
  show Rch p e below (T15.setTop (mkF m 169 #[.val (.int p0), .val (.int p1), .val (.int p2), .val (.int p3), .val (.int p4), .val (.int p5), .val (.ref b1), .val (.ref b6), .val (.ref b11), .val (.int (Int32.ofNat f1)), .val (.int (Int32.ofNat (f1 + d1))), .val (.int (Int32.ofNat f2)), .val (.int (Int32.ofNat (f2 + d2))), .val (.int (Int32.ofNat zc)), .val (.int cl), .val (.ref b14), .unset, .unset, .unset, .unset, .unset, .unset, .unset] [(.int (Int32.ofNat f1)), (.ref b1), (.ref b14)])) _
  refine Rch.go (fun _ kk_ => XS.iload X15.here hx rfl (hb hby at_169) rfl  kk_) ?_
  show Rch p e below (T15.setTop (mkF m 171 #[.val (.int p0), .val (.int p1), .val (.int p2), .val (.int p3), .val (.int p4), .val (.int p5), .val (.ref b1), .val (.ref b6), .val (.ref b11), .val (.int (Int32.ofNat f1)), .val (.int (Int32.ofNat (f1 + d1))), .val (.int (Int32.ofNat f2)), .val (.int (Int32.ofNat (f2 + d2))), .val (.int (Int32.ofNat zc)), .val (.int cl), .val (.ref b14), .unset, .unset, .unset, .unset, .unset, .unset, .unset] [(.int (Int32.ofNat (f1 + d1))), (.int (Int32.ofNat f1)), (.ref b1), (.ref b14)])) _
  refine Rch.callV X15 hx hZ hown (hw _ (List.mem_of_getElem? (i := 13) rfl)) (hw _ (List.mem_of_getElem? (i := 14) rfl)) (notFace_of_selects (args := #[]) (mvT hZ (hw _ (List.mem_of_getElem? (i := 16) rfl)))) (hw _ (List.mem_of_getElem? (i := 16) rfl)) (hw _ (List.mem_of_getElem? (i := 15) rfl)) (hw _ (List.mem_of_getElem? (i := 4) rfl)) (hw _ (List.mem_of_getElem? (i := 17) rfl)) (by decide) (rm3 l Z a0 hw [] b14 b1 f1 (f1 + d1) 0 256 4 bf0 (fun _ => 0) g1 (.int (0 : Int32)) T15.heap n0 Z0 (by omega) (by omega) (by omega) (by omega) (by omega) E_b14 g_b14 Fb_b14 Fl_b14 Fo_b14 g_bf0 B_bf0 B_b1 (Ne.symm ne_b14_bf0) ne_b1_b14 ne_b1_bf0) 0 (by decide) (by decide) (by decide) (by decide) rfl E_b14 (g := (mkF m 171 #[.val (.int p0), .val (.int p1), .val (.int p2), .val (.int p3), .val (.int p4), .val (.int p5), .val (.ref b1), .val (.ref b6), .val (.ref b11), .val (.int (Int32.ofNat f1)), .val (.int (Int32.ofNat (f1 + d1))), .val (.int (Int32.ofNat f2)), .val (.int (Int32.ofNat (f2 + d2))), .val (.int (Int32.ofNat zc)), .val (.int cl), .val (.ref b14), .unset, .unset, .unset, .unset, .unset, .unset, .unset] [(.int (Int32.ofNat (f1 + d1))), (.int (Int32.ofNat f1)), (.ref b1), (.ref b14)])) rfl (by rw [hml]; rfl) [(.ref b1), (.int (Int32.ofNat f1)), (.int (Int32.ofNat (f1 + d1)))] [] rfl (lenOf pd0_1 rfl) rfl (by show 2 * 0 + _ ≤ _; exact Nat.le_of_eq rfl) (hb hby at_171) ?_
  intro v16 T16 L16 X16 hQ16
  obtain ⟨bf1, cp1, fn1, rfl, N16q, K16, g_bf1, or1, _, Fb_b14, Fl_b14, Fo_b14, Bn1, hle1, hcp1, hA1, hB1⟩ := hQ16
  have ne_b14_bf1 : NeA b14 bf1 := or1.elim (fun q => q ▸ ne_b14_bf0) (fun q => Nat.ne_of_lt (Nat.lt_of_lt_of_le E_b14.lt q))
  have ne_b1_bf1 : NeA b1 bf1 := or1.elim (fun q => q ▸ ne_b1_bf0) (fun q => Nat.ne_of_lt (Nat.lt_of_lt_of_le B_b1.lt q))
  have ne_b6_bf1 : NeA b6 bf1 := or1.elim (fun q => q ▸ ne_b6_bf0) (fun q => Nat.ne_of_lt (Nat.lt_of_lt_of_le B_b6.lt q))
  have ne_b11_bf1 : NeA b11 bf1 := or1.elim (fun q => q ▸ ne_b11_bf0) (fun q => Nat.ne_of_lt (Nat.lt_of_lt_of_le B_b11.lt q))
  clear or1
  have E_b14 := E_b14.keep K16
  have B_b1 := B_b1.keep K16 (ninS ne_b1_b14 (ninS ne_b1_bf0 nin0))
  have B_b6 := B_b6.keep K16 (ninS ne_b6_b14 (ninS ne_b6_bf0 nin0))
  have B_b11 := B_b11.keep K16 (ninS ne_b11_b14 (ninS ne_b11_bf0 nin0))
  have Z0 := Nat.le_trans Z0 K16.1
  have B_bf1 := Bn1
  have N16 := Fr.app N15 N16q
  show Rch p e below (T16.setTop (mkF m 174 #[.val (.int p0), .val (.int p1), .val (.int p2), .val (.int p3), .val (.int p4), .val (.int p5), .val (.ref b1), .val (.ref b6), .val (.ref b11), .val (.int (Int32.ofNat f1)), .val (.int (Int32.ofNat (f1 + d1))), .val (.int (Int32.ofNat f2)), .val (.int (Int32.ofNat (f2 + d2))), .val (.int (Int32.ofNat zc)), .val (.int cl), .val (.ref b14), .unset, .unset, .unset, .unset, .unset, .unset, .unset] [])) _
  refine Rch.go (fun _ kk_ => XS.aload X16.here hx rfl (hb hby at_174) rfl rfl kk_) ?_
  show Rch p e below (T16.setTop (mkF m 176 #[.val (.int p0), .val (.int p1), .val (.int p2), .val (.int p3), .val (.int p4), .val (.int p5), .val (.ref b1), .val (.ref b6), .val (.ref b11), .val (.int (Int32.ofNat f1)), .val (.int (Int32.ofNat (f1 + d1))), .val (.int (Int32.ofNat f2)), .val (.int (Int32.ofNat (f2 + d2))), .val (.int (Int32.ofNat zc)), .val (.int cl), .val (.ref b14), .unset, .unset, .unset, .unset, .unset, .unset, .unset] [(.ref b14)])) _
  refine Rch.go (fun _ kk_ => XS.aload X16.here hx rfl (hb hby at_176) rfl rfl kk_) ?_
  show Rch p e below (T16.setTop (mkF m 178 #[.val (.int p0), .val (.int p1), .val (.int p2), .val (.int p3), .val (.int p4), .val (.int p5), .val (.ref b1), .val (.ref b6), .val (.ref b11), .val (.int (Int32.ofNat f1)), .val (.int (Int32.ofNat (f1 + d1))), .val (.int (Int32.ofNat f2)), .val (.int (Int32.ofNat (f2 + d2))), .val (.int (Int32.ofNat zc)), .val (.int cl), .val (.ref b14), .unset, .unset, .unset, .unset, .unset, .unset, .unset] [(.ref b11), (.ref b14)])) _
  refine Rch.go (fun _ kk_ => XS.iconst X16.here hx rfl (hb hby at_178) kk_) ?_
  show Rch p e below (T16.setTop (mkF m 179 #[.val (.int p0), .val (.int p1), .val (.int p2), .val (.int p3), .val (.int p4), .val (.int p5), .val (.ref b1), .val (.ref b6), .val (.ref b11), .val (.int (Int32.ofNat f1)), .val (.int (Int32.ofNat (f1 + d1))), .val (.int (Int32.ofNat f2)), .val (.int (Int32.ofNat (f2 + d2))), .val (.int (Int32.ofNat zc)), .val (.int cl), .val (.ref b14), .unset, .unset, .unset, .unset, .unset, .unset, .unset] [(.int (0 : Int32)), (.ref b11), (.ref b14)])) _
  refine Rch.go (fun _ kk_ => XS.iload X16.here hx rfl (hb hby at_179) rfl  kk_) ?_
  show Rch p e below (T16.setTop (mkF m 181 #[.val (.int p0), .val (.int p1), .val (.int p2), .val (.int p3), .val (.int p4), .val (.int p5), .val (.ref b1), .val (.ref b6), .val (.ref b11), .val (.int (Int32.ofNat f1)), .val (.int (Int32.ofNat (f1 + d1))), .val (.int (Int32.ofNat f2)), .val (.int (Int32.ofNat (f2 + d2))), .val (.int (Int32.ofNat zc)), .val (.int cl), .val (.ref b14), .unset, .unset, .unset, .unset, .unset, .unset, .unset] [(.int (Int32.ofNat zc)), (.int (0 : Int32)), (.ref b11), (.ref b14)])) _
  refine Rch.callV X16 hx hZ hown (hw _ (List.mem_of_getElem? (i := 13) rfl)) (hw _ (List.mem_of_getElem? (i := 14) rfl)) (notFace_of_selects (args := #[]) (mvT hZ (hw _ (List.mem_of_getElem? (i := 16) rfl)))) (hw _ (List.mem_of_getElem? (i := 16) rfl)) (hw _ (List.mem_of_getElem? (i := 15) rfl)) (hw _ (List.mem_of_getElem? (i := 4) rfl)) (hw _ (List.mem_of_getElem? (i := 17) rfl)) (by decide) (rm3 l Z a0 hw [] b14 b11 0 zc (0 + ((f1 + d1) - f1)) cp1 300 bf1 fn1 (fun _ => 0) (.int (0 : Int32)) T16.heap n0 Z0 (by omega) (by omega) (by omega) (by omega) (by omega) E_b14 g_b14 Fb_b14 Fl_b14 Fo_b14 g_bf1 B_bf1 B_b11 (Ne.symm ne_b14_bf1) ne_b11_b14 ne_b11_bf1) 0 (by decide) (by decide) (by decide) (by decide) rfl E_b14 (g := (mkF m 181 #[.val (.int p0), .val (.int p1), .val (.int p2), .val (.int p3), .val (.int p4), .val (.int p5), .val (.ref b1), .val (.ref b6), .val (.ref b11), .val (.int (Int32.ofNat f1)), .val (.int (Int32.ofNat (f1 + d1))), .val (.int (Int32.ofNat f2)), .val (.int (Int32.ofNat (f2 + d2))), .val (.int (Int32.ofNat zc)), .val (.int cl), .val (.ref b14), .unset, .unset, .unset, .unset, .unset, .unset, .unset] [(.int (Int32.ofNat zc)), (.int (0 : Int32)), (.ref b11), (.ref b14)])) rfl (by rw [hml]; rfl) [(.ref b11), (.int (0 : Int32)), (.int (Int32.ofNat zc))] [] rfl (lenOf pd0_1 rfl) rfl (by show 2 * 0 + _ ≤ _; exact Nat.le_of_eq rfl) (hb hby at_181) ?_
  intro v17 T17 L17 X17 hQ17
  obtain ⟨bf2, cp2, fn2, rfl, N17q, K17, g_bf2, or2, _, Fb_b14, Fl_b14, Fo_b14, Bn2, hle2, hcp2, hA2, hB2⟩ := hQ17
  have ne_b14_bf2 : NeA b14 bf2 := or2.elim (fun q => q ▸ ne_b14_bf1) (fun q => Nat.ne_of_lt (Nat.lt_of_lt_of_le E_b14.lt q))
  have ne_b1_bf2 : NeA b1 bf2 := or2.elim (fun q => q ▸ ne_b1_bf1) (fun q => Nat.ne_of_lt (Nat.lt_of_lt_of_le B_b1.lt q))
  have ne_b6_bf2 : NeA b6 bf2 := or2.elim (fun q => q ▸ ne_b6_bf1) (fun q => Nat.ne_of_lt (Nat.lt_of_lt_of_le B_b6.lt q))
  have ne_b11_bf2 : NeA b11 bf2 := or2.elim (fun q => q ▸ ne_b11_bf1) (fun q => Nat.ne_of_lt (Nat.lt_of_lt_of_le B_b11.lt q))
  clear or2
  have E_b14 := E_b14.keep K17
  have B_b1 := B_b1.keep K17 (ninS ne_b1_b14 (ninS ne_b1_bf1 nin0))
  have B_b6 := B_b6.keep K17 (ninS ne_b6_b14 (ninS ne_b6_bf1 nin0))
  have B_b11 := B_b11.keep K17 (ninS ne_b11_b14 (ninS ne_b11_bf1 nin0))
  have Z0 := Nat.le_trans Z0 K17.1
  have B_bf2 := Bn2
  have N17 := Fr.app N16 N17q
  show Rch p e below (T17.setTop (mkF m 184 #[.val (.int p0), .val (.int p1), .val (.int p2), .val (.int p3), .val (.int p4), .val (.int p5), .val (.ref b1), .val (.ref b6), .val (.ref b11), .val (.int (Int32.ofNat f1)), .val (.int (Int32.ofNat (f1 + d1))), .val (.int (Int32.ofNat f2)), .val (.int (Int32.ofNat (f2 + d2))), .val (.int (Int32.ofNat zc)), .val (.int cl), .val (.ref b14), .unset, .unset, .unset, .unset, .unset, .unset, .unset] [])) _
  refine Rch.bind (P := fun B => ∃ (T' : State) (L' : List Loc) (h' : Heap), B = T'.setTop (mkF m 194 #[.val (.int p0), .val (.int p1), .val (.int p2), .val (.int p3), .val (.int p4), .val (.int p5), .val (.ref b1), .val (.ref b6), .val (.ref b11), .val (.int (Int32.ofNat f1)), .val (.int (Int32.ofNat (f1 + d1))), .val (.int (Int32.ofNat f2)), .val (.int (Int32.ofNat (f2 + d2))), .val (.int (Int32.ofNat zc)), .val (.int cl), .val (.ref b14), .unset, .unset, .unset, .unset, .unset, .unset, .unset] []) ∧ Stand p l e room_1 s m #[(.int p0), (.int p1), (.int p2), (.int p3), (.int p4), (.int p5)] below meth c T' L' 7 1799 ∧ T'.heap = h' ∧ Fr n0 L' ∧ n0 ≤ h'.size ∧ Exa Z h' b14 "com/example/vaxwire/vaxwire/hl7/BoundedBytes" ∧ Fld Z h' b14 "com/example/vaxwire/vaxwire/hl7/BoundedBytes" "bytes" "[B" (.ref bf2) ∧ Fld Z h' b14 "com/example/vaxwire/vaxwire/hl7/BoundedBytes" "length" "I" (.int (Int32.ofNat (if cl = (0 : Int32) then (0 + (f1 + d1 - f1) + (zc - 0)) else 0))) ∧ (∃ u : Value, Fld Z h' b14 "com/example/vaxwire/vaxwire/hl7/BoundedBytes" "overflowed" "Z" u) ∧ BB Z h' bf2 cp2 fn2 ∧ BB Z h' b1 4 g1 ∧ BB Z h' b6 4 g2) ?_ ?_
  · refine Rch.go (fun _ kk_ => XS.iload X17.here hx rfl (hb hby at_184) rfl  kk_) ?_
    show Rch p e below (T17.setTop (mkF m 186 #[.val (.int p0), .val (.int p1), .val (.int p2), .val (.int p3), .val (.int p4), .val (.int p5), .val (.ref b1), .val (.ref b6), .val (.ref b11), .val (.int (Int32.ofNat f1)), .val (.int (Int32.ofNat (f1 + d1))), .val (.int (Int32.ofNat f2)), .val (.int (Int32.ofNat (f2 + d2))), .val (.int (Int32.ofNat zc)), .val (.int cl), .val (.ref b14), .unset, .unset, .unset, .unset, .unset, .unset, .unset] [(.int cl)])) _
    by_cases hc186_19 : cl = (0 : Int32)
    · refine Rch.go (fun _ kk_ => XS.ifYes X17.here hx rfl (pc0 := 186) (pc' := 194) rfl (hb hby at_186) rfl ((if0 _ _).trans (teq hc186_19).1) (by decide) (by decide) kk_) ?_
      show Rch p e below (T17.setTop (mkF m 194 #[.val (.int p0), .val (.int p1), .val (.int p2), .val (.int p3), .val (.int p4), .val (.int p5), .val (.ref b1), .val (.ref b6), .val (.ref b11), .val (.int (Int32.ofNat f1)), .val (.int (Int32.ofNat (f1 + d1))), .val (.int (Int32.ofNat f2)), .val (.int (Int32.ofNat (f2 + d2))), .val (.int (Int32.ofNat zc)), .val (.int cl), .val (.ref b14), .unset, .unset, .unset, .unset, .unset, .unset, .unset] [])) _
      exact Rch.here ⟨_, _, _, rfl, X17, rfl, N17, Z0, E_b14, Fb_b14, by rw [if_pos hc186_19]; exact Fl_b14, ⟨_, Fo_b14⟩, B_bf2, B_b1, B_b6⟩
    · refine Rch.go (fun _ kk_ => XS.ifNo X17.here hx rfl (hb hby at_186) rfl ((if0 _ _).trans (feq hc186_19).1) kk_) ?_
      show Rch p e below (T17.setTop (mkF m 189 #[.val (.int p0), .val (.int p1), .val (.int p2), .val (.int p3), .val (.int p4), .val (.int p5), .val (.ref b1), .val (.ref b6), .val (.ref b11), .val (.int (Int32.ofNat f1)), .val (.int (Int32.ofNat (f1 + d1))), .val (.int (Int32.ofNat f2)), .val (.int (Int32.ofNat (f2 + d2))), .val (.int (Int32.ofNat zc)), .val (.int cl), .val (.ref b14), .unset, .unset, .unset, .unset, .unset, .unset, .unset] [])) _
      refine Rch.go (fun _ kk_ => XS.aload X17.here hx rfl (hb hby at_189) rfl rfl kk_) ?_
      show Rch p e below (T17.setTop (mkF m 191 #[.val (.int p0), .val (.int p1), .val (.int p2), .val (.int p3), .val (.int p4), .val (.int p5), .val (.ref b1), .val (.ref b6), .val (.ref b11), .val (.int (Int32.ofNat f1)), .val (.int (Int32.ofNat (f1 + d1))), .val (.int (Int32.ofNat f2)), .val (.int (Int32.ofNat (f2 + d2))), .val (.int (Int32.ofNat zc)), .val (.int cl), .val (.ref b14), .unset, .unset, .unset, .unset, .unset, .unset, .unset] [(.ref b14)])) _
      refine Rch.callV X17 hx hZ hown (hw _ (List.mem_of_getElem? (i := 29) rfl)) (hw _ (List.mem_of_getElem? (i := 30) rfl)) (notFace_of_selects (args := #[]) (mvT hZ (hw _ (List.mem_of_getElem? (i := 32) rfl)))) (hw _ (List.mem_of_getElem? (i := 32) rfl)) (hw _ (List.mem_of_getElem? (i := 31) rfl)) (hw _ (List.mem_of_getElem? (i := 4) rfl)) (hw _ (List.mem_of_getElem? (i := 33) rfl)) (by decide) (rm5 l Z a0 hw [] b14 cp2 bf2 fn2 (.int (Int32.ofNat ((0 + ((f1 + d1) - f1)) + (zc - 0)))) (.int (0 : Int32)) T17.heap n0 Z0 (by omega) E_b14 g_b14 Fb_b14 Fl_b14 Fo_b14 B_bf2 (Ne.symm ne_b14_bf2)) 0 (by decide) (by decide) (by decide) (by decide) rfl E_b14 (g := (mkF m 191 #[.val (.int p0), .val (.int p1), .val (.int p2), .val (.int p3), .val (.int p4), .val (.int p5), .val (.ref b1), .val (.ref b6), .val (.ref b11), .val (.int (Int32.ofNat f1)), .val (.int (Int32.ofNat (f1 + d1))), .val (.int (Int32.ofNat f2)), .val (.int (Int32.ofNat (f2 + d2))), .val (.int (Int32.ofNat zc)), .val (.int cl), .val (.ref b14), .unset, .unset, .unset, .unset, .unset, .unset, .unset] [(.ref b14)])) rfl (by rw [hml]; rfl) [] [] rfl (lenOf pd0_0 rfl) rfl (by show 2 * 0 + _ ≤ _; exact Nat.le_of_eq rfl) (hb hby at_191) ?_
      intro v20 T20 L20 X20 hQ20
      obtain ⟨rfl, N20q, K20, _, Fb_b14, Fl_b14, ⟨u2, Fo_b14⟩⟩ := hQ20
      have E_b14 := E_b14.keep K20
      have B_b1 := B_b1.keep K20 (ninS ne_b1_b14 nin0)
      have B_b6 := B_b6.keep K20 (ninS ne_b6_b14 nin0)
      have B_bf2 := B_bf2.keep K20 (ninS (Ne.symm ne_b14_bf2) nin0)
      have Z0 := Nat.le_trans Z0 K20.1
      have N20 := Fr.app N17 N20q
      show Rch p e below (T20.setTop (mkF m 194 #[.val (.int p0), .val (.int p1), .val (.int p2), .val (.int p3), .val (.int p4), .val (.int p5), .val (.ref b1), .val (.ref b6), .val (.ref b11), .val (.int (Int32.ofNat f1)), .val (.int (Int32.ofNat (f1 + d1))), .val (.int (Int32.ofNat f2)), .val (.int (Int32.ofNat (f2 + d2))), .val (.int (Int32.ofNat zc)), .val (.int cl), .val (.ref b14), .unset, .unset, .unset, .unset, .unset, .unset, .unset] [])) _
      exact Rch.here ⟨_, _, _, rfl, X20, rfl, N20, Z0, E_b14, Fb_b14, by rw [if_neg hc186_19]; exact Fl_b14, ⟨_, Fo_b14⟩, B_bf2, B_b1, B_b6⟩
  rintro _ ⟨T18, L18, h18, rfl, X18, e18, N18, Zs, E_b14, Fb_b14, Fl_b14, ⟨ou, Fo_b14⟩, B_bf2, B_b1, B_b6⟩
  show Rch p e below (T18.setTop (mkF m 194 #[.val (.int p0), .val (.int p1), .val (.int p2), .val (.int p3), .val (.int p4), .val (.int p5), .val (.ref b1), .val (.ref b6), .val (.ref b11), .val (.int (Int32.ofNat f1)), .val (.int (Int32.ofNat (f1 + d1))), .val (.int (Int32.ofNat f2)), .val (.int (Int32.ofNat (f2 + d2))), .val (.int (Int32.ofNat zc)), .val (.int cl), .val (.ref b14), .unset, .unset, .unset, .unset, .unset, .unset, .unset] [])) _
  obtain ⟨pre, hpre⟩ : ∃ n, n = (if cl = (0 : Int32) then (0 + (f1 + d1 - f1) + (zc - 0)) else 0) := ⟨_, rfl⟩
  rw [← hpre] at Fl_b14
  have hple : pre ≤ (0 + (f1 + d1 - f1) + (zc - 0)) := by rw [hpre]; split <;> omega
  show Rch p e below (T18.setTop (mkF m 194 #[.val (.int p0), .val (.int p1), .val (.int p2), .val (.int p3), .val (.int p4), .val (.int p5), .val (.ref b1), .val (.ref b6), .val (.ref b11), .val (.int (Int32.ofNat f1)), .val (.int (Int32.ofNat (f1 + d1))), .val (.int (Int32.ofNat f2)), .val (.int (Int32.ofNat (f2 + d2))), .val (.int (Int32.ofNat zc)), .val (.int cl), .val (.ref b14), .unset, .unset, .unset, .unset, .unset, .unset, .unset] [])) _
  refine Rch.go (fun _ kk_ => XS.aload X18.here hx rfl (hb hby at_194) rfl rfl kk_) ?_
  show Rch p e below (T18.setTop (mkF m 196 #[.val (.int p0), .val (.int p1), .val (.int p2), .val (.int p3), .val (.int p4), .val (.int p5), .val (.ref b1), .val (.ref b6), .val (.ref b11), .val (.int (Int32.ofNat f1)), .val (.int (Int32.ofNat (f1 + d1))), .val (.int (Int32.ofNat f2)), .val (.int (Int32.ofNat (f2 + d2))), .val (.int (Int32.ofNat zc)), .val (.int cl), .val (.ref b14), .unset, .unset, .unset, .unset, .unset, .unset, .unset] [(.ref b14)])) _
  refine Rch.go (fun _ kk_ => XS.aload X18.here hx rfl (hb hby at_196) rfl rfl kk_) ?_
  show Rch p e below (T18.setTop (mkF m 198 #[.val (.int p0), .val (.int p1), .val (.int p2), .val (.int p3), .val (.int p4), .val (.int p5), .val (.ref b1), .val (.ref b6), .val (.ref b11), .val (.int (Int32.ofNat f1)), .val (.int (Int32.ofNat (f1 + d1))), .val (.int (Int32.ofNat f2)), .val (.int (Int32.ofNat (f2 + d2))), .val (.int (Int32.ofNat zc)), .val (.int cl), .val (.ref b14), .unset, .unset, .unset, .unset, .unset, .unset, .unset] [(.ref b6), (.ref b14)])) _
  refine Rch.go (fun _ kk_ => XS.iload X18.here hx rfl (hb hby at_198) rfl  kk_) ?_
  show Rch p e below (T18.setTop (mkF m 200 #[.val (.int p0), .val (.int p1), .val (.int p2), .val (.int p3), .val (.int p4), .val (.int p5), .val (.ref b1), .val (.ref b6), .val (.ref b11), .val (.int (Int32.ofNat f1)), .val (.int (Int32.ofNat (f1 + d1))), .val (.int (Int32.ofNat f2)), .val (.int (Int32.ofNat (f2 + d2))), .val (.int (Int32.ofNat zc)), .val (.int cl), .val (.ref b14), .unset, .unset, .unset, .unset, .unset, .unset, .unset] [(.int (Int32.ofNat f2)), (.ref b6), (.ref b14)])) _
  refine Rch.go (fun _ kk_ => XS.iload X18.here hx rfl (hb hby at_200) rfl  kk_) ?_
  show Rch p e below (T18.setTop (mkF m 202 #[.val (.int p0), .val (.int p1), .val (.int p2), .val (.int p3), .val (.int p4), .val (.int p5), .val (.ref b1), .val (.ref b6), .val (.ref b11), .val (.int (Int32.ofNat f1)), .val (.int (Int32.ofNat (f1 + d1))), .val (.int (Int32.ofNat f2)), .val (.int (Int32.ofNat (f2 + d2))), .val (.int (Int32.ofNat zc)), .val (.int cl), .val (.ref b14), .unset, .unset, .unset, .unset, .unset, .unset, .unset] [(.int (Int32.ofNat (f2 + d2))), (.int (Int32.ofNat f2)), (.ref b6), (.ref b14)])) _
  refine Rch.callV X18 hx hZ hown (hw _ (List.mem_of_getElem? (i := 13) rfl)) (hw _ (List.mem_of_getElem? (i := 14) rfl)) (notFace_of_selects (args := #[]) (mvT hZ (hw _ (List.mem_of_getElem? (i := 16) rfl)))) (hw _ (List.mem_of_getElem? (i := 16) rfl)) (hw _ (List.mem_of_getElem? (i := 15) rfl)) (hw _ (List.mem_of_getElem? (i := 4) rfl)) (hw _ (List.mem_of_getElem? (i := 17) rfl)) (by decide) (rm3 l Z a0 hw [] b14 b6 f2 (f2 + d2) pre cp2 4 bf2 fn2 g2 ou h18 n0 Zs (by omega) (by omega) (by omega) (by omega) (by omega) E_b14 g_b14 Fb_b14 Fl_b14 Fo_b14 g_bf2 B_bf2 B_b6 (Ne.symm ne_b14_bf2) ne_b6_b14 ne_b6_bf2) 0 (by decide) (by decide) (by decide) (by decide) e18 E_b14 (g := (mkF m 202 #[.val (.int p0), .val (.int p1), .val (.int p2), .val (.int p3), .val (.int p4), .val (.int p5), .val (.ref b1), .val (.ref b6), .val (.ref b11), .val (.int (Int32.ofNat f1)), .val (.int (Int32.ofNat (f1 + d1))), .val (.int (Int32.ofNat f2)), .val (.int (Int32.ofNat (f2 + d2))), .val (.int (Int32.ofNat zc)), .val (.int cl), .val (.ref b14), .unset, .unset, .unset, .unset, .unset, .unset, .unset] [(.int (Int32.ofNat (f2 + d2))), (.int (Int32.ofNat f2)), (.ref b6), (.ref b14)])) rfl (by rw [hml]; rfl) [(.ref b6), (.int (Int32.ofNat f2)), (.int (Int32.ofNat (f2 + d2)))] [] rfl (lenOf pd0_1 rfl) rfl (by show 2 * 0 + _ ≤ _; exact Nat.le_of_eq rfl) (hb hby at_202) ?_
  intro v21 T21 L21 X21 hQ21
  obtain ⟨bf3, cp3, fn3, rfl, N21q, K21, g_bf3, or3, _, Fb_b14, Fl_b14, Fo_b14, Bn3, hle3, hcp3, hA3, hB3⟩ := hQ21
  have ne_b14_bf3 : NeA b14 bf3 := or3.elim (fun q => q ▸ ne_b14_bf2) (fun q => Nat.ne_of_lt (Nat.lt_of_lt_of_le E_b14.lt q))
  have ne_b1_bf3 : NeA b1 bf3 := or3.elim (fun q => q ▸ ne_b1_bf2) (fun q => Nat.ne_of_lt (Nat.lt_of_lt_of_le B_b1.lt q))
  have ne_b6_bf3 : NeA b6 bf3 := or3.elim (fun q => q ▸ ne_b6_bf2) (fun q => Nat.ne_of_lt (Nat.lt_of_lt_of_le B_b6.lt q))
  clear or3
  have E_b14 := E_b14.keep K21
  have B_b1 := B_b1.keep K21 (ninS ne_b1_b14 (ninS ne_b1_bf2 nin0))
  have B_b6 := B_b6.keep K21 (ninS ne_b6_b14 (ninS ne_b6_bf2 nin0))
  have Zs := Nat.le_trans Zs K21.1
  have B_bf3 := Bn3
  have N21 := Fr.app N18 N21q
  show Rch p e below (T21.setTop (mkF m 205 #[.val (.int p0), .val (.int p1), .val (.int p2), .val (.int p3), .val (.int p4), .val (.int p5), .val (.ref b1), .val (.ref b6), .val (.ref b11), .val (.int (Int32.ofNat f1)), .val (.int (Int32.ofNat (f1 + d1))), .val (.int (Int32.ofNat f2)), .val (.int (Int32.ofNat (f2 + d2))), .val (.int (Int32.ofNat zc)), .val (.int cl), .val (.ref b14), .unset, .unset, .unset, .unset, .unset, .unset, .unset] [])) _
  refine Rch.go (fun _ kk_ => XS.aload X21.here hx rfl (hb hby at_205) rfl rfl kk_) ?_
  show Rch p e below (T21.setTop (mkF m 207 #[.val (.int p0), .val (.int p1), .val (.int p2), .val (.int p3), .val (.int p4), .val (.int p5), .val (.ref b1), .val (.ref b6), .val (.ref b11), .val (.int (Int32.ofNat f1)), .val (.int (Int32.ofNat (f1 + d1))), .val (.int (Int32.ofNat f2)), .val (.int (Int32.ofNat (f2 + d2))), .val (.int (Int32.ofNat zc)), .val (.int cl), .val (.ref b14), .unset, .unset, .unset, .unset, .unset, .unset, .unset] [(.ref b14)])) _
  refine Rch.callV X21 hx hZ hown (hw _ (List.mem_of_getElem? (i := 37) rfl)) (hw _ (List.mem_of_getElem? (i := 38) rfl)) (notFace_of_selects (args := #[]) (mvT hZ (hw _ (List.mem_of_getElem? (i := 40) rfl)))) (hw _ (List.mem_of_getElem? (i := 40) rfl)) (hw _ (List.mem_of_getElem? (i := 39) rfl)) (hw _ (List.mem_of_getElem? (i := 4) rfl)) (hw _ (List.mem_of_getElem? (i := 41) rfl)) (by decide) (rm6 l Z a0 hw [] b14 (pre + ((f2 + d2) - f2)) cp3 bf3 fn3 T21.heap n0 Zs (by omega) Fb_b14 Fl_b14 B_bf3) 0 (by decide) (by decide) (by decide) (by decide) rfl E_b14 (g := (mkF m 207 #[.val (.int p0), .val (.int p1), .val (.int p2), .val (.int p3), .val (.int p4), .val (.int p5), .val (.ref b1), .val (.ref b6), .val (.ref b11), .val (.int (Int32.ofNat f1)), .val (.int (Int32.ofNat (f1 + d1))), .val (.int (Int32.ofNat f2)), .val (.int (Int32.ofNat (f2 + d2))), .val (.int (Int32.ofNat zc)), .val (.int cl), .val (.ref b14), .unset, .unset, .unset, .unset, .unset, .unset, .unset] [(.ref b14)])) rfl (by rw [hml]; rfl) [] [] rfl (lenOf pd0_2 rfl) rfl (by show 2 * 0 + _ ≤ _; exact Nat.le_of_eq rfl) (hb hby at_207) ?_
  intro v22 T22 L22 X22 hQ22
  obtain ⟨r1, rfl, N22q, K22, g_r1, sz_r1, Bn_r1⟩ := hQ22
  have ne_b14_r1 : NeA b14 r1 := Nat.ne_of_lt (Nat.lt_of_lt_of_le E_b14.lt sz_r1)
  have ne_b1_r1 : NeA b1 r1 := Nat.ne_of_lt (Nat.lt_of_lt_of_le B_b1.lt sz_r1)
  have ne_b6_r1 : NeA b6 r1 := Nat.ne_of_lt (Nat.lt_of_lt_of_le B_b6.lt sz_r1)
  have ne_bf3_r1 : NeA bf3 r1 := Nat.ne_of_lt (Nat.lt_of_lt_of_le B_bf3.lt sz_r1)
  have E_b14 := E_b14.keep K22
  have Fb_b14 := Fb_b14.keep K22 nin0
  have Fl_b14 := Fl_b14.keep K22 nin0
  have Fo_b14 := Fo_b14.keep K22 nin0
  have B_b1 := B_b1.keep K22 nin0
  have B_b6 := B_b6.keep K22 nin0
  have B_bf3 := B_bf3.keep K22 nin0
  have Zs := Nat.le_trans Zs K22.1
  have B_r1 := Bn_r1
  have N22 := Fr.app N21 N22q
  show Rch p e below (T22.setTop (mkF m 210 #[.val (.int p0), .val (.int p1), .val (.int p2), .val (.int p3), .val (.int p4), .val (.int p5), .val (.ref b1), .val (.ref b6), .val (.ref b11), .val (.int (Int32.ofNat f1)), .val (.int (Int32.ofNat (f1 + d1))), .val (.int (Int32.ofNat f2)), .val (.int (Int32.ofNat (f2 + d2))), .val (.int (Int32.ofNat zc)), .val (.int cl), .val (.ref b14), .unset, .unset, .unset, .unset, .unset, .unset, .unset] [(.ref r1)])) _
  refine Rch.go (fun _ kk_ => XS.astore X22.here hx rfl (hb hby at_210) rfl rfl (l' := #[.val (.int p0), .val (.int p1), .val (.int p2), .val (.int p3), .val (.int p4), .val (.int p5), .val (.ref b1), .val (.ref b6), .val (.ref b11), .val (.int (Int32.ofNat f1)), .val (.int (Int32.ofNat (f1 + d1))), .val (.int (Int32.ofNat f2)), .val (.int (Int32.ofNat (f2 + d2))), .val (.int (Int32.ofNat zc)), .val (.int cl), .val (.ref b14), .val (.ref r1), .unset, .unset, .unset, .unset, .unset, .unset]) rfl kk_) ?_
  show Rch p e below (T22.setTop (mkF m 212 #[.val (.int p0), .val (.int p1), .val (.int p2), .val (.int p3), .val (.int p4), .val (.int p5), .val (.ref b1), .val (.ref b6), .val (.ref b11), .val (.int (Int32.ofNat f1)), .val (.int (Int32.ofNat (f1 + d1))), .val (.int (Int32.ofNat f2)), .val (.int (Int32.ofNat (f2 + d2))), .val (.int (Int32.ofNat zc)), .val (.int cl), .val (.ref b14), .val (.ref r1), .unset, .unset, .unset, .unset, .unset, .unset] [])) _
  refine Rch.go (fun _ kk_ => XS.iload X22.here hx rfl (hb hby at_212) rfl  kk_) ?_
  show Rch p e below (T22.setTop (mkF m 214 #[.val (.int p0), .val (.int p1), .val (.int p2), .val (.int p3), .val (.int p4), .val (.int p5), .val (.ref b1), .val (.ref b6), .val (.ref b11), .val (.int (Int32.ofNat f1)), .val (.int (Int32.ofNat (f1 + d1))), .val (.int (Int32.ofNat f2)), .val (.int (Int32.ofNat (f2 + d2))), .val (.int (Int32.ofNat zc)), .val (.int cl), .val (.ref b14), .val (.ref r1), .unset, .unset, .unset, .unset, .unset, .unset] [(.int (Int32.ofNat (f1 + d1)))])) _
  refine Rch.go (fun _ kk_ => XS.iload X22.here hx rfl (hb hby at_214) rfl  kk_) ?_
  show Rch p e below (T22.setTop (mkF m 216 #[.val (.int p0), .val (.int p1), .val (.int p2), .val (.int p3), .val (.int p4), .val (.int p5), .val (.ref b1), .val (.ref b6), .val (.ref b11), .val (.int (Int32.ofNat f1)), .val (.int (Int32.ofNat (f1 + d1))), .val (.int (Int32.ofNat f2)), .val (.int (Int32.ofNat (f2 + d2))), .val (.int (Int32.ofNat zc)), .val (.int cl), .val (.ref b14), .val (.ref r1), .unset, .unset, .unset, .unset, .unset, .unset] [(.int (Int32.ofNat f1)), (.int (Int32.ofNat (f1 + d1)))])) _
  refine Rch.go (fun _ kk_ => XS.isub X22.here hx rfl (hb hby at_216) rfl kk_) ?_
  show Rch p e below (T22.setTop (mkF m 217 #[.val (.int p0), .val (.int p1), .val (.int p2), .val (.int p3), .val (.int p4), .val (.int p5), .val (.ref b1), .val (.ref b6), .val (.ref b11), .val (.int (Int32.ofNat f1)), .val (.int (Int32.ofNat (f1 + d1))), .val (.int (Int32.ofNat f2)), .val (.int (Int32.ofNat (f2 + d2))), .val (.int (Int32.ofNat zc)), .val (.int cl), .val (.ref b14), .val (.ref r1), .unset, .unset, .unset, .unset, .unset, .unset] [(.int ((Int32.ofNat (f1 + d1)) - (Int32.ofNat f1)))])) _
  rw [ofNat_sub (by omega)]
  show Rch p e below (T22.setTop (mkF m 217 #[.val (.int p0), .val (.int p1), .val (.int p2), .val (.int p3), .val (.int p4), .val (.int p5), .val (.ref b1), .val (.ref b6), .val (.ref b11), .val (.int (Int32.ofNat f1)), .val (.int (Int32.ofNat (f1 + d1))), .val (.int (Int32.ofNat f2)), .val (.int (Int32.ofNat (f2 + d2))), .val (.int (Int32.ofNat zc)), .val (.int cl), .val (.ref b14), .val (.ref r1), .unset, .unset, .unset, .unset, .unset, .unset] [(.int (Int32.ofNat (f1 + d1 - f1)))])) _
  refine Rch.go (fun _ kk_ => XS.istore X22.here hx rfl (hb hby at_217) rfl (l' := #[.val (.int p0), .val (.int p1), .val (.int p2), .val (.int p3), .val (.int p4), .val (.int p5), .val (.ref b1), .val (.ref b6), .val (.ref b11), .val (.int (Int32.ofNat f1)), .val (.int (Int32.ofNat (f1 + d1))), .val (.int (Int32.ofNat f2)), .val (.int (Int32.ofNat (f2 + d2))), .val (.int (Int32.ofNat zc)), .val (.int cl), .val (.ref b14), .val (.ref r1), .val (.int (Int32.ofNat (f1 + d1 - f1))), .unset, .unset, .unset, .unset, .unset]) rfl kk_) ?_
  show Rch p e below (T22.setTop (mkF m 219 #[.val (.int p0), .val (.int p1), .val (.int p2), .val (.int p3), .val (.int p4), .val (.int p5), .val (.ref b1), .val (.ref b6), .val (.ref b11), .val (.int (Int32.ofNat f1)), .val (.int (Int32.ofNat (f1 + d1))), .val (.int (Int32.ofNat f2)), .val (.int (Int32.ofNat (f2 + d2))), .val (.int (Int32.ofNat zc)), .val (.int cl), .val (.ref b14), .val (.ref r1), .val (.int (Int32.ofNat (f1 + d1 - f1))), .unset, .unset, .unset, .unset, .unset] [])) _
  refine Rch.go (fun _ kk_ => XS.iload X22.here hx rfl (hb hby at_219) rfl  kk_) ?_
  show Rch p e below (T22.setTop (mkF m 221 #[.val (.int p0), .val (.int p1), .val (.int p2), .val (.int p3), .val (.int p4), .val (.int p5), .val (.ref b1), .val (.ref b6), .val (.ref b11), .val (.int (Int32.ofNat f1)), .val (.int (Int32.ofNat (f1 + d1))), .val (.int (Int32.ofNat f2)), .val (.int (Int32.ofNat (f2 + d2))), .val (.int (Int32.ofNat zc)), .val (.int cl), .val (.ref b14), .val (.ref r1), .val (.int (Int32.ofNat (f1 + d1 - f1))), .unset, .unset, .unset, .unset, .unset] [(.int (Int32.ofNat (f2 + d2)))])) _
  refine Rch.go (fun _ kk_ => XS.iload X22.here hx rfl (hb hby at_221) rfl  kk_) ?_
  show Rch p e below (T22.setTop (mkF m 223 #[.val (.int p0), .val (.int p1), .val (.int p2), .val (.int p3), .val (.int p4), .val (.int p5), .val (.ref b1), .val (.ref b6), .val (.ref b11), .val (.int (Int32.ofNat f1)), .val (.int (Int32.ofNat (f1 + d1))), .val (.int (Int32.ofNat f2)), .val (.int (Int32.ofNat (f2 + d2))), .val (.int (Int32.ofNat zc)), .val (.int cl), .val (.ref b14), .val (.ref r1), .val (.int (Int32.ofNat (f1 + d1 - f1))), .unset, .unset, .unset, .unset, .unset] [(.int (Int32.ofNat f2)), (.int (Int32.ofNat (f2 + d2)))])) _
  refine Rch.go (fun _ kk_ => XS.isub X22.here hx rfl (hb hby at_223) rfl kk_) ?_
  show Rch p e below (T22.setTop (mkF m 224 #[.val (.int p0), .val (.int p1), .val (.int p2), .val (.int p3), .val (.int p4), .val (.int p5), .val (.ref b1), .val (.ref b6), .val (.ref b11), .val (.int (Int32.ofNat f1)), .val (.int (Int32.ofNat (f1 + d1))), .val (.int (Int32.ofNat f2)), .val (.int (Int32.ofNat (f2 + d2))), .val (.int (Int32.ofNat zc)), .val (.int cl), .val (.ref b14), .val (.ref r1), .val (.int (Int32.ofNat (f1 + d1 - f1))), .unset, .unset, .unset, .unset, .unset] [(.int ((Int32.ofNat (f2 + d2)) - (Int32.ofNat f2)))])) _
  rw [ofNat_sub (by omega)]
  show Rch p e below (T22.setTop (mkF m 224 #[.val (.int p0), .val (.int p1), .val (.int p2), .val (.int p3), .val (.int p4), .val (.int p5), .val (.ref b1), .val (.ref b6), .val (.ref b11), .val (.int (Int32.ofNat f1)), .val (.int (Int32.ofNat (f1 + d1))), .val (.int (Int32.ofNat f2)), .val (.int (Int32.ofNat (f2 + d2))), .val (.int (Int32.ofNat zc)), .val (.int cl), .val (.ref b14), .val (.ref r1), .val (.int (Int32.ofNat (f1 + d1 - f1))), .unset, .unset, .unset, .unset, .unset] [(.int (Int32.ofNat (f2 + d2 - f2)))])) _
  refine Rch.go (fun _ kk_ => XS.istore X22.here hx rfl (hb hby at_224) rfl (l' := #[.val (.int p0), .val (.int p1), .val (.int p2), .val (.int p3), .val (.int p4), .val (.int p5), .val (.ref b1), .val (.ref b6), .val (.ref b11), .val (.int (Int32.ofNat f1)), .val (.int (Int32.ofNat (f1 + d1))), .val (.int (Int32.ofNat f2)), .val (.int (Int32.ofNat (f2 + d2))), .val (.int (Int32.ofNat zc)), .val (.int cl), .val (.ref b14), .val (.ref r1), .val (.int (Int32.ofNat (f1 + d1 - f1))), .val (.int (Int32.ofNat (f2 + d2 - f2))), .unset, .unset, .unset, .unset]) rfl kk_) ?_
  show Rch p e below (T22.setTop (mkF m 226 #[.val (.int p0), .val (.int p1), .val (.int p2), .val (.int p3), .val (.int p4), .val (.int p5), .val (.ref b1), .val (.ref b6), .val (.ref b11), .val (.int (Int32.ofNat f1)), .val (.int (Int32.ofNat (f1 + d1))), .val (.int (Int32.ofNat f2)), .val (.int (Int32.ofNat (f2 + d2))), .val (.int (Int32.ofNat zc)), .val (.int cl), .val (.ref b14), .val (.ref r1), .val (.int (Int32.ofNat (f1 + d1 - f1))), .val (.int (Int32.ofNat (f2 + d2 - f2))), .unset, .unset, .unset, .unset] [])) _
  have hj24 : ∀ P', Rch p e below (T22.setTop (mkF m 240 #[.val (.int p0), .val (.int p1), .val (.int p2), .val (.int p3), .val (.int p4), .val (.int p5), .val (.ref b1), .val (.ref b6), .val (.ref b11), .val (.int (Int32.ofNat f1)), .val (.int (Int32.ofNat (f1 + d1))), .val (.int (Int32.ofNat f2)), .val (.int (Int32.ofNat (f2 + d2))), .val (.int (Int32.ofNat zc)), .val (.int cl), .val (.ref b14), .val (.ref r1), .val (.int (Int32.ofNat (f1 + d1 - f1))), .val (.int (Int32.ofNat (f2 + d2 - f2))), .unset, .unset, .unset, .unset] [(.int (own_pre_S0 cl f1 d1 zc))])) P' → Rch p e below (T22.setTop (mkF m 226 #[.val (.int p0), .val (.int p1), .val (.int p2), .val (.int p3), .val (.int p4), .val (.int p5), .val (.ref b1), .val (.ref b6), .val (.ref b11), .val (.int (Int32.ofNat f1)), .val (.int (Int32.ofNat (f1 + d1))), .val (.int (Int32.ofNat f2)), .val (.int (Int32.ofNat (f2 + d2))), .val (.int (Int32.ofNat zc)), .val (.int cl), .val (.ref b14), .val (.ref r1), .val (.int (Int32.ofNat (f1 + d1 - f1))), .val (.int (Int32.ofNat (f2 + d2 - f2))), .unset, .unset, .unset, .unset] [])) P' := by
    intro P' kt
    refine Rch.go (fun _ kk_ => XS.iload X22.here hx rfl (hb hby at_226) rfl  kk_) ?_
    show Rch p e below (T22.setTop (mkF m 228 #[.val (.int p0), .val (.int p1), .val (.int p2), .val (.int p3), .val (.int p4), .val (.int p5), .val (.ref b1), .val (.ref b6), .val (.ref b11), .val (.int (Int32.ofNat f1)), .val (.int (Int32.ofNat (f1 + d1))), .val (.int (Int32.ofNat f2)), .val (.int (Int32.ofNat (f2 + d2))), .val (.int (Int32.ofNat zc)), .val (.int cl), .val (.ref b14), .val (.ref r1), .val (.int (Int32.ofNat (f1 + d1 - f1))), .val (.int (Int32.ofNat (f2 + d2 - f2))), .unset, .unset, .unset, .unset] [(.int cl)])) _
    by_cases hc228_23 : cl = (0 : Int32)
    · refine Rch.go (fun _ kk_ => XS.ifYes X22.here hx rfl (pc0 := 228) (pc' := 235) rfl (hb hby at_228) rfl ((if0 _ _).trans (teq hc228_23).1) (by decide) (by decide) kk_) ?_
      show Rch p e below (T22.setTop (mkF m 235 #[.val (.int p0), .val (.int p1), .val (.int p2), .val (.int p3), .val (.int p4), .val (.int p5), .val (.ref b1), .val (.ref b6), .val (.ref b11), .val (.int (Int32.ofNat f1)), .val (.int (Int32.ofNat (f1 + d1))), .val (.int (Int32.ofNat f2)), .val (.int (Int32.ofNat (f2 + d2))), .val (.int (Int32.ofNat zc)), .val (.int cl), .val (.ref b14), .val (.ref r1), .val (.int (Int32.ofNat (f1 + d1 - f1))), .val (.int (Int32.ofNat (f2 + d2 - f2))), .unset, .unset, .unset, .unset] [])) _
      refine Rch.go (fun _ kk_ => XS.iload X22.here hx rfl (hb hby at_235) rfl  kk_) ?_
      show Rch p e below (T22.setTop (mkF m 237 #[.val (.int p0), .val (.int p1), .val (.int p2), .val (.int p3), .val (.int p4), .val (.int p5), .val (.ref b1), .val (.ref b6), .val (.ref b11), .val (.int (Int32.ofNat f1)), .val (.int (Int32.ofNat (f1 + d1))), .val (.int (Int32.ofNat f2)), .val (.int (Int32.ofNat (f2 + d2))), .val (.int (Int32.ofNat zc)), .val (.int cl), .val (.ref b14), .val (.ref r1), .val (.int (Int32.ofNat (f1 + d1 - f1))), .val (.int (Int32.ofNat (f2 + d2 - f2))), .unset, .unset, .unset, .unset] [(.int (Int32.ofNat (f1 + d1 - f1)))])) _
      refine Rch.go (fun _ kk_ => XS.iload X22.here hx rfl (hb hby at_237) rfl  kk_) ?_
      show Rch p e below (T22.setTop (mkF m 239 #[.val (.int p0), .val (.int p1), .val (.int p2), .val (.int p3), .val (.int p4), .val (.int p5), .val (.ref b1), .val (.ref b6), .val (.ref b11), .val (.int (Int32.ofNat f1)), .val (.int (Int32.ofNat (f1 + d1))), .val (.int (Int32.ofNat f2)), .val (.int (Int32.ofNat (f2 + d2))), .val (.int (Int32.ofNat zc)), .val (.int cl), .val (.ref b14), .val (.ref r1), .val (.int (Int32.ofNat (f1 + d1 - f1))), .val (.int (Int32.ofNat (f2 + d2 - f2))), .unset, .unset, .unset, .unset] [(.int (Int32.ofNat zc)), (.int (Int32.ofNat (f1 + d1 - f1)))])) _
      refine Rch.go (fun _ kk_ => XS.iadd X22.here hx rfl (hb hby at_239) rfl kk_) ?_
      show Rch p e below (T22.setTop (mkF m 240 #[.val (.int p0), .val (.int p1), .val (.int p2), .val (.int p3), .val (.int p4), .val (.int p5), .val (.ref b1), .val (.ref b6), .val (.ref b11), .val (.int (Int32.ofNat f1)), .val (.int (Int32.ofNat (f1 + d1))), .val (.int (Int32.ofNat f2)), .val (.int (Int32.ofNat (f2 + d2))), .val (.int (Int32.ofNat zc)), .val (.int cl), .val (.ref b14), .val (.ref r1), .val (.int (Int32.ofNat (f1 + d1 - f1))), .val (.int (Int32.ofNat (f2 + d2 - f2))), .unset, .unset, .unset, .unset] [(.int ((Int32.ofNat (f1 + d1 - f1)) + (Int32.ofNat zc)))])) _
      rw [show own_pre_S0 cl f1 d1 zc = ((Int32.ofNat (f1 + d1 - f1)) + (Int32.ofNat zc)) from by simp only [own_pre_S0, if_pos hc228_23]] at kt
      exact kt
    · refine Rch.go (fun _ kk_ => XS.ifNo X22.here hx rfl (hb hby at_228) rfl ((if0 _ _).trans (feq hc228_23).1) kk_) ?_
      show Rch p e below (T22.setTop (mkF m 231 #[.val (.int p0), .val (.int p1), .val (.int p2), .val (.int p3), .val (.int p4), .val (.int p5), .val (.ref b1), .val (.ref b6), .val (.ref b11), .val (.int (Int32.ofNat f1)), .val (.int (Int32.ofNat (f1 + d1))), .val (.int (Int32.ofNat f2)), .val (.int (Int32.ofNat (f2 + d2))), .val (.int (Int32.ofNat zc)), .val (.int cl), .val (.ref b14), .val (.ref r1), .val (.int (Int32.ofNat (f1 + d1 - f1))), .val (.int (Int32.ofNat (f2 + d2 - f2))), .unset, .unset, .unset, .unset] [])) _
      refine Rch.go (fun _ kk_ => XS.iconst X22.here hx rfl (hb hby at_231) kk_) ?_
      show Rch p e below (T22.setTop (mkF m 232 #[.val (.int p0), .val (.int p1), .val (.int p2), .val (.int p3), .val (.int p4), .val (.int p5), .val (.ref b1), .val (.ref b6), .val (.ref b11), .val (.int (Int32.ofNat f1)), .val (.int (Int32.ofNat (f1 + d1))), .val (.int (Int32.ofNat f2)), .val (.int (Int32.ofNat (f2 + d2))), .val (.int (Int32.ofNat zc)), .val (.int cl), .val (.ref b14), .val (.ref r1), .val (.int (Int32.ofNat (f1 + d1 - f1))), .val (.int (Int32.ofNat (f2 + d2 - f2))), .unset, .unset, .unset, .unset] [(.int (0 : Int32))])) _
      refine Rch.go (fun _ kk_ => XS.goto X22.here hx rfl (pc0 := 232) (pc' := 240) rfl (hb hby at_232) (by decide) (by decide) kk_) ?_
      show Rch p e below (T22.setTop (mkF m 240 #[.val (.int p0), .val (.int p1), .val (.int p2), .val (.int p3), .val (.int p4), .val (.int p5), .val (.ref b1), .val (.ref b6), .val (.ref b11), .val (.int (Int32.ofNat f1)), .val (.int (Int32.ofNat (f1 + d1))), .val (.int (Int32.ofNat f2)), .val (.int (Int32.ofNat (f2 + d2))), .val (.int (Int32.ofNat zc)), .val (.int cl), .val (.ref b14), .val (.ref r1), .val (.int (Int32.ofNat (f1 + d1 - f1))), .val (.int (Int32.ofNat (f2 + d2 - f2))), .unset, .unset, .unset, .unset] [(.int (0 : Int32))])) _
      rw [show own_pre_S0 cl f1 d1 zc = (0 : Int32) from by simp only [own_pre_S0, if_neg hc228_23]] at kt
      exact kt
  refine hj24 _ ?_
  show Rch p e below (T22.setTop (mkF m 240 #[.val (.int p0), .val (.int p1), .val (.int p2), .val (.int p3), .val (.int p4), .val (.int p5), .val (.ref b1), .val (.ref b6), .val (.ref b11), .val (.int (Int32.ofNat f1)), .val (.int (Int32.ofNat (f1 + d1))), .val (.int (Int32.ofNat f2)), .val (.int (Int32.ofNat (f2 + d2))), .val (.int (Int32.ofNat zc)), .val (.int cl), .val (.ref b14), .val (.ref r1), .val (.int (Int32.ofNat (f1 + d1 - f1))), .val (.int (Int32.ofNat (f2 + d2 - f2))), .unset, .unset, .unset, .unset] [(.int (own_pre_S0 cl f1 d1 zc))])) _
  rw [show (own_pre_S0 cl f1 d1 zc) = Int32.ofNat pre from by rw [hpre]; unfold own_pre_S0; split <;> first | (rw [ofNat_add']; congr 1; omega) | rfl]
  show Rch p e below (T22.setTop (mkF m 240 #[.val (.int p0), .val (.int p1), .val (.int p2), .val (.int p3), .val (.int p4), .val (.int p5), .val (.ref b1), .val (.ref b6), .val (.ref b11), .val (.int (Int32.ofNat f1)), .val (.int (Int32.ofNat (f1 + d1))), .val (.int (Int32.ofNat f2)), .val (.int (Int32.ofNat (f2 + d2))), .val (.int (Int32.ofNat zc)), .val (.int cl), .val (.ref b14), .val (.ref r1), .val (.int (Int32.ofNat (f1 + d1 - f1))), .val (.int (Int32.ofNat (f2 + d2 - f2))), .unset, .unset, .unset, .unset] [(.int (Int32.ofNat pre))])) _
  have hall : ∀ k, k < (pre + (f2 + d2 - f2)) → (fun j => if j < cp3 then fn3 j else 0) k = own_expv f1 (f1 + d1 - f1) pre f2 g1 g2 k := by
    intro k hk
    show (if k < cp3 then fn3 k else 0) = _
    rw [if_pos (by omega)]
    unfold own_expv
    by_cases hkp : k < pre
    · rw [if_pos hkp, hA3 k hkp]
      have hcl0 : cl = (0 : Int32) := by by_cases q : cl = (0 : Int32); exact q; rw [if_neg q] at hpre; omega
      rw [if_pos hcl0] at hpre
      by_cases hk1 : k < (f1 + d1 - f1)
      · rw [if_pos hk1, hA2 k (by omega)]
        have := hB1 k hk1
        rw [Nat.zero_add] at this; exact this
      · rw [if_neg hk1]
        have := hB2 (k - (f1 + d1 - f1)) (by omega)
        rw [show 0 + (f1 + d1 - f1) + (k - (f1 + d1 - f1)) = k by omega] at this; exact this
    · rw [if_neg hkp]
      have := hB3 (k - pre) (by omega)
      rw [show pre + (k - pre) = k by omega] at this
      rw [this]; congr 1; omega
  refine Rch.go (fun _ kk_ => XS.istore X22.here hx rfl (hb hby at_240) rfl (l' := #[.val (.int p0), .val (.int p1), .val (.int p2), .val (.int p3), .val (.int p4), .val (.int p5), .val (.ref b1), .val (.ref b6), .val (.ref b11), .val (.int (Int32.ofNat f1)), .val (.int (Int32.ofNat (f1 + d1))), .val (.int (Int32.ofNat f2)), .val (.int (Int32.ofNat (f2 + d2))), .val (.int (Int32.ofNat zc)), .val (.int cl), .val (.ref b14), .val (.ref r1), .val (.int (Int32.ofNat (f1 + d1 - f1))), .val (.int (Int32.ofNat (f2 + d2 - f2))), .val (.int (Int32.ofNat pre)), .unset, .unset, .unset]) rfl kk_) ?_
  show Rch p e below (T22.setTop (mkF m 242 #[.val (.int p0), .val (.int p1), .val (.int p2), .val (.int p3), .val (.int p4), .val (.int p5), .val (.ref b1), .val (.ref b6), .val (.ref b11), .val (.int (Int32.ofNat f1)), .val (.int (Int32.ofNat (f1 + d1))), .val (.int (Int32.ofNat f2)), .val (.int (Int32.ofNat (f2 + d2))), .val (.int (Int32.ofNat zc)), .val (.int cl), .val (.ref b14), .val (.ref r1), .val (.int (Int32.ofNat (f1 + d1 - f1))), .val (.int (Int32.ofNat (f2 + d2 - f2))), .val (.int (Int32.ofNat pre)), .unset, .unset, .unset] [])) _
  refine Rch.go (fun _ kk_ => XS.iload X22.here hx rfl (hb hby at_242) rfl  kk_) ?_
  show Rch p e below (T22.setTop (mkF m 244 #[.val (.int p0), .val (.int p1), .val (.int p2), .val (.int p3), .val (.int p4), .val (.int p5), .val (.ref b1), .val (.ref b6), .val (.ref b11), .val (.int (Int32.ofNat f1)), .val (.int (Int32.ofNat (f1 + d1))), .val (.int (Int32.ofNat f2)), .val (.int (Int32.ofNat (f2 + d2))), .val (.int (Int32.ofNat zc)), .val (.int cl), .val (.ref b14), .val (.ref r1), .val (.int (Int32.ofNat (f1 + d1 - f1))), .val (.int (Int32.ofNat (f2 + d2 - f2))), .val (.int (Int32.ofNat pre)), .unset, .unset, .unset] [(.int (Int32.ofNat pre))])) _
  refine Rch.go (fun _ kk_ => XS.iload X22.here hx rfl (hb hby at_244) rfl  kk_) ?_
  show Rch p e below (T22.setTop (mkF m 246 #[.val (.int p0), .val (.int p1), .val (.int p2), .val (.int p3), .val (.int p4), .val (.int p5), .val (.ref b1), .val (.ref b6), .val (.ref b11), .val (.int (Int32.ofNat f1)), .val (.int (Int32.ofNat (f1 + d1))), .val (.int (Int32.ofNat f2)), .val (.int (Int32.ofNat (f2 + d2))), .val (.int (Int32.ofNat zc)), .val (.int cl), .val (.ref b14), .val (.ref r1), .val (.int (Int32.ofNat (f1 + d1 - f1))), .val (.int (Int32.ofNat (f2 + d2 - f2))), .val (.int (Int32.ofNat pre)), .unset, .unset, .unset] [(.int (Int32.ofNat (f2 + d2 - f2))), (.int (Int32.ofNat pre))])) _
  refine Rch.go (fun _ kk_ => XS.iadd X22.here hx rfl (hb hby at_246) rfl kk_) ?_
  show Rch p e below (T22.setTop (mkF m 247 #[.val (.int p0), .val (.int p1), .val (.int p2), .val (.int p3), .val (.int p4), .val (.int p5), .val (.ref b1), .val (.ref b6), .val (.ref b11), .val (.int (Int32.ofNat f1)), .val (.int (Int32.ofNat (f1 + d1))), .val (.int (Int32.ofNat f2)), .val (.int (Int32.ofNat (f2 + d2))), .val (.int (Int32.ofNat zc)), .val (.int cl), .val (.ref b14), .val (.ref r1), .val (.int (Int32.ofNat (f1 + d1 - f1))), .val (.int (Int32.ofNat (f2 + d2 - f2))), .val (.int (Int32.ofNat pre)), .unset, .unset, .unset] [(.int ((Int32.ofNat pre) + (Int32.ofNat (f2 + d2 - f2))))])) _
  rw [ofNat_add']
  show Rch p e below (T22.setTop (mkF m 247 #[.val (.int p0), .val (.int p1), .val (.int p2), .val (.int p3), .val (.int p4), .val (.int p5), .val (.ref b1), .val (.ref b6), .val (.ref b11), .val (.int (Int32.ofNat f1)), .val (.int (Int32.ofNat (f1 + d1))), .val (.int (Int32.ofNat f2)), .val (.int (Int32.ofNat (f2 + d2))), .val (.int (Int32.ofNat zc)), .val (.int cl), .val (.ref b14), .val (.ref r1), .val (.int (Int32.ofNat (f1 + d1 - f1))), .val (.int (Int32.ofNat (f2 + d2 - f2))), .val (.int (Int32.ofNat pre)), .unset, .unset, .unset] [(.int (Int32.ofNat (pre + (f2 + d2 - f2))))])) _
  refine Rch.go (fun _ kk_ => XS.istore X22.here hx rfl (hb hby at_247) rfl (l' := #[.val (.int p0), .val (.int p1), .val (.int p2), .val (.int p3), .val (.int p4), .val (.int p5), .val (.ref b1), .val (.ref b6), .val (.ref b11), .val (.int (Int32.ofNat f1)), .val (.int (Int32.ofNat (f1 + d1))), .val (.int (Int32.ofNat f2)), .val (.int (Int32.ofNat (f2 + d2))), .val (.int (Int32.ofNat zc)), .val (.int cl), .val (.ref b14), .val (.ref r1), .val (.int (Int32.ofNat (f1 + d1 - f1))), .val (.int (Int32.ofNat (f2 + d2 - f2))), .val (.int (Int32.ofNat pre)), .val (.int (Int32.ofNat (pre + (f2 + d2 - f2)))), .unset, .unset]) rfl kk_) ?_
  show Rch p e below (T22.setTop (mkF m 249 #[.val (.int p0), .val (.int p1), .val (.int p2), .val (.int p3), .val (.int p4), .val (.int p5), .val (.ref b1), .val (.ref b6), .val (.ref b11), .val (.int (Int32.ofNat f1)), .val (.int (Int32.ofNat (f1 + d1))), .val (.int (Int32.ofNat f2)), .val (.int (Int32.ofNat (f2 + d2))), .val (.int (Int32.ofNat zc)), .val (.int cl), .val (.ref b14), .val (.ref r1), .val (.int (Int32.ofNat (f1 + d1 - f1))), .val (.int (Int32.ofNat (f2 + d2 - f2))), .val (.int (Int32.ofNat pre)), .val (.int (Int32.ofNat (pre + (f2 + d2 - f2)))), .unset, .unset] [])) _
  refine Rch.go (fun _ kk_ => XS.aload X22.here hx rfl (hb hby at_249) rfl rfl kk_) ?_
  show Rch p e below (T22.setTop (mkF m 251 #[.val (.int p0), .val (.int p1), .val (.int p2), .val (.int p3), .val (.int p4), .val (.int p5), .val (.ref b1), .val (.ref b6), .val (.ref b11), .val (.int (Int32.ofNat f1)), .val (.int (Int32.ofNat (f1 + d1))), .val (.int (Int32.ofNat f2)), .val (.int (Int32.ofNat (f2 + d2))), .val (.int (Int32.ofNat zc)), .val (.int cl), .val (.ref b14), .val (.ref r1), .val (.int (Int32.ofNat (f1 + d1 - f1))), .val (.int (Int32.ofNat (f2 + d2 - f2))), .val (.int (Int32.ofNat pre)), .val (.int (Int32.ofNat (pre + (f2 + d2 - f2)))), .unset, .unset] [(.ref r1)])) _
  refine Rch.go (lenBB X22 hx hZ rfl B_r1 (g := (mkF m 251 #[.val (.int p0), .val (.int p1), .val (.int p2), .val (.int p3), .val (.int p4), .val (.int p5), .val (.ref b1), .val (.ref b6), .val (.ref b11), .val (.int (Int32.ofNat f1)), .val (.int (Int32.ofNat (f1 + d1))), .val (.int (Int32.ofNat f2)), .val (.int (Int32.ofNat (f2 + d2))), .val (.int (Int32.ofNat zc)), .val (.int cl), .val (.ref b14), .val (.ref r1), .val (.int (Int32.ofNat (f1 + d1 - f1))), .val (.int (Int32.ofNat (f2 + d2 - f2))), .val (.int (Int32.ofNat pre)), .val (.int (Int32.ofNat (pre + (f2 + d2 - f2)))), .unset, .unset] [(.ref r1)])) rfl (hb hby at_251) rfl) ?_
  show Rch p e below (T22.setTop (mkF m 252 #[.val (.int p0), .val (.int p1), .val (.int p2), .val (.int p3), .val (.int p4), .val (.int p5), .val (.ref b1), .val (.ref b6), .val (.ref b11), .val (.int (Int32.ofNat f1)), .val (.int (Int32.ofNat (f1 + d1))), .val (.int (Int32.ofNat f2)), .val (.int (Int32.ofNat (f2 + d2))), .val (.int (Int32.ofNat zc)), .val (.int cl), .val (.ref b14), .val (.ref r1), .val (.int (Int32.ofNat (f1 + d1 - f1))), .val (.int (Int32.ofNat (f2 + d2 - f2))), .val (.int (Int32.ofNat pre)), .val (.int (Int32.ofNat (pre + (f2 + d2 - f2)))), .unset, .unset] [(.int (Int32.ofNat (pre + ((f2 + d2) - f2))))])) _
  refine Rch.go (fun _ kk_ => XS.iload X22.here hx rfl (hb hby at_252) rfl  kk_) ?_
  show Rch p e below (T22.setTop (mkF m 254 #[.val (.int p0), .val (.int p1), .val (.int p2), .val (.int p3), .val (.int p4), .val (.int p5), .val (.ref b1), .val (.ref b6), .val (.ref b11), .val (.int (Int32.ofNat f1)), .val (.int (Int32.ofNat (f1 + d1))), .val (.int (Int32.ofNat f2)), .val (.int (Int32.ofNat (f2 + d2))), .val (.int (Int32.ofNat zc)), .val (.int cl), .val (.ref b14), .val (.ref r1), .val (.int (Int32.ofNat (f1 + d1 - f1))), .val (.int (Int32.ofNat (f2 + d2 - f2))), .val (.int (Int32.ofNat pre)), .val (.int (Int32.ofNat (pre + (f2 + d2 - f2)))), .unset, .unset] [(.int (Int32.ofNat (pre + (f2 + d2 - f2)))), (.int (Int32.ofNat (pre + ((f2 + d2) - f2))))])) _
  refine Rch.go (fun _ kk_ => XS.icmpYes X22.here hx rfl (pc0 := 254) (pc' := 259) rfl (hb hby at_254) rfl (teq rfl).1 (by decide) (by decide) kk_) ?_
  show Rch p e below (T22.setTop (mkF m 259 #[.val (.int p0), .val (.int p1), .val (.int p2), .val (.int p3), .val (.int p4), .val (.int p5), .val (.ref b1), .val (.ref b6), .val (.ref b11), .val (.int (Int32.ofNat f1)), .val (.int (Int32.ofNat (f1 + d1))), .val (.int (Int32.ofNat f2)), .val (.int (Int32.ofNat (f2 + d2))), .val (.int (Int32.ofNat zc)), .val (.int cl), .val (.ref b14), .val (.ref r1), .val (.int (Int32.ofNat (f1 + d1 - f1))), .val (.int (Int32.ofNat (f2 + d2 - f2))), .val (.int (Int32.ofNat pre)), .val (.int (Int32.ofNat (pre + (f2 + d2 - f2)))), .unset, .unset] [])) _
  refine Rch.go (fun _ kk_ => XS.aload X22.here hx rfl (hb hby at_259) rfl rfl kk_) ?_
  show Rch p e below (T22.setTop (mkF m 261 #[.val (.int p0), .val (.int p1), .val (.int p2), .val (.int p3), .val (.int p4), .val (.int p5), .val (.ref b1), .val (.ref b6), .val (.ref b11), .val (.int (Int32.ofNat f1)), .val (.int (Int32.ofNat (f1 + d1))), .val (.int (Int32.ofNat f2)), .val (.int (Int32.ofNat (f2 + d2))), .val (.int (Int32.ofNat zc)), .val (.int cl), .val (.ref b14), .val (.ref r1), .val (.int (Int32.ofNat (f1 + d1 - f1))), .val (.int (Int32.ofNat (f2 + d2 - f2))), .val (.int (Int32.ofNat pre)), .val (.int (Int32.ofNat (pre + (f2 + d2 - f2)))), .unset, .unset] [(.ref r1)])) _
  refine Rch.go (fun _ kk_ => XS.aload X22.here hx rfl (hb hby at_261) rfl rfl kk_) ?_
  show Rch p e below (T22.setTop (mkF m 263 #[.val (.int p0), .val (.int p1), .val (.int p2), .val (.int p3), .val (.int p4), .val (.int p5), .val (.ref b1), .val (.ref b6), .val (.ref b11), .val (.int (Int32.ofNat f1)), .val (.int (Int32.ofNat (f1 + d1))), .val (.int (Int32.ofNat f2)), .val (.int (Int32.ofNat (f2 + d2))), .val (.int (Int32.ofNat zc)), .val (.int cl), .val (.ref b14), .val (.ref r1), .val (.int (Int32.ofNat (f1 + d1 - f1))), .val (.int (Int32.ofNat (f2 + d2 - f2))), .val (.int (Int32.ofNat pre)), .val (.int (Int32.ofNat (pre + (f2 + d2 - f2)))), .unset, .unset] [(.ref b1), (.ref r1)])) _
  refine Rch.go (fun _ kk_ => XS.iload X22.here hx rfl (hb hby at_263) rfl  kk_) ?_
  show Rch p e below (T22.setTop (mkF m 265 #[.val (.int p0), .val (.int p1), .val (.int p2), .val (.int p3), .val (.int p4), .val (.int p5), .val (.ref b1), .val (.ref b6), .val (.ref b11), .val (.int (Int32.ofNat f1)), .val (.int (Int32.ofNat (f1 + d1))), .val (.int (Int32.ofNat f2)), .val (.int (Int32.ofNat (f2 + d2))), .val (.int (Int32.ofNat zc)), .val (.int cl), .val (.ref b14), .val (.ref r1), .val (.int (Int32.ofNat (f1 + d1 - f1))), .val (.int (Int32.ofNat (f2 + d2 - f2))), .val (.int (Int32.ofNat pre)), .val (.int (Int32.ofNat (pre + (f2 + d2 - f2)))), .unset, .unset] [(.int (Int32.ofNat f1)), (.ref b1), (.ref r1)])) _
  refine Rch.go (fun _ kk_ => XS.iload X22.here hx rfl (hb hby at_265) rfl  kk_) ?_
  show Rch p e below (T22.setTop (mkF m 267 #[.val (.int p0), .val (.int p1), .val (.int p2), .val (.int p3), .val (.int p4), .val (.int p5), .val (.ref b1), .val (.ref b6), .val (.ref b11), .val (.int (Int32.ofNat f1)), .val (.int (Int32.ofNat (f1 + d1))), .val (.int (Int32.ofNat f2)), .val (.int (Int32.ofNat (f2 + d2))), .val (.int (Int32.ofNat zc)), .val (.int cl), .val (.ref b14), .val (.ref r1), .val (.int (Int32.ofNat (f1 + d1 - f1))), .val (.int (Int32.ofNat (f2 + d2 - f2))), .val (.int (Int32.ofNat pre)), .val (.int (Int32.ofNat (pre + (f2 + d2 - f2)))), .unset, .unset] [(.int (Int32.ofNat (f1 + d1 - f1))), (.int (Int32.ofNat f1)), (.ref b1), (.ref r1)])) _
  refine Rch.go (fun _ kk_ => XS.iload X22.here hx rfl (hb hby at_267) rfl  kk_) ?_
  show Rch p e below (T22.setTop (mkF m 269 #[.val (.int p0), .val (.int p1), .val (.int p2), .val (.int p3), .val (.int p4), .val (.int p5), .val (.ref b1), .val (.ref b6), .val (.ref b11), .val (.int (Int32.ofNat f1)), .val (.int (Int32.ofNat (f1 + d1))), .val (.int (Int32.ofNat f2)), .val (.int (Int32.ofNat (f2 + d2))), .val (.int (Int32.ofNat zc)), .val (.int cl), .val (.ref b14), .val (.ref r1), .val (.int (Int32.ofNat (f1 + d1 - f1))), .val (.int (Int32.ofNat (f2 + d2 - f2))), .val (.int (Int32.ofNat pre)), .val (.int (Int32.ofNat (pre + (f2 + d2 - f2)))), .unset, .unset] [(.int (Int32.ofNat pre)), (.int (Int32.ofNat (f1 + d1 - f1))), (.int (Int32.ofNat f1)), (.ref b1), (.ref r1)])) _
  refine Rch.go (fun _ kk_ => XS.aload X22.here hx rfl (hb hby at_269) rfl rfl kk_) ?_
  show Rch p e below (T22.setTop (mkF m 271 #[.val (.int p0), .val (.int p1), .val (.int p2), .val (.int p3), .val (.int p4), .val (.int p5), .val (.ref b1), .val (.ref b6), .val (.ref b11), .val (.int (Int32.ofNat f1)), .val (.int (Int32.ofNat (f1 + d1))), .val (.int (Int32.ofNat f2)), .val (.int (Int32.ofNat (f2 + d2))), .val (.int (Int32.ofNat zc)), .val (.int cl), .val (.ref b14), .val (.ref r1), .val (.int (Int32.ofNat (f1 + d1 - f1))), .val (.int (Int32.ofNat (f2 + d2 - f2))), .val (.int (Int32.ofNat pre)), .val (.int (Int32.ofNat (pre + (f2 + d2 - f2)))), .unset, .unset] [(.ref b6), (.int (Int32.ofNat pre)), (.int (Int32.ofNat (f1 + d1 - f1))), (.int (Int32.ofNat f1)), (.ref b1), (.ref r1)])) _
  refine Rch.go (fun _ kk_ => XS.iload X22.here hx rfl (hb hby at_271) rfl  kk_) ?_
  show Rch p e below (T22.setTop (mkF m 273 #[.val (.int p0), .val (.int p1), .val (.int p2), .val (.int p3), .val (.int p4), .val (.int p5), .val (.ref b1), .val (.ref b6), .val (.ref b11), .val (.int (Int32.ofNat f1)), .val (.int (Int32.ofNat (f1 + d1))), .val (.int (Int32.ofNat f2)), .val (.int (Int32.ofNat (f2 + d2))), .val (.int (Int32.ofNat zc)), .val (.int cl), .val (.ref b14), .val (.ref r1), .val (.int (Int32.ofNat (f1 + d1 - f1))), .val (.int (Int32.ofNat (f2 + d2 - f2))), .val (.int (Int32.ofNat pre)), .val (.int (Int32.ofNat (pre + (f2 + d2 - f2)))), .unset, .unset] [(.int (Int32.ofNat f2)), (.ref b6), (.int (Int32.ofNat pre)), (.int (Int32.ofNat (f1 + d1 - f1))), (.int (Int32.ofNat f1)), (.ref b1), (.ref r1)])) _
  refine Rch.go (fun _ kk_ => XS.iconst X22.here hx rfl (hb hby at_273) kk_) ?_
  show Rch p e below (T22.setTop (mkF m 274 #[.val (.int p0), .val (.int p1), .val (.int p2), .val (.int p3), .val (.int p4), .val (.int p5), .val (.ref b1), .val (.ref b6), .val (.ref b11), .val (.int (Int32.ofNat f1)), .val (.int (Int32.ofNat (f1 + d1))), .val (.int (Int32.ofNat f2)), .val (.int (Int32.ofNat (f2 + d2))), .val (.int (Int32.ofNat zc)), .val (.int cl), .val (.ref b14), .val (.ref r1), .val (.int (Int32.ofNat (f1 + d1 - f1))), .val (.int (Int32.ofNat (f2 + d2 - f2))), .val (.int (Int32.ofNat pre)), .val (.int (Int32.ofNat (pre + (f2 + d2 - f2)))), .unset, .unset] [(.int (0 : Int32)), (.int (Int32.ofNat f2)), (.ref b6), (.int (Int32.ofNat pre)), (.int (Int32.ofNat (f1 + d1 - f1))), (.int (Int32.ofNat f1)), (.ref b1), (.ref r1)])) _
  refine Rch.callS X22 hx hZ hown (hw _ (List.mem_of_getElem? (i := 48) rfl)) (hw _ (List.mem_of_getElem? (i := 49) rfl)) (hw _ (List.mem_of_getElem? (i := 50) rfl)) (hw _ (List.mem_of_getElem? (i := 51) rfl)) (by decide) (rm8 l Z a0 hw [] r1 b1 b6 f1 (f1 + d1 - f1) pre f2 (pre + (f2 + d2 - f2)) (fun j => if j < cp3 then fn3 j else 0) g1 g2 (0 : Int32) T22.heap n0 Zs (by omega) (by omega) (by omega) (by omega) hall B_r1 B_b1 B_b6) 0 (by decide) (by decide) (by decide) (by decide) rfl (g := (mkF m 274 #[.val (.int p0), .val (.int p1), .val (.int p2), .val (.int p3), .val (.int p4), .val (.int p5), .val (.ref b1), .val (.ref b6), .val (.ref b11), .val (.int (Int32.ofNat f1)), .val (.int (Int32.ofNat (f1 + d1))), .val (.int (Int32.ofNat f2)), .val (.int (Int32.ofNat (f2 + d2))), .val (.int (Int32.ofNat zc)), .val (.int cl), .val (.ref b14), .val (.ref r1), .val (.int (Int32.ofNat (f1 + d1 - f1))), .val (.int (Int32.ofNat (f2 + d2 - f2))), .val (.int (Int32.ofNat pre)), .val (.int (Int32.ofNat (pre + (f2 + d2 - f2)))), .unset, .unset] [(.int (0 : Int32)), (.int (Int32.ofNat f2)), (.ref b6), (.int (Int32.ofNat pre)), (.int (Int32.ofNat (f1 + d1 - f1))), (.int (Int32.ofNat f1)), (.ref b1), (.ref r1)])) rfl (by rw [hml]; rfl) [(.ref r1), (.ref b1), (.int (Int32.ofNat f1)), (.int (Int32.ofNat (f1 + d1 - f1))), (.int (Int32.ofNat pre)), (.ref b6), (.int (Int32.ofNat f2)), (.int (0 : Int32))] [] rfl (lenOf pd0_3 rfl) rfl (by show 2 * 0 + _ ≤ _; exact Nat.le_of_eq rfl) (hb hby at_274) ?_
  intro v25 T25 L25 X25 hQ25
  obtain ⟨rfl, N25q, e25⟩ := hQ25
  have N25 := Fr.app N22 N25q
  show Rch p e below (T25.setTop (mkF m 277 #[.val (.int p0), .val (.int p1), .val (.int p2), .val (.int p3), .val (.int p4), .val (.int p5), .val (.ref b1), .val (.ref b6), .val (.ref b11), .val (.int (Int32.ofNat f1)), .val (.int (Int32.ofNat (f1 + d1))), .val (.int (Int32.ofNat f2)), .val (.int (Int32.ofNat (f2 + d2))), .val (.int (Int32.ofNat zc)), .val (.int cl), .val (.ref b14), .val (.ref r1), .val (.int (Int32.ofNat (f1 + d1 - f1))), .val (.int (Int32.ofNat (f2 + d2 - f2))), .val (.int (Int32.ofNat pre)), .val (.int (Int32.ofNat (pre + (f2 + d2 - f2)))), .unset, .unset] [(.int (1 : Int32))])) _
  refine Rch.go (fun _ kk_ => XS.ifNo X25.here hx rfl (hb hby at_277) rfl ((if0 _ _).trans (feq (by decide)).1) kk_) ?_
  show Rch p e below (T25.setTop (mkF m 280 #[.val (.int p0), .val (.int p1), .val (.int p2), .val (.int p3), .val (.int p4), .val (.int p5), .val (.ref b1), .val (.ref b6), .val (.ref b11), .val (.int (Int32.ofNat f1)), .val (.int (Int32.ofNat (f1 + d1))), .val (.int (Int32.ofNat f2)), .val (.int (Int32.ofNat (f2 + d2))), .val (.int (Int32.ofNat zc)), .val (.int cl), .val (.ref b14), .val (.ref r1), .val (.int (Int32.ofNat (f1 + d1 - f1))), .val (.int (Int32.ofNat (f2 + d2 - f2))), .val (.int (Int32.ofNat pre)), .val (.int (Int32.ofNat (pre + (f2 + d2 - f2)))), .unset, .unset] [])) _
  refine Rch.go (fun _ kk_ => XS.aload X25.here hx rfl (hb hby at_280) rfl rfl kk_) ?_
  show Rch p e below (T25.setTop (mkF m 282 #[.val (.int p0), .val (.int p1), .val (.int p2), .val (.int p3), .val (.int p4), .val (.int p5), .val (.ref b1), .val (.ref b6), .val (.ref b11), .val (.int (Int32.ofNat f1)), .val (.int (Int32.ofNat (f1 + d1))), .val (.int (Int32.ofNat f2)), .val (.int (Int32.ofNat (f2 + d2))), .val (.int (Int32.ofNat zc)), .val (.int cl), .val (.ref b14), .val (.ref r1), .val (.int (Int32.ofNat (f1 + d1 - f1))), .val (.int (Int32.ofNat (f2 + d2 - f2))), .val (.int (Int32.ofNat pre)), .val (.int (Int32.ofNat (pre + (f2 + d2 - f2)))), .unset, .unset] [(.ref r1)])) _
  refine Rch.go (fun _ kk_ => XS.aload X25.here hx rfl (hb hby at_282) rfl rfl kk_) ?_
  show Rch p e below (T25.setTop (mkF m 284 #[.val (.int p0), .val (.int p1), .val (.int p2), .val (.int p3), .val (.int p4), .val (.int p5), .val (.ref b1), .val (.ref b6), .val (.ref b11), .val (.int (Int32.ofNat f1)), .val (.int (Int32.ofNat (f1 + d1))), .val (.int (Int32.ofNat f2)), .val (.int (Int32.ofNat (f2 + d2))), .val (.int (Int32.ofNat zc)), .val (.int cl), .val (.ref b14), .val (.ref r1), .val (.int (Int32.ofNat (f1 + d1 - f1))), .val (.int (Int32.ofNat (f2 + d2 - f2))), .val (.int (Int32.ofNat pre)), .val (.int (Int32.ofNat (pre + (f2 + d2 - f2)))), .unset, .unset] [(.ref b1), (.ref r1)])) _
  refine Rch.go (fun _ kk_ => XS.iload X25.here hx rfl (hb hby at_284) rfl  kk_) ?_
  show Rch p e below (T25.setTop (mkF m 286 #[.val (.int p0), .val (.int p1), .val (.int p2), .val (.int p3), .val (.int p4), .val (.int p5), .val (.ref b1), .val (.ref b6), .val (.ref b11), .val (.int (Int32.ofNat f1)), .val (.int (Int32.ofNat (f1 + d1))), .val (.int (Int32.ofNat f2)), .val (.int (Int32.ofNat (f2 + d2))), .val (.int (Int32.ofNat zc)), .val (.int cl), .val (.ref b14), .val (.ref r1), .val (.int (Int32.ofNat (f1 + d1 - f1))), .val (.int (Int32.ofNat (f2 + d2 - f2))), .val (.int (Int32.ofNat pre)), .val (.int (Int32.ofNat (pre + (f2 + d2 - f2)))), .unset, .unset] [(.int (Int32.ofNat f1)), (.ref b1), (.ref r1)])) _
  refine Rch.go (fun _ kk_ => XS.iload X25.here hx rfl (hb hby at_286) rfl  kk_) ?_
  show Rch p e below (T25.setTop (mkF m 288 #[.val (.int p0), .val (.int p1), .val (.int p2), .val (.int p3), .val (.int p4), .val (.int p5), .val (.ref b1), .val (.ref b6), .val (.ref b11), .val (.int (Int32.ofNat f1)), .val (.int (Int32.ofNat (f1 + d1))), .val (.int (Int32.ofNat f2)), .val (.int (Int32.ofNat (f2 + d2))), .val (.int (Int32.ofNat zc)), .val (.int cl), .val (.ref b14), .val (.ref r1), .val (.int (Int32.ofNat (f1 + d1 - f1))), .val (.int (Int32.ofNat (f2 + d2 - f2))), .val (.int (Int32.ofNat pre)), .val (.int (Int32.ofNat (pre + (f2 + d2 - f2)))), .unset, .unset] [(.int (Int32.ofNat (f1 + d1 - f1))), (.int (Int32.ofNat f1)), (.ref b1), (.ref r1)])) _
  refine Rch.go (fun _ kk_ => XS.iload X25.here hx rfl (hb hby at_288) rfl  kk_) ?_
  show Rch p e below (T25.setTop (mkF m 290 #[.val (.int p0), .val (.int p1), .val (.int p2), .val (.int p3), .val (.int p4), .val (.int p5), .val (.ref b1), .val (.ref b6), .val (.ref b11), .val (.int (Int32.ofNat f1)), .val (.int (Int32.ofNat (f1 + d1))), .val (.int (Int32.ofNat f2)), .val (.int (Int32.ofNat (f2 + d2))), .val (.int (Int32.ofNat zc)), .val (.int cl), .val (.ref b14), .val (.ref r1), .val (.int (Int32.ofNat (f1 + d1 - f1))), .val (.int (Int32.ofNat (f2 + d2 - f2))), .val (.int (Int32.ofNat pre)), .val (.int (Int32.ofNat (pre + (f2 + d2 - f2)))), .unset, .unset] [(.int (Int32.ofNat pre)), (.int (Int32.ofNat (f1 + d1 - f1))), (.int (Int32.ofNat f1)), (.ref b1), (.ref r1)])) _
  refine Rch.go (fun _ kk_ => XS.aload X25.here hx rfl (hb hby at_290) rfl rfl kk_) ?_
  show Rch p e below (T25.setTop (mkF m 292 #[.val (.int p0), .val (.int p1), .val (.int p2), .val (.int p3), .val (.int p4), .val (.int p5), .val (.ref b1), .val (.ref b6), .val (.ref b11), .val (.int (Int32.ofNat f1)), .val (.int (Int32.ofNat (f1 + d1))), .val (.int (Int32.ofNat f2)), .val (.int (Int32.ofNat (f2 + d2))), .val (.int (Int32.ofNat zc)), .val (.int cl), .val (.ref b14), .val (.ref r1), .val (.int (Int32.ofNat (f1 + d1 - f1))), .val (.int (Int32.ofNat (f2 + d2 - f2))), .val (.int (Int32.ofNat pre)), .val (.int (Int32.ofNat (pre + (f2 + d2 - f2)))), .unset, .unset] [(.ref b6), (.int (Int32.ofNat pre)), (.int (Int32.ofNat (f1 + d1 - f1))), (.int (Int32.ofNat f1)), (.ref b1), (.ref r1)])) _
  refine Rch.go (fun _ kk_ => XS.iload X25.here hx rfl (hb hby at_292) rfl  kk_) ?_
  show Rch p e below (T25.setTop (mkF m 294 #[.val (.int p0), .val (.int p1), .val (.int p2), .val (.int p3), .val (.int p4), .val (.int p5), .val (.ref b1), .val (.ref b6), .val (.ref b11), .val (.int (Int32.ofNat f1)), .val (.int (Int32.ofNat (f1 + d1))), .val (.int (Int32.ofNat f2)), .val (.int (Int32.ofNat (f2 + d2))), .val (.int (Int32.ofNat zc)), .val (.int cl), .val (.ref b14), .val (.ref r1), .val (.int (Int32.ofNat (f1 + d1 - f1))), .val (.int (Int32.ofNat (f2 + d2 - f2))), .val (.int (Int32.ofNat pre)), .val (.int (Int32.ofNat (pre + (f2 + d2 - f2)))), .unset, .unset] [(.int (Int32.ofNat f2)), (.ref b6), (.int (Int32.ofNat pre)), (.int (Int32.ofNat (f1 + d1 - f1))), (.int (Int32.ofNat f1)), (.ref b1), (.ref r1)])) _
  refine Rch.go (fun _ kk_ => XS.iconst X25.here hx rfl (hb hby at_294) kk_) ?_
  show Rch p e below (T25.setTop (mkF m 295 #[.val (.int p0), .val (.int p1), .val (.int p2), .val (.int p3), .val (.int p4), .val (.int p5), .val (.ref b1), .val (.ref b6), .val (.ref b11), .val (.int (Int32.ofNat f1)), .val (.int (Int32.ofNat (f1 + d1))), .val (.int (Int32.ofNat f2)), .val (.int (Int32.ofNat (f2 + d2))), .val (.int (Int32.ofNat zc)), .val (.int cl), .val (.ref b14), .val (.ref r1), .val (.int (Int32.ofNat (f1 + d1 - f1))), .val (.int (Int32.ofNat (f2 + d2 - f2))), .val (.int (Int32.ofNat pre)), .val (.int (Int32.ofNat (pre + (f2 + d2 - f2)))), .unset, .unset] [(.int (1 : Int32)), (.int (Int32.ofNat f2)), (.ref b6), (.int (Int32.ofNat pre)), (.int (Int32.ofNat (f1 + d1 - f1))), (.int (Int32.ofNat f1)), (.ref b1), (.ref r1)])) _
  refine Rch.callS X25 hx hZ hown (hw _ (List.mem_of_getElem? (i := 48) rfl)) (hw _ (List.mem_of_getElem? (i := 49) rfl)) (hw _ (List.mem_of_getElem? (i := 50) rfl)) (hw _ (List.mem_of_getElem? (i := 51) rfl)) (by decide) (rm8 l Z a0 hw [] r1 b1 b6 f1 (f1 + d1 - f1) pre f2 (pre + (f2 + d2 - f2)) (fun j => if j < cp3 then fn3 j else 0) g1 g2 (1 : Int32) T22.heap n0 Zs (by omega) (by omega) (by omega) (by omega) hall B_r1 B_b1 B_b6) 0 (by decide) (by decide) (by decide) (by decide) e25 (g := (mkF m 295 #[.val (.int p0), .val (.int p1), .val (.int p2), .val (.int p3), .val (.int p4), .val (.int p5), .val (.ref b1), .val (.ref b6), .val (.ref b11), .val (.int (Int32.ofNat f1)), .val (.int (Int32.ofNat (f1 + d1))), .val (.int (Int32.ofNat f2)), .val (.int (Int32.ofNat (f2 + d2))), .val (.int (Int32.ofNat zc)), .val (.int cl), .val (.ref b14), .val (.ref r1), .val (.int (Int32.ofNat (f1 + d1 - f1))), .val (.int (Int32.ofNat (f2 + d2 - f2))), .val (.int (Int32.ofNat pre)), .val (.int (Int32.ofNat (pre + (f2 + d2 - f2)))), .unset, .unset] [(.int (1 : Int32)), (.int (Int32.ofNat f2)), (.ref b6), (.int (Int32.ofNat pre)), (.int (Int32.ofNat (f1 + d1 - f1))), (.int (Int32.ofNat f1)), (.ref b1), (.ref r1)])) rfl (by rw [hml]; rfl) [(.ref r1), (.ref b1), (.int (Int32.ofNat f1)), (.int (Int32.ofNat (f1 + d1 - f1))), (.int (Int32.ofNat pre)), (.ref b6), (.int (Int32.ofNat f2)), (.int (1 : Int32))] [] rfl (lenOf pd0_3 rfl) rfl (by show 2 * 0 + _ ≤ _; exact Nat.le_of_eq rfl) (hb hby at_295) ?_
  intro v26 T26 L26 X26 hQ26
  obtain ⟨rfl, N26q, e26⟩ := hQ26
  have N26 := Fr.app N25 N26q
  show Rch p e below (T26.setTop (mkF m 298 #[.val (.int p0), .val (.int p1), .val (.int p2), .val (.int p3), .val (.int p4), .val (.int p5), .val (.ref b1), .val (.ref b6), .val (.ref b11), .val (.int (Int32.ofNat f1)), .val (.int (Int32.ofNat (f1 + d1))), .val (.int (Int32.ofNat f2)), .val (.int (Int32.ofNat (f2 + d2))), .val (.int (Int32.ofNat zc)), .val (.int cl), .val (.ref b14), .val (.ref r1), .val (.int (Int32.ofNat (f1 + d1 - f1))), .val (.int (Int32.ofNat (f2 + d2 - f2))), .val (.int (Int32.ofNat pre)), .val (.int (Int32.ofNat (pre + (f2 + d2 - f2)))), .unset, .unset] [(.int (1 : Int32))])) _
  refine Rch.go (fun _ kk_ => XS.ifNo X26.here hx rfl (hb hby at_298) rfl ((if0 _ _).trans (feq (by decide)).1) kk_) ?_
  show Rch p e below (T26.setTop (mkF m 301 #[.val (.int p0), .val (.int p1), .val (.int p2), .val (.int p3), .val (.int p4), .val (.int p5), .val (.ref b1), .val (.ref b6), .val (.ref b11), .val (.int (Int32.ofNat f1)), .val (.int (Int32.ofNat (f1 + d1))), .val (.int (Int32.ofNat f2)), .val (.int (Int32.ofNat (f2 + d2))), .val (.int (Int32.ofNat zc)), .val (.int cl), .val (.ref b14), .val (.ref r1), .val (.int (Int32.ofNat (f1 + d1 - f1))), .val (.int (Int32.ofNat (f2 + d2 - f2))), .val (.int (Int32.ofNat pre)), .val (.int (Int32.ofNat (pre + (f2 + d2 - f2)))), .unset, .unset] [])) _
  refine Rch.go (fun _ kk_ => XS.aload X26.here hx rfl (hb hby at_301) rfl rfl kk_) ?_
  show Rch p e below (T26.setTop (mkF m 303 #[.val (.int p0), .val (.int p1), .val (.int p2), .val (.int p3), .val (.int p4), .val (.int p5), .val (.ref b1), .val (.ref b6), .val (.ref b11), .val (.int (Int32.ofNat f1)), .val (.int (Int32.ofNat (f1 + d1))), .val (.int (Int32.ofNat f2)), .val (.int (Int32.ofNat (f2 + d2))), .val (.int (Int32.ofNat zc)), .val (.int cl), .val (.ref b14), .val (.ref r1), .val (.int (Int32.ofNat (f1 + d1 - f1))), .val (.int (Int32.ofNat (f2 + d2 - f2))), .val (.int (Int32.ofNat pre)), .val (.int (Int32.ofNat (pre + (f2 + d2 - f2)))), .unset, .unset] [(.ref r1)])) _
  refine Rch.go (fun _ kk_ => XS.aload X26.here hx rfl (hb hby at_303) rfl rfl kk_) ?_
  show Rch p e below (T26.setTop (mkF m 305 #[.val (.int p0), .val (.int p1), .val (.int p2), .val (.int p3), .val (.int p4), .val (.int p5), .val (.ref b1), .val (.ref b6), .val (.ref b11), .val (.int (Int32.ofNat f1)), .val (.int (Int32.ofNat (f1 + d1))), .val (.int (Int32.ofNat f2)), .val (.int (Int32.ofNat (f2 + d2))), .val (.int (Int32.ofNat zc)), .val (.int cl), .val (.ref b14), .val (.ref r1), .val (.int (Int32.ofNat (f1 + d1 - f1))), .val (.int (Int32.ofNat (f2 + d2 - f2))), .val (.int (Int32.ofNat pre)), .val (.int (Int32.ofNat (pre + (f2 + d2 - f2)))), .unset, .unset] [(.ref b1), (.ref r1)])) _
  refine Rch.go (fun _ kk_ => XS.iload X26.here hx rfl (hb hby at_305) rfl  kk_) ?_
  show Rch p e below (T26.setTop (mkF m 307 #[.val (.int p0), .val (.int p1), .val (.int p2), .val (.int p3), .val (.int p4), .val (.int p5), .val (.ref b1), .val (.ref b6), .val (.ref b11), .val (.int (Int32.ofNat f1)), .val (.int (Int32.ofNat (f1 + d1))), .val (.int (Int32.ofNat f2)), .val (.int (Int32.ofNat (f2 + d2))), .val (.int (Int32.ofNat zc)), .val (.int cl), .val (.ref b14), .val (.ref r1), .val (.int (Int32.ofNat (f1 + d1 - f1))), .val (.int (Int32.ofNat (f2 + d2 - f2))), .val (.int (Int32.ofNat pre)), .val (.int (Int32.ofNat (pre + (f2 + d2 - f2)))), .unset, .unset] [(.int (Int32.ofNat f1)), (.ref b1), (.ref r1)])) _
  refine Rch.go (fun _ kk_ => XS.iload X26.here hx rfl (hb hby at_307) rfl  kk_) ?_
  show Rch p e below (T26.setTop (mkF m 309 #[.val (.int p0), .val (.int p1), .val (.int p2), .val (.int p3), .val (.int p4), .val (.int p5), .val (.ref b1), .val (.ref b6), .val (.ref b11), .val (.int (Int32.ofNat f1)), .val (.int (Int32.ofNat (f1 + d1))), .val (.int (Int32.ofNat f2)), .val (.int (Int32.ofNat (f2 + d2))), .val (.int (Int32.ofNat zc)), .val (.int cl), .val (.ref b14), .val (.ref r1), .val (.int (Int32.ofNat (f1 + d1 - f1))), .val (.int (Int32.ofNat (f2 + d2 - f2))), .val (.int (Int32.ofNat pre)), .val (.int (Int32.ofNat (pre + (f2 + d2 - f2)))), .unset, .unset] [(.int (Int32.ofNat (f1 + d1 - f1))), (.int (Int32.ofNat f1)), (.ref b1), (.ref r1)])) _
  refine Rch.go (fun _ kk_ => XS.iload X26.here hx rfl (hb hby at_309) rfl  kk_) ?_
  show Rch p e below (T26.setTop (mkF m 311 #[.val (.int p0), .val (.int p1), .val (.int p2), .val (.int p3), .val (.int p4), .val (.int p5), .val (.ref b1), .val (.ref b6), .val (.ref b11), .val (.int (Int32.ofNat f1)), .val (.int (Int32.ofNat (f1 + d1))), .val (.int (Int32.ofNat f2)), .val (.int (Int32.ofNat (f2 + d2))), .val (.int (Int32.ofNat zc)), .val (.int cl), .val (.ref b14), .val (.ref r1), .val (.int (Int32.ofNat (f1 + d1 - f1))), .val (.int (Int32.ofNat (f2 + d2 - f2))), .val (.int (Int32.ofNat pre)), .val (.int (Int32.ofNat (pre + (f2 + d2 - f2)))), .unset, .unset] [(.int (Int32.ofNat pre)), (.int (Int32.ofNat (f1 + d1 - f1))), (.int (Int32.ofNat f1)), (.ref b1), (.ref r1)])) _
  refine Rch.go (fun _ kk_ => XS.aload X26.here hx rfl (hb hby at_311) rfl rfl kk_) ?_
  show Rch p e below (T26.setTop (mkF m 313 #[.val (.int p0), .val (.int p1), .val (.int p2), .val (.int p3), .val (.int p4), .val (.int p5), .val (.ref b1), .val (.ref b6), .val (.ref b11), .val (.int (Int32.ofNat f1)), .val (.int (Int32.ofNat (f1 + d1))), .val (.int (Int32.ofNat f2)), .val (.int (Int32.ofNat (f2 + d2))), .val (.int (Int32.ofNat zc)), .val (.int cl), .val (.ref b14), .val (.ref r1), .val (.int (Int32.ofNat (f1 + d1 - f1))), .val (.int (Int32.ofNat (f2 + d2 - f2))), .val (.int (Int32.ofNat pre)), .val (.int (Int32.ofNat (pre + (f2 + d2 - f2)))), .unset, .unset] [(.ref b6), (.int (Int32.ofNat pre)), (.int (Int32.ofNat (f1 + d1 - f1))), (.int (Int32.ofNat f1)), (.ref b1), (.ref r1)])) _
  refine Rch.go (fun _ kk_ => XS.iload X26.here hx rfl (hb hby at_313) rfl  kk_) ?_
  show Rch p e below (T26.setTop (mkF m 315 #[.val (.int p0), .val (.int p1), .val (.int p2), .val (.int p3), .val (.int p4), .val (.int p5), .val (.ref b1), .val (.ref b6), .val (.ref b11), .val (.int (Int32.ofNat f1)), .val (.int (Int32.ofNat (f1 + d1))), .val (.int (Int32.ofNat f2)), .val (.int (Int32.ofNat (f2 + d2))), .val (.int (Int32.ofNat zc)), .val (.int cl), .val (.ref b14), .val (.ref r1), .val (.int (Int32.ofNat (f1 + d1 - f1))), .val (.int (Int32.ofNat (f2 + d2 - f2))), .val (.int (Int32.ofNat pre)), .val (.int (Int32.ofNat (pre + (f2 + d2 - f2)))), .unset, .unset] [(.int (Int32.ofNat f2)), (.ref b6), (.int (Int32.ofNat pre)), (.int (Int32.ofNat (f1 + d1 - f1))), (.int (Int32.ofNat f1)), (.ref b1), (.ref r1)])) _
  refine Rch.go (fun _ kk_ => XS.iconst X26.here hx rfl (hb hby at_315) kk_) ?_
  show Rch p e below (T26.setTop (mkF m 316 #[.val (.int p0), .val (.int p1), .val (.int p2), .val (.int p3), .val (.int p4), .val (.int p5), .val (.ref b1), .val (.ref b6), .val (.ref b11), .val (.int (Int32.ofNat f1)), .val (.int (Int32.ofNat (f1 + d1))), .val (.int (Int32.ofNat f2)), .val (.int (Int32.ofNat (f2 + d2))), .val (.int (Int32.ofNat zc)), .val (.int cl), .val (.ref b14), .val (.ref r1), .val (.int (Int32.ofNat (f1 + d1 - f1))), .val (.int (Int32.ofNat (f2 + d2 - f2))), .val (.int (Int32.ofNat pre)), .val (.int (Int32.ofNat (pre + (f2 + d2 - f2)))), .unset, .unset] [(.int (2 : Int32)), (.int (Int32.ofNat f2)), (.ref b6), (.int (Int32.ofNat pre)), (.int (Int32.ofNat (f1 + d1 - f1))), (.int (Int32.ofNat f1)), (.ref b1), (.ref r1)])) _
  refine Rch.callS X26 hx hZ hown (hw _ (List.mem_of_getElem? (i := 48) rfl)) (hw _ (List.mem_of_getElem? (i := 49) rfl)) (hw _ (List.mem_of_getElem? (i := 50) rfl)) (hw _ (List.mem_of_getElem? (i := 51) rfl)) (by decide) (rm8 l Z a0 hw [] r1 b1 b6 f1 (f1 + d1 - f1) pre f2 (pre + (f2 + d2 - f2)) (fun j => if j < cp3 then fn3 j else 0) g1 g2 (2 : Int32) T22.heap n0 Zs (by omega) (by omega) (by omega) (by omega) hall B_r1 B_b1 B_b6) 0 (by decide) (by decide) (by decide) (by decide) e26 (g := (mkF m 316 #[.val (.int p0), .val (.int p1), .val (.int p2), .val (.int p3), .val (.int p4), .val (.int p5), .val (.ref b1), .val (.ref b6), .val (.ref b11), .val (.int (Int32.ofNat f1)), .val (.int (Int32.ofNat (f1 + d1))), .val (.int (Int32.ofNat f2)), .val (.int (Int32.ofNat (f2 + d2))), .val (.int (Int32.ofNat zc)), .val (.int cl), .val (.ref b14), .val (.ref r1), .val (.int (Int32.ofNat (f1 + d1 - f1))), .val (.int (Int32.ofNat (f2 + d2 - f2))), .val (.int (Int32.ofNat pre)), .val (.int (Int32.ofNat (pre + (f2 + d2 - f2)))), .unset, .unset] [(.int (2 : Int32)), (.int (Int32.ofNat f2)), (.ref b6), (.int (Int32.ofNat pre)), (.int (Int32.ofNat (f1 + d1 - f1))), (.int (Int32.ofNat f1)), (.ref b1), (.ref r1)])) rfl (by rw [hml]; rfl) [(.ref r1), (.ref b1), (.int (Int32.ofNat f1)), (.int (Int32.ofNat (f1 + d1 - f1))), (.int (Int32.ofNat pre)), (.ref b6), (.int (Int32.ofNat f2)), (.int (2 : Int32))] [] rfl (lenOf pd0_3 rfl) rfl (by show 2 * 0 + _ ≤ _; exact Nat.le_of_eq rfl) (hb hby at_316) ?_
  intro v27 T27 L27 X27 hQ27
  obtain ⟨rfl, N27q, e27⟩ := hQ27
  have N27 := Fr.app N26 N27q
  show Rch p e below (T27.setTop (mkF m 319 #[.val (.int p0), .val (.int p1), .val (.int p2), .val (.int p3), .val (.int p4), .val (.int p5), .val (.ref b1), .val (.ref b6), .val (.ref b11), .val (.int (Int32.ofNat f1)), .val (.int (Int32.ofNat (f1 + d1))), .val (.int (Int32.ofNat f2)), .val (.int (Int32.ofNat (f2 + d2))), .val (.int (Int32.ofNat zc)), .val (.int cl), .val (.ref b14), .val (.ref r1), .val (.int (Int32.ofNat (f1 + d1 - f1))), .val (.int (Int32.ofNat (f2 + d2 - f2))), .val (.int (Int32.ofNat pre)), .val (.int (Int32.ofNat (pre + (f2 + d2 - f2)))), .unset, .unset] [(.int (1 : Int32))])) _
  refine Rch.go (fun _ kk_ => XS.ifNo X27.here hx rfl (hb hby at_319) rfl ((if0 _ _).trans (feq (by decide)).1) kk_) ?_
  show Rch p e below (T27.setTop (mkF m 322 #[.val (.int p0), .val (.int p1), .val (.int p2), .val (.int p3), .val (.int p4), .val (.int p5), .val (.ref b1), .val (.ref b6), .val (.ref b11), .val (.int (Int32.ofNat f1)), .val (.int (Int32.ofNat (f1 + d1))), .val (.int (Int32.ofNat f2)), .val (.int (Int32.ofNat (f2 + d2))), .val (.int (Int32.ofNat zc)), .val (.int cl), .val (.ref b14), .val (.ref r1), .val (.int (Int32.ofNat (f1 + d1 - f1))), .val (.int (Int32.ofNat (f2 + d2 - f2))), .val (.int (Int32.ofNat pre)), .val (.int (Int32.ofNat (pre + (f2 + d2 - f2)))), .unset, .unset] [])) _
  refine Rch.go (fun _ kk_ => XS.aload X27.here hx rfl (hb hby at_322) rfl rfl kk_) ?_
  show Rch p e below (T27.setTop (mkF m 324 #[.val (.int p0), .val (.int p1), .val (.int p2), .val (.int p3), .val (.int p4), .val (.int p5), .val (.ref b1), .val (.ref b6), .val (.ref b11), .val (.int (Int32.ofNat f1)), .val (.int (Int32.ofNat (f1 + d1))), .val (.int (Int32.ofNat f2)), .val (.int (Int32.ofNat (f2 + d2))), .val (.int (Int32.ofNat zc)), .val (.int cl), .val (.ref b14), .val (.ref r1), .val (.int (Int32.ofNat (f1 + d1 - f1))), .val (.int (Int32.ofNat (f2 + d2 - f2))), .val (.int (Int32.ofNat pre)), .val (.int (Int32.ofNat (pre + (f2 + d2 - f2)))), .unset, .unset] [(.ref r1)])) _
  refine Rch.go (fun _ kk_ => XS.aload X27.here hx rfl (hb hby at_324) rfl rfl kk_) ?_
  show Rch p e below (T27.setTop (mkF m 326 #[.val (.int p0), .val (.int p1), .val (.int p2), .val (.int p3), .val (.int p4), .val (.int p5), .val (.ref b1), .val (.ref b6), .val (.ref b11), .val (.int (Int32.ofNat f1)), .val (.int (Int32.ofNat (f1 + d1))), .val (.int (Int32.ofNat f2)), .val (.int (Int32.ofNat (f2 + d2))), .val (.int (Int32.ofNat zc)), .val (.int cl), .val (.ref b14), .val (.ref r1), .val (.int (Int32.ofNat (f1 + d1 - f1))), .val (.int (Int32.ofNat (f2 + d2 - f2))), .val (.int (Int32.ofNat pre)), .val (.int (Int32.ofNat (pre + (f2 + d2 - f2)))), .unset, .unset] [(.ref b1), (.ref r1)])) _
  refine Rch.go (fun _ kk_ => XS.iload X27.here hx rfl (hb hby at_326) rfl  kk_) ?_
  show Rch p e below (T27.setTop (mkF m 328 #[.val (.int p0), .val (.int p1), .val (.int p2), .val (.int p3), .val (.int p4), .val (.int p5), .val (.ref b1), .val (.ref b6), .val (.ref b11), .val (.int (Int32.ofNat f1)), .val (.int (Int32.ofNat (f1 + d1))), .val (.int (Int32.ofNat f2)), .val (.int (Int32.ofNat (f2 + d2))), .val (.int (Int32.ofNat zc)), .val (.int cl), .val (.ref b14), .val (.ref r1), .val (.int (Int32.ofNat (f1 + d1 - f1))), .val (.int (Int32.ofNat (f2 + d2 - f2))), .val (.int (Int32.ofNat pre)), .val (.int (Int32.ofNat (pre + (f2 + d2 - f2)))), .unset, .unset] [(.int (Int32.ofNat f1)), (.ref b1), (.ref r1)])) _
  refine Rch.go (fun _ kk_ => XS.iload X27.here hx rfl (hb hby at_328) rfl  kk_) ?_
  show Rch p e below (T27.setTop (mkF m 330 #[.val (.int p0), .val (.int p1), .val (.int p2), .val (.int p3), .val (.int p4), .val (.int p5), .val (.ref b1), .val (.ref b6), .val (.ref b11), .val (.int (Int32.ofNat f1)), .val (.int (Int32.ofNat (f1 + d1))), .val (.int (Int32.ofNat f2)), .val (.int (Int32.ofNat (f2 + d2))), .val (.int (Int32.ofNat zc)), .val (.int cl), .val (.ref b14), .val (.ref r1), .val (.int (Int32.ofNat (f1 + d1 - f1))), .val (.int (Int32.ofNat (f2 + d2 - f2))), .val (.int (Int32.ofNat pre)), .val (.int (Int32.ofNat (pre + (f2 + d2 - f2)))), .unset, .unset] [(.int (Int32.ofNat (f1 + d1 - f1))), (.int (Int32.ofNat f1)), (.ref b1), (.ref r1)])) _
  refine Rch.go (fun _ kk_ => XS.iload X27.here hx rfl (hb hby at_330) rfl  kk_) ?_
  show Rch p e below (T27.setTop (mkF m 332 #[.val (.int p0), .val (.int p1), .val (.int p2), .val (.int p3), .val (.int p4), .val (.int p5), .val (.ref b1), .val (.ref b6), .val (.ref b11), .val (.int (Int32.ofNat f1)), .val (.int (Int32.ofNat (f1 + d1))), .val (.int (Int32.ofNat f2)), .val (.int (Int32.ofNat (f2 + d2))), .val (.int (Int32.ofNat zc)), .val (.int cl), .val (.ref b14), .val (.ref r1), .val (.int (Int32.ofNat (f1 + d1 - f1))), .val (.int (Int32.ofNat (f2 + d2 - f2))), .val (.int (Int32.ofNat pre)), .val (.int (Int32.ofNat (pre + (f2 + d2 - f2)))), .unset, .unset] [(.int (Int32.ofNat pre)), (.int (Int32.ofNat (f1 + d1 - f1))), (.int (Int32.ofNat f1)), (.ref b1), (.ref r1)])) _
  refine Rch.go (fun _ kk_ => XS.aload X27.here hx rfl (hb hby at_332) rfl rfl kk_) ?_
  show Rch p e below (T27.setTop (mkF m 334 #[.val (.int p0), .val (.int p1), .val (.int p2), .val (.int p3), .val (.int p4), .val (.int p5), .val (.ref b1), .val (.ref b6), .val (.ref b11), .val (.int (Int32.ofNat f1)), .val (.int (Int32.ofNat (f1 + d1))), .val (.int (Int32.ofNat f2)), .val (.int (Int32.ofNat (f2 + d2))), .val (.int (Int32.ofNat zc)), .val (.int cl), .val (.ref b14), .val (.ref r1), .val (.int (Int32.ofNat (f1 + d1 - f1))), .val (.int (Int32.ofNat (f2 + d2 - f2))), .val (.int (Int32.ofNat pre)), .val (.int (Int32.ofNat (pre + (f2 + d2 - f2)))), .unset, .unset] [(.ref b6), (.int (Int32.ofNat pre)), (.int (Int32.ofNat (f1 + d1 - f1))), (.int (Int32.ofNat f1)), (.ref b1), (.ref r1)])) _
  refine Rch.go (fun _ kk_ => XS.iload X27.here hx rfl (hb hby at_334) rfl  kk_) ?_
  show Rch p e below (T27.setTop (mkF m 336 #[.val (.int p0), .val (.int p1), .val (.int p2), .val (.int p3), .val (.int p4), .val (.int p5), .val (.ref b1), .val (.ref b6), .val (.ref b11), .val (.int (Int32.ofNat f1)), .val (.int (Int32.ofNat (f1 + d1))), .val (.int (Int32.ofNat f2)), .val (.int (Int32.ofNat (f2 + d2))), .val (.int (Int32.ofNat zc)), .val (.int cl), .val (.ref b14), .val (.ref r1), .val (.int (Int32.ofNat (f1 + d1 - f1))), .val (.int (Int32.ofNat (f2 + d2 - f2))), .val (.int (Int32.ofNat pre)), .val (.int (Int32.ofNat (pre + (f2 + d2 - f2)))), .unset, .unset] [(.int (Int32.ofNat f2)), (.ref b6), (.int (Int32.ofNat pre)), (.int (Int32.ofNat (f1 + d1 - f1))), (.int (Int32.ofNat f1)), (.ref b1), (.ref r1)])) _
  refine Rch.go (fun _ kk_ => XS.iconst X27.here hx rfl (hb hby at_336) kk_) ?_
  show Rch p e below (T27.setTop (mkF m 337 #[.val (.int p0), .val (.int p1), .val (.int p2), .val (.int p3), .val (.int p4), .val (.int p5), .val (.ref b1), .val (.ref b6), .val (.ref b11), .val (.int (Int32.ofNat f1)), .val (.int (Int32.ofNat (f1 + d1))), .val (.int (Int32.ofNat f2)), .val (.int (Int32.ofNat (f2 + d2))), .val (.int (Int32.ofNat zc)), .val (.int cl), .val (.ref b14), .val (.ref r1), .val (.int (Int32.ofNat (f1 + d1 - f1))), .val (.int (Int32.ofNat (f2 + d2 - f2))), .val (.int (Int32.ofNat pre)), .val (.int (Int32.ofNat (pre + (f2 + d2 - f2)))), .unset, .unset] [(.int (3 : Int32)), (.int (Int32.ofNat f2)), (.ref b6), (.int (Int32.ofNat pre)), (.int (Int32.ofNat (f1 + d1 - f1))), (.int (Int32.ofNat f1)), (.ref b1), (.ref r1)])) _
  refine Rch.callS X27 hx hZ hown (hw _ (List.mem_of_getElem? (i := 48) rfl)) (hw _ (List.mem_of_getElem? (i := 49) rfl)) (hw _ (List.mem_of_getElem? (i := 50) rfl)) (hw _ (List.mem_of_getElem? (i := 51) rfl)) (by decide) (rm8 l Z a0 hw [] r1 b1 b6 f1 (f1 + d1 - f1) pre f2 (pre + (f2 + d2 - f2)) (fun j => if j < cp3 then fn3 j else 0) g1 g2 (3 : Int32) T22.heap n0 Zs (by omega) (by omega) (by omega) (by omega) hall B_r1 B_b1 B_b6) 0 (by decide) (by decide) (by decide) (by decide) e27 (g := (mkF m 337 #[.val (.int p0), .val (.int p1), .val (.int p2), .val (.int p3), .val (.int p4), .val (.int p5), .val (.ref b1), .val (.ref b6), .val (.ref b11), .val (.int (Int32.ofNat f1)), .val (.int (Int32.ofNat (f1 + d1))), .val (.int (Int32.ofNat f2)), .val (.int (Int32.ofNat (f2 + d2))), .val (.int (Int32.ofNat zc)), .val (.int cl), .val (.ref b14), .val (.ref r1), .val (.int (Int32.ofNat (f1 + d1 - f1))), .val (.int (Int32.ofNat (f2 + d2 - f2))), .val (.int (Int32.ofNat pre)), .val (.int (Int32.ofNat (pre + (f2 + d2 - f2)))), .unset, .unset] [(.int (3 : Int32)), (.int (Int32.ofNat f2)), (.ref b6), (.int (Int32.ofNat pre)), (.int (Int32.ofNat (f1 + d1 - f1))), (.int (Int32.ofNat f1)), (.ref b1), (.ref r1)])) rfl (by rw [hml]; rfl) [(.ref r1), (.ref b1), (.int (Int32.ofNat f1)), (.int (Int32.ofNat (f1 + d1 - f1))), (.int (Int32.ofNat pre)), (.ref b6), (.int (Int32.ofNat f2)), (.int (3 : Int32))] [] rfl (lenOf pd0_3 rfl) rfl (by show 2 * 0 + _ ≤ _; exact Nat.le_of_eq rfl) (hb hby at_337) ?_
  intro v28 T28 L28 X28 hQ28
  obtain ⟨rfl, N28q, e28⟩ := hQ28
  have N28 := Fr.app N27 N28q
  show Rch p e below (T28.setTop (mkF m 340 #[.val (.int p0), .val (.int p1), .val (.int p2), .val (.int p3), .val (.int p4), .val (.int p5), .val (.ref b1), .val (.ref b6), .val (.ref b11), .val (.int (Int32.ofNat f1)), .val (.int (Int32.ofNat (f1 + d1))), .val (.int (Int32.ofNat f2)), .val (.int (Int32.ofNat (f2 + d2))), .val (.int (Int32.ofNat zc)), .val (.int cl), .val (.ref b14), .val (.ref r1), .val (.int (Int32.ofNat (f1 + d1 - f1))), .val (.int (Int32.ofNat (f2 + d2 - f2))), .val (.int (Int32.ofNat pre)), .val (.int (Int32.ofNat (pre + (f2 + d2 - f2)))), .unset, .unset] [(.int (1 : Int32))])) _
  refine Rch.go (fun _ kk_ => XS.ifNo X28.here hx rfl (hb hby at_340) rfl ((if0 _ _).trans (feq (by decide)).1) kk_) ?_
  show Rch p e below (T28.setTop (mkF m 343 #[.val (.int p0), .val (.int p1), .val (.int p2), .val (.int p3), .val (.int p4), .val (.int p5), .val (.ref b1), .val (.ref b6), .val (.ref b11), .val (.int (Int32.ofNat f1)), .val (.int (Int32.ofNat (f1 + d1))), .val (.int (Int32.ofNat f2)), .val (.int (Int32.ofNat (f2 + d2))), .val (.int (Int32.ofNat zc)), .val (.int cl), .val (.ref b14), .val (.ref r1), .val (.int (Int32.ofNat (f1 + d1 - f1))), .val (.int (Int32.ofNat (f2 + d2 - f2))), .val (.int (Int32.ofNat pre)), .val (.int (Int32.ofNat (pre + (f2 + d2 - f2)))), .unset, .unset] [])) _
  refine Rch.go (fun _ kk_ => XS.aload X28.here hx rfl (hb hby at_343) rfl rfl kk_) ?_
  show Rch p e below (T28.setTop (mkF m 345 #[.val (.int p0), .val (.int p1), .val (.int p2), .val (.int p3), .val (.int p4), .val (.int p5), .val (.ref b1), .val (.ref b6), .val (.ref b11), .val (.int (Int32.ofNat f1)), .val (.int (Int32.ofNat (f1 + d1))), .val (.int (Int32.ofNat f2)), .val (.int (Int32.ofNat (f2 + d2))), .val (.int (Int32.ofNat zc)), .val (.int cl), .val (.ref b14), .val (.ref r1), .val (.int (Int32.ofNat (f1 + d1 - f1))), .val (.int (Int32.ofNat (f2 + d2 - f2))), .val (.int (Int32.ofNat pre)), .val (.int (Int32.ofNat (pre + (f2 + d2 - f2)))), .unset, .unset] [(.ref r1)])) _
  refine Rch.go (fun _ kk_ => XS.aload X28.here hx rfl (hb hby at_345) rfl rfl kk_) ?_
  show Rch p e below (T28.setTop (mkF m 347 #[.val (.int p0), .val (.int p1), .val (.int p2), .val (.int p3), .val (.int p4), .val (.int p5), .val (.ref b1), .val (.ref b6), .val (.ref b11), .val (.int (Int32.ofNat f1)), .val (.int (Int32.ofNat (f1 + d1))), .val (.int (Int32.ofNat f2)), .val (.int (Int32.ofNat (f2 + d2))), .val (.int (Int32.ofNat zc)), .val (.int cl), .val (.ref b14), .val (.ref r1), .val (.int (Int32.ofNat (f1 + d1 - f1))), .val (.int (Int32.ofNat (f2 + d2 - f2))), .val (.int (Int32.ofNat pre)), .val (.int (Int32.ofNat (pre + (f2 + d2 - f2)))), .unset, .unset] [(.ref b1), (.ref r1)])) _
  refine Rch.go (fun _ kk_ => XS.iload X28.here hx rfl (hb hby at_347) rfl  kk_) ?_
  show Rch p e below (T28.setTop (mkF m 349 #[.val (.int p0), .val (.int p1), .val (.int p2), .val (.int p3), .val (.int p4), .val (.int p5), .val (.ref b1), .val (.ref b6), .val (.ref b11), .val (.int (Int32.ofNat f1)), .val (.int (Int32.ofNat (f1 + d1))), .val (.int (Int32.ofNat f2)), .val (.int (Int32.ofNat (f2 + d2))), .val (.int (Int32.ofNat zc)), .val (.int cl), .val (.ref b14), .val (.ref r1), .val (.int (Int32.ofNat (f1 + d1 - f1))), .val (.int (Int32.ofNat (f2 + d2 - f2))), .val (.int (Int32.ofNat pre)), .val (.int (Int32.ofNat (pre + (f2 + d2 - f2)))), .unset, .unset] [(.int (Int32.ofNat f1)), (.ref b1), (.ref r1)])) _
  refine Rch.go (fun _ kk_ => XS.iload X28.here hx rfl (hb hby at_349) rfl  kk_) ?_
  show Rch p e below (T28.setTop (mkF m 351 #[.val (.int p0), .val (.int p1), .val (.int p2), .val (.int p3), .val (.int p4), .val (.int p5), .val (.ref b1), .val (.ref b6), .val (.ref b11), .val (.int (Int32.ofNat f1)), .val (.int (Int32.ofNat (f1 + d1))), .val (.int (Int32.ofNat f2)), .val (.int (Int32.ofNat (f2 + d2))), .val (.int (Int32.ofNat zc)), .val (.int cl), .val (.ref b14), .val (.ref r1), .val (.int (Int32.ofNat (f1 + d1 - f1))), .val (.int (Int32.ofNat (f2 + d2 - f2))), .val (.int (Int32.ofNat pre)), .val (.int (Int32.ofNat (pre + (f2 + d2 - f2)))), .unset, .unset] [(.int (Int32.ofNat (f1 + d1 - f1))), (.int (Int32.ofNat f1)), (.ref b1), (.ref r1)])) _
  refine Rch.go (fun _ kk_ => XS.iload X28.here hx rfl (hb hby at_351) rfl  kk_) ?_
  show Rch p e below (T28.setTop (mkF m 353 #[.val (.int p0), .val (.int p1), .val (.int p2), .val (.int p3), .val (.int p4), .val (.int p5), .val (.ref b1), .val (.ref b6), .val (.ref b11), .val (.int (Int32.ofNat f1)), .val (.int (Int32.ofNat (f1 + d1))), .val (.int (Int32.ofNat f2)), .val (.int (Int32.ofNat (f2 + d2))), .val (.int (Int32.ofNat zc)), .val (.int cl), .val (.ref b14), .val (.ref r1), .val (.int (Int32.ofNat (f1 + d1 - f1))), .val (.int (Int32.ofNat (f2 + d2 - f2))), .val (.int (Int32.ofNat pre)), .val (.int (Int32.ofNat (pre + (f2 + d2 - f2)))), .unset, .unset] [(.int (Int32.ofNat pre)), (.int (Int32.ofNat (f1 + d1 - f1))), (.int (Int32.ofNat f1)), (.ref b1), (.ref r1)])) _
  refine Rch.go (fun _ kk_ => XS.aload X28.here hx rfl (hb hby at_353) rfl rfl kk_) ?_
  show Rch p e below (T28.setTop (mkF m 355 #[.val (.int p0), .val (.int p1), .val (.int p2), .val (.int p3), .val (.int p4), .val (.int p5), .val (.ref b1), .val (.ref b6), .val (.ref b11), .val (.int (Int32.ofNat f1)), .val (.int (Int32.ofNat (f1 + d1))), .val (.int (Int32.ofNat f2)), .val (.int (Int32.ofNat (f2 + d2))), .val (.int (Int32.ofNat zc)), .val (.int cl), .val (.ref b14), .val (.ref r1), .val (.int (Int32.ofNat (f1 + d1 - f1))), .val (.int (Int32.ofNat (f2 + d2 - f2))), .val (.int (Int32.ofNat pre)), .val (.int (Int32.ofNat (pre + (f2 + d2 - f2)))), .unset, .unset] [(.ref b6), (.int (Int32.ofNat pre)), (.int (Int32.ofNat (f1 + d1 - f1))), (.int (Int32.ofNat f1)), (.ref b1), (.ref r1)])) _
  refine Rch.go (fun _ kk_ => XS.iload X28.here hx rfl (hb hby at_355) rfl  kk_) ?_
  show Rch p e below (T28.setTop (mkF m 357 #[.val (.int p0), .val (.int p1), .val (.int p2), .val (.int p3), .val (.int p4), .val (.int p5), .val (.ref b1), .val (.ref b6), .val (.ref b11), .val (.int (Int32.ofNat f1)), .val (.int (Int32.ofNat (f1 + d1))), .val (.int (Int32.ofNat f2)), .val (.int (Int32.ofNat (f2 + d2))), .val (.int (Int32.ofNat zc)), .val (.int cl), .val (.ref b14), .val (.ref r1), .val (.int (Int32.ofNat (f1 + d1 - f1))), .val (.int (Int32.ofNat (f2 + d2 - f2))), .val (.int (Int32.ofNat pre)), .val (.int (Int32.ofNat (pre + (f2 + d2 - f2)))), .unset, .unset] [(.int (Int32.ofNat f2)), (.ref b6), (.int (Int32.ofNat pre)), (.int (Int32.ofNat (f1 + d1 - f1))), (.int (Int32.ofNat f1)), (.ref b1), (.ref r1)])) _
  refine Rch.go (fun _ kk_ => XS.iconst X28.here hx rfl (hb hby at_357) kk_) ?_
  show Rch p e below (T28.setTop (mkF m 358 #[.val (.int p0), .val (.int p1), .val (.int p2), .val (.int p3), .val (.int p4), .val (.int p5), .val (.ref b1), .val (.ref b6), .val (.ref b11), .val (.int (Int32.ofNat f1)), .val (.int (Int32.ofNat (f1 + d1))), .val (.int (Int32.ofNat f2)), .val (.int (Int32.ofNat (f2 + d2))), .val (.int (Int32.ofNat zc)), .val (.int cl), .val (.ref b14), .val (.ref r1), .val (.int (Int32.ofNat (f1 + d1 - f1))), .val (.int (Int32.ofNat (f2 + d2 - f2))), .val (.int (Int32.ofNat pre)), .val (.int (Int32.ofNat (pre + (f2 + d2 - f2)))), .unset, .unset] [(.int (4 : Int32)), (.int (Int32.ofNat f2)), (.ref b6), (.int (Int32.ofNat pre)), (.int (Int32.ofNat (f1 + d1 - f1))), (.int (Int32.ofNat f1)), (.ref b1), (.ref r1)])) _
  refine Rch.callS X28 hx hZ hown (hw _ (List.mem_of_getElem? (i := 48) rfl)) (hw _ (List.mem_of_getElem? (i := 49) rfl)) (hw _ (List.mem_of_getElem? (i := 50) rfl)) (hw _ (List.mem_of_getElem? (i := 51) rfl)) (by decide) (rm8 l Z a0 hw [] r1 b1 b6 f1 (f1 + d1 - f1) pre f2 (pre + (f2 + d2 - f2)) (fun j => if j < cp3 then fn3 j else 0) g1 g2 (4 : Int32) T22.heap n0 Zs (by omega) (by omega) (by omega) (by omega) hall B_r1 B_b1 B_b6) 0 (by decide) (by decide) (by decide) (by decide) e28 (g := (mkF m 358 #[.val (.int p0), .val (.int p1), .val (.int p2), .val (.int p3), .val (.int p4), .val (.int p5), .val (.ref b1), .val (.ref b6), .val (.ref b11), .val (.int (Int32.ofNat f1)), .val (.int (Int32.ofNat (f1 + d1))), .val (.int (Int32.ofNat f2)), .val (.int (Int32.ofNat (f2 + d2))), .val (.int (Int32.ofNat zc)), .val (.int cl), .val (.ref b14), .val (.ref r1), .val (.int (Int32.ofNat (f1 + d1 - f1))), .val (.int (Int32.ofNat (f2 + d2 - f2))), .val (.int (Int32.ofNat pre)), .val (.int (Int32.ofNat (pre + (f2 + d2 - f2)))), .unset, .unset] [(.int (4 : Int32)), (.int (Int32.ofNat f2)), (.ref b6), (.int (Int32.ofNat pre)), (.int (Int32.ofNat (f1 + d1 - f1))), (.int (Int32.ofNat f1)), (.ref b1), (.ref r1)])) rfl (by rw [hml]; rfl) [(.ref r1), (.ref b1), (.int (Int32.ofNat f1)), (.int (Int32.ofNat (f1 + d1 - f1))), (.int (Int32.ofNat pre)), (.ref b6), (.int (Int32.ofNat f2)), (.int (4 : Int32))] [] rfl (lenOf pd0_3 rfl) rfl (by show 2 * 0 + _ ≤ _; exact Nat.le_of_eq rfl) (hb hby at_358) ?_
  intro v29 T29 L29 X29 hQ29
  obtain ⟨rfl, N29q, e29⟩ := hQ29
  have N29 := Fr.app N28 N29q
  show Rch p e below (T29.setTop (mkF m 361 #[.val (.int p0), .val (.int p1), .val (.int p2), .val (.int p3), .val (.int p4), .val (.int p5), .val (.ref b1), .val (.ref b6), .val (.ref b11), .val (.int (Int32.ofNat f1)), .val (.int (Int32.ofNat (f1 + d1))), .val (.int (Int32.ofNat f2)), .val (.int (Int32.ofNat (f2 + d2))), .val (.int (Int32.ofNat zc)), .val (.int cl), .val (.ref b14), .val (.ref r1), .val (.int (Int32.ofNat (f1 + d1 - f1))), .val (.int (Int32.ofNat (f2 + d2 - f2))), .val (.int (Int32.ofNat pre)), .val (.int (Int32.ofNat (pre + (f2 + d2 - f2)))), .unset, .unset] [(.int (1 : Int32))])) _
  refine Rch.go (fun _ kk_ => XS.ifNo X29.here hx rfl (hb hby at_361) rfl ((if0 _ _).trans (feq (by decide)).1) kk_) ?_
  show Rch p e below (T29.setTop (mkF m 364 #[.val (.int p0), .val (.int p1), .val (.int p2), .val (.int p3), .val (.int p4), .val (.int p5), .val (.ref b1), .val (.ref b6), .val (.ref b11), .val (.int (Int32.ofNat f1)), .val (.int (Int32.ofNat (f1 + d1))), .val (.int (Int32.ofNat f2)), .val (.int (Int32.ofNat (f2 + d2))), .val (.int (Int32.ofNat zc)), .val (.int cl), .val (.ref b14), .val (.ref r1), .val (.int (Int32.ofNat (f1 + d1 - f1))), .val (.int (Int32.ofNat (f2 + d2 - f2))), .val (.int (Int32.ofNat pre)), .val (.int (Int32.ofNat (pre + (f2 + d2 - f2)))), .unset, .unset] [])) _
  refine Rch.go (fun _ kk_ => XS.aload X29.here hx rfl (hb hby at_364) rfl rfl kk_) ?_
  show Rch p e below (T29.setTop (mkF m 366 #[.val (.int p0), .val (.int p1), .val (.int p2), .val (.int p3), .val (.int p4), .val (.int p5), .val (.ref b1), .val (.ref b6), .val (.ref b11), .val (.int (Int32.ofNat f1)), .val (.int (Int32.ofNat (f1 + d1))), .val (.int (Int32.ofNat f2)), .val (.int (Int32.ofNat (f2 + d2))), .val (.int (Int32.ofNat zc)), .val (.int cl), .val (.ref b14), .val (.ref r1), .val (.int (Int32.ofNat (f1 + d1 - f1))), .val (.int (Int32.ofNat (f2 + d2 - f2))), .val (.int (Int32.ofNat pre)), .val (.int (Int32.ofNat (pre + (f2 + d2 - f2)))), .unset, .unset] [(.ref r1)])) _
  refine Rch.go (fun _ kk_ => XS.aload X29.here hx rfl (hb hby at_366) rfl rfl kk_) ?_
  show Rch p e below (T29.setTop (mkF m 368 #[.val (.int p0), .val (.int p1), .val (.int p2), .val (.int p3), .val (.int p4), .val (.int p5), .val (.ref b1), .val (.ref b6), .val (.ref b11), .val (.int (Int32.ofNat f1)), .val (.int (Int32.ofNat (f1 + d1))), .val (.int (Int32.ofNat f2)), .val (.int (Int32.ofNat (f2 + d2))), .val (.int (Int32.ofNat zc)), .val (.int cl), .val (.ref b14), .val (.ref r1), .val (.int (Int32.ofNat (f1 + d1 - f1))), .val (.int (Int32.ofNat (f2 + d2 - f2))), .val (.int (Int32.ofNat pre)), .val (.int (Int32.ofNat (pre + (f2 + d2 - f2)))), .unset, .unset] [(.ref b1), (.ref r1)])) _
  refine Rch.go (fun _ kk_ => XS.iload X29.here hx rfl (hb hby at_368) rfl  kk_) ?_
  show Rch p e below (T29.setTop (mkF m 370 #[.val (.int p0), .val (.int p1), .val (.int p2), .val (.int p3), .val (.int p4), .val (.int p5), .val (.ref b1), .val (.ref b6), .val (.ref b11), .val (.int (Int32.ofNat f1)), .val (.int (Int32.ofNat (f1 + d1))), .val (.int (Int32.ofNat f2)), .val (.int (Int32.ofNat (f2 + d2))), .val (.int (Int32.ofNat zc)), .val (.int cl), .val (.ref b14), .val (.ref r1), .val (.int (Int32.ofNat (f1 + d1 - f1))), .val (.int (Int32.ofNat (f2 + d2 - f2))), .val (.int (Int32.ofNat pre)), .val (.int (Int32.ofNat (pre + (f2 + d2 - f2)))), .unset, .unset] [(.int (Int32.ofNat f1)), (.ref b1), (.ref r1)])) _
  refine Rch.go (fun _ kk_ => XS.iload X29.here hx rfl (hb hby at_370) rfl  kk_) ?_
  show Rch p e below (T29.setTop (mkF m 372 #[.val (.int p0), .val (.int p1), .val (.int p2), .val (.int p3), .val (.int p4), .val (.int p5), .val (.ref b1), .val (.ref b6), .val (.ref b11), .val (.int (Int32.ofNat f1)), .val (.int (Int32.ofNat (f1 + d1))), .val (.int (Int32.ofNat f2)), .val (.int (Int32.ofNat (f2 + d2))), .val (.int (Int32.ofNat zc)), .val (.int cl), .val (.ref b14), .val (.ref r1), .val (.int (Int32.ofNat (f1 + d1 - f1))), .val (.int (Int32.ofNat (f2 + d2 - f2))), .val (.int (Int32.ofNat pre)), .val (.int (Int32.ofNat (pre + (f2 + d2 - f2)))), .unset, .unset] [(.int (Int32.ofNat (f1 + d1 - f1))), (.int (Int32.ofNat f1)), (.ref b1), (.ref r1)])) _
  refine Rch.go (fun _ kk_ => XS.iload X29.here hx rfl (hb hby at_372) rfl  kk_) ?_
  show Rch p e below (T29.setTop (mkF m 374 #[.val (.int p0), .val (.int p1), .val (.int p2), .val (.int p3), .val (.int p4), .val (.int p5), .val (.ref b1), .val (.ref b6), .val (.ref b11), .val (.int (Int32.ofNat f1)), .val (.int (Int32.ofNat (f1 + d1))), .val (.int (Int32.ofNat f2)), .val (.int (Int32.ofNat (f2 + d2))), .val (.int (Int32.ofNat zc)), .val (.int cl), .val (.ref b14), .val (.ref r1), .val (.int (Int32.ofNat (f1 + d1 - f1))), .val (.int (Int32.ofNat (f2 + d2 - f2))), .val (.int (Int32.ofNat pre)), .val (.int (Int32.ofNat (pre + (f2 + d2 - f2)))), .unset, .unset] [(.int (Int32.ofNat pre)), (.int (Int32.ofNat (f1 + d1 - f1))), (.int (Int32.ofNat f1)), (.ref b1), (.ref r1)])) _
  refine Rch.go (fun _ kk_ => XS.aload X29.here hx rfl (hb hby at_374) rfl rfl kk_) ?_
  show Rch p e below (T29.setTop (mkF m 376 #[.val (.int p0), .val (.int p1), .val (.int p2), .val (.int p3), .val (.int p4), .val (.int p5), .val (.ref b1), .val (.ref b6), .val (.ref b11), .val (.int (Int32.ofNat f1)), .val (.int (Int32.ofNat (f1 + d1))), .val (.int (Int32.ofNat f2)), .val (.int (Int32.ofNat (f2 + d2))), .val (.int (Int32.ofNat zc)), .val (.int cl), .val (.ref b14), .val (.ref r1), .val (.int (Int32.ofNat (f1 + d1 - f1))), .val (.int (Int32.ofNat (f2 + d2 - f2))), .val (.int (Int32.ofNat pre)), .val (.int (Int32.ofNat (pre + (f2 + d2 - f2)))), .unset, .unset] [(.ref b6), (.int (Int32.ofNat pre)), (.int (Int32.ofNat (f1 + d1 - f1))), (.int (Int32.ofNat f1)), (.ref b1), (.ref r1)])) _
  refine Rch.go (fun _ kk_ => XS.iload X29.here hx rfl (hb hby at_376) rfl  kk_) ?_
  show Rch p e below (T29.setTop (mkF m 378 #[.val (.int p0), .val (.int p1), .val (.int p2), .val (.int p3), .val (.int p4), .val (.int p5), .val (.ref b1), .val (.ref b6), .val (.ref b11), .val (.int (Int32.ofNat f1)), .val (.int (Int32.ofNat (f1 + d1))), .val (.int (Int32.ofNat f2)), .val (.int (Int32.ofNat (f2 + d2))), .val (.int (Int32.ofNat zc)), .val (.int cl), .val (.ref b14), .val (.ref r1), .val (.int (Int32.ofNat (f1 + d1 - f1))), .val (.int (Int32.ofNat (f2 + d2 - f2))), .val (.int (Int32.ofNat pre)), .val (.int (Int32.ofNat (pre + (f2 + d2 - f2)))), .unset, .unset] [(.int (Int32.ofNat f2)), (.ref b6), (.int (Int32.ofNat pre)), (.int (Int32.ofNat (f1 + d1 - f1))), (.int (Int32.ofNat f1)), (.ref b1), (.ref r1)])) _
  refine Rch.go (fun _ kk_ => XS.sipush X29.here hx rfl (hb hby at_378) kk_) ?_
  show Rch p e below (T29.setTop (mkF m 381 #[.val (.int p0), .val (.int p1), .val (.int p2), .val (.int p3), .val (.int p4), .val (.int p5), .val (.ref b1), .val (.ref b6), .val (.ref b11), .val (.int (Int32.ofNat f1)), .val (.int (Int32.ofNat (f1 + d1))), .val (.int (Int32.ofNat f2)), .val (.int (Int32.ofNat (f2 + d2))), .val (.int (Int32.ofNat zc)), .val (.int cl), .val (.ref b14), .val (.ref r1), .val (.int (Int32.ofNat (f1 + d1 - f1))), .val (.int (Int32.ofNat (f2 + d2 - f2))), .val (.int (Int32.ofNat pre)), .val (.int (Int32.ofNat (pre + (f2 + d2 - f2)))), .unset, .unset] [(.int (255 : Int32)), (.int (Int32.ofNat f2)), (.ref b6), (.int (Int32.ofNat pre)), (.int (Int32.ofNat (f1 + d1 - f1))), (.int (Int32.ofNat f1)), (.ref b1), (.ref r1)])) _
  refine Rch.callS X29 hx hZ hown (hw _ (List.mem_of_getElem? (i := 48) rfl)) (hw _ (List.mem_of_getElem? (i := 49) rfl)) (hw _ (List.mem_of_getElem? (i := 50) rfl)) (hw _ (List.mem_of_getElem? (i := 51) rfl)) (by decide) (rm8 l Z a0 hw [] r1 b1 b6 f1 (f1 + d1 - f1) pre f2 (pre + (f2 + d2 - f2)) (fun j => if j < cp3 then fn3 j else 0) g1 g2 (255 : Int32) T22.heap n0 Zs (by omega) (by omega) (by omega) (by omega) hall B_r1 B_b1 B_b6) 0 (by decide) (by decide) (by decide) (by decide) e29 (g := (mkF m 381 #[.val (.int p0), .val (.int p1), .val (.int p2), .val (.int p3), .val (.int p4), .val (.int p5), .val (.ref b1), .val (.ref b6), .val (.ref b11), .val (.int (Int32.ofNat f1)), .val (.int (Int32.ofNat (f1 + d1))), .val (.int (Int32.ofNat f2)), .val (.int (Int32.ofNat (f2 + d2))), .val (.int (Int32.ofNat zc)), .val (.int cl), .val (.ref b14), .val (.ref r1), .val (.int (Int32.ofNat (f1 + d1 - f1))), .val (.int (Int32.ofNat (f2 + d2 - f2))), .val (.int (Int32.ofNat pre)), .val (.int (Int32.ofNat (pre + (f2 + d2 - f2)))), .unset, .unset] [(.int (255 : Int32)), (.int (Int32.ofNat f2)), (.ref b6), (.int (Int32.ofNat pre)), (.int (Int32.ofNat (f1 + d1 - f1))), (.int (Int32.ofNat f1)), (.ref b1), (.ref r1)])) rfl (by rw [hml]; rfl) [(.ref r1), (.ref b1), (.int (Int32.ofNat f1)), (.int (Int32.ofNat (f1 + d1 - f1))), (.int (Int32.ofNat pre)), (.ref b6), (.int (Int32.ofNat f2)), (.int (255 : Int32))] [] rfl (lenOf pd0_3 rfl) rfl (by show 2 * 0 + _ ≤ _; exact Nat.le_of_eq rfl) (hb hby at_381) ?_
  intro v30 T30 L30 X30 hQ30
  obtain ⟨rfl, N30q, e30⟩ := hQ30
  have N30 := Fr.app N29 N30q
  show Rch p e below (T30.setTop (mkF m 384 #[.val (.int p0), .val (.int p1), .val (.int p2), .val (.int p3), .val (.int p4), .val (.int p5), .val (.ref b1), .val (.ref b6), .val (.ref b11), .val (.int (Int32.ofNat f1)), .val (.int (Int32.ofNat (f1 + d1))), .val (.int (Int32.ofNat f2)), .val (.int (Int32.ofNat (f2 + d2))), .val (.int (Int32.ofNat zc)), .val (.int cl), .val (.ref b14), .val (.ref r1), .val (.int (Int32.ofNat (f1 + d1 - f1))), .val (.int (Int32.ofNat (f2 + d2 - f2))), .val (.int (Int32.ofNat pre)), .val (.int (Int32.ofNat (pre + (f2 + d2 - f2)))), .unset, .unset] [(.int (1 : Int32))])) _
  refine Rch.go (fun _ kk_ => XS.ifNo X30.here hx rfl (hb hby at_384) rfl ((if0 _ _).trans (feq (by decide)).1) kk_) ?_
  show Rch p e below (T30.setTop (mkF m 387 #[.val (.int p0), .val (.int p1), .val (.int p2), .val (.int p3), .val (.int p4), .val (.int p5), .val (.ref b1), .val (.ref b6), .val (.ref b11), .val (.int (Int32.ofNat f1)), .val (.int (Int32.ofNat (f1 + d1))), .val (.int (Int32.ofNat f2)), .val (.int (Int32.ofNat (f2 + d2))), .val (.int (Int32.ofNat zc)), .val (.int cl), .val (.ref b14), .val (.ref r1), .val (.int (Int32.ofNat (f1 + d1 - f1))), .val (.int (Int32.ofNat (f2 + d2 - f2))), .val (.int (Int32.ofNat pre)), .val (.int (Int32.ofNat (pre + (f2 + d2 - f2)))), .unset, .unset] [])) _
  refine Rch.go (fun _ kk_ => XS.aload X30.here hx rfl (hb hby at_387) rfl rfl kk_) ?_
  show Rch p e below (T30.setTop (mkF m 389 #[.val (.int p0), .val (.int p1), .val (.int p2), .val (.int p3), .val (.int p4), .val (.int p5), .val (.ref b1), .val (.ref b6), .val (.ref b11), .val (.int (Int32.ofNat f1)), .val (.int (Int32.ofNat (f1 + d1))), .val (.int (Int32.ofNat f2)), .val (.int (Int32.ofNat (f2 + d2))), .val (.int (Int32.ofNat zc)), .val (.int cl), .val (.ref b14), .val (.ref r1), .val (.int (Int32.ofNat (f1 + d1 - f1))), .val (.int (Int32.ofNat (f2 + d2 - f2))), .val (.int (Int32.ofNat pre)), .val (.int (Int32.ofNat (pre + (f2 + d2 - f2)))), .unset, .unset] [(.ref r1)])) _
  refine Rch.go (fun _ kk_ => XS.aload X30.here hx rfl (hb hby at_389) rfl rfl kk_) ?_
  show Rch p e below (T30.setTop (mkF m 391 #[.val (.int p0), .val (.int p1), .val (.int p2), .val (.int p3), .val (.int p4), .val (.int p5), .val (.ref b1), .val (.ref b6), .val (.ref b11), .val (.int (Int32.ofNat f1)), .val (.int (Int32.ofNat (f1 + d1))), .val (.int (Int32.ofNat f2)), .val (.int (Int32.ofNat (f2 + d2))), .val (.int (Int32.ofNat zc)), .val (.int cl), .val (.ref b14), .val (.ref r1), .val (.int (Int32.ofNat (f1 + d1 - f1))), .val (.int (Int32.ofNat (f2 + d2 - f2))), .val (.int (Int32.ofNat pre)), .val (.int (Int32.ofNat (pre + (f2 + d2 - f2)))), .unset, .unset] [(.ref b1), (.ref r1)])) _
  refine Rch.go (fun _ kk_ => XS.iload X30.here hx rfl (hb hby at_391) rfl  kk_) ?_
  show Rch p e below (T30.setTop (mkF m 393 #[.val (.int p0), .val (.int p1), .val (.int p2), .val (.int p3), .val (.int p4), .val (.int p5), .val (.ref b1), .val (.ref b6), .val (.ref b11), .val (.int (Int32.ofNat f1)), .val (.int (Int32.ofNat (f1 + d1))), .val (.int (Int32.ofNat f2)), .val (.int (Int32.ofNat (f2 + d2))), .val (.int (Int32.ofNat zc)), .val (.int cl), .val (.ref b14), .val (.ref r1), .val (.int (Int32.ofNat (f1 + d1 - f1))), .val (.int (Int32.ofNat (f2 + d2 - f2))), .val (.int (Int32.ofNat pre)), .val (.int (Int32.ofNat (pre + (f2 + d2 - f2)))), .unset, .unset] [(.int (Int32.ofNat f1)), (.ref b1), (.ref r1)])) _
  refine Rch.go (fun _ kk_ => XS.iload X30.here hx rfl (hb hby at_393) rfl  kk_) ?_
  show Rch p e below (T30.setTop (mkF m 395 #[.val (.int p0), .val (.int p1), .val (.int p2), .val (.int p3), .val (.int p4), .val (.int p5), .val (.ref b1), .val (.ref b6), .val (.ref b11), .val (.int (Int32.ofNat f1)), .val (.int (Int32.ofNat (f1 + d1))), .val (.int (Int32.ofNat f2)), .val (.int (Int32.ofNat (f2 + d2))), .val (.int (Int32.ofNat zc)), .val (.int cl), .val (.ref b14), .val (.ref r1), .val (.int (Int32.ofNat (f1 + d1 - f1))), .val (.int (Int32.ofNat (f2 + d2 - f2))), .val (.int (Int32.ofNat pre)), .val (.int (Int32.ofNat (pre + (f2 + d2 - f2)))), .unset, .unset] [(.int (Int32.ofNat (f1 + d1 - f1))), (.int (Int32.ofNat f1)), (.ref b1), (.ref r1)])) _
  refine Rch.go (fun _ kk_ => XS.iload X30.here hx rfl (hb hby at_395) rfl  kk_) ?_
  show Rch p e below (T30.setTop (mkF m 397 #[.val (.int p0), .val (.int p1), .val (.int p2), .val (.int p3), .val (.int p4), .val (.int p5), .val (.ref b1), .val (.ref b6), .val (.ref b11), .val (.int (Int32.ofNat f1)), .val (.int (Int32.ofNat (f1 + d1))), .val (.int (Int32.ofNat f2)), .val (.int (Int32.ofNat (f2 + d2))), .val (.int (Int32.ofNat zc)), .val (.int cl), .val (.ref b14), .val (.ref r1), .val (.int (Int32.ofNat (f1 + d1 - f1))), .val (.int (Int32.ofNat (f2 + d2 - f2))), .val (.int (Int32.ofNat pre)), .val (.int (Int32.ofNat (pre + (f2 + d2 - f2)))), .unset, .unset] [(.int (Int32.ofNat pre)), (.int (Int32.ofNat (f1 + d1 - f1))), (.int (Int32.ofNat f1)), (.ref b1), (.ref r1)])) _
  refine Rch.go (fun _ kk_ => XS.aload X30.here hx rfl (hb hby at_397) rfl rfl kk_) ?_
  show Rch p e below (T30.setTop (mkF m 399 #[.val (.int p0), .val (.int p1), .val (.int p2), .val (.int p3), .val (.int p4), .val (.int p5), .val (.ref b1), .val (.ref b6), .val (.ref b11), .val (.int (Int32.ofNat f1)), .val (.int (Int32.ofNat (f1 + d1))), .val (.int (Int32.ofNat f2)), .val (.int (Int32.ofNat (f2 + d2))), .val (.int (Int32.ofNat zc)), .val (.int cl), .val (.ref b14), .val (.ref r1), .val (.int (Int32.ofNat (f1 + d1 - f1))), .val (.int (Int32.ofNat (f2 + d2 - f2))), .val (.int (Int32.ofNat pre)), .val (.int (Int32.ofNat (pre + (f2 + d2 - f2)))), .unset, .unset] [(.ref b6), (.int (Int32.ofNat pre)), (.int (Int32.ofNat (f1 + d1 - f1))), (.int (Int32.ofNat f1)), (.ref b1), (.ref r1)])) _
  refine Rch.go (fun _ kk_ => XS.iload X30.here hx rfl (hb hby at_399) rfl  kk_) ?_
  show Rch p e below (T30.setTop (mkF m 401 #[.val (.int p0), .val (.int p1), .val (.int p2), .val (.int p3), .val (.int p4), .val (.int p5), .val (.ref b1), .val (.ref b6), .val (.ref b11), .val (.int (Int32.ofNat f1)), .val (.int (Int32.ofNat (f1 + d1))), .val (.int (Int32.ofNat f2)), .val (.int (Int32.ofNat (f2 + d2))), .val (.int (Int32.ofNat zc)), .val (.int cl), .val (.ref b14), .val (.ref r1), .val (.int (Int32.ofNat (f1 + d1 - f1))), .val (.int (Int32.ofNat (f2 + d2 - f2))), .val (.int (Int32.ofNat pre)), .val (.int (Int32.ofNat (pre + (f2 + d2 - f2)))), .unset, .unset] [(.int (Int32.ofNat f2)), (.ref b6), (.int (Int32.ofNat pre)), (.int (Int32.ofNat (f1 + d1 - f1))), (.int (Int32.ofNat f1)), (.ref b1), (.ref r1)])) _
  refine Rch.go (fun _ kk_ => XS.sipush X30.here hx rfl (hb hby at_401) kk_) ?_
  show Rch p e below (T30.setTop (mkF m 404 #[.val (.int p0), .val (.int p1), .val (.int p2), .val (.int p3), .val (.int p4), .val (.int p5), .val (.ref b1), .val (.ref b6), .val (.ref b11), .val (.int (Int32.ofNat f1)), .val (.int (Int32.ofNat (f1 + d1))), .val (.int (Int32.ofNat f2)), .val (.int (Int32.ofNat (f2 + d2))), .val (.int (Int32.ofNat zc)), .val (.int cl), .val (.ref b14), .val (.ref r1), .val (.int (Int32.ofNat (f1 + d1 - f1))), .val (.int (Int32.ofNat (f2 + d2 - f2))), .val (.int (Int32.ofNat pre)), .val (.int (Int32.ofNat (pre + (f2 + d2 - f2)))), .unset, .unset] [(.int (256 : Int32)), (.int (Int32.ofNat f2)), (.ref b6), (.int (Int32.ofNat pre)), (.int (Int32.ofNat (f1 + d1 - f1))), (.int (Int32.ofNat f1)), (.ref b1), (.ref r1)])) _
  refine Rch.callS X30 hx hZ hown (hw _ (List.mem_of_getElem? (i := 48) rfl)) (hw _ (List.mem_of_getElem? (i := 49) rfl)) (hw _ (List.mem_of_getElem? (i := 50) rfl)) (hw _ (List.mem_of_getElem? (i := 51) rfl)) (by decide) (rm8 l Z a0 hw [] r1 b1 b6 f1 (f1 + d1 - f1) pre f2 (pre + (f2 + d2 - f2)) (fun j => if j < cp3 then fn3 j else 0) g1 g2 (256 : Int32) T22.heap n0 Zs (by omega) (by omega) (by omega) (by omega) hall B_r1 B_b1 B_b6) 0 (by decide) (by decide) (by decide) (by decide) e30 (g := (mkF m 404 #[.val (.int p0), .val (.int p1), .val (.int p2), .val (.int p3), .val (.int p4), .val (.int p5), .val (.ref b1), .val (.ref b6), .val (.ref b11), .val (.int (Int32.ofNat f1)), .val (.int (Int32.ofNat (f1 + d1))), .val (.int (Int32.ofNat f2)), .val (.int (Int32.ofNat (f2 + d2))), .val (.int (Int32.ofNat zc)), .val (.int cl), .val (.ref b14), .val (.ref r1), .val (.int (Int32.ofNat (f1 + d1 - f1))), .val (.int (Int32.ofNat (f2 + d2 - f2))), .val (.int (Int32.ofNat pre)), .val (.int (Int32.ofNat (pre + (f2 + d2 - f2)))), .unset, .unset] [(.int (256 : Int32)), (.int (Int32.ofNat f2)), (.ref b6), (.int (Int32.ofNat pre)), (.int (Int32.ofNat (f1 + d1 - f1))), (.int (Int32.ofNat f1)), (.ref b1), (.ref r1)])) rfl (by rw [hml]; rfl) [(.ref r1), (.ref b1), (.int (Int32.ofNat f1)), (.int (Int32.ofNat (f1 + d1 - f1))), (.int (Int32.ofNat pre)), (.ref b6), (.int (Int32.ofNat f2)), (.int (256 : Int32))] [] rfl (lenOf pd0_3 rfl) rfl (by show 2 * 0 + _ ≤ _; exact Nat.le_of_eq rfl) (hb hby at_404) ?_
  intro v31 T31 L31 X31 hQ31
  obtain ⟨rfl, N31q, e31⟩ := hQ31
  have N31 := Fr.app N30 N31q
  show Rch p e below (T31.setTop (mkF m 407 #[.val (.int p0), .val (.int p1), .val (.int p2), .val (.int p3), .val (.int p4), .val (.int p5), .val (.ref b1), .val (.ref b6), .val (.ref b11), .val (.int (Int32.ofNat f1)), .val (.int (Int32.ofNat (f1 + d1))), .val (.int (Int32.ofNat f2)), .val (.int (Int32.ofNat (f2 + d2))), .val (.int (Int32.ofNat zc)), .val (.int cl), .val (.ref b14), .val (.ref r1), .val (.int (Int32.ofNat (f1 + d1 - f1))), .val (.int (Int32.ofNat (f2 + d2 - f2))), .val (.int (Int32.ofNat pre)), .val (.int (Int32.ofNat (pre + (f2 + d2 - f2)))), .unset, .unset] [(.int (1 : Int32))])) _
  refine Rch.go (fun _ kk_ => XS.ifNo X31.here hx rfl (hb hby at_407) rfl ((if0 _ _).trans (feq (by decide)).1) kk_) ?_
  show Rch p e below (T31.setTop (mkF m 410 #[.val (.int p0), .val (.int p1), .val (.int p2), .val (.int p3), .val (.int p4), .val (.int p5), .val (.ref b1), .val (.ref b6), .val (.ref b11), .val (.int (Int32.ofNat f1)), .val (.int (Int32.ofNat (f1 + d1))), .val (.int (Int32.ofNat f2)), .val (.int (Int32.ofNat (f2 + d2))), .val (.int (Int32.ofNat zc)), .val (.int cl), .val (.ref b14), .val (.ref r1), .val (.int (Int32.ofNat (f1 + d1 - f1))), .val (.int (Int32.ofNat (f2 + d2 - f2))), .val (.int (Int32.ofNat pre)), .val (.int (Int32.ofNat (pre + (f2 + d2 - f2)))), .unset, .unset] [])) _
  refine Rch.go (fun _ kk_ => XS.aload X31.here hx rfl (hb hby at_410) rfl rfl kk_) ?_
  show Rch p e below (T31.setTop (mkF m 412 #[.val (.int p0), .val (.int p1), .val (.int p2), .val (.int p3), .val (.int p4), .val (.int p5), .val (.ref b1), .val (.ref b6), .val (.ref b11), .val (.int (Int32.ofNat f1)), .val (.int (Int32.ofNat (f1 + d1))), .val (.int (Int32.ofNat f2)), .val (.int (Int32.ofNat (f2 + d2))), .val (.int (Int32.ofNat zc)), .val (.int cl), .val (.ref b14), .val (.ref r1), .val (.int (Int32.ofNat (f1 + d1 - f1))), .val (.int (Int32.ofNat (f2 + d2 - f2))), .val (.int (Int32.ofNat pre)), .val (.int (Int32.ofNat (pre + (f2 + d2 - f2)))), .unset, .unset] [(.ref r1)])) _
  refine Rch.go (fun _ kk_ => XS.aload X31.here hx rfl (hb hby at_412) rfl rfl kk_) ?_
  show Rch p e below (T31.setTop (mkF m 414 #[.val (.int p0), .val (.int p1), .val (.int p2), .val (.int p3), .val (.int p4), .val (.int p5), .val (.ref b1), .val (.ref b6), .val (.ref b11), .val (.int (Int32.ofNat f1)), .val (.int (Int32.ofNat (f1 + d1))), .val (.int (Int32.ofNat f2)), .val (.int (Int32.ofNat (f2 + d2))), .val (.int (Int32.ofNat zc)), .val (.int cl), .val (.ref b14), .val (.ref r1), .val (.int (Int32.ofNat (f1 + d1 - f1))), .val (.int (Int32.ofNat (f2 + d2 - f2))), .val (.int (Int32.ofNat pre)), .val (.int (Int32.ofNat (pre + (f2 + d2 - f2)))), .unset, .unset] [(.ref b1), (.ref r1)])) _
  refine Rch.go (fun _ kk_ => XS.iload X31.here hx rfl (hb hby at_414) rfl  kk_) ?_
  show Rch p e below (T31.setTop (mkF m 416 #[.val (.int p0), .val (.int p1), .val (.int p2), .val (.int p3), .val (.int p4), .val (.int p5), .val (.ref b1), .val (.ref b6), .val (.ref b11), .val (.int (Int32.ofNat f1)), .val (.int (Int32.ofNat (f1 + d1))), .val (.int (Int32.ofNat f2)), .val (.int (Int32.ofNat (f2 + d2))), .val (.int (Int32.ofNat zc)), .val (.int cl), .val (.ref b14), .val (.ref r1), .val (.int (Int32.ofNat (f1 + d1 - f1))), .val (.int (Int32.ofNat (f2 + d2 - f2))), .val (.int (Int32.ofNat pre)), .val (.int (Int32.ofNat (pre + (f2 + d2 - f2)))), .unset, .unset] [(.int (Int32.ofNat f1)), (.ref b1), (.ref r1)])) _
  refine Rch.go (fun _ kk_ => XS.iload X31.here hx rfl (hb hby at_416) rfl  kk_) ?_
  show Rch p e below (T31.setTop (mkF m 418 #[.val (.int p0), .val (.int p1), .val (.int p2), .val (.int p3), .val (.int p4), .val (.int p5), .val (.ref b1), .val (.ref b6), .val (.ref b11), .val (.int (Int32.ofNat f1)), .val (.int (Int32.ofNat (f1 + d1))), .val (.int (Int32.ofNat f2)), .val (.int (Int32.ofNat (f2 + d2))), .val (.int (Int32.ofNat zc)), .val (.int cl), .val (.ref b14), .val (.ref r1), .val (.int (Int32.ofNat (f1 + d1 - f1))), .val (.int (Int32.ofNat (f2 + d2 - f2))), .val (.int (Int32.ofNat pre)), .val (.int (Int32.ofNat (pre + (f2 + d2 - f2)))), .unset, .unset] [(.int (Int32.ofNat (f1 + d1 - f1))), (.int (Int32.ofNat f1)), (.ref b1), (.ref r1)])) _
  refine Rch.go (fun _ kk_ => XS.iload X31.here hx rfl (hb hby at_418) rfl  kk_) ?_
  show Rch p e below (T31.setTop (mkF m 420 #[.val (.int p0), .val (.int p1), .val (.int p2), .val (.int p3), .val (.int p4), .val (.int p5), .val (.ref b1), .val (.ref b6), .val (.ref b11), .val (.int (Int32.ofNat f1)), .val (.int (Int32.ofNat (f1 + d1))), .val (.int (Int32.ofNat f2)), .val (.int (Int32.ofNat (f2 + d2))), .val (.int (Int32.ofNat zc)), .val (.int cl), .val (.ref b14), .val (.ref r1), .val (.int (Int32.ofNat (f1 + d1 - f1))), .val (.int (Int32.ofNat (f2 + d2 - f2))), .val (.int (Int32.ofNat pre)), .val (.int (Int32.ofNat (pre + (f2 + d2 - f2)))), .unset, .unset] [(.int (Int32.ofNat pre)), (.int (Int32.ofNat (f1 + d1 - f1))), (.int (Int32.ofNat f1)), (.ref b1), (.ref r1)])) _
  refine Rch.go (fun _ kk_ => XS.aload X31.here hx rfl (hb hby at_420) rfl rfl kk_) ?_
  show Rch p e below (T31.setTop (mkF m 422 #[.val (.int p0), .val (.int p1), .val (.int p2), .val (.int p3), .val (.int p4), .val (.int p5), .val (.ref b1), .val (.ref b6), .val (.ref b11), .val (.int (Int32.ofNat f1)), .val (.int (Int32.ofNat (f1 + d1))), .val (.int (Int32.ofNat f2)), .val (.int (Int32.ofNat (f2 + d2))), .val (.int (Int32.ofNat zc)), .val (.int cl), .val (.ref b14), .val (.ref r1), .val (.int (Int32.ofNat (f1 + d1 - f1))), .val (.int (Int32.ofNat (f2 + d2 - f2))), .val (.int (Int32.ofNat pre)), .val (.int (Int32.ofNat (pre + (f2 + d2 - f2)))), .unset, .unset] [(.ref b6), (.int (Int32.ofNat pre)), (.int (Int32.ofNat (f1 + d1 - f1))), (.int (Int32.ofNat f1)), (.ref b1), (.ref r1)])) _
  refine Rch.go (fun _ kk_ => XS.iload X31.here hx rfl (hb hby at_422) rfl  kk_) ?_
  show Rch p e below (T31.setTop (mkF m 424 #[.val (.int p0), .val (.int p1), .val (.int p2), .val (.int p3), .val (.int p4), .val (.int p5), .val (.ref b1), .val (.ref b6), .val (.ref b11), .val (.int (Int32.ofNat f1)), .val (.int (Int32.ofNat (f1 + d1))), .val (.int (Int32.ofNat f2)), .val (.int (Int32.ofNat (f2 + d2))), .val (.int (Int32.ofNat zc)), .val (.int cl), .val (.ref b14), .val (.ref r1), .val (.int (Int32.ofNat (f1 + d1 - f1))), .val (.int (Int32.ofNat (f2 + d2 - f2))), .val (.int (Int32.ofNat pre)), .val (.int (Int32.ofNat (pre + (f2 + d2 - f2)))), .unset, .unset] [(.int (Int32.ofNat f2)), (.ref b6), (.int (Int32.ofNat pre)), (.int (Int32.ofNat (f1 + d1 - f1))), (.int (Int32.ofNat f1)), (.ref b1), (.ref r1)])) _
  refine Rch.go (fun _ kk_ => XS.iload X31.here hx rfl (hb hby at_424) rfl  kk_) ?_
  show Rch p e below (T31.setTop (mkF m 426 #[.val (.int p0), .val (.int p1), .val (.int p2), .val (.int p3), .val (.int p4), .val (.int p5), .val (.ref b1), .val (.ref b6), .val (.ref b11), .val (.int (Int32.ofNat f1)), .val (.int (Int32.ofNat (f1 + d1))), .val (.int (Int32.ofNat f2)), .val (.int (Int32.ofNat (f2 + d2))), .val (.int (Int32.ofNat zc)), .val (.int cl), .val (.ref b14), .val (.ref r1), .val (.int (Int32.ofNat (f1 + d1 - f1))), .val (.int (Int32.ofNat (f2 + d2 - f2))), .val (.int (Int32.ofNat pre)), .val (.int (Int32.ofNat (pre + (f2 + d2 - f2)))), .unset, .unset] [(.int (Int32.ofNat pre)), (.int (Int32.ofNat f2)), (.ref b6), (.int (Int32.ofNat pre)), (.int (Int32.ofNat (f1 + d1 - f1))), (.int (Int32.ofNat f1)), (.ref b1), (.ref r1)])) _
  refine Rch.go (fun _ kk_ => XS.iconst X31.here hx rfl (hb hby at_426) kk_) ?_
  show Rch p e below (T31.setTop (mkF m 427 #[.val (.int p0), .val (.int p1), .val (.int p2), .val (.int p3), .val (.int p4), .val (.int p5), .val (.ref b1), .val (.ref b6), .val (.ref b11), .val (.int (Int32.ofNat f1)), .val (.int (Int32.ofNat (f1 + d1))), .val (.int (Int32.ofNat f2)), .val (.int (Int32.ofNat (f2 + d2))), .val (.int (Int32.ofNat zc)), .val (.int cl), .val (.ref b14), .val (.ref r1), .val (.int (Int32.ofNat (f1 + d1 - f1))), .val (.int (Int32.ofNat (f2 + d2 - f2))), .val (.int (Int32.ofNat pre)), .val (.int (Int32.ofNat (pre + (f2 + d2 - f2)))), .unset, .unset] [(.int (1 : Int32)), (.int (Int32.ofNat pre)), (.int (Int32.ofNat f2)), (.ref b6), (.int (Int32.ofNat pre)), (.int (Int32.ofNat (f1 + d1 - f1))), (.int (Int32.ofNat f1)), (.ref b1), (.ref r1)])) _
  refine Rch.go (fun _ kk_ => XS.isub X31.here hx rfl (hb hby at_427) rfl kk_) ?_
  show Rch p e below (T31.setTop (mkF m 428 #[.val (.int p0), .val (.int p1), .val (.int p2), .val (.int p3), .val (.int p4), .val (.int p5), .val (.ref b1), .val (.ref b6), .val (.ref b11), .val (.int (Int32.ofNat f1)), .val (.int (Int32.ofNat (f1 + d1))), .val (.int (Int32.ofNat f2)), .val (.int (Int32.ofNat (f2 + d2))), .val (.int (Int32.ofNat zc)), .val (.int cl), .val (.ref b14), .val (.ref r1), .val (.int (Int32.ofNat (f1 + d1 - f1))), .val (.int (Int32.ofNat (f2 + d2 - f2))), .val (.int (Int32.ofNat pre)), .val (.int (Int32.ofNat (pre + (f2 + d2 - f2)))), .unset, .unset] [(.int ((Int32.ofNat pre) - (1 : Int32))), (.int (Int32.ofNat f2)), (.ref b6), (.int (Int32.ofNat pre)), (.int (Int32.ofNat (f1 + d1 - f1))), (.int (Int32.ofNat f1)), (.ref b1), (.ref r1)])) _
  refine Rch.callS X31 hx hZ hown (hw _ (List.mem_of_getElem? (i := 48) rfl)) (hw _ (List.mem_of_getElem? (i := 49) rfl)) (hw _ (List.mem_of_getElem? (i := 50) rfl)) (hw _ (List.mem_of_getElem? (i := 51) rfl)) (by decide) (rm8 l Z a0 hw [] r1 b1 b6 f1 (f1 + d1 - f1) pre f2 (pre + (f2 + d2 - f2)) (fun j => if j < cp3 then fn3 j else 0) g1 g2 ((Int32.ofNat pre) - (1 : Int32)) T22.heap n0 Zs (by omega) (by omega) (by omega) (by omega) hall B_r1 B_b1 B_b6) 0 (by decide) (by decide) (by decide) (by decide) e31 (g := (mkF m 428 #[.val (.int p0), .val (.int p1), .val (.int p2), .val (.int p3), .val (.int p4), .val (.int p5), .val (.ref b1), .val (.ref b6), .val (.ref b11), .val (.int (Int32.ofNat f1)), .val (.int (Int32.ofNat (f1 + d1))), .val (.int (Int32.ofNat f2)), .val (.int (Int32.ofNat (f2 + d2))), .val (.int (Int32.ofNat zc)), .val (.int cl), .val (.ref b14), .val (.ref r1), .val (.int (Int32.ofNat (f1 + d1 - f1))), .val (.int (Int32.ofNat (f2 + d2 - f2))), .val (.int (Int32.ofNat pre)), .val (.int (Int32.ofNat (pre + (f2 + d2 - f2)))), .unset, .unset] [(.int ((Int32.ofNat pre) - (1 : Int32))), (.int (Int32.ofNat f2)), (.ref b6), (.int (Int32.ofNat pre)), (.int (Int32.ofNat (f1 + d1 - f1))), (.int (Int32.ofNat f1)), (.ref b1), (.ref r1)])) rfl (by rw [hml]; rfl) [(.ref r1), (.ref b1), (.int (Int32.ofNat f1)), (.int (Int32.ofNat (f1 + d1 - f1))), (.int (Int32.ofNat pre)), (.ref b6), (.int (Int32.ofNat f2)), (.int ((Int32.ofNat pre) - (1 : Int32)))] [] rfl (lenOf pd0_3 rfl) rfl (by show 2 * 0 + _ ≤ _; exact Nat.le_of_eq rfl) (hb hby at_428) ?_
  intro v32 T32 L32 X32 hQ32
  obtain ⟨rfl, N32q, e32⟩ := hQ32
  have N32 := Fr.app N31 N32q
  show Rch p e below (T32.setTop (mkF m 431 #[.val (.int p0), .val (.int p1), .val (.int p2), .val (.int p3), .val (.int p4), .val (.int p5), .val (.ref b1), .val (.ref b6), .val (.ref b11), .val (.int (Int32.ofNat f1)), .val (.int (Int32.ofNat (f1 + d1))), .val (.int (Int32.ofNat f2)), .val (.int (Int32.ofNat (f2 + d2))), .val (.int (Int32.ofNat zc)), .val (.int cl), .val (.ref b14), .val (.ref r1), .val (.int (Int32.ofNat (f1 + d1 - f1))), .val (.int (Int32.ofNat (f2 + d2 - f2))), .val (.int (Int32.ofNat pre)), .val (.int (Int32.ofNat (pre + (f2 + d2 - f2)))), .unset, .unset] [(.int (1 : Int32))])) _
  refine Rch.go (fun _ kk_ => XS.ifNo X32.here hx rfl (hb hby at_431) rfl ((if0 _ _).trans (feq (by decide)).1) kk_) ?_
  show Rch p e below (T32.setTop (mkF m 434 #[.val (.int p0), .val (.int p1), .val (.int p2), .val (.int p3), .val (.int p4), .val (.int p5), .val (.ref b1), .val (.ref b6), .val (.ref b11), .val (.int (Int32.ofNat f1)), .val (.int (Int32.ofNat (f1 + d1))), .val (.int (Int32.ofNat f2)), .val (.int (Int32.ofNat (f2 + d2))), .val (.int (Int32.ofNat zc)), .val (.int cl), .val (.ref b14), .val (.ref r1), .val (.int (Int32.ofNat (f1 + d1 - f1))), .val (.int (Int32.ofNat (f2 + d2 - f2))), .val (.int (Int32.ofNat pre)), .val (.int (Int32.ofNat (pre + (f2 + d2 - f2)))), .unset, .unset] [])) _
  refine Rch.go (fun _ kk_ => XS.aload X32.here hx rfl (hb hby at_434) rfl rfl kk_) ?_
  show Rch p e below (T32.setTop (mkF m 436 #[.val (.int p0), .val (.int p1), .val (.int p2), .val (.int p3), .val (.int p4), .val (.int p5), .val (.ref b1), .val (.ref b6), .val (.ref b11), .val (.int (Int32.ofNat f1)), .val (.int (Int32.ofNat (f1 + d1))), .val (.int (Int32.ofNat f2)), .val (.int (Int32.ofNat (f2 + d2))), .val (.int (Int32.ofNat zc)), .val (.int cl), .val (.ref b14), .val (.ref r1), .val (.int (Int32.ofNat (f1 + d1 - f1))), .val (.int (Int32.ofNat (f2 + d2 - f2))), .val (.int (Int32.ofNat pre)), .val (.int (Int32.ofNat (pre + (f2 + d2 - f2)))), .unset, .unset] [(.ref r1)])) _
  refine Rch.go (fun _ kk_ => XS.aload X32.here hx rfl (hb hby at_436) rfl rfl kk_) ?_
  show Rch p e below (T32.setTop (mkF m 438 #[.val (.int p0), .val (.int p1), .val (.int p2), .val (.int p3), .val (.int p4), .val (.int p5), .val (.ref b1), .val (.ref b6), .val (.ref b11), .val (.int (Int32.ofNat f1)), .val (.int (Int32.ofNat (f1 + d1))), .val (.int (Int32.ofNat f2)), .val (.int (Int32.ofNat (f2 + d2))), .val (.int (Int32.ofNat zc)), .val (.int cl), .val (.ref b14), .val (.ref r1), .val (.int (Int32.ofNat (f1 + d1 - f1))), .val (.int (Int32.ofNat (f2 + d2 - f2))), .val (.int (Int32.ofNat pre)), .val (.int (Int32.ofNat (pre + (f2 + d2 - f2)))), .unset, .unset] [(.ref b1), (.ref r1)])) _
  refine Rch.go (fun _ kk_ => XS.iload X32.here hx rfl (hb hby at_438) rfl  kk_) ?_
  show Rch p e below (T32.setTop (mkF m 440 #[.val (.int p0), .val (.int p1), .val (.int p2), .val (.int p3), .val (.int p4), .val (.int p5), .val (.ref b1), .val (.ref b6), .val (.ref b11), .val (.int (Int32.ofNat f1)), .val (.int (Int32.ofNat (f1 + d1))), .val (.int (Int32.ofNat f2)), .val (.int (Int32.ofNat (f2 + d2))), .val (.int (Int32.ofNat zc)), .val (.int cl), .val (.ref b14), .val (.ref r1), .val (.int (Int32.ofNat (f1 + d1 - f1))), .val (.int (Int32.ofNat (f2 + d2 - f2))), .val (.int (Int32.ofNat pre)), .val (.int (Int32.ofNat (pre + (f2 + d2 - f2)))), .unset, .unset] [(.int (Int32.ofNat f1)), (.ref b1), (.ref r1)])) _
  refine Rch.go (fun _ kk_ => XS.iload X32.here hx rfl (hb hby at_440) rfl  kk_) ?_
  show Rch p e below (T32.setTop (mkF m 442 #[.val (.int p0), .val (.int p1), .val (.int p2), .val (.int p3), .val (.int p4), .val (.int p5), .val (.ref b1), .val (.ref b6), .val (.ref b11), .val (.int (Int32.ofNat f1)), .val (.int (Int32.ofNat (f1 + d1))), .val (.int (Int32.ofNat f2)), .val (.int (Int32.ofNat (f2 + d2))), .val (.int (Int32.ofNat zc)), .val (.int cl), .val (.ref b14), .val (.ref r1), .val (.int (Int32.ofNat (f1 + d1 - f1))), .val (.int (Int32.ofNat (f2 + d2 - f2))), .val (.int (Int32.ofNat pre)), .val (.int (Int32.ofNat (pre + (f2 + d2 - f2)))), .unset, .unset] [(.int (Int32.ofNat (f1 + d1 - f1))), (.int (Int32.ofNat f1)), (.ref b1), (.ref r1)])) _
  refine Rch.go (fun _ kk_ => XS.iload X32.here hx rfl (hb hby at_442) rfl  kk_) ?_
  show Rch p e below (T32.setTop (mkF m 444 #[.val (.int p0), .val (.int p1), .val (.int p2), .val (.int p3), .val (.int p4), .val (.int p5), .val (.ref b1), .val (.ref b6), .val (.ref b11), .val (.int (Int32.ofNat f1)), .val (.int (Int32.ofNat (f1 + d1))), .val (.int (Int32.ofNat f2)), .val (.int (Int32.ofNat (f2 + d2))), .val (.int (Int32.ofNat zc)), .val (.int cl), .val (.ref b14), .val (.ref r1), .val (.int (Int32.ofNat (f1 + d1 - f1))), .val (.int (Int32.ofNat (f2 + d2 - f2))), .val (.int (Int32.ofNat pre)), .val (.int (Int32.ofNat (pre + (f2 + d2 - f2)))), .unset, .unset] [(.int (Int32.ofNat pre)), (.int (Int32.ofNat (f1 + d1 - f1))), (.int (Int32.ofNat f1)), (.ref b1), (.ref r1)])) _
  refine Rch.go (fun _ kk_ => XS.aload X32.here hx rfl (hb hby at_444) rfl rfl kk_) ?_
  show Rch p e below (T32.setTop (mkF m 446 #[.val (.int p0), .val (.int p1), .val (.int p2), .val (.int p3), .val (.int p4), .val (.int p5), .val (.ref b1), .val (.ref b6), .val (.ref b11), .val (.int (Int32.ofNat f1)), .val (.int (Int32.ofNat (f1 + d1))), .val (.int (Int32.ofNat f2)), .val (.int (Int32.ofNat (f2 + d2))), .val (.int (Int32.ofNat zc)), .val (.int cl), .val (.ref b14), .val (.ref r1), .val (.int (Int32.ofNat (f1 + d1 - f1))), .val (.int (Int32.ofNat (f2 + d2 - f2))), .val (.int (Int32.ofNat pre)), .val (.int (Int32.ofNat (pre + (f2 + d2 - f2)))), .unset, .unset] [(.ref b6), (.int (Int32.ofNat pre)), (.int (Int32.ofNat (f1 + d1 - f1))), (.int (Int32.ofNat f1)), (.ref b1), (.ref r1)])) _
  refine Rch.go (fun _ kk_ => XS.iload X32.here hx rfl (hb hby at_446) rfl  kk_) ?_
  show Rch p e below (T32.setTop (mkF m 448 #[.val (.int p0), .val (.int p1), .val (.int p2), .val (.int p3), .val (.int p4), .val (.int p5), .val (.ref b1), .val (.ref b6), .val (.ref b11), .val (.int (Int32.ofNat f1)), .val (.int (Int32.ofNat (f1 + d1))), .val (.int (Int32.ofNat f2)), .val (.int (Int32.ofNat (f2 + d2))), .val (.int (Int32.ofNat zc)), .val (.int cl), .val (.ref b14), .val (.ref r1), .val (.int (Int32.ofNat (f1 + d1 - f1))), .val (.int (Int32.ofNat (f2 + d2 - f2))), .val (.int (Int32.ofNat pre)), .val (.int (Int32.ofNat (pre + (f2 + d2 - f2)))), .unset, .unset] [(.int (Int32.ofNat f2)), (.ref b6), (.int (Int32.ofNat pre)), (.int (Int32.ofNat (f1 + d1 - f1))), (.int (Int32.ofNat f1)), (.ref b1), (.ref r1)])) _
  refine Rch.go (fun _ kk_ => XS.iload X32.here hx rfl (hb hby at_448) rfl  kk_) ?_
  show Rch p e below (T32.setTop (mkF m 450 #[.val (.int p0), .val (.int p1), .val (.int p2), .val (.int p3), .val (.int p4), .val (.int p5), .val (.ref b1), .val (.ref b6), .val (.ref b11), .val (.int (Int32.ofNat f1)), .val (.int (Int32.ofNat (f1 + d1))), .val (.int (Int32.ofNat f2)), .val (.int (Int32.ofNat (f2 + d2))), .val (.int (Int32.ofNat zc)), .val (.int cl), .val (.ref b14), .val (.ref r1), .val (.int (Int32.ofNat (f1 + d1 - f1))), .val (.int (Int32.ofNat (f2 + d2 - f2))), .val (.int (Int32.ofNat pre)), .val (.int (Int32.ofNat (pre + (f2 + d2 - f2)))), .unset, .unset] [(.int (Int32.ofNat pre)), (.int (Int32.ofNat f2)), (.ref b6), (.int (Int32.ofNat pre)), (.int (Int32.ofNat (f1 + d1 - f1))), (.int (Int32.ofNat f1)), (.ref b1), (.ref r1)])) _
  refine Rch.callS X32 hx hZ hown (hw _ (List.mem_of_getElem? (i := 48) rfl)) (hw _ (List.mem_of_getElem? (i := 49) rfl)) (hw _ (List.mem_of_getElem? (i := 50) rfl)) (hw _ (List.mem_of_getElem? (i := 51) rfl)) (by decide) (rm8 l Z a0 hw [] r1 b1 b6 f1 (f1 + d1 - f1) pre f2 (pre + (f2 + d2 - f2)) (fun j => if j < cp3 then fn3 j else 0) g1 g2 (Int32.ofNat pre) T22.heap n0 Zs (by omega) (by omega) (by omega) (by omega) hall B_r1 B_b1 B_b6) 0 (by decide) (by decide) (by decide) (by decide) e32 (g := (mkF m 450 #[.val (.int p0), .val (.int p1), .val (.int p2), .val (.int p3), .val (.int p4), .val (.int p5), .val (.ref b1), .val (.ref b6), .val (.ref b11), .val (.int (Int32.ofNat f1)), .val (.int (Int32.ofNat (f1 + d1))), .val (.int (Int32.ofNat f2)), .val (.int (Int32.ofNat (f2 + d2))), .val (.int (Int32.ofNat zc)), .val (.int cl), .val (.ref b14), .val (.ref r1), .val (.int (Int32.ofNat (f1 + d1 - f1))), .val (.int (Int32.ofNat (f2 + d2 - f2))), .val (.int (Int32.ofNat pre)), .val (.int (Int32.ofNat (pre + (f2 + d2 - f2)))), .unset, .unset] [(.int (Int32.ofNat pre)), (.int (Int32.ofNat f2)), (.ref b6), (.int (Int32.ofNat pre)), (.int (Int32.ofNat (f1 + d1 - f1))), (.int (Int32.ofNat f1)), (.ref b1), (.ref r1)])) rfl (by rw [hml]; rfl) [(.ref r1), (.ref b1), (.int (Int32.ofNat f1)), (.int (Int32.ofNat (f1 + d1 - f1))), (.int (Int32.ofNat pre)), (.ref b6), (.int (Int32.ofNat f2)), (.int (Int32.ofNat pre))] [] rfl (lenOf pd0_3 rfl) rfl (by show 2 * 0 + _ ≤ _; exact Nat.le_of_eq rfl) (hb hby at_450) ?_
  intro v33 T33 L33 X33 hQ33
  obtain ⟨rfl, N33q, e33⟩ := hQ33
  have N33 := Fr.app N32 N33q
  show Rch p e below (T33.setTop (mkF m 453 #[.val (.int p0), .val (.int p1), .val (.int p2), .val (.int p3), .val (.int p4), .val (.int p5), .val (.ref b1), .val (.ref b6), .val (.ref b11), .val (.int (Int32.ofNat f1)), .val (.int (Int32.ofNat (f1 + d1))), .val (.int (Int32.ofNat f2)), .val (.int (Int32.ofNat (f2 + d2))), .val (.int (Int32.ofNat zc)), .val (.int cl), .val (.ref b14), .val (.ref r1), .val (.int (Int32.ofNat (f1 + d1 - f1))), .val (.int (Int32.ofNat (f2 + d2 - f2))), .val (.int (Int32.ofNat pre)), .val (.int (Int32.ofNat (pre + (f2 + d2 - f2)))), .unset, .unset] [(.int (1 : Int32))])) _
  refine Rch.go (fun _ kk_ => XS.ifNo X33.here hx rfl (hb hby at_453) rfl ((if0 _ _).trans (feq (by decide)).1) kk_) ?_
  show Rch p e below (T33.setTop (mkF m 456 #[.val (.int p0), .val (.int p1), .val (.int p2), .val (.int p3), .val (.int p4), .val (.int p5), .val (.ref b1), .val (.ref b6), .val (.ref b11), .val (.int (Int32.ofNat f1)), .val (.int (Int32.ofNat (f1 + d1))), .val (.int (Int32.ofNat f2)), .val (.int (Int32.ofNat (f2 + d2))), .val (.int (Int32.ofNat zc)), .val (.int cl), .val (.ref b14), .val (.ref r1), .val (.int (Int32.ofNat (f1 + d1 - f1))), .val (.int (Int32.ofNat (f2 + d2 - f2))), .val (.int (Int32.ofNat pre)), .val (.int (Int32.ofNat (pre + (f2 + d2 - f2)))), .unset, .unset] [])) _
  refine Rch.go (fun _ kk_ => XS.aload X33.here hx rfl (hb hby at_456) rfl rfl kk_) ?_
  show Rch p e below (T33.setTop (mkF m 458 #[.val (.int p0), .val (.int p1), .val (.int p2), .val (.int p3), .val (.int p4), .val (.int p5), .val (.ref b1), .val (.ref b6), .val (.ref b11), .val (.int (Int32.ofNat f1)), .val (.int (Int32.ofNat (f1 + d1))), .val (.int (Int32.ofNat f2)), .val (.int (Int32.ofNat (f2 + d2))), .val (.int (Int32.ofNat zc)), .val (.int cl), .val (.ref b14), .val (.ref r1), .val (.int (Int32.ofNat (f1 + d1 - f1))), .val (.int (Int32.ofNat (f2 + d2 - f2))), .val (.int (Int32.ofNat pre)), .val (.int (Int32.ofNat (pre + (f2 + d2 - f2)))), .unset, .unset] [(.ref r1)])) _
  refine Rch.go (fun _ kk_ => XS.aload X33.here hx rfl (hb hby at_458) rfl rfl kk_) ?_
  show Rch p e below (T33.setTop (mkF m 460 #[.val (.int p0), .val (.int p1), .val (.int p2), .val (.int p3), .val (.int p4), .val (.int p5), .val (.ref b1), .val (.ref b6), .val (.ref b11), .val (.int (Int32.ofNat f1)), .val (.int (Int32.ofNat (f1 + d1))), .val (.int (Int32.ofNat f2)), .val (.int (Int32.ofNat (f2 + d2))), .val (.int (Int32.ofNat zc)), .val (.int cl), .val (.ref b14), .val (.ref r1), .val (.int (Int32.ofNat (f1 + d1 - f1))), .val (.int (Int32.ofNat (f2 + d2 - f2))), .val (.int (Int32.ofNat pre)), .val (.int (Int32.ofNat (pre + (f2 + d2 - f2)))), .unset, .unset] [(.ref b1), (.ref r1)])) _
  refine Rch.go (fun _ kk_ => XS.iload X33.here hx rfl (hb hby at_460) rfl  kk_) ?_
  show Rch p e below (T33.setTop (mkF m 462 #[.val (.int p0), .val (.int p1), .val (.int p2), .val (.int p3), .val (.int p4), .val (.int p5), .val (.ref b1), .val (.ref b6), .val (.ref b11), .val (.int (Int32.ofNat f1)), .val (.int (Int32.ofNat (f1 + d1))), .val (.int (Int32.ofNat f2)), .val (.int (Int32.ofNat (f2 + d2))), .val (.int (Int32.ofNat zc)), .val (.int cl), .val (.ref b14), .val (.ref r1), .val (.int (Int32.ofNat (f1 + d1 - f1))), .val (.int (Int32.ofNat (f2 + d2 - f2))), .val (.int (Int32.ofNat pre)), .val (.int (Int32.ofNat (pre + (f2 + d2 - f2)))), .unset, .unset] [(.int (Int32.ofNat f1)), (.ref b1), (.ref r1)])) _
  refine Rch.go (fun _ kk_ => XS.iload X33.here hx rfl (hb hby at_462) rfl  kk_) ?_
  show Rch p e below (T33.setTop (mkF m 464 #[.val (.int p0), .val (.int p1), .val (.int p2), .val (.int p3), .val (.int p4), .val (.int p5), .val (.ref b1), .val (.ref b6), .val (.ref b11), .val (.int (Int32.ofNat f1)), .val (.int (Int32.ofNat (f1 + d1))), .val (.int (Int32.ofNat f2)), .val (.int (Int32.ofNat (f2 + d2))), .val (.int (Int32.ofNat zc)), .val (.int cl), .val (.ref b14), .val (.ref r1), .val (.int (Int32.ofNat (f1 + d1 - f1))), .val (.int (Int32.ofNat (f2 + d2 - f2))), .val (.int (Int32.ofNat pre)), .val (.int (Int32.ofNat (pre + (f2 + d2 - f2)))), .unset, .unset] [(.int (Int32.ofNat (f1 + d1 - f1))), (.int (Int32.ofNat f1)), (.ref b1), (.ref r1)])) _
  refine Rch.go (fun _ kk_ => XS.iload X33.here hx rfl (hb hby at_464) rfl  kk_) ?_
  show Rch p e below (T33.setTop (mkF m 466 #[.val (.int p0), .val (.int p1), .val (.int p2), .val (.int p3), .val (.int p4), .val (.int p5), .val (.ref b1), .val (.ref b6), .val (.ref b11), .val (.int (Int32.ofNat f1)), .val (.int (Int32.ofNat (f1 + d1))), .val (.int (Int32.ofNat f2)), .val (.int (Int32.ofNat (f2 + d2))), .val (.int (Int32.ofNat zc)), .val (.int cl), .val (.ref b14), .val (.ref r1), .val (.int (Int32.ofNat (f1 + d1 - f1))), .val (.int (Int32.ofNat (f2 + d2 - f2))), .val (.int (Int32.ofNat pre)), .val (.int (Int32.ofNat (pre + (f2 + d2 - f2)))), .unset, .unset] [(.int (Int32.ofNat pre)), (.int (Int32.ofNat (f1 + d1 - f1))), (.int (Int32.ofNat f1)), (.ref b1), (.ref r1)])) _
  refine Rch.go (fun _ kk_ => XS.aload X33.here hx rfl (hb hby at_466) rfl rfl kk_) ?_
  show Rch p e below (T33.setTop (mkF m 468 #[.val (.int p0), .val (.int p1), .val (.int p2), .val (.int p3), .val (.int p4), .val (.int p5), .val (.ref b1), .val (.ref b6), .val (.ref b11), .val (.int (Int32.ofNat f1)), .val (.int (Int32.ofNat (f1 + d1))), .val (.int (Int32.ofNat f2)), .val (.int (Int32.ofNat (f2 + d2))), .val (.int (Int32.ofNat zc)), .val (.int cl), .val (.ref b14), .val (.ref r1), .val (.int (Int32.ofNat (f1 + d1 - f1))), .val (.int (Int32.ofNat (f2 + d2 - f2))), .val (.int (Int32.ofNat pre)), .val (.int (Int32.ofNat (pre + (f2 + d2 - f2)))), .unset, .unset] [(.ref b6), (.int (Int32.ofNat pre)), (.int (Int32.ofNat (f1 + d1 - f1))), (.int (Int32.ofNat f1)), (.ref b1), (.ref r1)])) _
  refine Rch.go (fun _ kk_ => XS.iload X33.here hx rfl (hb hby at_468) rfl  kk_) ?_
  show Rch p e below (T33.setTop (mkF m 470 #[.val (.int p0), .val (.int p1), .val (.int p2), .val (.int p3), .val (.int p4), .val (.int p5), .val (.ref b1), .val (.ref b6), .val (.ref b11), .val (.int (Int32.ofNat f1)), .val (.int (Int32.ofNat (f1 + d1))), .val (.int (Int32.ofNat f2)), .val (.int (Int32.ofNat (f2 + d2))), .val (.int (Int32.ofNat zc)), .val (.int cl), .val (.ref b14), .val (.ref r1), .val (.int (Int32.ofNat (f1 + d1 - f1))), .val (.int (Int32.ofNat (f2 + d2 - f2))), .val (.int (Int32.ofNat pre)), .val (.int (Int32.ofNat (pre + (f2 + d2 - f2)))), .unset, .unset] [(.int (Int32.ofNat f2)), (.ref b6), (.int (Int32.ofNat pre)), (.int (Int32.ofNat (f1 + d1 - f1))), (.int (Int32.ofNat f1)), (.ref b1), (.ref r1)])) _
  refine Rch.go (fun _ kk_ => XS.iload X33.here hx rfl (hb hby at_470) rfl  kk_) ?_
  show Rch p e below (T33.setTop (mkF m 472 #[.val (.int p0), .val (.int p1), .val (.int p2), .val (.int p3), .val (.int p4), .val (.int p5), .val (.ref b1), .val (.ref b6), .val (.ref b11), .val (.int (Int32.ofNat f1)), .val (.int (Int32.ofNat (f1 + d1))), .val (.int (Int32.ofNat f2)), .val (.int (Int32.ofNat (f2 + d2))), .val (.int (Int32.ofNat zc)), .val (.int cl), .val (.ref b14), .val (.ref r1), .val (.int (Int32.ofNat (f1 + d1 - f1))), .val (.int (Int32.ofNat (f2 + d2 - f2))), .val (.int (Int32.ofNat pre)), .val (.int (Int32.ofNat (pre + (f2 + d2 - f2)))), .unset, .unset] [(.int (Int32.ofNat pre)), (.int (Int32.ofNat f2)), (.ref b6), (.int (Int32.ofNat pre)), (.int (Int32.ofNat (f1 + d1 - f1))), (.int (Int32.ofNat f1)), (.ref b1), (.ref r1)])) _
  refine Rch.go (fun _ kk_ => XS.iconst X33.here hx rfl (hb hby at_472) kk_) ?_
  show Rch p e below (T33.setTop (mkF m 473 #[.val (.int p0), .val (.int p1), .val (.int p2), .val (.int p3), .val (.int p4), .val (.int p5), .val (.ref b1), .val (.ref b6), .val (.ref b11), .val (.int (Int32.ofNat f1)), .val (.int (Int32.ofNat (f1 + d1))), .val (.int (Int32.ofNat f2)), .val (.int (Int32.ofNat (f2 + d2))), .val (.int (Int32.ofNat zc)), .val (.int cl), .val (.ref b14), .val (.ref r1), .val (.int (Int32.ofNat (f1 + d1 - f1))), .val (.int (Int32.ofNat (f2 + d2 - f2))), .val (.int (Int32.ofNat pre)), .val (.int (Int32.ofNat (pre + (f2 + d2 - f2)))), .unset, .unset] [(.int (1 : Int32)), (.int (Int32.ofNat pre)), (.int (Int32.ofNat f2)), (.ref b6), (.int (Int32.ofNat pre)), (.int (Int32.ofNat (f1 + d1 - f1))), (.int (Int32.ofNat f1)), (.ref b1), (.ref r1)])) _
  refine Rch.go (fun _ kk_ => XS.iadd X33.here hx rfl (hb hby at_473) rfl kk_) ?_
  show Rch p e below (T33.setTop (mkF m 474 #[.val (.int p0), .val (.int p1), .val (.int p2), .val (.int p3), .val (.int p4), .val (.int p5), .val (.ref b1), .val (.ref b6), .val (.ref b11), .val (.int (Int32.ofNat f1)), .val (.int (Int32.ofNat (f1 + d1))), .val (.int (Int32.ofNat f2)), .val (.int (Int32.ofNat (f2 + d2))), .val (.int (Int32.ofNat zc)), .val (.int cl), .val (.ref b14), .val (.ref r1), .val (.int (Int32.ofNat (f1 + d1 - f1))), .val (.int (Int32.ofNat (f2 + d2 - f2))), .val (.int (Int32.ofNat pre)), .val (.int (Int32.ofNat (pre + (f2 + d2 - f2)))), .unset, .unset] [(.int ((Int32.ofNat pre) + (1 : Int32))), (.int (Int32.ofNat f2)), (.ref b6), (.int (Int32.ofNat pre)), (.int (Int32.ofNat (f1 + d1 - f1))), (.int (Int32.ofNat f1)), (.ref b1), (.ref r1)])) _
  refine Rch.callS X33 hx hZ hown (hw _ (List.mem_of_getElem? (i := 48) rfl)) (hw _ (List.mem_of_getElem? (i := 49) rfl)) (hw _ (List.mem_of_getElem? (i := 50) rfl)) (hw _ (List.mem_of_getElem? (i := 51) rfl)) (by decide) (rm8 l Z a0 hw [] r1 b1 b6 f1 (f1 + d1 - f1) pre f2 (pre + (f2 + d2 - f2)) (fun j => if j < cp3 then fn3 j else 0) g1 g2 ((Int32.ofNat pre) + (1 : Int32)) T22.heap n0 Zs (by omega) (by omega) (by omega) (by omega) hall B_r1 B_b1 B_b6) 0 (by decide) (by decide) (by decide) (by decide) e33 (g := (mkF m 474 #[.val (.int p0), .val (.int p1), .val (.int p2), .val (.int p3), .val (.int p4), .val (.int p5), .val (.ref b1), .val (.ref b6), .val (.ref b11), .val (.int (Int32.ofNat f1)), .val (.int (Int32.ofNat (f1 + d1))), .val (.int (Int32.ofNat f2)), .val (.int (Int32.ofNat (f2 + d2))), .val (.int (Int32.ofNat zc)), .val (.int cl), .val (.ref b14), .val (.ref r1), .val (.int (Int32.ofNat (f1 + d1 - f1))), .val (.int (Int32.ofNat (f2 + d2 - f2))), .val (.int (Int32.ofNat pre)), .val (.int (Int32.ofNat (pre + (f2 + d2 - f2)))), .unset, .unset] [(.int ((Int32.ofNat pre) + (1 : Int32))), (.int (Int32.ofNat f2)), (.ref b6), (.int (Int32.ofNat pre)), (.int (Int32.ofNat (f1 + d1 - f1))), (.int (Int32.ofNat f1)), (.ref b1), (.ref r1)])) rfl (by rw [hml]; rfl) [(.ref r1), (.ref b1), (.int (Int32.ofNat f1)), (.int (Int32.ofNat (f1 + d1 - f1))), (.int (Int32.ofNat pre)), (.ref b6), (.int (Int32.ofNat f2)), (.int ((Int32.ofNat pre) + (1 : Int32)))] [] rfl (lenOf pd0_3 rfl) rfl (by show 2 * 0 + _ ≤ _; exact Nat.le_of_eq rfl) (hb hby at_474) ?_
  intro v34 T34 L34 X34 hQ34
  obtain ⟨rfl, N34q, e34⟩ := hQ34
  have N34 := Fr.app N33 N34q
  show Rch p e below (T34.setTop (mkF m 477 #[.val (.int p0), .val (.int p1), .val (.int p2), .val (.int p3), .val (.int p4), .val (.int p5), .val (.ref b1), .val (.ref b6), .val (.ref b11), .val (.int (Int32.ofNat f1)), .val (.int (Int32.ofNat (f1 + d1))), .val (.int (Int32.ofNat f2)), .val (.int (Int32.ofNat (f2 + d2))), .val (.int (Int32.ofNat zc)), .val (.int cl), .val (.ref b14), .val (.ref r1), .val (.int (Int32.ofNat (f1 + d1 - f1))), .val (.int (Int32.ofNat (f2 + d2 - f2))), .val (.int (Int32.ofNat pre)), .val (.int (Int32.ofNat (pre + (f2 + d2 - f2)))), .unset, .unset] [(.int (1 : Int32))])) _
  refine Rch.go (fun _ kk_ => XS.ifNo X34.here hx rfl (hb hby at_477) rfl ((if0 _ _).trans (feq (by decide)).1) kk_) ?_
  show Rch p e below (T34.setTop (mkF m 480 #[.val (.int p0), .val (.int p1), .val (.int p2), .val (.int p3), .val (.int p4), .val (.int p5), .val (.ref b1), .val (.ref b6), .val (.ref b11), .val (.int (Int32.ofNat f1)), .val (.int (Int32.ofNat (f1 + d1))), .val (.int (Int32.ofNat f2)), .val (.int (Int32.ofNat (f2 + d2))), .val (.int (Int32.ofNat zc)), .val (.int cl), .val (.ref b14), .val (.ref r1), .val (.int (Int32.ofNat (f1 + d1 - f1))), .val (.int (Int32.ofNat (f2 + d2 - f2))), .val (.int (Int32.ofNat pre)), .val (.int (Int32.ofNat (pre + (f2 + d2 - f2)))), .unset, .unset] [])) _
  refine Rch.go (fun _ kk_ => XS.aload X34.here hx rfl (hb hby at_480) rfl rfl kk_) ?_
  show Rch p e below (T34.setTop (mkF m 482 #[.val (.int p0), .val (.int p1), .val (.int p2), .val (.int p3), .val (.int p4), .val (.int p5), .val (.ref b1), .val (.ref b6), .val (.ref b11), .val (.int (Int32.ofNat f1)), .val (.int (Int32.ofNat (f1 + d1))), .val (.int (Int32.ofNat f2)), .val (.int (Int32.ofNat (f2 + d2))), .val (.int (Int32.ofNat zc)), .val (.int cl), .val (.ref b14), .val (.ref r1), .val (.int (Int32.ofNat (f1 + d1 - f1))), .val (.int (Int32.ofNat (f2 + d2 - f2))), .val (.int (Int32.ofNat pre)), .val (.int (Int32.ofNat (pre + (f2 + d2 - f2)))), .unset, .unset] [(.ref r1)])) _
  refine Rch.go (fun _ kk_ => XS.aload X34.here hx rfl (hb hby at_482) rfl rfl kk_) ?_
  show Rch p e below (T34.setTop (mkF m 484 #[.val (.int p0), .val (.int p1), .val (.int p2), .val (.int p3), .val (.int p4), .val (.int p5), .val (.ref b1), .val (.ref b6), .val (.ref b11), .val (.int (Int32.ofNat f1)), .val (.int (Int32.ofNat (f1 + d1))), .val (.int (Int32.ofNat f2)), .val (.int (Int32.ofNat (f2 + d2))), .val (.int (Int32.ofNat zc)), .val (.int cl), .val (.ref b14), .val (.ref r1), .val (.int (Int32.ofNat (f1 + d1 - f1))), .val (.int (Int32.ofNat (f2 + d2 - f2))), .val (.int (Int32.ofNat pre)), .val (.int (Int32.ofNat (pre + (f2 + d2 - f2)))), .unset, .unset] [(.ref b1), (.ref r1)])) _
  refine Rch.go (fun _ kk_ => XS.iload X34.here hx rfl (hb hby at_484) rfl  kk_) ?_
  show Rch p e below (T34.setTop (mkF m 486 #[.val (.int p0), .val (.int p1), .val (.int p2), .val (.int p3), .val (.int p4), .val (.int p5), .val (.ref b1), .val (.ref b6), .val (.ref b11), .val (.int (Int32.ofNat f1)), .val (.int (Int32.ofNat (f1 + d1))), .val (.int (Int32.ofNat f2)), .val (.int (Int32.ofNat (f2 + d2))), .val (.int (Int32.ofNat zc)), .val (.int cl), .val (.ref b14), .val (.ref r1), .val (.int (Int32.ofNat (f1 + d1 - f1))), .val (.int (Int32.ofNat (f2 + d2 - f2))), .val (.int (Int32.ofNat pre)), .val (.int (Int32.ofNat (pre + (f2 + d2 - f2)))), .unset, .unset] [(.int (Int32.ofNat f1)), (.ref b1), (.ref r1)])) _
  refine Rch.go (fun _ kk_ => XS.iload X34.here hx rfl (hb hby at_486) rfl  kk_) ?_
  show Rch p e below (T34.setTop (mkF m 488 #[.val (.int p0), .val (.int p1), .val (.int p2), .val (.int p3), .val (.int p4), .val (.int p5), .val (.ref b1), .val (.ref b6), .val (.ref b11), .val (.int (Int32.ofNat f1)), .val (.int (Int32.ofNat (f1 + d1))), .val (.int (Int32.ofNat f2)), .val (.int (Int32.ofNat (f2 + d2))), .val (.int (Int32.ofNat zc)), .val (.int cl), .val (.ref b14), .val (.ref r1), .val (.int (Int32.ofNat (f1 + d1 - f1))), .val (.int (Int32.ofNat (f2 + d2 - f2))), .val (.int (Int32.ofNat pre)), .val (.int (Int32.ofNat (pre + (f2 + d2 - f2)))), .unset, .unset] [(.int (Int32.ofNat (f1 + d1 - f1))), (.int (Int32.ofNat f1)), (.ref b1), (.ref r1)])) _
  refine Rch.go (fun _ kk_ => XS.iload X34.here hx rfl (hb hby at_488) rfl  kk_) ?_
  show Rch p e below (T34.setTop (mkF m 490 #[.val (.int p0), .val (.int p1), .val (.int p2), .val (.int p3), .val (.int p4), .val (.int p5), .val (.ref b1), .val (.ref b6), .val (.ref b11), .val (.int (Int32.ofNat f1)), .val (.int (Int32.ofNat (f1 + d1))), .val (.int (Int32.ofNat f2)), .val (.int (Int32.ofNat (f2 + d2))), .val (.int (Int32.ofNat zc)), .val (.int cl), .val (.ref b14), .val (.ref r1), .val (.int (Int32.ofNat (f1 + d1 - f1))), .val (.int (Int32.ofNat (f2 + d2 - f2))), .val (.int (Int32.ofNat pre)), .val (.int (Int32.ofNat (pre + (f2 + d2 - f2)))), .unset, .unset] [(.int (Int32.ofNat pre)), (.int (Int32.ofNat (f1 + d1 - f1))), (.int (Int32.ofNat f1)), (.ref b1), (.ref r1)])) _
  refine Rch.go (fun _ kk_ => XS.aload X34.here hx rfl (hb hby at_490) rfl rfl kk_) ?_
  show Rch p e below (T34.setTop (mkF m 492 #[.val (.int p0), .val (.int p1), .val (.int p2), .val (.int p3), .val (.int p4), .val (.int p5), .val (.ref b1), .val (.ref b6), .val (.ref b11), .val (.int (Int32.ofNat f1)), .val (.int (Int32.ofNat (f1 + d1))), .val (.int (Int32.ofNat f2)), .val (.int (Int32.ofNat (f2 + d2))), .val (.int (Int32.ofNat zc)), .val (.int cl), .val (.ref b14), .val (.ref r1), .val (.int (Int32.ofNat (f1 + d1 - f1))), .val (.int (Int32.ofNat (f2 + d2 - f2))), .val (.int (Int32.ofNat pre)), .val (.int (Int32.ofNat (pre + (f2 + d2 - f2)))), .unset, .unset] [(.ref b6), (.int (Int32.ofNat pre)), (.int (Int32.ofNat (f1 + d1 - f1))), (.int (Int32.ofNat f1)), (.ref b1), (.ref r1)])) _
  refine Rch.go (fun _ kk_ => XS.iload X34.here hx rfl (hb hby at_492) rfl  kk_) ?_
  show Rch p e below (T34.setTop (mkF m 494 #[.val (.int p0), .val (.int p1), .val (.int p2), .val (.int p3), .val (.int p4), .val (.int p5), .val (.ref b1), .val (.ref b6), .val (.ref b11), .val (.int (Int32.ofNat f1)), .val (.int (Int32.ofNat (f1 + d1))), .val (.int (Int32.ofNat f2)), .val (.int (Int32.ofNat (f2 + d2))), .val (.int (Int32.ofNat zc)), .val (.int cl), .val (.ref b14), .val (.ref r1), .val (.int (Int32.ofNat (f1 + d1 - f1))), .val (.int (Int32.ofNat (f2 + d2 - f2))), .val (.int (Int32.ofNat pre)), .val (.int (Int32.ofNat (pre + (f2 + d2 - f2)))), .unset, .unset] [(.int (Int32.ofNat f2)), (.ref b6), (.int (Int32.ofNat pre)), (.int (Int32.ofNat (f1 + d1 - f1))), (.int (Int32.ofNat f1)), (.ref b1), (.ref r1)])) _
  refine Rch.go (fun _ kk_ => XS.iload X34.here hx rfl (hb hby at_494) rfl  kk_) ?_
  show Rch p e below (T34.setTop (mkF m 496 #[.val (.int p0), .val (.int p1), .val (.int p2), .val (.int p3), .val (.int p4), .val (.int p5), .val (.ref b1), .val (.ref b6), .val (.ref b11), .val (.int (Int32.ofNat f1)), .val (.int (Int32.ofNat (f1 + d1))), .val (.int (Int32.ofNat f2)), .val (.int (Int32.ofNat (f2 + d2))), .val (.int (Int32.ofNat zc)), .val (.int cl), .val (.ref b14), .val (.ref r1), .val (.int (Int32.ofNat (f1 + d1 - f1))), .val (.int (Int32.ofNat (f2 + d2 - f2))), .val (.int (Int32.ofNat pre)), .val (.int (Int32.ofNat (pre + (f2 + d2 - f2)))), .unset, .unset] [(.int (Int32.ofNat pre)), (.int (Int32.ofNat f2)), (.ref b6), (.int (Int32.ofNat pre)), (.int (Int32.ofNat (f1 + d1 - f1))), (.int (Int32.ofNat f1)), (.ref b1), (.ref r1)])) _
  refine Rch.go (fun _ kk_ => XS.iconst X34.here hx rfl (hb hby at_496) kk_) ?_
  show Rch p e below (T34.setTop (mkF m 497 #[.val (.int p0), .val (.int p1), .val (.int p2), .val (.int p3), .val (.int p4), .val (.int p5), .val (.ref b1), .val (.ref b6), .val (.ref b11), .val (.int (Int32.ofNat f1)), .val (.int (Int32.ofNat (f1 + d1))), .val (.int (Int32.ofNat f2)), .val (.int (Int32.ofNat (f2 + d2))), .val (.int (Int32.ofNat zc)), .val (.int cl), .val (.ref b14), .val (.ref r1), .val (.int (Int32.ofNat (f1 + d1 - f1))), .val (.int (Int32.ofNat (f2 + d2 - f2))), .val (.int (Int32.ofNat pre)), .val (.int (Int32.ofNat (pre + (f2 + d2 - f2)))), .unset, .unset] [(.int (2 : Int32)), (.int (Int32.ofNat pre)), (.int (Int32.ofNat f2)), (.ref b6), (.int (Int32.ofNat pre)), (.int (Int32.ofNat (f1 + d1 - f1))), (.int (Int32.ofNat f1)), (.ref b1), (.ref r1)])) _
  refine Rch.go (fun _ kk_ => XS.iadd X34.here hx rfl (hb hby at_497) rfl kk_) ?_
  show Rch p e below (T34.setTop (mkF m 498 #[.val (.int p0), .val (.int p1), .val (.int p2), .val (.int p3), .val (.int p4), .val (.int p5), .val (.ref b1), .val (.ref b6), .val (.ref b11), .val (.int (Int32.ofNat f1)), .val (.int (Int32.ofNat (f1 + d1))), .val (.int (Int32.ofNat f2)), .val (.int (Int32.ofNat (f2 + d2))), .val (.int (Int32.ofNat zc)), .val (.int cl), .val (.ref b14), .val (.ref r1), .val (.int (Int32.ofNat (f1 + d1 - f1))), .val (.int (Int32.ofNat (f2 + d2 - f2))), .val (.int (Int32.ofNat pre)), .val (.int (Int32.ofNat (pre + (f2 + d2 - f2)))), .unset, .unset] [(.int ((Int32.ofNat pre) + (2 : Int32))), (.int (Int32.ofNat f2)), (.ref b6), (.int (Int32.ofNat pre)), (.int (Int32.ofNat (f1 + d1 - f1))), (.int (Int32.ofNat f1)), (.ref b1), (.ref r1)])) _
  refine Rch.callS X34 hx hZ hown (hw _ (List.mem_of_getElem? (i := 48) rfl)) (hw _ (List.mem_of_getElem? (i := 49) rfl)) (hw _ (List.mem_of_getElem? (i := 50) rfl)) (hw _ (List.mem_of_getElem? (i := 51) rfl)) (by decide) (rm8 l Z a0 hw [] r1 b1 b6 f1 (f1 + d1 - f1) pre f2 (pre + (f2 + d2 - f2)) (fun j => if j < cp3 then fn3 j else 0) g1 g2 ((Int32.ofNat pre) + (2 : Int32)) T22.heap n0 Zs (by omega) (by omega) (by omega) (by omega) hall B_r1 B_b1 B_b6) 0 (by decide) (by decide) (by decide) (by decide) e34 (g := (mkF m 498 #[.val (.int p0), .val (.int p1), .val (.int p2), .val (.int p3), .val (.int p4), .val (.int p5), .val (.ref b1), .val (.ref b6), .val (.ref b11), .val (.int (Int32.ofNat f1)), .val (.int (Int32.ofNat (f1 + d1))), .val (.int (Int32.ofNat f2)), .val (.int (Int32.ofNat (f2 + d2))), .val (.int (Int32.ofNat zc)), .val (.int cl), .val (.ref b14), .val (.ref r1), .val (.int (Int32.ofNat (f1 + d1 - f1))), .val (.int (Int32.ofNat (f2 + d2 - f2))), .val (.int (Int32.ofNat pre)), .val (.int (Int32.ofNat (pre + (f2 + d2 - f2)))), .unset, .unset] [(.int ((Int32.ofNat pre) + (2 : Int32))), (.int (Int32.ofNat f2)), (.ref b6), (.int (Int32.ofNat pre)), (.int (Int32.ofNat (f1 + d1 - f1))), (.int (Int32.ofNat f1)), (.ref b1), (.ref r1)])) rfl (by rw [hml]; rfl) [(.ref r1), (.ref b1), (.int (Int32.ofNat f1)), (.int (Int32.ofNat (f1 + d1 - f1))), (.int (Int32.ofNat pre)), (.ref b6), (.int (Int32.ofNat f2)), (.int ((Int32.ofNat pre) + (2 : Int32)))] [] rfl (lenOf pd0_3 rfl) rfl (by show 2 * 0 + _ ≤ _; exact Nat.le_of_eq rfl) (hb hby at_498) ?_
  intro v35 T35 L35 X35 hQ35
  obtain ⟨rfl, N35q, e35⟩ := hQ35
  have N35 := Fr.app N34 N35q
  show Rch p e below (T35.setTop (mkF m 501 #[.val (.int p0), .val (.int p1), .val (.int p2), .val (.int p3), .val (.int p4), .val (.int p5), .val (.ref b1), .val (.ref b6), .val (.ref b11), .val (.int (Int32.ofNat f1)), .val (.int (Int32.ofNat (f1 + d1))), .val (.int (Int32.ofNat f2)), .val (.int (Int32.ofNat (f2 + d2))), .val (.int (Int32.ofNat zc)), .val (.int cl), .val (.ref b14), .val (.ref r1), .val (.int (Int32.ofNat (f1 + d1 - f1))), .val (.int (Int32.ofNat (f2 + d2 - f2))), .val (.int (Int32.ofNat pre)), .val (.int (Int32.ofNat (pre + (f2 + d2 - f2)))), .unset, .unset] [(.int (1 : Int32))])) _
  refine Rch.go (fun _ kk_ => XS.ifNo X35.here hx rfl (hb hby at_501) rfl ((if0 _ _).trans (feq (by decide)).1) kk_) ?_
  show Rch p e below (T35.setTop (mkF m 504 #[.val (.int p0), .val (.int p1), .val (.int p2), .val (.int p3), .val (.int p4), .val (.int p5), .val (.ref b1), .val (.ref b6), .val (.ref b11), .val (.int (Int32.ofNat f1)), .val (.int (Int32.ofNat (f1 + d1))), .val (.int (Int32.ofNat f2)), .val (.int (Int32.ofNat (f2 + d2))), .val (.int (Int32.ofNat zc)), .val (.int cl), .val (.ref b14), .val (.ref r1), .val (.int (Int32.ofNat (f1 + d1 - f1))), .val (.int (Int32.ofNat (f2 + d2 - f2))), .val (.int (Int32.ofNat pre)), .val (.int (Int32.ofNat (pre + (f2 + d2 - f2)))), .unset, .unset] [])) _
  refine Rch.go (fun _ kk_ => XS.aload X35.here hx rfl (hb hby at_504) rfl rfl kk_) ?_
  show Rch p e below (T35.setTop (mkF m 506 #[.val (.int p0), .val (.int p1), .val (.int p2), .val (.int p3), .val (.int p4), .val (.int p5), .val (.ref b1), .val (.ref b6), .val (.ref b11), .val (.int (Int32.ofNat f1)), .val (.int (Int32.ofNat (f1 + d1))), .val (.int (Int32.ofNat f2)), .val (.int (Int32.ofNat (f2 + d2))), .val (.int (Int32.ofNat zc)), .val (.int cl), .val (.ref b14), .val (.ref r1), .val (.int (Int32.ofNat (f1 + d1 - f1))), .val (.int (Int32.ofNat (f2 + d2 - f2))), .val (.int (Int32.ofNat pre)), .val (.int (Int32.ofNat (pre + (f2 + d2 - f2)))), .unset, .unset] [(.ref r1)])) _
  refine Rch.go (fun _ kk_ => XS.aload X35.here hx rfl (hb hby at_506) rfl rfl kk_) ?_
  show Rch p e below (T35.setTop (mkF m 508 #[.val (.int p0), .val (.int p1), .val (.int p2), .val (.int p3), .val (.int p4), .val (.int p5), .val (.ref b1), .val (.ref b6), .val (.ref b11), .val (.int (Int32.ofNat f1)), .val (.int (Int32.ofNat (f1 + d1))), .val (.int (Int32.ofNat f2)), .val (.int (Int32.ofNat (f2 + d2))), .val (.int (Int32.ofNat zc)), .val (.int cl), .val (.ref b14), .val (.ref r1), .val (.int (Int32.ofNat (f1 + d1 - f1))), .val (.int (Int32.ofNat (f2 + d2 - f2))), .val (.int (Int32.ofNat pre)), .val (.int (Int32.ofNat (pre + (f2 + d2 - f2)))), .unset, .unset] [(.ref b1), (.ref r1)])) _
  refine Rch.go (fun _ kk_ => XS.iload X35.here hx rfl (hb hby at_508) rfl  kk_) ?_
  show Rch p e below (T35.setTop (mkF m 510 #[.val (.int p0), .val (.int p1), .val (.int p2), .val (.int p3), .val (.int p4), .val (.int p5), .val (.ref b1), .val (.ref b6), .val (.ref b11), .val (.int (Int32.ofNat f1)), .val (.int (Int32.ofNat (f1 + d1))), .val (.int (Int32.ofNat f2)), .val (.int (Int32.ofNat (f2 + d2))), .val (.int (Int32.ofNat zc)), .val (.int cl), .val (.ref b14), .val (.ref r1), .val (.int (Int32.ofNat (f1 + d1 - f1))), .val (.int (Int32.ofNat (f2 + d2 - f2))), .val (.int (Int32.ofNat pre)), .val (.int (Int32.ofNat (pre + (f2 + d2 - f2)))), .unset, .unset] [(.int (Int32.ofNat f1)), (.ref b1), (.ref r1)])) _
  refine Rch.go (fun _ kk_ => XS.iload X35.here hx rfl (hb hby at_510) rfl  kk_) ?_
  show Rch p e below (T35.setTop (mkF m 512 #[.val (.int p0), .val (.int p1), .val (.int p2), .val (.int p3), .val (.int p4), .val (.int p5), .val (.ref b1), .val (.ref b6), .val (.ref b11), .val (.int (Int32.ofNat f1)), .val (.int (Int32.ofNat (f1 + d1))), .val (.int (Int32.ofNat f2)), .val (.int (Int32.ofNat (f2 + d2))), .val (.int (Int32.ofNat zc)), .val (.int cl), .val (.ref b14), .val (.ref r1), .val (.int (Int32.ofNat (f1 + d1 - f1))), .val (.int (Int32.ofNat (f2 + d2 - f2))), .val (.int (Int32.ofNat pre)), .val (.int (Int32.ofNat (pre + (f2 + d2 - f2)))), .unset, .unset] [(.int (Int32.ofNat (f1 + d1 - f1))), (.int (Int32.ofNat f1)), (.ref b1), (.ref r1)])) _
  refine Rch.go (fun _ kk_ => XS.iload X35.here hx rfl (hb hby at_512) rfl  kk_) ?_
  show Rch p e below (T35.setTop (mkF m 514 #[.val (.int p0), .val (.int p1), .val (.int p2), .val (.int p3), .val (.int p4), .val (.int p5), .val (.ref b1), .val (.ref b6), .val (.ref b11), .val (.int (Int32.ofNat f1)), .val (.int (Int32.ofNat (f1 + d1))), .val (.int (Int32.ofNat f2)), .val (.int (Int32.ofNat (f2 + d2))), .val (.int (Int32.ofNat zc)), .val (.int cl), .val (.ref b14), .val (.ref r1), .val (.int (Int32.ofNat (f1 + d1 - f1))), .val (.int (Int32.ofNat (f2 + d2 - f2))), .val (.int (Int32.ofNat pre)), .val (.int (Int32.ofNat (pre + (f2 + d2 - f2)))), .unset, .unset] [(.int (Int32.ofNat pre)), (.int (Int32.ofNat (f1 + d1 - f1))), (.int (Int32.ofNat f1)), (.ref b1), (.ref r1)])) _
  refine Rch.go (fun _ kk_ => XS.aload X35.here hx rfl (hb hby at_514) rfl rfl kk_) ?_
  show Rch p e below (T35.setTop (mkF m 516 #[.val (.int p0), .val (.int p1), .val (.int p2), .val (.int p3), .val (.int p4), .val (.int p5), .val (.ref b1), .val (.ref b6), .val (.ref b11), .val (.int (Int32.ofNat f1)), .val (.int (Int32.ofNat (f1 + d1))), .val (.int (Int32.ofNat f2)), .val (.int (Int32.ofNat (f2 + d2))), .val (.int (Int32.ofNat zc)), .val (.int cl), .val (.ref b14), .val (.ref r1), .val (.int (Int32.ofNat (f1 + d1 - f1))), .val (.int (Int32.ofNat (f2 + d2 - f2))), .val (.int (Int32.ofNat pre)), .val (.int (Int32.ofNat (pre + (f2 + d2 - f2)))), .unset, .unset] [(.ref b6), (.int (Int32.ofNat pre)), (.int (Int32.ofNat (f1 + d1 - f1))), (.int (Int32.ofNat f1)), (.ref b1), (.ref r1)])) _
  refine Rch.go (fun _ kk_ => XS.iload X35.here hx rfl (hb hby at_516) rfl  kk_) ?_
  show Rch p e below (T35.setTop (mkF m 518 #[.val (.int p0), .val (.int p1), .val (.int p2), .val (.int p3), .val (.int p4), .val (.int p5), .val (.ref b1), .val (.ref b6), .val (.ref b11), .val (.int (Int32.ofNat f1)), .val (.int (Int32.ofNat (f1 + d1))), .val (.int (Int32.ofNat f2)), .val (.int (Int32.ofNat (f2 + d2))), .val (.int (Int32.ofNat zc)), .val (.int cl), .val (.ref b14), .val (.ref r1), .val (.int (Int32.ofNat (f1 + d1 - f1))), .val (.int (Int32.ofNat (f2 + d2 - f2))), .val (.int (Int32.ofNat pre)), .val (.int (Int32.ofNat (pre + (f2 + d2 - f2)))), .unset, .unset] [(.int (Int32.ofNat f2)), (.ref b6), (.int (Int32.ofNat pre)), (.int (Int32.ofNat (f1 + d1 - f1))), (.int (Int32.ofNat f1)), (.ref b1), (.ref r1)])) _
  refine Rch.go (fun _ kk_ => XS.iload X35.here hx rfl (hb hby at_518) rfl  kk_) ?_
  show Rch p e below (T35.setTop (mkF m 520 #[.val (.int p0), .val (.int p1), .val (.int p2), .val (.int p3), .val (.int p4), .val (.int p5), .val (.ref b1), .val (.ref b6), .val (.ref b11), .val (.int (Int32.ofNat f1)), .val (.int (Int32.ofNat (f1 + d1))), .val (.int (Int32.ofNat f2)), .val (.int (Int32.ofNat (f2 + d2))), .val (.int (Int32.ofNat zc)), .val (.int cl), .val (.ref b14), .val (.ref r1), .val (.int (Int32.ofNat (f1 + d1 - f1))), .val (.int (Int32.ofNat (f2 + d2 - f2))), .val (.int (Int32.ofNat pre)), .val (.int (Int32.ofNat (pre + (f2 + d2 - f2)))), .unset, .unset] [(.int (Int32.ofNat pre)), (.int (Int32.ofNat f2)), (.ref b6), (.int (Int32.ofNat pre)), (.int (Int32.ofNat (f1 + d1 - f1))), (.int (Int32.ofNat f1)), (.ref b1), (.ref r1)])) _
  refine Rch.go (fun _ kk_ => XS.iconst X35.here hx rfl (hb hby at_520) kk_) ?_
  show Rch p e below (T35.setTop (mkF m 521 #[.val (.int p0), .val (.int p1), .val (.int p2), .val (.int p3), .val (.int p4), .val (.int p5), .val (.ref b1), .val (.ref b6), .val (.ref b11), .val (.int (Int32.ofNat f1)), .val (.int (Int32.ofNat (f1 + d1))), .val (.int (Int32.ofNat f2)), .val (.int (Int32.ofNat (f2 + d2))), .val (.int (Int32.ofNat zc)), .val (.int cl), .val (.ref b14), .val (.ref r1), .val (.int (Int32.ofNat (f1 + d1 - f1))), .val (.int (Int32.ofNat (f2 + d2 - f2))), .val (.int (Int32.ofNat pre)), .val (.int (Int32.ofNat (pre + (f2 + d2 - f2)))), .unset, .unset] [(.int (3 : Int32)), (.int (Int32.ofNat pre)), (.int (Int32.ofNat f2)), (.ref b6), (.int (Int32.ofNat pre)), (.int (Int32.ofNat (f1 + d1 - f1))), (.int (Int32.ofNat f1)), (.ref b1), (.ref r1)])) _
  refine Rch.go (fun _ kk_ => XS.iadd X35.here hx rfl (hb hby at_521) rfl kk_) ?_
  show Rch p e below (T35.setTop (mkF m 522 #[.val (.int p0), .val (.int p1), .val (.int p2), .val (.int p3), .val (.int p4), .val (.int p5), .val (.ref b1), .val (.ref b6), .val (.ref b11), .val (.int (Int32.ofNat f1)), .val (.int (Int32.ofNat (f1 + d1))), .val (.int (Int32.ofNat f2)), .val (.int (Int32.ofNat (f2 + d2))), .val (.int (Int32.ofNat zc)), .val (.int cl), .val (.ref b14), .val (.ref r1), .val (.int (Int32.ofNat (f1 + d1 - f1))), .val (.int (Int32.ofNat (f2 + d2 - f2))), .val (.int (Int32.ofNat pre)), .val (.int (Int32.ofNat (pre + (f2 + d2 - f2)))), .unset, .unset] [(.int ((Int32.ofNat pre) + (3 : Int32))), (.int (Int32.ofNat f2)), (.ref b6), (.int (Int32.ofNat pre)), (.int (Int32.ofNat (f1 + d1 - f1))), (.int (Int32.ofNat f1)), (.ref b1), (.ref r1)])) _
  refine Rch.callS X35 hx hZ hown (hw _ (List.mem_of_getElem? (i := 48) rfl)) (hw _ (List.mem_of_getElem? (i := 49) rfl)) (hw _ (List.mem_of_getElem? (i := 50) rfl)) (hw _ (List.mem_of_getElem? (i := 51) rfl)) (by decide) (rm8 l Z a0 hw [] r1 b1 b6 f1 (f1 + d1 - f1) pre f2 (pre + (f2 + d2 - f2)) (fun j => if j < cp3 then fn3 j else 0) g1 g2 ((Int32.ofNat pre) + (3 : Int32)) T22.heap n0 Zs (by omega) (by omega) (by omega) (by omega) hall B_r1 B_b1 B_b6) 0 (by decide) (by decide) (by decide) (by decide) e35 (g := (mkF m 522 #[.val (.int p0), .val (.int p1), .val (.int p2), .val (.int p3), .val (.int p4), .val (.int p5), .val (.ref b1), .val (.ref b6), .val (.ref b11), .val (.int (Int32.ofNat f1)), .val (.int (Int32.ofNat (f1 + d1))), .val (.int (Int32.ofNat f2)), .val (.int (Int32.ofNat (f2 + d2))), .val (.int (Int32.ofNat zc)), .val (.int cl), .val (.ref b14), .val (.ref r1), .val (.int (Int32.ofNat (f1 + d1 - f1))), .val (.int (Int32.ofNat (f2 + d2 - f2))), .val (.int (Int32.ofNat pre)), .val (.int (Int32.ofNat (pre + (f2 + d2 - f2)))), .unset, .unset] [(.int ((Int32.ofNat pre) + (3 : Int32))), (.int (Int32.ofNat f2)), (.ref b6), (.int (Int32.ofNat pre)), (.int (Int32.ofNat (f1 + d1 - f1))), (.int (Int32.ofNat f1)), (.ref b1), (.ref r1)])) rfl (by rw [hml]; rfl) [(.ref r1), (.ref b1), (.int (Int32.ofNat f1)), (.int (Int32.ofNat (f1 + d1 - f1))), (.int (Int32.ofNat pre)), (.ref b6), (.int (Int32.ofNat f2)), (.int ((Int32.ofNat pre) + (3 : Int32)))] [] rfl (lenOf pd0_3 rfl) rfl (by show 2 * 0 + _ ≤ _; exact Nat.le_of_eq rfl) (hb hby at_522) ?_
  intro v36 T36 L36 X36 hQ36
  obtain ⟨rfl, N36q, e36⟩ := hQ36
  have N36 := Fr.app N35 N36q
  show Rch p e below (T36.setTop (mkF m 525 #[.val (.int p0), .val (.int p1), .val (.int p2), .val (.int p3), .val (.int p4), .val (.int p5), .val (.ref b1), .val (.ref b6), .val (.ref b11), .val (.int (Int32.ofNat f1)), .val (.int (Int32.ofNat (f1 + d1))), .val (.int (Int32.ofNat f2)), .val (.int (Int32.ofNat (f2 + d2))), .val (.int (Int32.ofNat zc)), .val (.int cl), .val (.ref b14), .val (.ref r1), .val (.int (Int32.ofNat (f1 + d1 - f1))), .val (.int (Int32.ofNat (f2 + d2 - f2))), .val (.int (Int32.ofNat pre)), .val (.int (Int32.ofNat (pre + (f2 + d2 - f2)))), .unset, .unset] [(.int (1 : Int32))])) _
  refine Rch.go (fun _ kk_ => XS.ifNo X36.here hx rfl (hb hby at_525) rfl ((if0 _ _).trans (feq (by decide)).1) kk_) ?_
  show Rch p e below (T36.setTop (mkF m 528 #[.val (.int p0), .val (.int p1), .val (.int p2), .val (.int p3), .val (.int p4), .val (.int p5), .val (.ref b1), .val (.ref b6), .val (.ref b11), .val (.int (Int32.ofNat f1)), .val (.int (Int32.ofNat (f1 + d1))), .val (.int (Int32.ofNat f2)), .val (.int (Int32.ofNat (f2 + d2))), .val (.int (Int32.ofNat zc)), .val (.int cl), .val (.ref b14), .val (.ref r1), .val (.int (Int32.ofNat (f1 + d1 - f1))), .val (.int (Int32.ofNat (f2 + d2 - f2))), .val (.int (Int32.ofNat pre)), .val (.int (Int32.ofNat (pre + (f2 + d2 - f2)))), .unset, .unset] [])) _
  refine Rch.go (fun _ kk_ => XS.iconst X36.here hx rfl (hb hby at_528) kk_) ?_
  show Rch p e below (T36.setTop (mkF m 529 #[.val (.int p0), .val (.int p1), .val (.int p2), .val (.int p3), .val (.int p4), .val (.int p5), .val (.ref b1), .val (.ref b6), .val (.ref b11), .val (.int (Int32.ofNat f1)), .val (.int (Int32.ofNat (f1 + d1))), .val (.int (Int32.ofNat f2)), .val (.int (Int32.ofNat (f2 + d2))), .val (.int (Int32.ofNat zc)), .val (.int cl), .val (.ref b14), .val (.ref r1), .val (.int (Int32.ofNat (f1 + d1 - f1))), .val (.int (Int32.ofNat (f2 + d2 - f2))), .val (.int (Int32.ofNat pre)), .val (.int (Int32.ofNat (pre + (f2 + d2 - f2)))), .unset, .unset] [(.int (1 : Int32))])) _
  refine Rch.go (fun _ kk_ => XS.goto X36.here hx rfl (pc0 := 529) (pc' := 533) rfl (hb hby at_529) (by decide) (by decide) kk_) ?_
  show Rch p e below (T36.setTop (mkF m 533 #[.val (.int p0), .val (.int p1), .val (.int p2), .val (.int p3), .val (.int p4), .val (.int p5), .val (.ref b1), .val (.ref b6), .val (.ref b11), .val (.int (Int32.ofNat f1)), .val (.int (Int32.ofNat (f1 + d1))), .val (.int (Int32.ofNat f2)), .val (.int (Int32.ofNat (f2 + d2))), .val (.int (Int32.ofNat zc)), .val (.int cl), .val (.ref b14), .val (.ref r1), .val (.int (Int32.ofNat (f1 + d1 - f1))), .val (.int (Int32.ofNat (f2 + d2 - f2))), .val (.int (Int32.ofNat pre)), .val (.int (Int32.ofNat (pre + (f2 + d2 - f2)))), .unset, .unset] [(.int (1 : Int32))])) _
  refine Rch.go (fun _ kk_ => XS.istore X36.here hx rfl (hb hby at_533) rfl (l' := #[.val (.int p0), .val (.int p1), .val (.int p2), .val (.int p3), .val (.int p4), .val (.int p5), .val (.ref b1), .val (.ref b6), .val (.ref b11), .val (.int (Int32.ofNat f1)), .val (.int (Int32.ofNat (f1 + d1))), .val (.int (Int32.ofNat f2)), .val (.int (Int32.ofNat (f2 + d2))), .val (.int (Int32.ofNat zc)), .val (.int cl), .val (.ref b14), .val (.ref r1), .val (.int (Int32.ofNat (f1 + d1 - f1))), .val (.int (Int32.ofNat (f2 + d2 - f2))), .val (.int (Int32.ofNat pre)), .val (.int (Int32.ofNat (pre + (f2 + d2 - f2)))), .val (.int (1 : Int32)), .unset]) rfl kk_) ?_
  show Rch p e below (T36.setTop (mkF m 535 #[.val (.int p0), .val (.int p1), .val (.int p2), .val (.int p3), .val (.int p4), .val (.int p5), .val (.ref b1), .val (.ref b6), .val (.ref b11), .val (.int (Int32.ofNat f1)), .val (.int (Int32.ofNat (f1 + d1))), .val (.int (Int32.ofNat f2)), .val (.int (Int32.ofNat (f2 + d2))), .val (.int (Int32.ofNat zc)), .val (.int cl), .val (.ref b14), .val (.ref r1), .val (.int (Int32.ofNat (f1 + d1 - f1))), .val (.int (Int32.ofNat (f2 + d2 - f2))), .val (.int (Int32.ofNat pre)), .val (.int (Int32.ofNat (pre + (f2 + d2 - f2)))), .val (.int (1 : Int32)), .unset] [])) _
  refine Rch.go (fun _ kk_ => XS.iload X36.here hx rfl (hb hby at_535) rfl  kk_) ?_
  show Rch p e below (T36.setTop (mkF m 537 #[.val (.int p0), .val (.int p1), .val (.int p2), .val (.int p3), .val (.int p4), .val (.int p5), .val (.ref b1), .val (.ref b6), .val (.ref b11), .val (.int (Int32.ofNat f1)), .val (.int (Int32.ofNat (f1 + d1))), .val (.int (Int32.ofNat f2)), .val (.int (Int32.ofNat (f2 + d2))), .val (.int (Int32.ofNat zc)), .val (.int cl), .val (.ref b14), .val (.ref r1), .val (.int (Int32.ofNat (f1 + d1 - f1))), .val (.int (Int32.ofNat (f2 + d2 - f2))), .val (.int (Int32.ofNat pre)), .val (.int (Int32.ofNat (pre + (f2 + d2 - f2)))), .val (.int (1 : Int32)), .unset] [(.int (1 : Int32))])) _
  refine Rch.go (fun _ kk_ => XS.ifYes X36.here hx rfl (pc0 := 537) (pc' := 542) rfl (hb hby at_537) rfl ((if0 _ _).trans (feq (by decide)).2) (by decide) (by decide) kk_) ?_
  show Rch p e below (T36.setTop (mkF m 542 #[.val (.int p0), .val (.int p1), .val (.int p2), .val (.int p3), .val (.int p4), .val (.int p5), .val (.ref b1), .val (.ref b6), .val (.ref b11), .val (.int (Int32.ofNat f1)), .val (.int (Int32.ofNat (f1 + d1))), .val (.int (Int32.ofNat f2)), .val (.int (Int32.ofNat (f2 + d2))), .val (.int (Int32.ofNat zc)), .val (.int cl), .val (.ref b14), .val (.ref r1), .val (.int (Int32.ofNat (f1 + d1 - f1))), .val (.int (Int32.ofNat (f2 + d2 - f2))), .val (.int (Int32.ofNat pre)), .val (.int (Int32.ofNat (pre + (f2 + d2 - f2)))), .val (.int (1 : Int32)), .unset] [])) _
  refine Rch.bind (P := fun B => ∃ (T' : State) (L' : List Loc) (h' : Heap), B = T'.setTop (mkF m 558 #[.val (.int p0), .val (.int p1), .val (.int p2), .val (.int p3), .val (.int p4), .val (.int p5), .val (.ref b1), .val (.ref b6), .val (.ref b11), .val (.int (Int32.ofNat f1)), .val (.int (Int32.ofNat (f1 + d1))), .val (.int (Int32.ofNat f2)), .val (.int (Int32.ofNat (f2 + d2))), .val (.int (Int32.ofNat zc)), .val (.int cl), .val (.ref b14), .val (.ref r1), .val (.int (Int32.ofNat (f1 + d1 - f1))), .val (.int (Int32.ofNat (f2 + d2 - f2))), .val (.int (Int32.ofNat pre)), .val (.int (Int32.ofNat (pre + (f2 + d2 - f2)))), .val (.int (1 : Int32)), .unset] []) ∧ Stand p l e room_1 s m #[(.int p0), (.int p1), (.int p2), (.int p3), (.int p4), (.int p5)] below meth c T' L' 9 2723 ∧ T'.heap = h' ∧ Fr n0 L' ∧ n0 ≤ h'.size ∧ Exa Z h' b14 "com/example/vaxwire/vaxwire/hl7/BoundedBytes" ∧ Fld Z h' b14 "com/example/vaxwire/vaxwire/hl7/BoundedBytes" "bytes" "[B" (.ref bf3) ∧ Fld Z h' b14 "com/example/vaxwire/vaxwire/hl7/BoundedBytes" "length" "I" (.int (Int32.ofNat (pre + ((f2 + d2) - f2)))) ∧ BB Z h' bf3 cp3 fn3 ∧ BB Z h' b1 4 g1 ∧ BB Z h' b6 4 g2) ?_ ?_
  · refine Rch.go (fun _ kk_ => XS.iload X36.here hx rfl (hb hby at_542) rfl  kk_) ?_
    show Rch p e below (T36.setTop (mkF m 544 #[.val (.int p0), .val (.int p1), .val (.int p2), .val (.int p3), .val (.int p4), .val (.int p5), .val (.ref b1), .val (.ref b6), .val (.ref b11), .val (.int (Int32.ofNat f1)), .val (.int (Int32.ofNat (f1 + d1))), .val (.int (Int32.ofNat f2)), .val (.int (Int32.ofNat (f2 + d2))), .val (.int (Int32.ofNat zc)), .val (.int cl), .val (.ref b14), .val (.ref r1), .val (.int (Int32.ofNat (f1 + d1 - f1))), .val (.int (Int32.ofNat (f2 + d2 - f2))), .val (.int (Int32.ofNat pre)), .val (.int (Int32.ofNat (pre + (f2 + d2 - f2)))), .val (.int (1 : Int32)), .unset] [(.int (Int32.ofNat (pre + (f2 + d2 - f2))))])) _
    by_cases hn0 : 0 < (pre + (f2 + d2 - f2))
    · refine Rch.go (fun _ kk_ => XS.ifNo X36.here hx rfl (hb hby at_544) rfl ((if0 _ _).trans (tlt ((ofNat_lt (i := 0) (by decide) (by omega)).mpr hn0)).2.2.2) kk_) ?_
      show Rch p e below (T36.setTop (mkF m 547 #[.val (.int p0), .val (.int p1), .val (.int p2), .val (.int p3), .val (.int p4), .val (.int p5), .val (.ref b1), .val (.ref b6), .val (.ref b11), .val (.int (Int32.ofNat f1)), .val (.int (Int32.ofNat (f1 + d1))), .val (.int (Int32.ofNat f2)), .val (.int (Int32.ofNat (f2 + d2))), .val (.int (Int32.ofNat zc)), .val (.int cl), .val (.ref b14), .val (.ref r1), .val (.int (Int32.ofNat (f1 + d1 - f1))), .val (.int (Int32.ofNat (f2 + d2 - f2))), .val (.int (Int32.ofNat pre)), .val (.int (Int32.ofNat (pre + (f2 + d2 - f2)))), .val (.int (1 : Int32)), .unset] [])) _
      refine Rch.go (fun _ kk_ => XS.aload X36.here hx rfl (hb hby at_547) rfl rfl kk_) ?_
      show Rch p e below (T36.setTop (mkF m 549 #[.val (.int p0), .val (.int p1), .val (.int p2), .val (.int p3), .val (.int p4), .val (.int p5), .val (.ref b1), .val (.ref b6), .val (.ref b11), .val (.int (Int32.ofNat f1)), .val (.int (Int32.ofNat (f1 + d1))), .val (.int (Int32.ofNat f2)), .val (.int (Int32.ofNat (f2 + d2))), .val (.int (Int32.ofNat zc)), .val (.int cl), .val (.ref b14), .val (.ref r1), .val (.int (Int32.ofNat (f1 + d1 - f1))), .val (.int (Int32.ofNat (f2 + d2 - f2))), .val (.int (Int32.ofNat pre)), .val (.int (Int32.ofNat (pre + (f2 + d2 - f2)))), .val (.int (1 : Int32)), .unset] [(.ref r1)])) _
      refine Rch.go (fun _ kk_ => XS.iconst X36.here hx rfl (hb hby at_549) kk_) ?_
      show Rch p e below (T36.setTop (mkF m 550 #[.val (.int p0), .val (.int p1), .val (.int p2), .val (.int p3), .val (.int p4), .val (.int p5), .val (.ref b1), .val (.ref b6), .val (.ref b11), .val (.int (Int32.ofNat f1)), .val (.int (Int32.ofNat (f1 + d1))), .val (.int (Int32.ofNat f2)), .val (.int (Int32.ofNat (f2 + d2))), .val (.int (Int32.ofNat zc)), .val (.int cl), .val (.ref b14), .val (.ref r1), .val (.int (Int32.ofNat (f1 + d1 - f1))), .val (.int (Int32.ofNat (f2 + d2 - f2))), .val (.int (Int32.ofNat pre)), .val (.int (Int32.ofNat (pre + (f2 + d2 - f2)))), .val (.int (1 : Int32)), .unset] [(.int (0 : Int32)), (.ref r1)])) _
      refine Rch.go (fun _ kk_ => XS.aload X36.here hx rfl (hb hby at_550) rfl rfl kk_) ?_
      show Rch p e below (T36.setTop (mkF m 552 #[.val (.int p0), .val (.int p1), .val (.int p2), .val (.int p3), .val (.int p4), .val (.int p5), .val (.ref b1), .val (.ref b6), .val (.ref b11), .val (.int (Int32.ofNat f1)), .val (.int (Int32.ofNat (f1 + d1))), .val (.int (Int32.ofNat f2)), .val (.int (Int32.ofNat (f2 + d2))), .val (.int (Int32.ofNat zc)), .val (.int cl), .val (.ref b14), .val (.ref r1), .val (.int (Int32.ofNat (f1 + d1 - f1))), .val (.int (Int32.ofNat (f2 + d2 - f2))), .val (.int (Int32.ofNat pre)), .val (.int (Int32.ofNat (pre + (f2 + d2 - f2)))), .val (.int (1 : Int32)), .unset] [(.ref r1), (.int (0 : Int32)), (.ref r1)])) _
      refine Rch.go (fun _ kk_ => XS.iconst X36.here hx rfl (hb hby at_552) kk_) ?_
      show Rch p e below (T36.setTop (mkF m 553 #[.val (.int p0), .val (.int p1), .val (.int p2), .val (.int p3), .val (.int p4), .val (.int p5), .val (.ref b1), .val (.ref b6), .val (.ref b11), .val (.int (Int32.ofNat f1)), .val (.int (Int32.ofNat (f1 + d1))), .val (.int (Int32.ofNat f2)), .val (.int (Int32.ofNat (f2 + d2))), .val (.int (Int32.ofNat zc)), .val (.int cl), .val (.ref b14), .val (.ref r1), .val (.int (Int32.ofNat (f1 + d1 - f1))), .val (.int (Int32.ofNat (f2 + d2 - f2))), .val (.int (Int32.ofNat pre)), .val (.int (Int32.ofNat (pre + (f2 + d2 - f2)))), .val (.int (1 : Int32)), .unset] [(.int (0 : Int32)), (.ref r1), (.int (0 : Int32)), (.ref r1)])) _
      refine Rch.go (loadBB X36 hx hZ e36 B_r1 (k := 0) (by omega) (g := (mkF m 553 #[.val (.int p0), .val (.int p1), .val (.int p2), .val (.int p3), .val (.int p4), .val (.int p5), .val (.ref b1), .val (.ref b6), .val (.ref b11), .val (.int (Int32.ofNat f1)), .val (.int (Int32.ofNat (f1 + d1))), .val (.int (Int32.ofNat f2)), .val (.int (Int32.ofNat (f2 + d2))), .val (.int (Int32.ofNat zc)), .val (.int cl), .val (.ref b14), .val (.ref r1), .val (.int (Int32.ofNat (f1 + d1 - f1))), .val (.int (Int32.ofNat (f2 + d2 - f2))), .val (.int (Int32.ofNat pre)), .val (.int (Int32.ofNat (pre + (f2 + d2 - f2)))), .val (.int (1 : Int32)), .unset] [(.int (0 : Int32)), (.ref r1), (.int (0 : Int32)), (.ref r1)])) rfl (hb hby at_553) rfl) ?_
      show Rch p e below (T36.setTop (mkF m 554 #[.val (.int p0), .val (.int p1), .val (.int p2), .val (.int p3), .val (.int p4), .val (.int p5), .val (.ref b1), .val (.ref b6), .val (.ref b11), .val (.int (Int32.ofNat f1)), .val (.int (Int32.ofNat (f1 + d1))), .val (.int (Int32.ofNat f2)), .val (.int (Int32.ofNat (f2 + d2))), .val (.int (Int32.ofNat zc)), .val (.int cl), .val (.ref b14), .val (.ref r1), .val (.int (Int32.ofNat (f1 + d1 - f1))), .val (.int (Int32.ofNat (f2 + d2 - f2))), .val (.int (Int32.ofNat pre)), .val (.int (Int32.ofNat (pre + (f2 + d2 - f2)))), .val (.int (1 : Int32)), .unset] [(.int ((fun j => if j < cp3 then fn3 j else 0) 0)), (.int (0 : Int32)), (.ref r1)])) _
      refine Rch.go (fun _ kk_ => XS.iconst X36.here hx rfl (hb hby at_554) kk_) ?_
      show Rch p e below (T36.setTop (mkF m 555 #[.val (.int p0), .val (.int p1), .val (.int p2), .val (.int p3), .val (.int p4), .val (.int p5), .val (.ref b1), .val (.ref b6), .val (.ref b11), .val (.int (Int32.ofNat f1)), .val (.int (Int32.ofNat (f1 + d1))), .val (.int (Int32.ofNat f2)), .val (.int (Int32.ofNat (f2 + d2))), .val (.int (Int32.ofNat zc)), .val (.int cl), .val (.ref b14), .val (.ref r1), .val (.int (Int32.ofNat (f1 + d1 - f1))), .val (.int (Int32.ofNat (f2 + d2 - f2))), .val (.int (Int32.ofNat pre)), .val (.int (Int32.ofNat (pre + (f2 + d2 - f2)))), .val (.int (1 : Int32)), .unset] [(.int (1 : Int32)), (.int ((fun j => if j < cp3 then fn3 j else 0) 0)), (.int (0 : Int32)), (.ref r1)])) _
      refine Rch.go (fun _ kk_ => XS.ixor X36.here hx rfl (hb hby at_555) rfl kk_) ?_
      show Rch p e below (T36.setTop (mkF m 556 #[.val (.int p0), .val (.int p1), .val (.int p2), .val (.int p3), .val (.int p4), .val (.int p5), .val (.ref b1), .val (.ref b6), .val (.ref b11), .val (.int (Int32.ofNat f1)), .val (.int (Int32.ofNat (f1 + d1))), .val (.int (Int32.ofNat f2)), .val (.int (Int32.ofNat (f2 + d2))), .val (.int (Int32.ofNat zc)), .val (.int cl), .val (.ref b14), .val (.ref r1), .val (.int (Int32.ofNat (f1 + d1 - f1))), .val (.int (Int32.ofNat (f2 + d2 - f2))), .val (.int (Int32.ofNat pre)), .val (.int (Int32.ofNat (pre + (f2 + d2 - f2)))), .val (.int (1 : Int32)), .unset] [(.int (((fun j => if j < cp3 then fn3 j else 0) 0) ^^^ (1 : Int32))), (.int (0 : Int32)), (.ref r1)])) _
      refine Rch.go (fun _ kk_ => XS.i2b X36.here hx rfl (hb hby at_556) rfl kk_) ?_
      show Rch p e below (T36.setTop (mkF m 557 #[.val (.int p0), .val (.int p1), .val (.int p2), .val (.int p3), .val (.int p4), .val (.int p5), .val (.ref b1), .val (.ref b6), .val (.ref b11), .val (.int (Int32.ofNat f1)), .val (.int (Int32.ofNat (f1 + d1))), .val (.int (Int32.ofNat f2)), .val (.int (Int32.ofNat (f2 + d2))), .val (.int (Int32.ofNat zc)), .val (.int cl), .val (.ref b14), .val (.ref r1), .val (.int (Int32.ofNat (f1 + d1 - f1))), .val (.int (Int32.ofNat (f2 + d2 - f2))), .val (.int (Int32.ofNat pre)), .val (.int (Int32.ofNat (pre + (f2 + d2 - f2)))), .val (.int (1 : Int32)), .unset] [(.int ((((fun j => if j < cp3 then fn3 j else 0) 0) ^^^ (1 : Int32)).toInt8.toInt32)), (.int (0 : Int32)), (.ref r1)])) _
      obtain ⟨cl38, Ar38, Cc38, Sz38, Nn38, At38⟩ := id B_r1
      obtain ⟨T38, h38, X38, e38, W38, st38⟩ := stB X36 hx hZ e36 Ar38 (j := (0 : Int32)) (inb (k := 0) Sz38 (by decide) (by decide) (by omega)) (g := (mkF m 557 #[.val (.int p0), .val (.int p1), .val (.int p2), .val (.int p3), .val (.int p4), .val (.int p5), .val (.ref b1), .val (.ref b6), .val (.ref b11), .val (.int (Int32.ofNat f1)), .val (.int (Int32.ofNat (f1 + d1))), .val (.int (Int32.ofNat f2)), .val (.int (Int32.ofNat (f2 + d2))), .val (.int (Int32.ofNat zc)), .val (.int cl), .val (.ref b14), .val (.ref r1), .val (.int (Int32.ofNat (f1 + d1 - f1))), .val (.int (Int32.ofNat (f2 + d2 - f2))), .val (.int (Int32.ofNat pre)), .val (.int (Int32.ofNat (pre + (f2 + d2 - f2)))), .val (.int (1 : Int32)), .unset] [(.int ((((fun j => if j < cp3 then fn3 j else 0) 0) ^^^ (1 : Int32)).toInt8.toInt32)), (.int (0 : Int32)), (.ref r1)])) rfl rfl (hb hby at_557)
      have B_r1 := BB.set B_r1 (k := 0) (by decide) (by omega) (fits_nar_byte _) W38
      have E_b14 := E_b14.wr W38
      have Fb_b14 := Fb_b14.other W38 (Or.inl ne_b14_r1)
      have Fl_b14 := Fl_b14.other W38 (Or.inl ne_b14_r1)
      have Fo_b14 := Fo_b14.other W38 (Or.inl ne_b14_r1)
      have B_b1 := B_b1.other W38 ne_b1_r1
      have B_b6 := B_b6.other W38 ne_b6_r1
      have B_bf3 := B_bf3.other W38 ne_bf3_r1
      have Zs := Nat.le_trans Zs (Keep.of_wr W38).1
      have N38 := Fr.snoc X38 N36 g_r1
      refine Rch.go st38 ?_
      show Rch p e below (T38.setTop (mkF m 558 #[.val (.int p0), .val (.int p1), .val (.int p2), .val (.int p3), .val (.int p4), .val (.int p5), .val (.ref b1), .val (.ref b6), .val (.ref b11), .val (.int (Int32.ofNat f1)), .val (.int (Int32.ofNat (f1 + d1))), .val (.int (Int32.ofNat f2)), .val (.int (Int32.ofNat (f2 + d2))), .val (.int (Int32.ofNat zc)), .val (.int cl), .val (.ref b14), .val (.ref r1), .val (.int (Int32.ofNat (f1 + d1 - f1))), .val (.int (Int32.ofNat (f2 + d2 - f2))), .val (.int (Int32.ofNat pre)), .val (.int (Int32.ofNat (pre + (f2 + d2 - f2)))), .val (.int (1 : Int32)), .unset] [])) _
      exact Rch.here ⟨_, _, _, rfl, X38, e38, N38, Zs, E_b14, Fb_b14, Fl_b14, B_bf3, B_b1, B_b6⟩
    · refine Rch.go (fun _ kk_ => XS.ifYes X36.here hx rfl (pc0 := 544) (pc' := 558) rfl (hb hby at_544) rfl ((if0 _ _).trans (flt (fun q => hn0 ((ofNat_lt (i := 0) (by decide) (by omega)).mp q))).2.2.2) (by decide) (by decide) kk_) ?_
      show Rch p e below (T36.setTop (mkF m 558 #[.val (.int p0), .val (.int p1), .val (.int p2), .val (.int p3), .val (.int p4), .val (.int p5), .val (.ref b1), .val (.ref b6), .val (.ref b11), .val (.int (Int32.ofNat f1)), .val (.int (Int32.ofNat (f1 + d1))), .val (.int (Int32.ofNat f2)), .val (.int (Int32.ofNat (f2 + d2))), .val (.int (Int32.ofNat zc)), .val (.int cl), .val (.ref b14), .val (.ref r1), .val (.int (Int32.ofNat (f1 + d1 - f1))), .val (.int (Int32.ofNat (f2 + d2 - f2))), .val (.int (Int32.ofNat pre)), .val (.int (Int32.ofNat (pre + (f2 + d2 - f2)))), .val (.int (1 : Int32)), .unset] [])) _
      exact Rch.here ⟨_, _, _, rfl, X36, e36, N36, Zs, E_b14, Fb_b14, Fl_b14, B_bf3, B_b1, B_b6⟩
  rintro _ ⟨T37, L37, h37, rfl, X37, e37, N37, Zs, E_b14, Fb_b14, Fl_b14, B_bf3, B_b1, B_b6⟩
  show Rch p e below (T37.setTop (mkF m 558 #[.val (.int p0), .val (.int p1), .val (.int p2), .val (.int p3), .val (.int p4), .val (.int p5), .val (.ref b1), .val (.ref b6), .val (.ref b11), .val (.int (Int32.ofNat f1)), .val (.int (Int32.ofNat (f1 + d1))), .val (.int (Int32.ofNat f2)), .val (.int (Int32.ofNat (f2 + d2))), .val (.int (Int32.ofNat zc)), .val (.int cl), .val (.ref b14), .val (.ref r1), .val (.int (Int32.ofNat (f1 + d1 - f1))), .val (.int (Int32.ofNat (f2 + d2 - f2))), .val (.int (Int32.ofNat pre)), .val (.int (Int32.ofNat (pre + (f2 + d2 - f2)))), .val (.int (1 : Int32)), .unset] [])) _
  refine Rch.go (fun _ kk_ => XS.aload X37.here hx rfl (hb hby at_558) rfl rfl kk_) ?_
  show Rch p e below (T37.setTop (mkF m 560 #[.val (.int p0), .val (.int p1), .val (.int p2), .val (.int p3), .val (.int p4), .val (.int p5), .val (.ref b1), .val (.ref b6), .val (.ref b11), .val (.int (Int32.ofNat f1)), .val (.int (Int32.ofNat (f1 + d1))), .val (.int (Int32.ofNat f2)), .val (.int (Int32.ofNat (f2 + d2))), .val (.int (Int32.ofNat zc)), .val (.int cl), .val (.ref b14), .val (.ref r1), .val (.int (Int32.ofNat (f1 + d1 - f1))), .val (.int (Int32.ofNat (f2 + d2 - f2))), .val (.int (Int32.ofNat pre)), .val (.int (Int32.ofNat (pre + (f2 + d2 - f2)))), .val (.int (1 : Int32)), .unset] [(.ref b14)])) _
  refine Rch.callV X37 hx hZ hown (hw _ (List.mem_of_getElem? (i := 37) rfl)) (hw _ (List.mem_of_getElem? (i := 38) rfl)) (notFace_of_selects (args := #[]) (mvT hZ (hw _ (List.mem_of_getElem? (i := 40) rfl)))) (hw _ (List.mem_of_getElem? (i := 40) rfl)) (hw _ (List.mem_of_getElem? (i := 39) rfl)) (hw _ (List.mem_of_getElem? (i := 4) rfl)) (hw _ (List.mem_of_getElem? (i := 41) rfl)) (by decide) (rm6 l Z a0 hw [] b14 (pre + ((f2 + d2) - f2)) cp3 bf3 fn3 h37 n0 Zs (by omega) Fb_b14 Fl_b14 B_bf3) 0 (by decide) (by decide) (by decide) (by decide) e37 E_b14 (g := (mkF m 560 #[.val (.int p0), .val (.int p1), .val (.int p2), .val (.int p3), .val (.int p4), .val (.int p5), .val (.ref b1), .val (.ref b6), .val (.ref b11), .val (.int (Int32.ofNat f1)), .val (.int (Int32.ofNat (f1 + d1))), .val (.int (Int32.ofNat f2)), .val (.int (Int32.ofNat (f2 + d2))), .val (.int (Int32.ofNat zc)), .val (.int cl), .val (.ref b14), .val (.ref r1), .val (.int (Int32.ofNat (f1 + d1 - f1))), .val (.int (Int32.ofNat (f2 + d2 - f2))), .val (.int (Int32.ofNat pre)), .val (.int (Int32.ofNat (pre + (f2 + d2 - f2)))), .val (.int (1 : Int32)), .unset] [(.ref b14)])) rfl (by rw [hml]; rfl) [] [] rfl (lenOf pd0_2 rfl) rfl (by show 2 * 0 + _ ≤ _; exact Nat.le_of_eq rfl) (hb hby at_560) ?_
  intro v39 T39 L39 X39 hQ39
  obtain ⟨r2, rfl, N39q, K39, g_r2, sz_r2, Bn_r2⟩ := hQ39
  have ne_b14_r2 : NeA b14 r2 := Nat.ne_of_lt (Nat.lt_of_lt_of_le E_b14.lt sz_r2)
  have ne_bf3_r2 : NeA bf3 r2 := Nat.ne_of_lt (Nat.lt_of_lt_of_le B_bf3.lt sz_r2)
  have ne_b1_r2 : NeA b1 r2 := Nat.ne_of_lt (Nat.lt_of_lt_of_le B_b1.lt sz_r2)
  have ne_b6_r2 : NeA b6 r2 := Nat.ne_of_lt (Nat.lt_of_lt_of_le B_b6.lt sz_r2)
  have E_b14 := E_b14.keep K39
  have Fb_b14 := Fb_b14.keep K39 nin0
  have Fl_b14 := Fl_b14.keep K39 nin0
  have B_bf3 := B_bf3.keep K39 nin0
  have B_b1 := B_b1.keep K39 nin0
  have B_b6 := B_b6.keep K39 nin0
  have Zs := Nat.le_trans Zs K39.1
  have B_r2 := Bn_r2
  have N39 := Fr.app N37 N39q
  show Rch p e below (T39.setTop (mkF m 563 #[.val (.int p0), .val (.int p1), .val (.int p2), .val (.int p3), .val (.int p4), .val (.int p5), .val (.ref b1), .val (.ref b6), .val (.ref b11), .val (.int (Int32.ofNat f1)), .val (.int (Int32.ofNat (f1 + d1))), .val (.int (Int32.ofNat f2)), .val (.int (Int32.ofNat (f2 + d2))), .val (.int (Int32.ofNat zc)), .val (.int cl), .val (.ref b14), .val (.ref r1), .val (.int (Int32.ofNat (f1 + d1 - f1))), .val (.int (Int32.ofNat (f2 + d2 - f2))), .val (.int (Int32.ofNat pre)), .val (.int (Int32.ofNat (pre + (f2 + d2 - f2)))), .val (.int (1 : Int32)), .unset] [(.ref r2)])) _
  refine Rch.go (fun _ kk_ => XS.astore X39.here hx rfl (hb hby at_563) rfl rfl (l' := #[.val (.int p0), .val (.int p1), .val (.int p2), .val (.int p3), .val (.int p4), .val (.int p5), .val (.ref b1), .val (.ref b6), .val (.ref b11), .val (.int (Int32.ofNat f1)), .val (.int (Int32.ofNat (f1 + d1))), .val (.int (Int32.ofNat f2)), .val (.int (Int32.ofNat (f2 + d2))), .val (.int (Int32.ofNat zc)), .val (.int cl), .val (.ref b14), .val (.ref r1), .val (.int (Int32.ofNat (f1 + d1 - f1))), .val (.int (Int32.ofNat (f2 + d2 - f2))), .val (.int (Int32.ofNat pre)), .val (.int (Int32.ofNat (pre + (f2 + d2 - f2)))), .val (.int (1 : Int32)), .val (.ref r2)]) rfl kk_) ?_
  show Rch p e below (T39.setTop (mkF m 565 #[.val (.int p0), .val (.int p1), .val (.int p2), .val (.int p3), .val (.int p4), .val (.int p5), .val (.ref b1), .val (.ref b6), .val (.ref b11), .val (.int (Int32.ofNat f1)), .val (.int (Int32.ofNat (f1 + d1))), .val (.int (Int32.ofNat f2)), .val (.int (Int32.ofNat (f2 + d2))), .val (.int (Int32.ofNat zc)), .val (.int cl), .val (.ref b14), .val (.ref r1), .val (.int (Int32.ofNat (f1 + d1 - f1))), .val (.int (Int32.ofNat (f2 + d2 - f2))), .val (.int (Int32.ofNat pre)), .val (.int (Int32.ofNat (pre + (f2 + d2 - f2)))), .val (.int (1 : Int32)), .val (.ref r2)] [])) _
  refine Rch.go (fun _ kk_ => XS.aload X39.here hx rfl (hb hby at_565) rfl rfl kk_) ?_
  show Rch p e below (T39.setTop (mkF m 567 #[.val (.int p0), .val (.int p1), .val (.int p2), .val (.int p3), .val (.int p4), .val (.int p5), .val (.ref b1), .val (.ref b6), .val (.ref b11), .val (.int (Int32.ofNat f1)), .val (.int (Int32.ofNat (f1 + d1))), .val (.int (Int32.ofNat f2)), .val (.int (Int32.ofNat (f2 + d2))), .val (.int (Int32.ofNat zc)), .val (.int cl), .val (.ref b14), .val (.ref r1), .val (.int (Int32.ofNat (f1 + d1 - f1))), .val (.int (Int32.ofNat (f2 + d2 - f2))), .val (.int (Int32.ofNat pre)), .val (.int (Int32.ofNat (pre + (f2 + d2 - f2)))), .val (.int (1 : Int32)), .val (.ref r2)] [(.ref r2)])) _
  refine Rch.go (lenBB X39 hx hZ rfl B_r2 (g := (mkF m 567 #[.val (.int p0), .val (.int p1), .val (.int p2), .val (.int p3), .val (.int p4), .val (.int p5), .val (.ref b1), .val (.ref b6), .val (.ref b11), .val (.int (Int32.ofNat f1)), .val (.int (Int32.ofNat (f1 + d1))), .val (.int (Int32.ofNat f2)), .val (.int (Int32.ofNat (f2 + d2))), .val (.int (Int32.ofNat zc)), .val (.int cl), .val (.ref b14), .val (.ref r1), .val (.int (Int32.ofNat (f1 + d1 - f1))), .val (.int (Int32.ofNat (f2 + d2 - f2))), .val (.int (Int32.ofNat pre)), .val (.int (Int32.ofNat (pre + (f2 + d2 - f2)))), .val (.int (1 : Int32)), .val (.ref r2)] [(.ref r2)])) rfl (hb hby at_567) rfl) ?_
  show Rch p e below (T39.setTop (mkF m 568 #[.val (.int p0), .val (.int p1), .val (.int p2), .val (.int p3), .val (.int p4), .val (.int p5), .val (.ref b1), .val (.ref b6), .val (.ref b11), .val (.int (Int32.ofNat f1)), .val (.int (Int32.ofNat (f1 + d1))), .val (.int (Int32.ofNat f2)), .val (.int (Int32.ofNat (f2 + d2))), .val (.int (Int32.ofNat zc)), .val (.int cl), .val (.ref b14), .val (.ref r1), .val (.int (Int32.ofNat (f1 + d1 - f1))), .val (.int (Int32.ofNat (f2 + d2 - f2))), .val (.int (Int32.ofNat pre)), .val (.int (Int32.ofNat (pre + (f2 + d2 - f2)))), .val (.int (1 : Int32)), .val (.ref r2)] [(.int (Int32.ofNat (pre + ((f2 + d2) - f2))))])) _
  refine Rch.go (fun _ kk_ => XS.iload X39.here hx rfl (hb hby at_568) rfl  kk_) ?_
  show Rch p e below (T39.setTop (mkF m 570 #[.val (.int p0), .val (.int p1), .val (.int p2), .val (.int p3), .val (.int p4), .val (.int p5), .val (.ref b1), .val (.ref b6), .val (.ref b11), .val (.int (Int32.ofNat f1)), .val (.int (Int32.ofNat (f1 + d1))), .val (.int (Int32.ofNat f2)), .val (.int (Int32.ofNat (f2 + d2))), .val (.int (Int32.ofNat zc)), .val (.int cl), .val (.ref b14), .val (.ref r1), .val (.int (Int32.ofNat (f1 + d1 - f1))), .val (.int (Int32.ofNat (f2 + d2 - f2))), .val (.int (Int32.ofNat pre)), .val (.int (Int32.ofNat (pre + (f2 + d2 - f2)))), .val (.int (1 : Int32)), .val (.ref r2)] [(.int (Int32.ofNat (pre + (f2 + d2 - f2)))), (.int (Int32.ofNat (pre + ((f2 + d2) - f2))))])) _
  refine Rch.go (fun _ kk_ => XS.icmpYes X39.here hx rfl (pc0 := 570) (pc' := 575) rfl (hb hby at_570) rfl (teq rfl).1 (by decide) (by decide) kk_) ?_
  show Rch p e below (T39.setTop (mkF m 575 #[.val (.int p0), .val (.int p1), .val (.int p2), .val (.int p3), .val (.int p4), .val (.int p5), .val (.ref b1), .val (.ref b6), .val (.ref b11), .val (.int (Int32.ofNat f1)), .val (.int (Int32.ofNat (f1 + d1))), .val (.int (Int32.ofNat f2)), .val (.int (Int32.ofNat (f2 + d2))), .val (.int (Int32.ofNat zc)), .val (.int cl), .val (.ref b14), .val (.ref r1), .val (.int (Int32.ofNat (f1 + d1 - f1))), .val (.int (Int32.ofNat (f2 + d2 - f2))), .val (.int (Int32.ofNat pre)), .val (.int (Int32.ofNat (pre + (f2 + d2 - f2)))), .val (.int (1 : Int32)), .val (.ref r2)] [])) _
  refine Rch.go (fun _ kk_ => XS.aload X39.here hx rfl (hb hby at_575) rfl rfl kk_) ?_
  show Rch p e below (T39.setTop (mkF m 577 #[.val (.int p0), .val (.int p1), .val (.int p2), .val (.int p3), .val (.int p4), .val (.int p5), .val (.ref b1), .val (.ref b6), .val (.ref b11), .val (.int (Int32.ofNat f1)), .val (.int (Int32.ofNat (f1 + d1))), .val (.int (Int32.ofNat f2)), .val (.int (Int32.ofNat (f2 + d2))), .val (.int (Int32.ofNat zc)), .val (.int cl), .val (.ref b14), .val (.ref r1), .val (.int (Int32.ofNat (f1 + d1 - f1))), .val (.int (Int32.ofNat (f2 + d2 - f2))), .val (.int (Int32.ofNat pre)), .val (.int (Int32.ofNat (pre + (f2 + d2 - f2)))), .val (.int (1 : Int32)), .val (.ref r2)] [(.ref r2)])) _
  refine Rch.go (fun _ kk_ => XS.aload X39.here hx rfl (hb hby at_577) rfl rfl kk_) ?_
  show Rch p e below (T39.setTop (mkF m 579 #[.val (.int p0), .val (.int p1), .val (.int p2), .val (.int p3), .val (.int p4), .val (.int p5), .val (.ref b1), .val (.ref b6), .val (.ref b11), .val (.int (Int32.ofNat f1)), .val (.int (Int32.ofNat (f1 + d1))), .val (.int (Int32.ofNat f2)), .val (.int (Int32.ofNat (f2 + d2))), .val (.int (Int32.ofNat zc)), .val (.int cl), .val (.ref b14), .val (.ref r1), .val (.int (Int32.ofNat (f1 + d1 - f1))), .val (.int (Int32.ofNat (f2 + d2 - f2))), .val (.int (Int32.ofNat pre)), .val (.int (Int32.ofNat (pre + (f2 + d2 - f2)))), .val (.int (1 : Int32)), .val (.ref r2)] [(.ref b1), (.ref r2)])) _
  refine Rch.go (fun _ kk_ => XS.iload X39.here hx rfl (hb hby at_579) rfl  kk_) ?_
  show Rch p e below (T39.setTop (mkF m 581 #[.val (.int p0), .val (.int p1), .val (.int p2), .val (.int p3), .val (.int p4), .val (.int p5), .val (.ref b1), .val (.ref b6), .val (.ref b11), .val (.int (Int32.ofNat f1)), .val (.int (Int32.ofNat (f1 + d1))), .val (.int (Int32.ofNat f2)), .val (.int (Int32.ofNat (f2 + d2))), .val (.int (Int32.ofNat zc)), .val (.int cl), .val (.ref b14), .val (.ref r1), .val (.int (Int32.ofNat (f1 + d1 - f1))), .val (.int (Int32.ofNat (f2 + d2 - f2))), .val (.int (Int32.ofNat pre)), .val (.int (Int32.ofNat (pre + (f2 + d2 - f2)))), .val (.int (1 : Int32)), .val (.ref r2)] [(.int (Int32.ofNat f1)), (.ref b1), (.ref r2)])) _
  refine Rch.go (fun _ kk_ => XS.iload X39.here hx rfl (hb hby at_581) rfl  kk_) ?_
  show Rch p e below (T39.setTop (mkF m 583 #[.val (.int p0), .val (.int p1), .val (.int p2), .val (.int p3), .val (.int p4), .val (.int p5), .val (.ref b1), .val (.ref b6), .val (.ref b11), .val (.int (Int32.ofNat f1)), .val (.int (Int32.ofNat (f1 + d1))), .val (.int (Int32.ofNat f2)), .val (.int (Int32.ofNat (f2 + d2))), .val (.int (Int32.ofNat zc)), .val (.int cl), .val (.ref b14), .val (.ref r1), .val (.int (Int32.ofNat (f1 + d1 - f1))), .val (.int (Int32.ofNat (f2 + d2 - f2))), .val (.int (Int32.ofNat pre)), .val (.int (Int32.ofNat (pre + (f2 + d2 - f2)))), .val (.int (1 : Int32)), .val (.ref r2)] [(.int (Int32.ofNat (f1 + d1 - f1))), (.int (Int32.ofNat f1)), (.ref b1), (.ref r2)])) _
  refine Rch.go (fun _ kk_ => XS.iload X39.here hx rfl (hb hby at_583) rfl  kk_) ?_
  show Rch p e below (T39.setTop (mkF m 585 #[.val (.int p0), .val (.int p1), .val (.int p2), .val (.int p3), .val (.int p4), .val (.int p5), .val (.ref b1), .val (.ref b6), .val (.ref b11), .val (.int (Int32.ofNat f1)), .val (.int (Int32.ofNat (f1 + d1))), .val (.int (Int32.ofNat f2)), .val (.int (Int32.ofNat (f2 + d2))), .val (.int (Int32.ofNat zc)), .val (.int cl), .val (.ref b14), .val (.ref r1), .val (.int (Int32.ofNat (f1 + d1 - f1))), .val (.int (Int32.ofNat (f2 + d2 - f2))), .val (.int (Int32.ofNat pre)), .val (.int (Int32.ofNat (pre + (f2 + d2 - f2)))), .val (.int (1 : Int32)), .val (.ref r2)] [(.int (Int32.ofNat pre)), (.int (Int32.ofNat (f1 + d1 - f1))), (.int (Int32.ofNat f1)), (.ref b1), (.ref r2)])) _
  refine Rch.go (fun _ kk_ => XS.aload X39.here hx rfl (hb hby at_585) rfl rfl kk_) ?_
  show Rch p e below (T39.setTop (mkF m 587 #[.val (.int p0), .val (.int p1), .val (.int p2), .val (.int p3), .val (.int p4), .val (.int p5), .val (.ref b1), .val (.ref b6), .val (.ref b11), .val (.int (Int32.ofNat f1)), .val (.int (Int32.ofNat (f1 + d1))), .val (.int (Int32.ofNat f2)), .val (.int (Int32.ofNat (f2 + d2))), .val (.int (Int32.ofNat zc)), .val (.int cl), .val (.ref b14), .val (.ref r1), .val (.int (Int32.ofNat (f1 + d1 - f1))), .val (.int (Int32.ofNat (f2 + d2 - f2))), .val (.int (Int32.ofNat pre)), .val (.int (Int32.ofNat (pre + (f2 + d2 - f2)))), .val (.int (1 : Int32)), .val (.ref r2)] [(.ref b6), (.int (Int32.ofNat pre)), (.int (Int32.ofNat (f1 + d1 - f1))), (.int (Int32.ofNat f1)), (.ref b1), (.ref r2)])) _
  refine Rch.go (fun _ kk_ => XS.iload X39.here hx rfl (hb hby at_587) rfl  kk_) ?_
  show Rch p e below (T39.setTop (mkF m 589 #[.val (.int p0), .val (.int p1), .val (.int p2), .val (.int p3), .val (.int p4), .val (.int p5), .val (.ref b1), .val (.ref b6), .val (.ref b11), .val (.int (Int32.ofNat f1)), .val (.int (Int32.ofNat (f1 + d1))), .val (.int (Int32.ofNat f2)), .val (.int (Int32.ofNat (f2 + d2))), .val (.int (Int32.ofNat zc)), .val (.int cl), .val (.ref b14), .val (.ref r1), .val (.int (Int32.ofNat (f1 + d1 - f1))), .val (.int (Int32.ofNat (f2 + d2 - f2))), .val (.int (Int32.ofNat pre)), .val (.int (Int32.ofNat (pre + (f2 + d2 - f2)))), .val (.int (1 : Int32)), .val (.ref r2)] [(.int (Int32.ofNat f2)), (.ref b6), (.int (Int32.ofNat pre)), (.int (Int32.ofNat (f1 + d1 - f1))), (.int (Int32.ofNat f1)), (.ref b1), (.ref r2)])) _
  refine Rch.go (fun _ kk_ => XS.iconst X39.here hx rfl (hb hby at_589) kk_) ?_
  show Rch p e below (T39.setTop (mkF m 590 #[.val (.int p0), .val (.int p1), .val (.int p2), .val (.int p3), .val (.int p4), .val (.int p5), .val (.ref b1), .val (.ref b6), .val (.ref b11), .val (.int (Int32.ofNat f1)), .val (.int (Int32.ofNat (f1 + d1))), .val (.int (Int32.ofNat f2)), .val (.int (Int32.ofNat (f2 + d2))), .val (.int (Int32.ofNat zc)), .val (.int cl), .val (.ref b14), .val (.ref r1), .val (.int (Int32.ofNat (f1 + d1 - f1))), .val (.int (Int32.ofNat (f2 + d2 - f2))), .val (.int (Int32.ofNat pre)), .val (.int (Int32.ofNat (pre + (f2 + d2 - f2)))), .val (.int (1 : Int32)), .val (.ref r2)] [(.int (0 : Int32)), (.int (Int32.ofNat f2)), (.ref b6), (.int (Int32.ofNat pre)), (.int (Int32.ofNat (f1 + d1 - f1))), (.int (Int32.ofNat f1)), (.ref b1), (.ref r2)])) _
  refine Rch.callS X39 hx hZ hown (hw _ (List.mem_of_getElem? (i := 48) rfl)) (hw _ (List.mem_of_getElem? (i := 49) rfl)) (hw _ (List.mem_of_getElem? (i := 50) rfl)) (hw _ (List.mem_of_getElem? (i := 51) rfl)) (by decide) (rm8 l Z a0 hw [] r2 b1 b6 f1 (f1 + d1 - f1) pre f2 (pre + (f2 + d2 - f2)) (fun j => if j < cp3 then fn3 j else 0) g1 g2 (0 : Int32) T39.heap n0 Zs (by omega) (by omega) (by omega) (by omega) hall B_r2 B_b1 B_b6) 0 (by decide) (by decide) (by decide) (by decide) rfl (g := (mkF m 590 #[.val (.int p0), .val (.int p1), .val (.int p2), .val (.int p3), .val (.int p4), .val (.int p5), .val (.ref b1), .val (.ref b6), .val (.ref b11), .val (.int (Int32.ofNat f1)), .val (.int (Int32.ofNat (f1 + d1))), .val (.int (Int32.ofNat f2)), .val (.int (Int32.ofNat (f2 + d2))), .val (.int (Int32.ofNat zc)), .val (.int cl), .val (.ref b14), .val (.ref r1), .val (.int (Int32.ofNat (f1 + d1 - f1))), .val (.int (Int32.ofNat (f2 + d2 - f2))), .val (.int (Int32.ofNat pre)), .val (.int (Int32.ofNat (pre + (f2 + d2 - f2)))), .val (.int (1 : Int32)), .val (.ref r2)] [(.int (0 : Int32)), (.int (Int32.ofNat f2)), (.ref b6), (.int (Int32.ofNat pre)), (.int (Int32.ofNat (f1 + d1 - f1))), (.int (Int32.ofNat f1)), (.ref b1), (.ref r2)])) rfl (by rw [hml]; rfl) [(.ref r2), (.ref b1), (.int (Int32.ofNat f1)), (.int (Int32.ofNat (f1 + d1 - f1))), (.int (Int32.ofNat pre)), (.ref b6), (.int (Int32.ofNat f2)), (.int (0 : Int32))] [] rfl (lenOf pd0_3 rfl) rfl (by show 2 * 0 + _ ≤ _; exact Nat.le_of_eq rfl) (hb hby at_590) ?_
  intro v40 T40 L40 X40 hQ40
  obtain ⟨rfl, N40q, e40⟩ := hQ40
  have N40 := Fr.app N39 N40q
  show Rch p e below (T40.setTop (mkF m 593 #[.val (.int p0), .val (.int p1), .val (.int p2), .val (.int p3), .val (.int p4), .val (.int p5), .val (.ref b1), .val (.ref b6), .val (.ref b11), .val (.int (Int32.ofNat f1)), .val (.int (Int32.ofNat (f1 + d1))), .val (.int (Int32.ofNat f2)), .val (.int (Int32.ofNat (f2 + d2))), .val (.int (Int32.ofNat zc)), .val (.int cl), .val (.ref b14), .val (.ref r1), .val (.int (Int32.ofNat (f1 + d1 - f1))), .val (.int (Int32.ofNat (f2 + d2 - f2))), .val (.int (Int32.ofNat pre)), .val (.int (Int32.ofNat (pre + (f2 + d2 - f2)))), .val (.int (1 : Int32)), .val (.ref r2)] [(.int (1 : Int32))])) _
  refine Rch.go (fun _ kk_ => XS.ifNo X40.here hx rfl (hb hby at_593) rfl ((if0 _ _).trans (feq (by decide)).1) kk_) ?_
  show Rch p e below (T40.setTop (mkF m 596 #[.val (.int p0), .val (.int p1), .val (.int p2), .val (.int p3), .val (.int p4), .val (.int p5), .val (.ref b1), .val (.ref b6), .val (.ref b11), .val (.int (Int32.ofNat f1)), .val (.int (Int32.ofNat (f1 + d1))), .val (.int (Int32.ofNat f2)), .val (.int (Int32.ofNat (f2 + d2))), .val (.int (Int32.ofNat zc)), .val (.int cl), .val (.ref b14), .val (.ref r1), .val (.int (Int32.ofNat (f1 + d1 - f1))), .val (.int (Int32.ofNat (f2 + d2 - f2))), .val (.int (Int32.ofNat pre)), .val (.int (Int32.ofNat (pre + (f2 + d2 - f2)))), .val (.int (1 : Int32)), .val (.ref r2)] [])) _
  refine Rch.go (fun _ kk_ => XS.aload X40.here hx rfl (hb hby at_596) rfl rfl kk_) ?_
  show Rch p e below (T40.setTop (mkF m 598 #[.val (.int p0), .val (.int p1), .val (.int p2), .val (.int p3), .val (.int p4), .val (.int p5), .val (.ref b1), .val (.ref b6), .val (.ref b11), .val (.int (Int32.ofNat f1)), .val (.int (Int32.ofNat (f1 + d1))), .val (.int (Int32.ofNat f2)), .val (.int (Int32.ofNat (f2 + d2))), .val (.int (Int32.ofNat zc)), .val (.int cl), .val (.ref b14), .val (.ref r1), .val (.int (Int32.ofNat (f1 + d1 - f1))), .val (.int (Int32.ofNat (f2 + d2 - f2))), .val (.int (Int32.ofNat pre)), .val (.int (Int32.ofNat (pre + (f2 + d2 - f2)))), .val (.int (1 : Int32)), .val (.ref r2)] [(.ref r2)])) _
  refine Rch.go (fun _ kk_ => XS.aload X40.here hx rfl (hb hby at_598) rfl rfl kk_) ?_
  show Rch p e below (T40.setTop (mkF m 600 #[.val (.int p0), .val (.int p1), .val (.int p2), .val (.int p3), .val (.int p4), .val (.int p5), .val (.ref b1), .val (.ref b6), .val (.ref b11), .val (.int (Int32.ofNat f1)), .val (.int (Int32.ofNat (f1 + d1))), .val (.int (Int32.ofNat f2)), .val (.int (Int32.ofNat (f2 + d2))), .val (.int (Int32.ofNat zc)), .val (.int cl), .val (.ref b14), .val (.ref r1), .val (.int (Int32.ofNat (f1 + d1 - f1))), .val (.int (Int32.ofNat (f2 + d2 - f2))), .val (.int (Int32.ofNat pre)), .val (.int (Int32.ofNat (pre + (f2 + d2 - f2)))), .val (.int (1 : Int32)), .val (.ref r2)] [(.ref b1), (.ref r2)])) _
  refine Rch.go (fun _ kk_ => XS.iload X40.here hx rfl (hb hby at_600) rfl  kk_) ?_
  show Rch p e below (T40.setTop (mkF m 602 #[.val (.int p0), .val (.int p1), .val (.int p2), .val (.int p3), .val (.int p4), .val (.int p5), .val (.ref b1), .val (.ref b6), .val (.ref b11), .val (.int (Int32.ofNat f1)), .val (.int (Int32.ofNat (f1 + d1))), .val (.int (Int32.ofNat f2)), .val (.int (Int32.ofNat (f2 + d2))), .val (.int (Int32.ofNat zc)), .val (.int cl), .val (.ref b14), .val (.ref r1), .val (.int (Int32.ofNat (f1 + d1 - f1))), .val (.int (Int32.ofNat (f2 + d2 - f2))), .val (.int (Int32.ofNat pre)), .val (.int (Int32.ofNat (pre + (f2 + d2 - f2)))), .val (.int (1 : Int32)), .val (.ref r2)] [(.int (Int32.ofNat f1)), (.ref b1), (.ref r2)])) _
  refine Rch.go (fun _ kk_ => XS.iload X40.here hx rfl (hb hby at_602) rfl  kk_) ?_
  show Rch p e below (T40.setTop (mkF m 604 #[.val (.int p0), .val (.int p1), .val (.int p2), .val (.int p3), .val (.int p4), .val (.int p5), .val (.ref b1), .val (.ref b6), .val (.ref b11), .val (.int (Int32.ofNat f1)), .val (.int (Int32.ofNat (f1 + d1))), .val (.int (Int32.ofNat f2)), .val (.int (Int32.ofNat (f2 + d2))), .val (.int (Int32.ofNat zc)), .val (.int cl), .val (.ref b14), .val (.ref r1), .val (.int (Int32.ofNat (f1 + d1 - f1))), .val (.int (Int32.ofNat (f2 + d2 - f2))), .val (.int (Int32.ofNat pre)), .val (.int (Int32.ofNat (pre + (f2 + d2 - f2)))), .val (.int (1 : Int32)), .val (.ref r2)] [(.int (Int32.ofNat (f1 + d1 - f1))), (.int (Int32.ofNat f1)), (.ref b1), (.ref r2)])) _
  refine Rch.go (fun _ kk_ => XS.iload X40.here hx rfl (hb hby at_604) rfl  kk_) ?_
  show Rch p e below (T40.setTop (mkF m 606 #[.val (.int p0), .val (.int p1), .val (.int p2), .val (.int p3), .val (.int p4), .val (.int p5), .val (.ref b1), .val (.ref b6), .val (.ref b11), .val (.int (Int32.ofNat f1)), .val (.int (Int32.ofNat (f1 + d1))), .val (.int (Int32.ofNat f2)), .val (.int (Int32.ofNat (f2 + d2))), .val (.int (Int32.ofNat zc)), .val (.int cl), .val (.ref b14), .val (.ref r1), .val (.int (Int32.ofNat (f1 + d1 - f1))), .val (.int (Int32.ofNat (f2 + d2 - f2))), .val (.int (Int32.ofNat pre)), .val (.int (Int32.ofNat (pre + (f2 + d2 - f2)))), .val (.int (1 : Int32)), .val (.ref r2)] [(.int (Int32.ofNat pre)), (.int (Int32.ofNat (f1 + d1 - f1))), (.int (Int32.ofNat f1)), (.ref b1), (.ref r2)])) _
  refine Rch.go (fun _ kk_ => XS.aload X40.here hx rfl (hb hby at_606) rfl rfl kk_) ?_
  show Rch p e below (T40.setTop (mkF m 608 #[.val (.int p0), .val (.int p1), .val (.int p2), .val (.int p3), .val (.int p4), .val (.int p5), .val (.ref b1), .val (.ref b6), .val (.ref b11), .val (.int (Int32.ofNat f1)), .val (.int (Int32.ofNat (f1 + d1))), .val (.int (Int32.ofNat f2)), .val (.int (Int32.ofNat (f2 + d2))), .val (.int (Int32.ofNat zc)), .val (.int cl), .val (.ref b14), .val (.ref r1), .val (.int (Int32.ofNat (f1 + d1 - f1))), .val (.int (Int32.ofNat (f2 + d2 - f2))), .val (.int (Int32.ofNat pre)), .val (.int (Int32.ofNat (pre + (f2 + d2 - f2)))), .val (.int (1 : Int32)), .val (.ref r2)] [(.ref b6), (.int (Int32.ofNat pre)), (.int (Int32.ofNat (f1 + d1 - f1))), (.int (Int32.ofNat f1)), (.ref b1), (.ref r2)])) _
  refine Rch.go (fun _ kk_ => XS.iload X40.here hx rfl (hb hby at_608) rfl  kk_) ?_
  show Rch p e below (T40.setTop (mkF m 610 #[.val (.int p0), .val (.int p1), .val (.int p2), .val (.int p3), .val (.int p4), .val (.int p5), .val (.ref b1), .val (.ref b6), .val (.ref b11), .val (.int (Int32.ofNat f1)), .val (.int (Int32.ofNat (f1 + d1))), .val (.int (Int32.ofNat f2)), .val (.int (Int32.ofNat (f2 + d2))), .val (.int (Int32.ofNat zc)), .val (.int cl), .val (.ref b14), .val (.ref r1), .val (.int (Int32.ofNat (f1 + d1 - f1))), .val (.int (Int32.ofNat (f2 + d2 - f2))), .val (.int (Int32.ofNat pre)), .val (.int (Int32.ofNat (pre + (f2 + d2 - f2)))), .val (.int (1 : Int32)), .val (.ref r2)] [(.int (Int32.ofNat f2)), (.ref b6), (.int (Int32.ofNat pre)), (.int (Int32.ofNat (f1 + d1 - f1))), (.int (Int32.ofNat f1)), (.ref b1), (.ref r2)])) _
  refine Rch.go (fun _ kk_ => XS.iload X40.here hx rfl (hb hby at_610) rfl  kk_) ?_
  show Rch p e below (T40.setTop (mkF m 612 #[.val (.int p0), .val (.int p1), .val (.int p2), .val (.int p3), .val (.int p4), .val (.int p5), .val (.ref b1), .val (.ref b6), .val (.ref b11), .val (.int (Int32.ofNat f1)), .val (.int (Int32.ofNat (f1 + d1))), .val (.int (Int32.ofNat f2)), .val (.int (Int32.ofNat (f2 + d2))), .val (.int (Int32.ofNat zc)), .val (.int cl), .val (.ref b14), .val (.ref r1), .val (.int (Int32.ofNat (f1 + d1 - f1))), .val (.int (Int32.ofNat (f2 + d2 - f2))), .val (.int (Int32.ofNat pre)), .val (.int (Int32.ofNat (pre + (f2 + d2 - f2)))), .val (.int (1 : Int32)), .val (.ref r2)] [(.int (Int32.ofNat pre)), (.int (Int32.ofNat f2)), (.ref b6), (.int (Int32.ofNat pre)), (.int (Int32.ofNat (f1 + d1 - f1))), (.int (Int32.ofNat f1)), (.ref b1), (.ref r2)])) _
  refine Rch.callS X40 hx hZ hown (hw _ (List.mem_of_getElem? (i := 48) rfl)) (hw _ (List.mem_of_getElem? (i := 49) rfl)) (hw _ (List.mem_of_getElem? (i := 50) rfl)) (hw _ (List.mem_of_getElem? (i := 51) rfl)) (by decide) (rm8 l Z a0 hw [] r2 b1 b6 f1 (f1 + d1 - f1) pre f2 (pre + (f2 + d2 - f2)) (fun j => if j < cp3 then fn3 j else 0) g1 g2 (Int32.ofNat pre) T39.heap n0 Zs (by omega) (by omega) (by omega) (by omega) hall B_r2 B_b1 B_b6) 0 (by decide) (by decide) (by decide) (by decide) e40 (g := (mkF m 612 #[.val (.int p0), .val (.int p1), .val (.int p2), .val (.int p3), .val (.int p4), .val (.int p5), .val (.ref b1), .val (.ref b6), .val (.ref b11), .val (.int (Int32.ofNat f1)), .val (.int (Int32.ofNat (f1 + d1))), .val (.int (Int32.ofNat f2)), .val (.int (Int32.ofNat (f2 + d2))), .val (.int (Int32.ofNat zc)), .val (.int cl), .val (.ref b14), .val (.ref r1), .val (.int (Int32.ofNat (f1 + d1 - f1))), .val (.int (Int32.ofNat (f2 + d2 - f2))), .val (.int (Int32.ofNat pre)), .val (.int (Int32.ofNat (pre + (f2 + d2 - f2)))), .val (.int (1 : Int32)), .val (.ref r2)] [(.int (Int32.ofNat pre)), (.int (Int32.ofNat f2)), (.ref b6), (.int (Int32.ofNat pre)), (.int (Int32.ofNat (f1 + d1 - f1))), (.int (Int32.ofNat f1)), (.ref b1), (.ref r2)])) rfl (by rw [hml]; rfl) [(.ref r2), (.ref b1), (.int (Int32.ofNat f1)), (.int (Int32.ofNat (f1 + d1 - f1))), (.int (Int32.ofNat pre)), (.ref b6), (.int (Int32.ofNat f2)), (.int (Int32.ofNat pre))] [] rfl (lenOf pd0_3 rfl) rfl (by show 2 * 0 + _ ≤ _; exact Nat.le_of_eq rfl) (hb hby at_612) ?_
  intro v41 T41 L41 X41 hQ41
  obtain ⟨rfl, N41q, e41⟩ := hQ41
  have N41 := Fr.app N40 N41q
  show Rch p e below (T41.setTop (mkF m 615 #[.val (.int p0), .val (.int p1), .val (.int p2), .val (.int p3), .val (.int p4), .val (.int p5), .val (.ref b1), .val (.ref b6), .val (.ref b11), .val (.int (Int32.ofNat f1)), .val (.int (Int32.ofNat (f1 + d1))), .val (.int (Int32.ofNat f2)), .val (.int (Int32.ofNat (f2 + d2))), .val (.int (Int32.ofNat zc)), .val (.int cl), .val (.ref b14), .val (.ref r1), .val (.int (Int32.ofNat (f1 + d1 - f1))), .val (.int (Int32.ofNat (f2 + d2 - f2))), .val (.int (Int32.ofNat pre)), .val (.int (Int32.ofNat (pre + (f2 + d2 - f2)))), .val (.int (1 : Int32)), .val (.ref r2)] [(.int (1 : Int32))])) _
  refine Rch.go (fun _ kk_ => XS.ifNo X41.here hx rfl (hb hby at_615) rfl ((if0 _ _).trans (feq (by decide)).1) kk_) ?_
  show Rch p e below (T41.setTop (mkF m 618 #[.val (.int p0), .val (.int p1), .val (.int p2), .val (.int p3), .val (.int p4), .val (.int p5), .val (.ref b1), .val (.ref b6), .val (.ref b11), .val (.int (Int32.ofNat f1)), .val (.int (Int32.ofNat (f1 + d1))), .val (.int (Int32.ofNat f2)), .val (.int (Int32.ofNat (f2 + d2))), .val (.int (Int32.ofNat zc)), .val (.int cl), .val (.ref b14), .val (.ref r1), .val (.int (Int32.ofNat (f1 + d1 - f1))), .val (.int (Int32.ofNat (f2 + d2 - f2))), .val (.int (Int32.ofNat pre)), .val (.int (Int32.ofNat (pre + (f2 + d2 - f2)))), .val (.int (1 : Int32)), .val (.ref r2)] [])) _
  refine Rch.go (fun _ kk_ => XS.iconst X41.here hx rfl (hb hby at_618) kk_) ?_
  show Rch p e below (T41.setTop (mkF m 619 #[.val (.int p0), .val (.int p1), .val (.int p2), .val (.int p3), .val (.int p4), .val (.int p5), .val (.ref b1), .val (.ref b6), .val (.ref b11), .val (.int (Int32.ofNat f1)), .val (.int (Int32.ofNat (f1 + d1))), .val (.int (Int32.ofNat f2)), .val (.int (Int32.ofNat (f2 + d2))), .val (.int (Int32.ofNat zc)), .val (.int cl), .val (.ref b14), .val (.ref r1), .val (.int (Int32.ofNat (f1 + d1 - f1))), .val (.int (Int32.ofNat (f2 + d2 - f2))), .val (.int (Int32.ofNat pre)), .val (.int (Int32.ofNat (pre + (f2 + d2 - f2)))), .val (.int (1 : Int32)), .val (.ref r2)] [(.int (1 : Int32))])) _
  refine Rch.go (fun _ kk_ => XS.goto X41.here hx rfl (pc0 := 619) (pc' := 623) rfl (hb hby at_619) (by decide) (by decide) kk_) ?_
  show Rch p e below (T41.setTop (mkF m 623 #[.val (.int p0), .val (.int p1), .val (.int p2), .val (.int p3), .val (.int p4), .val (.int p5), .val (.ref b1), .val (.ref b6), .val (.ref b11), .val (.int (Int32.ofNat f1)), .val (.int (Int32.ofNat (f1 + d1))), .val (.int (Int32.ofNat f2)), .val (.int (Int32.ofNat (f2 + d2))), .val (.int (Int32.ofNat zc)), .val (.int cl), .val (.ref b14), .val (.ref r1), .val (.int (Int32.ofNat (f1 + d1 - f1))), .val (.int (Int32.ofNat (f2 + d2 - f2))), .val (.int (Int32.ofNat pre)), .val (.int (Int32.ofNat (pre + (f2 + d2 - f2)))), .val (.int (1 : Int32)), .val (.ref r2)] [(.int (1 : Int32))])) _
  exact Rch.ret X41 hlk (fun h => by rw [hret] at h; cases h) (fun fs hr => retN X41 hx (t := .boolean) hret (by simp) (hb hby at_623) hr) ⟨rfl, N41⟩ (by decide) (by decide)
set_option maxRecDepth 65536 in
set_option maxHeartbeats 40000000 in
theorem comes_1 {Post : Tables → Env → Array Value → State → Outcome → State → Prop} (hpost : ∀ tb e args s v u, (limb_1_1.after args s (.returned v) u = true ∧ limb_1_2.after args s (.returned v) u = true ∧ True) → FrameEnd s (.returned v) u (Jvm.fieldLocs frame_1_writes args s ++ Jvm.arrayLocs frame_1_arrays args s ++ Jvm.staticLocs frame_1_statics s) 24 3584 → Post tb e args s (.returned v) u) :
    ArmFor flags0 classFile x code maxLocals ret World_1 tables_1 room_1 Calls_1 rest_1 Pre_1 Post := by
  intro l hfl _ _ p e ha hc hk s m args below hf hA hF happ hP
  obtain ⟨hcalls, hrest, hpre⟩ := hP
  obtain ⟨-, -, -, hnamed, -, -, -, hat⟩ := (Spec.applies_iff hf).mp happ
  obtain ⟨hg, hn⟩ := and_e (Cond.before_iff.mp (show (Jvm.Cond.and given_1 narrow_1).before args s = true from hpre))
  obtain ⟨hcount, q0⟩ := and_e hg
  obtain ⟨b0, q1⟩ := and_e q0
  obtain ⟨b1, q2⟩ := and_e q1
  obtain ⟨b2, q3⟩ := and_e q2
  obtain ⟨b3, q4⟩ := and_e q3
  obtain ⟨b4, q5⟩ := and_e q4
  obtain ⟨w0, w1, w2, w3, w4, w5, rfl⟩ : ∃ w0 w1 w2 w3 w4 w5 : Value, args = #[w0, w1, w2, w3, w4, w5] := by
    have hs : args.size = 6 := by simpa [Cond.value, given_1] using hcount
    obtain ⟨L⟩ := args
    match L, hs with
    | [w0, w1, w2, w3, w4, w5], _ => exact ⟨w0, w1, w2, w3, w4, w5, rfl⟩
  have hw := fun d (hd : d ∈ tables_1) => atoms_spec (ws := Jvm.Cond.code x code maxLocals ret :: tables_1) hat d (List.mem_cons_of_mem _ hd)
  have hfit : Fit s := fun {y c} hc i hi => by
    obtain ⟨ha, rfl⟩ := Array.getElem?_eq_some_iff.mp hc
    have q := List.all_eq_true.mp ((Array.all_eq_true_iff_forall_mem.mp hF) _ (Array.getElem_mem ha)) i (List.mem_range.mpr hi)
    simpa [Array.getElem?_eq_getElem hi] using q
  obtain ⟨i0, ei0⟩ := is_v b0
  obtain rfl : w0 = (.int i0) := Option.some.inj ei0
  obtain ⟨i1, ei1⟩ := is_v b1
  obtain rfl : w1 = (.int i1) := Option.some.inj ei1
  obtain ⟨i2, ei2⟩ := is_v b2
  obtain rfl : w2 = (.int i2) := Option.some.inj ei2
  obtain ⟨i3, ei3⟩ := is_v b3
  obtain rfl : w3 = (.int i3) := Option.some.inj ei3
  obtain ⟨i4, ei4⟩ := is_v b4
  obtain rfl : w4 = (.int i4) := Option.some.inj ei4
  obtain ⟨i5, ei5⟩ := is_v q5
  obtain rfl : w5 = (.int i5) := Option.some.inj ei5
  obtain ⟨n, o, h1, h2, h3, _, L, rfl, ⟨rfl, N⟩, hq⟩ := rm0 l s _ hw tables_1 i0 i1 i2 i3 i4 i5 s.heap s.heap.size (Nat.le_refl _)  p e ha hc hk s m _ below hf ((Spec.applies_iff_loose hf).mp happ).1 ⟨rfl, State.Warmed39.refl s, rfl⟩ trivial
  refine ⟨n, _, h1, h2, h3, hpost _ _ _ _ _ _ ⟨Cond.after_iff.mpr rfl, Cond.after_iff.mpr (eq_i res_at (Term.int_eval (1)) rfl), trivial⟩ ⟨hq.1, hq.2.1, (hq.2.2.sift fun y hy => Or.inr (N y hy)).mono (by decide) (by decide)⟩⟩
theorem main_1_1 : Claimed_1_1 := comes_1 fun _ _ _ _ _ _ h hF => ⟨h.1, hF⟩
theorem main_1_2 : Claimed_1_2 := comes_1 fun _ _ _ _ _ _ h hF => ⟨h.2.1, hF⟩
end Jvm.Pilot.@@N@@
namespace Jvm.Pilot.@@N@@
open Jvm Jvm.ClassFile Sem Op Lib Jvm.Free Jvm.Stand Jvm.Pilot.@@N@@.Jvm.D
/-! MADE BY PROGRAM (witnessworld.py) out of the Statement's table words and the real class files: 12 classes; the members and pool entries that the words name. The judged class is class 1, her method 1. -/
namespace start1
open Jvm.ClassFile
def u (s : String) : CpInfo := .utf8 (stringToUtf16 s)
/-- a pool by its gaps: so many unusable entries, then the entry; so many at the end -/
def gap : Nat → List CpInfo → List CpInfo
  | 0, r => r
  | n + 1, r => .unusable :: gap n r
def poolList (es : List (Nat × CpInfo)) (last : Nat) : List CpInfo := es.foldr (fun e r => gap e.1 (e.2 :: r)) (gap last [])
def pool (es : List (Nat × CpInfo)) (last : Nat) : Array CpInfo := ⟨poolList es last⟩
def fileOf (pool : Array CpInfo) (this : Nat) (attrs : Array Attribute := #[]) (ms : Array MethodInfo := #[]) (fl : Nat := 33) (sup : Nat := 0) (ifs : Array Nat := #[]) (fds : Array FieldInfo := #[]) : ClassFile where
  minorVersion := 0
  majorVersion := 65
  constantPool := pool
  accessFlags := fl
  thisClass := this
  superClass := sup
  interfaces := ifs
  fields := fds
  methods := ms
  attributes := attrs
def plain (name : String) (sup : Option ClassId) : Class where
  name := name
  kind := .ordinary
  loader := none
  accessFlags := 33
  super := sup
  interfaces := #[]
  cf := none
  fields := #[]
  methods := #[]
  instanceTypes := #[]
  staticTypes := #[]
  resolved := #[]
  callSites := []
  init := .initialized
  statics := none
  mirror := none

def pool0 : Array CpInfo := pool [(5, u "<init>"), (0, u "()V"), (1, .class_ 10), (1, u "java/lang/Object"), (85, u "clone"), (0, u "()Ljava/lang/Object;")] 26

def k0c0 : Code := { maxStack := 0, maxLocals := 1, code := object_method_1_code, exceptionTable := #[], attributes := #[] }
def k0m0 : Method := { name := "<init>", desc := "()V", sig := { parameters := [], returnType := none }, accessFlags := 1, code := some k0c0 }
def k0m1 : Method := { name := "clone", desc := "()Ljava/lang/Object;", sig := { parameters := [], returnType := some (.object "java/lang/Object") }, accessFlags := 260, code := none }
/-- java/lang/Object -/
def k0 : Class := { plain "java/lang/Object" none with
  accessFlags := 33
  interfaces := #[]
  cf := some (fileOf pool0 8 #[] #[{ accessFlags := 1, nameIndex := 5, descriptorIndex := 6, attributes := #[] }, { accessFlags := 260, nameIndex := 96, descriptorIndex := 97, attributes := #[] }] 33 0 #[] #[])
  fields := #[]
  methods := #[k0m0, k0m1]
  instanceTypes := #[]
  staticTypes := #[]
  resolved := Array.replicate 124 none
  statics := none }

def pool1 : Array CpInfo := pool [(2, .class_ 4), (0, .nameAndType 5 6), (0, u "java/lang/Object"), (0, u "<init>"), (0, u "()V"), (0, .integer 2147483647), (0, .class_ 9), (0, u "com/example/vaxwire/vaxwire/hl7/BoundedBytes"), (0, .methodref 8 3), (0, .methodref 8 12), (0, .nameAndType 13 14), (0, u "append"), (0, u "([BII)V"), (0, .methodref 8 16), (0, .nameAndType 17 6), (0, u "clear"), (0, .methodref 8 19), (0, .nameAndType 20 21), (0, u "toArray"), (0, u "()[B"), (0, .methodref 23 24), (0, .class_ 25), (0, .nameAndType 26 27), (0, u "com/example/vaxwire/vaxwire/hl7/BoundedBytesToArrayPinLaw"), (0, u "at"), (0, u "([B[BIII[BII)Z"), (0, .methodref 23 29), (0, .nameAndType 30 31), (0, u "exp"), (0, u "([BIII[BII)B"), (2, u "law"), (0, u "(IIIIII)Z")] 5

def k1m0 : Method := { name := "<init>", desc := "()V", sig := { parameters := [], returnType := none }, accessFlags := 1, code := none }
def k1c1 : Code := { maxStack := 9, maxLocals := 23, code := code, exceptionTable := #[], attributes := #[] }
def k1m1 : Method := { name := "law", desc := "(IIIIII)Z", sig := { parameters := [.int, .int, .int, .int, .int, .int], returnType := some .boolean }, accessFlags := 9, code := some k1c1 }
def k1c2 : Code := { maxStack := 3, maxLocals := 7, code := method_3_code, exceptionTable := #[], attributes := #[] }
def k1m2 : Method := { name := "exp", desc := "([BIII[BII)B", sig := { parameters := [(.array .byte), .int, .int, .int, (.array .byte), .int, .int], returnType := some .byte }, accessFlags := 10, code := some k1c2 }
def k1c3 : Code := { maxStack := 8, maxLocals := 8, code := method_4_code, exceptionTable := #[], attributes := #[] }
def k1m3 : Method := { name := "at", desc := "([B[BIII[BII)Z", sig := { parameters := [(.array .byte), (.array .byte), .int, .int, .int, (.array .byte), .int, .int], returnType := some .boolean }, accessFlags := 10, code := some k1c3 }
/-- com/example/vaxwire/vaxwire/hl7/BoundedBytesToArrayPinLaw -/
def k1 : Class := { plain "com/example/vaxwire/vaxwire/hl7/BoundedBytesToArrayPinLaw" (some 0) with
  accessFlags := 49
  interfaces := #[]
  cf := some (fileOf pool1 23 #[] #[{ accessFlags := 1, nameIndex := 5, descriptorIndex := 6, attributes := #[] }, { accessFlags := 9, nameIndex := 34, descriptorIndex := 35, attributes := #[] }, { accessFlags := 10, nameIndex := 30, descriptorIndex := 31, attributes := #[] }, { accessFlags := 10, nameIndex := 26, descriptorIndex := 27, attributes := #[] }] 49 2 #[] #[])
  fields := #[]
  methods := #[k1m0, k1m1, k1m2, k1m3]
  instanceTypes := #[]
  staticTypes := #[]
  resolved := Array.replicate 41 none
  statics := none }

def pool2 : Array CpInfo := pool [(1, .methodref 2 3), (0, .class_ 4), (0, .nameAndType 5 6), (0, u "java/lang/Object"), (0, u "<init>"), (0, u "()V"), (0, .class_ 8), (0, u "com/example/vaxwire/vaxwire/hl7/BoundedBytes"), (0, .fieldref 7 10), (0, .nameAndType 11 12), (0, u "bytes"), (0, u "[B"), (0, .integer 65536), (0, .fieldref 7 15), (0, .nameAndType 16 17), (0, u "length"), (0, u "I"), (0, .fieldref 7 19), (0, .nameAndType 20 21), (0, u "overflowed"), (0, u "Z"), (2, .integer 1048576), (0, .methodref 26 27), (0, .class_ 28), (0, .nameAndType 29 30), (0, u "java/lang/Math"), (0, u "min"), (0, u "(II)I"), (0, .methodref 32 33), (0, .class_ 34), (0, .nameAndType 35 36), (0, u "java/util/Arrays"), (0, u "copyOf"), (0, u "([BI)[B"), (0, .methodref 38 39), (0, .class_ 40), (0, .nameAndType 41 42), (0, u "java/lang/System"), (0, u "arraycopy"), (0, u "(Ljava/lang/Object;ILjava/lang/Object;II)V"), (11, u "INITIAL_BYTES"), (2, u "RETAINED_BYTES"), (2, u "clear"), (1, u "append"), (0, u "([BII)V"), (1, u "toArray"), (0, u "()[B")] 4

def k2c0 : Code := { maxStack := 2, maxLocals := 1, code := prog_4_method_1_code, exceptionTable := #[], attributes := #[] }
def k2m0 : Method := { name := "<init>", desc := "()V", sig := { parameters := [], returnType := none }, accessFlags := 0, code := some k2c0 }
def k2c1 : Code := { maxStack := 2, maxLocals := 1, code := prog_4_method_2_code, exceptionTable := #[], attributes := #[] }
def k2m1 : Method := { name := "clear", desc := "()V", sig := { parameters := [], returnType := none }, accessFlags := 0, code := some k2c1 }
def k2c2 : Code := { maxStack := 6, maxLocals := 5, code := prog_4_method_3_code, exceptionTable := #[], attributes := #[] }
def k2m2 : Method := { name := "append", desc := "([BII)V", sig := { parameters := [(.array .byte), .int, .int], returnType := none }, accessFlags := 0, code := some k2c2 }
def k2c3 : Code := { maxStack := 2, maxLocals := 1, code := prog_4_method_5_code, exceptionTable := #[], attributes := #[] }
def k2m3 : Method := { name := "toArray", desc := "()[B", sig := { parameters := [], returnType := some (.array .byte) }, accessFlags := 0, code := some k2c3 }
/-- com/example/vaxwire/vaxwire/hl7/BoundedBytes -/
def k2 : Class := { plain "com/example/vaxwire/vaxwire/hl7/BoundedBytes" (some 0) with
  accessFlags := 48
  interfaces := #[]
  cf := some (fileOf pool2 7 #[] #[{ accessFlags := 0, nameIndex := 5, descriptorIndex := 6, attributes := #[] }, { accessFlags := 0, nameIndex := 60, descriptorIndex := 6, attributes := #[] }, { accessFlags := 0, nameIndex := 62, descriptorIndex := 63, attributes := #[] }, { accessFlags := 0, nameIndex := 65, descriptorIndex := 66, attributes := #[] }] 48 2 #[] #[{ accessFlags := 26, nameIndex := 54, descriptorIndex := 17, attributes := #[] }, { accessFlags := 26, nameIndex := 57, descriptorIndex := 17, attributes := #[] }, { accessFlags := 2, nameIndex := 11, descriptorIndex := 12, attributes := #[] }, { accessFlags := 2, nameIndex := 16, descriptorIndex := 17, attributes := #[] }, { accessFlags := 2, nameIndex := 20, descriptorIndex := 21, attributes := #[] }])
  fields := #[{ name := "INITIAL_BYTES", type := .int, accessFlags := 26, slot := 0, constantValue := 0 }, { name := "RETAINED_BYTES", type := .int, accessFlags := 26, slot := 1, constantValue := 0 }, { name := "bytes", type := (.array .byte), accessFlags := 2, slot := 0, constantValue := 0 }, { name := "length", type := .int, accessFlags := 2, slot := 1, constantValue := 0 }, { name := "overflowed", type := .boolean, accessFlags := 2, slot := 2, constantValue := 0 }]
  methods := #[k2m0, k2m1, k2m2, k2m3]
  instanceTypes := #[(.array .byte), .int, .boolean]
  staticTypes := #[.int, .int]
  resolved := Array.replicate 71 none
  statics := none }

def pool3 : Array CpInfo := pool [(1, .class_ 2), (0, u "java/lang/Math"), (1, .class_ 6), (1, u "java/lang/Object"), (0, u "<init>"), (0, u "()V"), (89, .class_ 100), (1, u "java/lang/Math$RandomNumberGeneratorHolder"), (71, u "negativeZeroFloatBits"), (0, u "J"), (2, u "negativeZeroDoubleBits"), (24, u "min"), (43, u "$assertionsDisabled"), (0, u "Z"), (88, u "(II)I"), (2, u "twoToTheDoubleScaleDown"), (0, u "D"), (4, u "twoToTheDoubleScaleUp"), (9, u "E"), (3, u "PI"), (2, u "TAU"), (2, u "DEGREES_TO_RADIANS"), (0, u "RADIANS_TO_DEGREES")] 94

def k3m0 : Method := { name := "<init>", desc := "()V", sig := { parameters := [], returnType := none }, accessFlags := 2, code := none }
def k3c1 : Code := { maxStack := 2, maxLocals := 2, code := jdk_29_method_69_code, exceptionTable := #[], attributes := #[] }
def k3m1 : Method := { name := "min", desc := "(II)I", sig := { parameters := [.int, .int], returnType := some .int }, accessFlags := 9, code := some k3c1 }
/-- java/lang/Math -/
def k3 : Class := { plain "java/lang/Math" (some 0) with
  accessFlags := 49
  interfaces := #[]
  cf := some (fileOf pool3 1 #[.nestMembers #[98]] #[{ accessFlags := 2, nameIndex := 7, descriptorIndex := 8, attributes := #[] }, { accessFlags := 9, nameIndex := 201, descriptorIndex := 335, attributes := #[] }] 49 4 #[] #[{ accessFlags := 25, nameIndex := 354, descriptorIndex := 339, attributes := #[] }, { accessFlags := 25, nameIndex := 358, descriptorIndex := 339, attributes := #[] }, { accessFlags := 25, nameIndex := 361, descriptorIndex := 339, attributes := #[] }, { accessFlags := 26, nameIndex := 364, descriptorIndex := 339, attributes := #[] }, { accessFlags := 26, nameIndex := 365, descriptorIndex := 339, attributes := #[] }, { accessFlags := 26, nameIndex := 172, descriptorIndex := 173, attributes := #[] }, { accessFlags := 26, nameIndex := 176, descriptorIndex := 173, attributes := #[] }, { accessFlags := 8, nameIndex := 344, descriptorIndex := 339, attributes := #[] }, { accessFlags := 8, nameIndex := 338, descriptorIndex := 339, attributes := #[] }, { accessFlags := 4120, nameIndex := 245, descriptorIndex := 246, attributes := #[] }])
  fields := #[{ name := "E", type := .double, accessFlags := 25, slot := 0, constantValue := 0 }, { name := "PI", type := .double, accessFlags := 25, slot := 1, constantValue := 0 }, { name := "TAU", type := .double, accessFlags := 25, slot := 2, constantValue := 0 }, { name := "DEGREES_TO_RADIANS", type := .double, accessFlags := 26, slot := 3, constantValue := 0 }, { name := "RADIANS_TO_DEGREES", type := .double, accessFlags := 26, slot := 4, constantValue := 0 }, { name := "negativeZeroFloatBits", type := .long, accessFlags := 26, slot := 5, constantValue := 0 }, { name := "negativeZeroDoubleBits", type := .long, accessFlags := 26, slot := 6, constantValue := 0 }, { name := "twoToTheDoubleScaleUp", type := .double, accessFlags := 8, slot := 7, constantValue := 0 }, { name := "twoToTheDoubleScaleDown", type := .double, accessFlags := 8, slot := 8, constantValue := 0 }, { name := "$assertionsDisabled", type := .boolean, accessFlags := 4120, slot := 9, constantValue := 0 }]
  methods := #[k3m0, k3m1]
  instanceTypes := #[]
  staticTypes := #[.double, .double, .double, .double, .double, .long, .long, .double, .double, .boolean]
  resolved := Array.replicate 460 none
  statics := none }

def pool4 : Array CpInfo := pool [(2, .class_ 4), (1, u "java/lang/Object"), (0, u "<init>"), (0, u "()V"), (1, .class_ 10), (1, u "java/lang/System"), (0, u "allowSecurityManager"), (0, u "I"), (16, u "cons"), (0, u "Ljava/io/Console;"), (77, .class_ 110), (1, u "java/lang/System$CallersHolder"), (43, u "initialErrStream"), (0, u "Ljava/io/PrintStream;"), (19, u "security"), (0, u "Ljava/lang/SecurityManager;"), (31, .class_ 209), (0, u "java/lang/System$1"), (7, u "props"), (0, u "Ljava/util/Properties;"), (2, u "lineSeparator"), (0, u "Ljava/lang/String;"), (96, .class_ 321), (1, u "java/lang/System$LoggerFinder"), (5, .class_ 328), (0, u "java/lang/System$Logger"), (67, u "err"), (2, u "out"), (91, u "notSupportedJnuEncoding"), (15, u "in"), (17, u "initialIn"), (0, u "Ljava/io/InputStream;"), (35, u "bootLayer"), (0, u "Ljava/lang/ModuleLayer;"), (99, .class_ 664), (0, u "java/lang/System$2"), (9, u "NEVER"), (2, u "MAYBE"), (49, u "arraycopy"), (0, u "(Ljava/lang/Object;ILjava/lang/Object;II)V"), (72, .class_ 802), (0, u "java/lang/System$Logger$Level")] 31

def k4m0 : Method := { name := "<init>", desc := "()V", sig := { parameters := [], returnType := none }, accessFlags := 2, code := none }
def k4m1 : Method := { name := "arraycopy", desc := "(Ljava/lang/Object;ILjava/lang/Object;II)V", sig := { parameters := [(.object "java/lang/Object"), .int, (.object "java/lang/Object"), .int, .int], returnType := none }, accessFlags := 265, code := none }
/-- java/lang/System -/
def k4 : Class := { plain "java/lang/System" (some 0) with
  accessFlags := 49
  interfaces := #[]
  cf := some (fileOf pool4 8 #[.nestMembers #[319, 327, 801, 108, 663, 208]] #[{ accessFlags := 2, nameIndex := 5, descriptorIndex := 6, attributes := #[] }, { accessFlags := 265, nameIndex := 727, descriptorIndex := 728, attributes := #[] }] 49 2 #[] #[{ accessFlags := 25, nameIndex := 507, descriptorIndex := 526, attributes := #[] }, { accessFlags := 25, nameIndex := 399, descriptorIndex := 155, attributes := #[] }, { accessFlags := 25, nameIndex := 396, descriptorIndex := 155, attributes := #[] }, { accessFlags := 10, nameIndex := 525, descriptorIndex := 526, attributes := #[] }, { accessFlags := 26, nameIndex := 674, descriptorIndex := 12, attributes := #[] }, { accessFlags := 26, nameIndex := 677, descriptorIndex := 12, attributes := #[] }, { accessFlags := 10, nameIndex := 11, descriptorIndex := 12, attributes := #[] }, { accessFlags := 74, nameIndex := 175, descriptorIndex := 176, attributes := #[] }, { accessFlags := 10, nameIndex := 491, descriptorIndex := 222, attributes := #[] }, { accessFlags := 74, nameIndex := 29, descriptorIndex := 30, attributes := #[] }, { accessFlags := 74, nameIndex := 154, descriptorIndex := 155, attributes := #[] }, { accessFlags := 10, nameIndex := 217, descriptorIndex := 218, attributes := #[] }, { accessFlags := 10, nameIndex := 221, descriptorIndex := 222, attributes := #[] }, { accessFlags := 8, nameIndex := 562, descriptorIndex := 563, attributes := #[] }])
  fields := #[{ name := "in", type := (.object "java/io/InputStream"), accessFlags := 25, slot := 0, constantValue := 0 }, { name := "out", type := (.object "java/io/PrintStream"), accessFlags := 25, slot := 1, constantValue := 0 }, { name := "err", type := (.object "java/io/PrintStream"), accessFlags := 25, slot := 2, constantValue := 0 }, { name := "initialIn", type := (.object "java/io/InputStream"), accessFlags := 10, slot := 3, constantValue := 0 }, { name := "NEVER", type := .int, accessFlags := 26, slot := 4, constantValue := 0 }, { name := "MAYBE", type := .int, accessFlags := 26, slot := 5, constantValue := 0 }, { name := "allowSecurityManager", type := .int, accessFlags := 10, slot := 6, constantValue := 0 }, { name := "security", type := (.object "java/lang/SecurityManager"), accessFlags := 74, slot := 7, constantValue := 0 }, { name := "notSupportedJnuEncoding", type := (.object "java/lang/String"), accessFlags := 10, slot := 8, constantValue := 0 }, { name := "cons", type := (.object "java/io/Console"), accessFlags := 74, slot := 9, constantValue := 0 }, { name := "initialErrStream", type := (.object "java/io/PrintStream"), accessFlags := 74, slot := 10, constantValue := 0 }, { name := "props", type := (.object "java/util/Properties"), accessFlags := 10, slot := 11, constantValue := 0 }, { name := "lineSeparator", type := (.object "java/lang/String"), accessFlags := 10, slot := 12, constantValue := 0 }, { name := "bootLayer", type := (.object "java/lang/ModuleLayer"), accessFlags := 8, slot := 13, constantValue := 0 }]
  methods := #[k4m0, k4m1]
  instanceTypes := #[]
  staticTypes := #[(.object "java/io/InputStream"), (.object "java/io/PrintStream"), (.object "java/io/PrintStream"), (.object "java/io/InputStream"), .int, .int, .int, (.object "java/lang/SecurityManager"), (.object "java/lang/String"), (.object "java/io/Console"), (.object "java/io/PrintStream"), (.object "java/util/Properties"), (.object "java/lang/String"), (.object "java/lang/ModuleLayer")]
  resolved := Array.replicate 834 none
  statics := none }

def pool5 : Array CpInfo := pool [(2, .class_ 4), (1, u "java/lang/Object"), (0, u "<init>"), (0, u "()V"), (7, .class_ 16), (1, u "java/util/Arrays"), (57, .class_ 76), (1, u "java/util/Arrays$NaturalOrder"), (32, u "()Ljava/lang/Object;"), (3, .class_ 115), (1, u "java/util/Arrays$LegacyMergeSort"), (1, u "Z"), (10, .nameAndType 129 109), (0, u "clone"), (20, .methodref 151 152), (0, .class_ 153), (0, .nameAndType 154 155), (0, u "java/lang/System"), (0, u "arraycopy"), (0, u "(Ljava/lang/Object;ILjava/lang/Object;II)V"), (146, u "copyOf"), (1, .methodref 305 306), (0, .class_ 307), (0, .nameAndType 308 309), (0, u "java/lang/Math"), (0, u "min"), (0, u "(II)I"), (0, .methodref 311 128), (0, .class_ 312), (0, u "[B"), (62, .class_ 376), (0, u "java/util/Arrays$ArrayList"), (68, u "$assertionsDisabled"), (269, u "MIN_ARRAY_SORT_GRAN"), (0, u "I"), (2, u "INSERTIONSORT_THRESHOLD"), (149, u "([BI)[B"), (105, .class_ 976), (0, u "java/util/Arrays$ArrayItr")] 52

def k5m0 : Method := { name := "<init>", desc := "()V", sig := { parameters := [], returnType := none }, accessFlags := 2, code := none }
def k5c1 : Code := { maxStack := 6, maxLocals := 3, code := jdk_65_method_121_code, exceptionTable := #[], attributes := #[] }
def k5m1 : Method := { name := "copyOf", desc := "([BI)[B", sig := { parameters := [(.array .byte), .int], returnType := some (.array .byte) }, accessFlags := 9, code := some k5c1 }
/-- java/util/Arrays -/
def k5 : Class := { plain "java/util/Arrays" (some 0) with
  accessFlags := 49
  interfaces := #[]
  cf := some (fileOf pool5 14 #[.nestMembers #[975, 375, 113, 74]] #[{ accessFlags := 2, nameIndex := 5, descriptorIndex := 6, attributes := #[] }, { accessFlags := 9, nameIndex := 302, descriptorIndex := 869, attributes := #[] }] 49 2 #[] #[{ accessFlags := 26, nameIndex := 715, descriptorIndex := 716, attributes := #[] }, { accessFlags := 26, nameIndex := 719, descriptorIndex := 716, attributes := #[] }, { accessFlags := 4120, nameIndex := 445, descriptorIndex := 117, attributes := #[] }])
  fields := #[{ name := "MIN_ARRAY_SORT_GRAN", type := .int, accessFlags := 26, slot := 0, constantValue := 0 }, { name := "INSERTIONSORT_THRESHOLD", type := .int, accessFlags := 26, slot := 1, constantValue := 0 }, { name := "$assertionsDisabled", type := .boolean, accessFlags := 4120, slot := 2, constantValue := 0 }]
  methods := #[k5m0, k5m1]
  instanceTypes := #[]
  staticTypes := #[.int, .int, .boolean]
  resolved := Array.replicate 1029 none
  statics := none }

def pool6 : Array CpInfo := pool [(1, .class_ 2), (0, u "java/lang/Cloneable"), (0, .class_ 4), (0, u "java/lang/Object")] 2

/-- java/lang/Cloneable -/
def k6 : Class := { plain "java/lang/Cloneable" (some 0) with
  accessFlags := 1537
  interfaces := #[]
  cf := some (fileOf pool6 1 #[] #[] 1537 3 #[] #[])
  fields := #[]
  methods := #[]
  instanceTypes := #[]
  staticTypes := #[]
  resolved := Array.replicate 7 none
  statics := none }

def pool7 : Array CpInfo := pool [(1, u "java/io/Serializable"), (0, .class_ 1), (0, u "java/lang/Object"), (0, .class_ 3)] 3

/-- java/io/Serializable -/
def k7 : Class := { plain "java/io/Serializable" (some 0) with
  accessFlags := 1537
  interfaces := #[]
  cf := some (fileOf pool7 2 #[] #[] 1537 4 #[] #[])
  fields := #[]
  methods := #[]
  instanceTypes := #[]
  staticTypes := #[]
  resolved := Array.replicate 8 none
  statics := none }

/-- the primitive byte -/
def k8 : Class := { plain "byte" none with kind := .primitive 'B', accessFlags := 0x411 }
/-- [B -/
def k9 : Class := { plain "[B" (some 0) with kind := .array 8 .byte, interfaces := #[6, 7], accessFlags := 1041 }

/-- the primitive int -/
def k10 : Class := { plain "int" none with kind := .primitive 'I', accessFlags := 0x411 }
/-- [I -/
def k11 : Class := { plain "[I" (some 0) with kind := .array 10 .int, interfaces := #[6, 7], accessFlags := 1041 }

def heap : Heap := #[]
def classes : Array Class := #[k0, k1, k2, k3, k4, k5, k6, k7, k8, k9, k10, k11]
def interned : List (Array UInt16 × Addr) := []
def slotsUsed : Nat := 0
def theMethod : MethodId := ⟨1, 1⟩
def args0 : Array Value := #[.int 1, .int 2, .int 3, .int 4, .int 5, .int 6]
def aboutOver (below : List Frame) : State where
  vm := { classes := classes, interned := interned.toArray }
  heap := heap
  slotsUsed := slotsUsed
  threads := #[{ frames := .invoking theMethod args0 :: below }]
def below0 : List Frame := [.native { method := ⟨0, 0⟩, args := #[] }]
def about1 : State := aboutOver below0
def p0 : Program := .bare "" "" ""
def e0 : Env := launch0.env 0 0 0
theorem w_frames : about1.frames = Frame.invoking theMethod args0 :: below0 := rfl
set_option maxRecDepth 65536 in
theorem w_args : argsFit about1.vm theMethod args0 = true := by decide +kernel
set_option maxRecDepth 65536 in
theorem w_heap : heapFits about1 = true := by decide +kernel
set_option maxRecDepth 65536 in
theorem w_runnable : about1.curStatus? = some .runnable := by decide +kernel
set_option maxRecDepth 65536 in
theorem w_alone : about1.alone = true := by decide +kernel
set_option maxRecDepth 65536 in
theorem w_named : about1.methodNamed? x = some theMethod := by decide +kernel
set_option maxRecDepth 65536 in
theorem w_hears : about1.hears theMethod below0 = true := by decide +kernel
set_option maxRecDepth 65536 in
theorem w_ripe : about1.ripe theMethod args0 below0 = true := by decide +kernel
theorem w_running : about1.status = .running := rfl
set_option maxRecDepth 65536 in
theorem w_room : about1.hasRoom e0.platform room_1 = true :=
  launch0.hasRoom_least _ room_1 (by decide +kernel) (by decide +kernel) (by decide +kernel) (by decide +kernel) (by decide +kernel) (by decide +kernel)
theorem allAtoms_all (ts : List Jvm.Cond) (a : Array Jvm.Value) (st : Jvm.State) : (allAtoms ts).before a st = ts.all (fun c => c.before a st) := by
  induction ts with
  | nil => rfl
  | cons c t ih =>
    show (Jvm.Cond.and c (allAtoms t)).before a st = _
    rw [Jvm.Cond.before_and, ih, List.all_cons]
def words1 : List Jvm.Cond := Jvm.Cond.code x code maxLocals ret :: tables_1
/-- a 'code' word, met by the world's own term for the bytes: nothing is compared byte by byte -/
theorem code_word {y : MethodName} {bytes : ByteArray} {mx : Nat} {rt : Option FieldType} {a : Array Value} {s : State} {m : MethodId} {meth : Method} {c : Code} (h1 : s.methodNamed? y = some m) (h2 : s.vm.method? m = some meth) (h3 : meth.code = some c) (h4 : c.code = bytes)
    (h5 : (c.maxLocals == mx && c.exceptionTable.isEmpty && decide (c.maxStack ≤ mostOperands) && decide (meth.sig.returnType = rt) && !meth.locks && decide (parseMethodDescriptor y.desc = some meth.sig)) = true) : (Jvm.Cond.code y bytes mx rt).before a s = true := by
  simp only [Bool.and_eq_true, beq_iff_eq, Bool.not_eq_true', decide_eq_true_eq] at h5
  obtain ⟨⟨⟨⟨⟨g1, g2⟩, g3⟩, g4⟩, g5⟩, g6⟩ := h5
  simp [Cond.before, Cond.holds, Cond.value, h1, h2, h3, h4, g1, g2, g3, g4, g5, g6]
def isCode : Jvm.Cond → Bool
  | .code _ _ _ _ => true
  | _ => false
theorem all_split {L : List Jvm.Cond} {P : Jvm.Cond → Bool} (h1 : L.all (fun c => isCode c || P c) = true) (h2 : ∀ c ∈ L.filter isCode, P c = true) : L.all P = true := by
  refine List.all_eq_true.mpr fun c hc => ?_
  have h := List.all_eq_true.mp h1 c hc
  rcases Bool.eq_false_or_eq_true (isCode c) with hi | hi
  · exact h2 c (List.mem_filter.mpr ⟨hc, hi⟩)
  · simpa [hi] using h
set_option maxRecDepth 65536 in
theorem w_c0 : (Jvm.Cond.code x code maxLocals ret).before args0 about1 = true := code_word (m := ⟨1, 1⟩) (meth := k1m1) (c := k1c1) (by decide +kernel) rfl rfl rfl (by decide +kernel)
set_option maxRecDepth 65536 in
theorem w_c1 : (Jvm.Cond.code ({ cls := "com/example/vaxwire/vaxwire/hl7/BoundedBytes", name := "<init>", desc := "()V" } : Jvm.MethodName) prog_4_method_1_code (1 : Nat) (Option.none : Option Jvm.ClassFile.FieldType)).before args0 about1 = true := code_word (m := ⟨2, 0⟩) (meth := k2m0) (c := k2c0) (by decide +kernel) rfl rfl rfl (by decide +kernel)
set_option maxRecDepth 65536 in
theorem w_c2 : (Jvm.Cond.code ({ cls := "java/lang/Object", name := "<init>", desc := "()V" } : Jvm.MethodName) object_method_1_code (1 : Nat) (Option.none : Option Jvm.ClassFile.FieldType)).before args0 about1 = true := code_word (m := ⟨0, 0⟩) (meth := k0m0) (c := k0c0) (by decide +kernel) rfl rfl rfl (by decide +kernel)
set_option maxRecDepth 65536 in
theorem w_c3 : (Jvm.Cond.code ({ cls := "com/example/vaxwire/vaxwire/hl7/BoundedBytes", name := "append", desc := "([BII)V" } : Jvm.MethodName) prog_4_method_3_code (5 : Nat) (Option.none : Option Jvm.ClassFile.FieldType)).before args0 about1 = true := code_word (m := ⟨2, 2⟩) (meth := k2m2) (c := k2c2) (by decide +kernel) rfl rfl rfl (by decide +kernel)
set_option maxRecDepth 65536 in
theorem w_c4 : (Jvm.Cond.code ({ cls := "java/lang/Math", name := "min", desc := "(II)I" } : Jvm.MethodName) jdk_29_method_69_code (2 : Nat) (Option.some Jvm.ClassFile.FieldType.int)).before args0 about1 = true := code_word (m := ⟨3, 1⟩) (meth := k3m1) (c := k3c1) (by decide +kernel) rfl rfl rfl (by decide +kernel)
set_option maxRecDepth 65536 in
theorem w_c5 : (Jvm.Cond.code ({ cls := "com/example/vaxwire/vaxwire/hl7/BoundedBytes", name := "clear", desc := "()V" } : Jvm.MethodName) prog_4_method_2_code (1 : Nat) (Option.none : Option Jvm.ClassFile.FieldType)).before args0 about1 = true := code_word (m := ⟨2, 1⟩) (meth := k2m1) (c := k2c1) (by decide +kernel) rfl rfl rfl (by decide +kernel)
set_option maxRecDepth 65536 in
theorem w_c6 : (Jvm.Cond.code ({ cls := "com/example/vaxwire/vaxwire/hl7/BoundedBytes", name := "toArray", desc := "()[B" } : Jvm.MethodName) prog_4_method_5_code (1 : Nat) (Option.some (Jvm.ClassFile.FieldType.array Jvm.ClassFile.FieldType.byte))).before args0 about1 = true := code_word (m := ⟨2, 3⟩) (meth := k2m3) (c := k2c3) (by decide +kernel) rfl rfl rfl (by decide +kernel)
set_option maxRecDepth 65536 in
theorem w_c7 : (Jvm.Cond.code ({ cls := "java/util/Arrays", name := "copyOf", desc := "([BI)[B" } : Jvm.MethodName) jdk_65_method_121_code (3 : Nat) (Option.some (Jvm.ClassFile.FieldType.array Jvm.ClassFile.FieldType.byte))).before args0 about1 = true := code_word (m := ⟨5, 1⟩) (meth := k5m1) (c := k5c1) (by decide +kernel) rfl rfl rfl (by decide +kernel)
set_option maxRecDepth 65536 in
theorem w_c8 : (Jvm.Cond.code ({ cls := "com/example/vaxwire/vaxwire/hl7/BoundedBytesToArrayPinLaw", name := "at", desc := "([B[BIII[BII)Z" } : Jvm.MethodName) method_4_code (8 : Nat) (Option.some Jvm.ClassFile.FieldType.boolean)).before args0 about1 = true := code_word (m := ⟨1, 3⟩) (meth := k1m3) (c := k1c3) (by decide +kernel) rfl rfl rfl (by decide +kernel)
set_option maxRecDepth 65536 in
theorem w_c9 : (Jvm.Cond.code ({ cls := "com/example/vaxwire/vaxwire/hl7/BoundedBytesToArrayPinLaw", name := "exp", desc := "([BIII[BII)B" } : Jvm.MethodName) method_3_code (7 : Nat) (Option.some Jvm.ClassFile.FieldType.byte)).before args0 about1 = true := code_word (m := ⟨1, 2⟩) (meth := k1m2) (c := k1c2) (by decide +kernel) rfl rfl rfl (by decide +kernel)
def codes1 : List Jvm.Cond := [Jvm.Cond.code x code maxLocals ret, Jvm.Cond.code ({ cls := "com/example/vaxwire/vaxwire/hl7/BoundedBytes", name := "<init>", desc := "()V" } : Jvm.MethodName) prog_4_method_1_code (1 : Nat) (Option.none : Option Jvm.ClassFile.FieldType), Jvm.Cond.code ({ cls := "java/lang/Object", name := "<init>", desc := "()V" } : Jvm.MethodName) object_method_1_code (1 : Nat) (Option.none : Option Jvm.ClassFile.FieldType), Jvm.Cond.code ({ cls := "com/example/vaxwire/vaxwire/hl7/BoundedBytes", name := "append", desc := "([BII)V" } : Jvm.MethodName) prog_4_method_3_code (5 : Nat) (Option.none : Option Jvm.ClassFile.FieldType), Jvm.Cond.code ({ cls := "java/lang/Math", name := "min", desc := "(II)I" } : Jvm.MethodName) jdk_29_method_69_code (2 : Nat) (Option.some Jvm.ClassFile.FieldType.int), Jvm.Cond.code ({ cls := "com/example/vaxwire/vaxwire/hl7/BoundedBytes", name := "clear", desc := "()V" } : Jvm.MethodName) prog_4_method_2_code (1 : Nat) (Option.none : Option Jvm.ClassFile.FieldType), Jvm.Cond.code ({ cls := "com/example/vaxwire/vaxwire/hl7/BoundedBytes", name := "toArray", desc := "()[B" } : Jvm.MethodName) prog_4_method_5_code (1 : Nat) (Option.some (Jvm.ClassFile.FieldType.array Jvm.ClassFile.FieldType.byte)), Jvm.Cond.code ({ cls := "java/util/Arrays", name := "copyOf", desc := "([BI)[B" } : Jvm.MethodName) jdk_65_method_121_code (3 : Nat) (Option.some (Jvm.ClassFile.FieldType.array Jvm.ClassFile.FieldType.byte)), Jvm.Cond.code ({ cls := "com/example/vaxwire/vaxwire/hl7/BoundedBytesToArrayPinLaw", name := "at", desc := "([B[BIII[BII)Z" } : Jvm.MethodName) method_4_code (8 : Nat) (Option.some Jvm.ClassFile.FieldType.boolean), Jvm.Cond.code ({ cls := "com/example/vaxwire/vaxwire/hl7/BoundedBytesToArrayPinLaw", name := "exp", desc := "([BIII[BII)B" } : Jvm.MethodName) method_3_code (7 : Nat) (Option.some Jvm.ClassFile.FieldType.byte)]
set_option maxRecDepth 65536 in
theorem codes_eq : words1.filter isCode = codes1 := rfl
theorem w_codes : ∀ c ∈ words1.filter isCode, c.before args0 about1 = true := by
  rw [codes_eq]
  intro c hc
  simp only [codes1, List.mem_cons, List.not_mem_nil, or_false] at hc
  rcases hc with rfl | rfl | rfl | rfl | rfl | rfl | rfl | rfl | rfl | rfl
  · exact w_c0
  · exact w_c1
  · exact w_c2
  · exact w_c3
  · exact w_c4
  · exact w_c5
  · exact w_c6
  · exact w_c7
  · exact w_c8
  · exact w_c9
set_option maxRecDepth 65536 in
theorem w_t1 : (words1.take 24).all (fun c => isCode c || c.before args0 about1) = true := by decide +kernel
set_option maxRecDepth 65536 in
theorem w_t2 : ((words1.drop 24).take 24).all (fun c => isCode c || c.before args0 about1) = true := by decide +kernel
set_option maxRecDepth 65536 in
theorem w_t3 : ((words1.drop 24).drop 24).all (fun c => isCode c || c.before args0 about1) = true := by decide +kernel
theorem w_tables : (allAtoms (Jvm.Cond.code x code maxLocals ret :: tables_1)).before args0 about1 = true := by
  rw [allAtoms_all]
  show words1.all (fun c => c.before args0 about1) = true
  refine all_split ?_ w_codes
  rw [← List.take_append_drop 24 words1, List.all_append, w_t1, ← List.take_append_drop 24 (words1.drop 24), List.all_append, w_t2, w_t3]
  rfl
set_option maxRecDepth 65536 in
theorem w_case : (Jvm.Cond.and given_1 narrow_1).before args0 about1 = true := by decide +kernel
theorem w_applies : (headSpec (Jvm.Cond.code x code maxLocals ret :: tables_1) room_1).applies x e0.platform about1 = true :=
  (Spec.applies_iff w_frames).mpr ⟨w_running, w_runnable, w_alone, w_named, w_hears, w_ripe, w_room, w_tables⟩
theorem atStart : AtStart classFile x code maxLocals ret World_1 tables_1 room_1 Calls_1 rest_1 Pre_1 launch0 p0 e0 about1 theMethod args0 below0 :=
  ⟨lists_1, trivial, launch0.admits_env _ _ _, launch0.least_env, fairChoices_fair.cas, fairChoices_fair.clock, w_frames, w_args, w_heap, w_applies, trivial, trivial, w_case⟩
end start1
theorem witness_1 : WitnessClaimed_1 := ⟨start1.p0, start1.e0, start1.about1, start1.theMethod, start1.args0, start1.below0, start1.atStart⟩
end Jvm.Pilot.@@N@@
