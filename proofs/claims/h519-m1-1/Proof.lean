import JvmDerived
import JvmDerived.Pilot.@@N@@Statement
import JvmDerived.Pilot.@@N@@Code
set_option linter.unusedVariables false
set_option linter.unusedSimpArgs false
namespace Jvm.OwnKit
open Sem ClassFile Op Lib Jvm.Stand Jvm.Free Jvm.LawKit Jvm.RoadKit
/-- from A the run comes to a state of which P holds -/
def Rch (p : Program) (e : Env) (below : List Frame) (A : State) (P : State → Prop) : Prop := ∃ B, Steps p.tables e below A B ∧ P B
/-- the end of a body: it returned v, and Q says what it left -/
def Fin1 (s : State) (below : List Frame) (Q : Option Value → Heap → List Loc → Prop) (k n : Nat) (B : State) : Prop := ∃ v L, B.status = .running ∧ Ended B below (.returned v) ∧ Q v B.heap L ∧ FrameEnd s (.returned v) B L k n
section Own
variable {p : Program} {l : Launch} {e : Env} {R : Room} {s : State} {m : MethodId} {args : Array Value} {below : List Frame} {meth : Method} {c : Code} {T : State} {locs : List Loc} {cells slots : Nat} {A A' : State} {P P' : State → Prop} {Z : State} {a0 : Array Value} {h : Heap}
theorem Rch.go (h1 : ∀ t, Steps p.tables e below A' t → Steps p.tables e below A t) (k : Rch p e below A' P) : Rch p e below A P := by
  obtain ⟨B, q1, q2⟩ := k; exact ⟨B, h1 _ q1, q2⟩
theorem Rch.of (h1 : Steps p.tables e below A A') (k : Rch p e below A' P) : Rch p e below A P := by
  obtain ⟨B, q1, q2⟩ := k; exact ⟨B, h1.trans q1, q2⟩
theorem Rch.here (h1 : P A) : Rch p e below A P := ⟨A, Steps.refl _, h1⟩
theorem Rch.bind (k : Rch p e below A P) (f : ∀ B, P B → Rch p e below B P') : Rch p e below A P' := by
  obtain ⟨B, q1, q2⟩ := k
  obtain ⟨D, q3, q4⟩ := f B q2
  exact ⟨D, q1.trans q3, q4⟩
theorem Rch.ret {Q : Option Value → Heap → List Loc → Prop} {k n : Nat} (X : Stand p l e R s m args below meth c T locs cells slots) (hlk : meth.locks = false) {v : Option Value} (hv : meth.sig.returnType = none → v = none)
    (hA : ∀ fs, (∀ (f : JFrame) (acts : List Action), f.method = m → f.locked = none → f.entered = [] → (doReturn e (T.setTop f) acts v).1 = T.setFrames fs) → Steps p.tables e below A (T.setFrames fs))
    (hQ : Q v T.heap locs) (hk : cells ≤ k) (hn : slots ≤ n) : Rch p e below A (Fin1 s below Q k n) := by
  obtain ⟨fs, hr, hrun, hended, hW, hsame⟩ := X.leave (v := v) hv hlk
  exact ⟨_, hA fs hr, v, locs, hrun, hended, hQ, ⟨_, rfl⟩, hW, hsame.mono hk hn⟩
theorem wider (X : Stand p l e R s m args below meth c T locs cells slots) {k n : Nat} (hk : cells ≤ k) (hn : slots ≤ n) : Stand p l e R s m args below meth c T locs k n := { X with same := X.same.mono hk hn }
theorem retI' (X : Stand p l e R s m args below meth c T locs cells slots) (hx : p.tables.exec = Jvm.exec) {pc : Nat} {Ls : Array Slot} {z : Int32} {rest : List Value} (hret : meth.sig.returnType = some .int) (hd : decode c.code pc = .ok (.ireturn, 1)) {fs : List Frame}
    (hl : ∀ (f : JFrame) (acts : List Action), f.method = m → f.locked = none → f.entered = [] → (doReturn e (T.setTop f) acts (some (.int z))).1 = T.setFrames fs) : Steps p.tables e below (T.setTop (mkF m pc Ls (.int z :: rest))) (T.setFrames fs) := by
  have hm' : T.vm.method? m = some meth := X.method'
  have hn : narrow .int (.int z) = .int z := rfl
  show Steps p.tables e below (T.setTop { method := m, pc := pc, locals := Ls, stack := _ :: rest, locked := none }) _
  jvm_step X.here [X.here.top, hx, hd, hm', hret, hn]
  first | (intro acts; rw [hl _ acts rfl rfl rfl]) | rw [hl _ _ rfl rfl rfl]
  exact Steps.refl _
theorem retR' (X : Stand p l e R s m args below meth c T locs cells slots) (hx : p.tables.exec = Jvm.exec) {pc : Nat} {Ls : Array Slot} {w : Value} {t : FieldType} {rest : List Value} (hret : meth.sig.returnType = some t) (ht : t.isReference = true) (hw : w.isRef = true) (hd : decode c.code pc = .ok (.areturn, 1)) {fs : List Frame}
    (hl : ∀ (f : JFrame) (acts : List Action), f.method = m → f.locked = none → f.entered = [] → (doReturn e (T.setTop f) acts (some w)).1 = T.setFrames fs) : Steps p.tables e below (T.setTop (mkF m pc Ls (w :: rest))) (T.setFrames fs) :=
  retOut X hx hret (by rcases ref_cases hw with rfl | ⟨a, rfl⟩ <;> cases t <;> first | rfl | cases ht) (Or.inr (Or.inr (Or.inr (Or.inr ⟨rfl, ht, hw⟩)))) hd hl
theorem own_body {y : MethodName} {bytes : ByteArray} {maxL : Nat} {ret : Option FieldType} {ws : List Jvm.Cond} {rm : Room} {as' : Array Value} {h0 : Heap} {Q : Option Value → Heap → List Loc → Prop} {k n : Nat} (hp : plainFor y = true)
    (body : ∀ (p : Program) (e : Env) (s : State) (m : MethodId) (below : List Frame) (meth : Method) (c : Code) (s₁ : State), Stand p l e rm s m as' below meth c s₁ [] 0 0 → p.tables.exec = Jvm.exec → c.code = bytes → c.maxLocals = maxL → s.vm.findClass y.cls = some m.cls → meth.name = y.name → meth.sig.returnType = ret → meth.locks = false → Z.Warmed39 s.vm → s₁.heap = h0 →
      Rch p e below (s₁.setTop (entryFrame m as' maxL)) (Fin1 s below Q k n)) :
    MetFree l y (head1 (Jvm.Cond.code y bytes maxL ret :: ws) rm) (fun a U => a = as' ∧ Z.Warmed39 U.vm ∧ U.heap = h0) (fun _ _ _ _ _ => True) (fun _ U o U' => ∃ v L, o = .returned v ∧ Q v U'.heap L ∧ FrameEnd U o U' L k n) := by
  refine MetFree.of_bodySF hp hisR ?_
  intro p e s m args below meth c s₁ Bd hml0 hP hK
  obtain ⟨rfl, hZ, hh⟩ := hP
  obtain ⟨B, hs, v, L, h1, h2, h3, h4⟩ := body p e s m below meth c s₁ (Stand.of_body Bd) Bd.exec Bd.bytes hml0 (findClass_of_methodNamed Bd.named) ((name_of_methodNamed Bd.named Bd.method).1) Bd.returns (BodyLoose.notSynchronized Bd) hZ (by rw [← hh, Bd.state]; rfl)
  exact ⟨B, _, hs, h1, h2, v, L, rfl, h3, h4⟩
abbrev Met1 (l : Launch) (y : MethodName) (bytes : ByteArray) (maxL : Nat) (ret : Option FieldType) (rm : Room) (Z : State) (as' : Array Value) (h : Heap) (Q : Option Value → Heap → List Loc → Prop) : Prop :=
  MetFree l y (head1 [Jvm.Cond.code y bytes maxL ret] rm) (fun a U => a = as' ∧ Z.Warmed39 U.vm ∧ U.heap = h) (fun _ _ _ _ _ => True) (fun _ U o U' => ∃ v L, o = .returned v ∧ Q v U'.heap L ∧ FrameEnd U o U' L rm.cells rm.slots)
/-- a static call by the callee's contract -/
theorem Rch.callS (X : Stand p l e R s m args below meth c T locs cells slots) (hx : p.tables.exec = Jvm.exec) (hZ : Z.Warmed39 s.vm) {own : String} {index : Nat} {y : MethodName} {bytes : ByteArray} {maxL : Nat} {ret : Option FieldType} {rm : Room} {as' : Array Value} {Q : Option Value → Heap → List Loc → Prop}
    (hown : s.vm.findClass own = some m.cls) (w1 : (Jvm.Cond.methodLink own index y).before a0 Z = true) (w2 : (Jvm.Cond.static y).before a0 Z = true) (w3 : (Jvm.Cond.initialized y.cls).before a0 Z = true) (w4 : (Jvm.Cond.code y bytes maxL ret).before a0 Z = true) (hy : y.cls ≠ "java/lang/invoke/MethodHandle" ∧ y.cls ≠ "java/lang/invoke/VarHandle")
    (hM : Met1 l y bytes maxL ret rm Z as' h Q) (W : Nat) (hf : rm.frames + 1 ≤ R.frames) (hl : W + (maxL + 11) + rm.locals ≤ R.locals) (hc : cells + rm.cells ≤ R.cells) (hs : slots + rm.slots ≤ R.slots) (eT : T.heap = h)
    {g : JFrame} (hg : g.method = m) (hsize : g.locals.size = c.maxLocals) (argsL rest : List Value) (has : argsL.toArray = as') (hlen : ∀ sig, parseMethodDescriptor y.desc = some sig → argsL.length = sig.parameters.length)
    (hstack : g.stack = argsL.reverse ++ rest) (hW : 2 * g.monitorRoom + (rest.map fun v => v.category).sum ≤ W) (hdg : decode c.code g.pc = .ok (.invokestatic index, 3))
    (k : ∀ v T' L, Stand p l e R s m args below meth c T' (locs ++ L) (cells + rm.cells) (slots + rm.slots) → Q v T'.heap L → Rch p e below (T'.setTop { g with pc := g.pc + 3, stack := v.toList ++ rest }) P) : Rch p e below (T.setTop g) P := by
  obtain ⟨v, _, ⟨T1, L1, k1, n1⟩, -, X1, ⟨Lc, hQ, l1, y1, z1⟩, st⟩ := Jvm.LawKit.callS X hx (y := y) hown (mvT hZ w1) (mvT hZ w2) (mvT hZ w3) (mvT hZ w4) hy (backOf (W := W) hM hZ w4 w3 hf hl) (g := g) hg hsize (argsL := argsL) (rest := rest) hlen hstack hW hdg (fun _ _ => ⟨has, eT, hc, hs⟩)
  dsimp only [Pt.U, Pt.locs, Pt.cells, Pt.slots] at X1 l1 y1 z1 st hQ
  subst l1 y1 z1
  exact Rch.go st (k v T1 Lc X1 hQ)
/-- a constructor by its contract -/
theorem Rch.callC (X : Stand p l e R s m args below meth c T locs cells slots) (hx : p.tables.exec = Jvm.exec) (hZ : Z.Warmed39 s.vm) {own : String} {index : Nat} {y : MethodName} {bytes : ByteArray} {maxL : Nat} {rm : Room} {as' : Array Value} {Q : Option Value → Heap → List Loc → Prop} (hy1 : y.name = "<init>")
    (hown : s.vm.findClass own = some m.cls) (w1 : (Jvm.Cond.methodLink own index y).before a0 Z = true) (w2 : (Jvm.Cond.instanceMethod y).before a0 Z = true) (w3 : (Jvm.Cond.initialized y.cls).before a0 Z = true) (w4 : (Jvm.Cond.code y bytes maxL none).before a0 Z = true) (hy : y.cls ≠ "java/lang/invoke/MethodHandle" ∧ y.cls ≠ "java/lang/invoke/VarHandle")
    (hM : Met1 l y bytes maxL none rm Z as' h Q) (W : Nat) (hf : rm.frames + 1 ≤ R.frames) (hl : W + (maxL + 11) + rm.locals ≤ R.locals) (hc : cells + rm.cells ≤ R.cells) (hs : slots + rm.slots ≤ R.slots) (eT : T.heap = h)
    {g : JFrame} (hg : g.method = m) (hsize : g.locals.size = c.maxLocals) (a : Addr) (argsL rest : List Value) (has : (.ref a :: argsL).toArray = as') (hlen : ∀ sig, parseMethodDescriptor y.desc = some sig → argsL.length = sig.parameters.length)
    (hstack : g.stack = argsL.reverse ++ .ref a :: rest) (hW : 2 * g.monitorRoom + (rest.map fun v => v.category).sum ≤ W) (hdg : decode c.code g.pc = .ok (.invokespecial index, 3))
    (k : ∀ v T' L, Stand p l e R s m args below meth c T' (locs ++ L) (cells + rm.cells) (slots + rm.slots) → Q v T'.heap L → Rch p e below (T'.setTop { g with pc := g.pc + 3, stack := v.toList ++ rest }) P) : Rch p e below (T.setTop g) P := by
  obtain ⟨v, _, ⟨T1, L1, k1, n1⟩, -, X1, ⟨Lc, hQ, l1, y1, z1⟩, st⟩ := X.specialBack hx (y := y) hy1 hown (mvT hZ w1) (mvT hZ w2) (mvT hZ w4) hy (backOf (W := W) hM hZ w4 w3 hf hl) (g := g) hg hsize (Steps.refl _) (a := a) (argsL := argsL) (rest := rest) hlen hstack hW hdg (fun _ _ => ⟨has, eT, hc, hs⟩)
  dsimp only [Pt.U, Pt.locs, Pt.cells, Pt.slots] at X1 l1 y1 z1 st hQ
  subst l1 y1 z1
  exact Rch.of st (k v T1 Lc X1 hQ)
/-- an instance method, selected by the receiver's class C, by the contract of the selected one -/
theorem Rch.callV (X : Stand p l e R s m args below meth c T locs cells slots) (hx : p.tables.exec = Jvm.exec) (hZ : Z.Warmed39 s.vm) {own C : String} {index : Nat} {y z : MethodName} {bytes : ByteArray} {maxL : Nat} {ret : Option FieldType} {rm : Room} {as' : Array Value} {Q : Option Value → Heap → List Loc → Prop}
    (hown : s.vm.findClass own = some m.cls) (w1 : (Jvm.Cond.methodLink own index y).before a0 Z = true) (w2 : (Jvm.Cond.declares y).before a0 Z = true) (hnf : NotFace s y) (w5 : (Jvm.Cond.selects C y z).before a0 Z = true) (w6 : (Jvm.Cond.instanceMethod z).before a0 Z = true) (w3 : (Jvm.Cond.initialized z.cls).before a0 Z = true) (w4 : (Jvm.Cond.code z bytes maxL ret).before a0 Z = true) (hy : y.cls ≠ "java/lang/invoke/MethodHandle" ∧ y.cls ≠ "java/lang/invoke/VarHandle")
    (hM : Met1 l z bytes maxL ret rm Z as' h Q) (W : Nat) (hf : rm.frames + 1 ≤ R.frames) (hl : W + (maxL + 11) + rm.locals ≤ R.locals) (hc : cells + rm.cells ≤ R.cells) (hs : slots + rm.slots ≤ R.slots) (eT : T.heap = h) {b : Addr} (hE : Exa Z h b C)
    {g : JFrame} (hg : g.method = m) (hsize : g.locals.size = c.maxLocals) (argsL rest : List Value) (has : (.ref b :: argsL).toArray = as') (hlen : ∀ sig, parseMethodDescriptor y.desc = some sig → argsL.length = sig.parameters.length)
    (hstack : g.stack = argsL.reverse ++ .ref b :: rest) (hW : 2 * g.monitorRoom + (rest.map fun v => v.category).sum ≤ W) (hdg : decode c.code g.pc = .ok (.invokevirtual index, 3))
    (k : ∀ v T' L, Stand p l e R s m args below meth c T' (locs ++ L) (cells + rm.cells) (slots + rm.slots) → Q v T'.heap L → Rch p e below (T'.setTop { g with pc := g.pc + 3, stack := v.toList ++ rest }) P) : Rch p e below (T.setTop g) P := by
  obtain ⟨cq, kq, q1, q2, q3⟩ := isOf hZ eT hE
  obtain ⟨v, _, ⟨T1, L1, k1, n1⟩, -, X1, ⟨Lc, hQ, l1, y1, z1⟩, st⟩ := X.virtualBack hx (y := y) (z := z) hown (mvT hZ w1) (mvT hZ w2) hnf (mvT hZ w5) (mvT hZ w6) hy (backOf (W := W) hM hZ w4 w3 hf hl) q1 q3 (g := g) hg hsize (Steps.refl _) (argsL := argsL) (rest := rest) hlen hstack hW hdg (fun _ _ => ⟨has, eT, hc, hs⟩)
  dsimp only [Pt.U, Pt.locs, Pt.cells, Pt.slots] at X1 l1 y1 z1 st hQ
  subst l1 y1 z1
  exact Rch.of st (k v T1 Lc X1 hQ)
/-- a private instance method, by invokevirtual -/
theorem Rch.callP (X : Stand p l e R s m args below meth c T locs cells slots) (hx : p.tables.exec = Jvm.exec) (hZ : Z.Warmed39 s.vm) {own C : String} {index : Nat} {y : MethodName} {bytes : ByteArray} {maxL : Nat} {ret : Option FieldType} {rm : Room} {as' : Array Value} {Q : Option Value → Heap → List Loc → Prop}
    (hown : s.vm.findClass own = some m.cls) (w1 : (Jvm.Cond.methodLink own index y).before a0 Z = true) (w6 : (Jvm.Cond.instanceMethod y).before a0 Z = true) (w5 : (Jvm.Cond.selects y.cls y y).before a0 Z = true) (w7 : (Jvm.Cond.privateMethod y).before a0 Z = true) (w3 : (Jvm.Cond.initialized y.cls).before a0 Z = true) (w4 : (Jvm.Cond.code y bytes maxL ret).before a0 Z = true) (hy : y.cls ≠ "java/lang/invoke/MethodHandle" ∧ y.cls ≠ "java/lang/invoke/VarHandle")
    (hM : Met1 l y bytes maxL ret rm Z as' h Q) (W : Nat) (hf : rm.frames + 1 ≤ R.frames) (hl : W + (maxL + 11) + rm.locals ≤ R.locals) (hc : cells + rm.cells ≤ R.cells) (hs : slots + rm.slots ≤ R.slots) (eT : T.heap = h) {b : Addr} (hE : Exa Z h b C)
    {g : JFrame} (hg : g.method = m) (hsize : g.locals.size = c.maxLocals) (argsL rest : List Value) (has : (.ref b :: argsL).toArray = as') (hlen : ∀ sig, parseMethodDescriptor y.desc = some sig → argsL.length = sig.parameters.length)
    (hstack : g.stack = argsL.reverse ++ .ref b :: rest) (hW : 2 * g.monitorRoom + (rest.map fun v => v.category).sum ≤ W) (hdg : decode c.code g.pc = .ok (.invokevirtual index, 3))
    (k : ∀ v T' L, Stand p l e R s m args below meth c T' (locs ++ L) (cells + rm.cells) (slots + rm.slots) → Q v T'.heap L → Rch p e below (T'.setTop { g with pc := g.pc + 3, stack := v.toList ++ rest }) P) : Rch p e below (T.setTop g) P := by
  obtain ⟨cq, q1, q2⟩ := hE.cell
  obtain ⟨v, _, ⟨T1, L1, k1, n1⟩, -, X1, ⟨Lc, hQ, l1, y1, z1⟩, st⟩ := X.privateBack hx (y := y) hown (mvT hZ w1) (mvT hZ w6) (mvT hZ w5) (Cond.privateMethod_at (mvP hZ w7 (args := #[]))) (mvT hZ w4) hy (backOf (W := W) hM hZ w4 w3 hf hl) (g := g) hg hsize (Steps.refl _) (a := b) (by rw [eT]; exact q1) q2 (argsL := argsL) (rest := rest) hlen hstack hW hdg (fun _ _ => ⟨has, eT, hc, hs⟩)
  dsimp only [Pt.U, Pt.locs, Pt.cells, Pt.slots] at X1 l1 y1 z1 st hQ
  subst l1 y1 z1
  exact Rch.of st (k v T1 Lc X1 hQ)
end Own
end Jvm.OwnKit
namespace Jvm.OwnKit
open Sem ClassFile Op Lib Jvm.Stand Jvm.Free Jvm.LawKit Jvm.RoadKit
/-- the byte[] at a has n places, and place j holds f j -/
def BA (Z : State) (h : Heap) (a : Addr) (n : Nat) (f : Nat → Int32) : Prop := ∃ c : Cell, Arr Z h a c .byte ∧ c.slots.size = n ∧ ∀ j, j < n → c.slots[j]? = some (.int (f j))
def updI (f : Nat → Int32) (k : Nat) (x : Int32) : Nat → Int32 := fun j => if j = k then x else f j
section OwnB
variable {Z : State} {h h' : Heap} {a b : Addr} {n : Nat} {f g : Nat → Int32} {sl : Nat} {v : Value} {ws : List Addr}
theorem BA.lt (F : BA Z h a n f) : a < h.size := by obtain ⟨c, A, -⟩ := F; exact A.lt
theorem BA.ext (F : BA Z h a n f) (E : Ext h h') : BA Z h' a n f := by obtain ⟨c, A, r⟩ := F; exact ⟨c, A.ext E, r⟩
theorem BA.other (F : BA Z h b n f) (W : Wr h h' a sl v) (q : b ≠ a) : BA Z h' b n f := by obtain ⟨c, A, r⟩ := F; exact ⟨c, A.other W q, r⟩
theorem BA.keep (F : BA Z h a n f) (K : Keep h h' ws) (q : a ∉ ws) : BA Z h' a n f := by obtain ⟨c, A, r⟩ := F; exact ⟨c, ⟨K.2.1 a c A.1 q, A.2⟩, r⟩
theorem BA.congr (F : BA Z h a n f) (q : ∀ j, j < n → f j = g j) : BA Z h a n g := by obtain ⟨c, A, S, r⟩ := F; exact ⟨c, A, S, fun j hj => by rw [← q j hj]; exact r j hj⟩
theorem BA.new {cA : ClassId} {z : Int32} (A : Arr Z h a (newA cA .byte z) .byte) (q : z.toNatClampNeg = n) : BA Z h a n (fun _ => 0) :=
  ⟨_, A, by rw [sz_new]; exact q, fun j hj => by rw [← q] at hj; simp [newA, hj, defaultValue]⟩
theorem BA.set (F : BA Z h a n f) {j x : Int32} {k : Nat} (hj : j.toNatClampNeg = k) (hk : k < n) (W : Wr h h' a j.toNatClampNeg (.int x)) : BA Z h' a n (updI f k x) := by
  obtain ⟨c, A, S, r⟩ := F
  refine ⟨_, A.same W, by rw [sz_set]; exact S, fun i hi => ?_⟩
  rw [hj]
  by_cases u : i = k
  · subst u; simp [Cell.setSlot, updI, S, hi]
  · have := r i hi
    simp only [Cell.setSlot, updI, if_neg u]
    rw [Array.getElem?_setIfInBounds_ne (Ne.symm u)]; exact this
theorem inb {c : Cell} {j : Int32} {k : Nat} (S : c.slots.size = n) (hn : ¬ j < 0) (hj : j.toNatClampNeg = k) (hk : k < n) : ¬ (j < 0 ∨ c.slots.size ≤ j.toNatClampNeg) := fun q => q.elim hn fun q => by rw [S, hj] at q; omega
theorem natOf {k : Nat} (hk : k < 2 ^ 31) : ¬ Int32.ofNat k < 0 ∧ (Int32.ofNat k).toNatClampNeg = k ∧ (Int32.ofNat k).toInt = k := by
  have e : (Int32.ofNat k).toInt = k := Int32.toInt_ofNat_of_lt (by omega)
  refine ⟨?_, ?_, e⟩
  · rw [Int32.lt_iff_toInt_lt, e, show (0 : Int32).toInt = 0 from rfl]; omega
  · rw [Int32.toNatClampNeg, e]; rfl
theorem ofNat_lt {i k : Nat} (hi : i < 2 ^ 31) (hk : k < 2 ^ 31) : Int32.ofNat i < Int32.ofNat k ↔ i < k := by
  rw [Int32.lt_iff_toInt_lt, (natOf hi).2.2, (natOf hk).2.2]; omega
theorem ofNat_inj {i k : Nat} (hi : i < 2 ^ 31) (hk : k < 2 ^ 31) : Int32.ofNat i = Int32.ofNat k ↔ i = k := by
  refine ⟨fun q => ?_, fun q => by rw [q]⟩
  have := congrArg Int32.toInt q
  rw [(natOf hi).2.2, (natOf hk).2.2] at this; omega
theorem ofNat_succ (i : Nat) : Int32.ofNat i + (1 : Int32) = Int32.ofNat (i + 1) := (Int32.ofNat_add i 1).symm
theorem mask_of (x : Int32) (k : Nat) (hk : k < 2 ^ 31) : ∃ n : Nat, n ≤ k ∧ (x &&& Int32.ofNat k) = Int32.ofNat n := by
  refine ⟨(x &&& Int32.ofNat k).toBitVec.toNat, ?_, ?_⟩
  · simp only [Int32.toBitVec_and, BitVec.toNat_and, Int32.toBitVec_ofNat, BitVec.toNat_ofNat]
    exact Nat.le_trans Nat.and_le_right (Nat.mod_le _ _)
  · apply Int32.toBitVec_inj.mp
    show _ = BitVec.ofNat 32 _
    rw [BitVec.ofNat_toNat]; simp
theorem nar_nar (x : Int32) : nar .byte (nar .byte x) = nar .byte x := by simp [nar]
end OwnB
end Jvm.OwnKit
namespace Jvm.Pilot.@@N@@
open Jvm Jvm.ClassFile Sem Op Lib Jvm.Free Jvm.Stand Jvm.LawKit Jvm.RoadKit Bundle Jvm.OwnKit Jvm.Pilot.@@N@@.Jvm.D

theorem d1_0 : decode method_3_code 0 = .ok (.iload_n 0, 1) := by decide +kernel
theorem d1_1 : decode method_3_code 1 = .ok (.iconst 3, 1) := by decide +kernel
theorem d1_2 : decode method_3_code 2 = .ok (.iand, 1) := by decide +kernel
theorem d1_3 : decode method_3_code 3 = .ok (.istore_n 1, 1) := by decide +kernel
theorem d1_4 : decode method_3_code 4 = .ok (.iload_n 1, 1) := by decide +kernel
theorem d1_5 : decode method_3_code 5 = .ok (.ifCond .ne 6, 3) := by decide +kernel
theorem d1_8 : decode method_3_code 8 = .ok (.bipush 13, 2) := by decide +kernel
theorem d1_10 : decode method_3_code 10 = .ok (.ireturn, 1) := by decide +kernel
theorem d1_11 : decode method_3_code 11 = .ok (.iload_n 1, 1) := by decide +kernel
theorem d1_12 : decode method_3_code 12 = .ok (.iconst 1, 1) := by decide +kernel
theorem d1_13 : decode method_3_code 13 = .ok (.if_icmp .ne 6, 3) := by decide +kernel
theorem d1_16 : decode method_3_code 16 = .ok (.bipush 10, 2) := by decide +kernel
theorem d1_18 : decode method_3_code 18 = .ok (.ireturn, 1) := by decide +kernel
theorem d1_19 : decode method_3_code 19 = .ok (.iload_n 0, 1) := by decide +kernel
theorem d1_20 : decode method_3_code 20 = .ok (.iconst 2, 1) := by decide +kernel
theorem d1_21 : decode method_3_code 21 = .ok (.ishr, 1) := by decide +kernel
theorem d1_22 : decode method_3_code 22 = .ok (.i2b, 1) := by decide +kernel
theorem d1_23 : decode method_3_code 23 = .ok (.ireturn, 1) := by decide +kernel
theorem pn_1 : plainFor (⟨"com/example/labcourier/labcourier/console/HttpRequestRequestLineStartPinLaw", "drawn", "(I)B"⟩ : MethodName) = true := plainFor_of_name (by first | (simp [plainName, overriddenIn]; done) | decide +kernel)
theorem ef_1 (m : MethodId) (x0 : Int32) : entryFrame m #[(.int x0)] 2 = mkF m 0 #[.val (.int x0), .unset] [] := by first | (simp [entryFrame, mkF, argsToLocals, Value.category]; done) | rfl
def own_dr (p1 : Int32) : Int32 := (if (p1 &&& (3 : Int32)) = (0 : Int32) then (13 : Int32) else (if (p1 &&& (3 : Int32)) = (1 : Int32) then (10 : Int32) else ((p1 >>> ((2 : Int32) &&& 31)).toInt8.toInt32)))
def own_Q_rm1 (Z : State) (p1 : Int32) (h0 : Heap) (n0 : Nat) (v : Option Value) (h : Heap) (L : List Loc) : Prop := v = some (.int (nar .byte (own_dr p1))) ∧ Fr n0 L ∧ h = h0
set_option maxRecDepth 65536 in
set_option maxHeartbeats 40000000 in
theorem rm1 (l : Launch) (Z : State) (a0 : Array Value) (hw : ∀ d ∈ tables_1, d.before a0 Z = true) (ws : List Jvm.Cond) (p1 : Int32) (h0 : Heap) (n0 : Nat) (Z0 : n0 ≤ h0.size)  :
    MetFree l (⟨"com/example/labcourier/labcourier/console/HttpRequestRequestLineStartPinLaw", "drawn", "(I)B"⟩ : MethodName) (head1 (Jvm.Cond.code (⟨"com/example/labcourier/labcourier/console/HttpRequestRequestLineStartPinLaw", "drawn", "(I)B"⟩ : MethodName) method_3_code 2 (some .byte) :: ws) ({ frames := 0, cells := 0, slots := 0, locals := 0 } : Room)) (fun a U => a = #[(.int p1)] ∧ Z.Warmed39 U.vm ∧ U.heap = h0) (fun _ _ _ _ _ => True) (fun _ U o U' => ∃ v L, o = .returned v ∧ own_Q_rm1 Z p1 h0 n0 v U'.heap L ∧ FrameEnd U o U' L ({ frames := 0, cells := 0, slots := 0, locals := 0 } : Room).cells ({ frames := 0, cells := 0, slots := 0, locals := 0 } : Room).slots) := by
  refine own_body (Q := (own_Q_rm1 Z p1 h0 n0)) pn_1 ?_
  intro p e s m below meth c s₁ X0 hx hby hml hown hnm hret hlk hZ e0
  have N0 := Fr.nil n0
  refine Rch.go (fun t k => castTop (ef_1 m p1) k) ?_
  show Rch p e below (s₁.setTop (mkF m 0 #[.val (.int p1), .unset] [])) _
  refine Rch.go (fun _ k => XS.iloadN X0.here hx rfl (hb hby d1_0) rfl  k) ?_
  show Rch p e below (s₁.setTop (mkF m 1 #[.val (.int p1), .unset] [(.int p1)])) _
  refine Rch.go (fun _ k => XS.iconst X0.here hx rfl (hb hby d1_1) k) ?_
  show Rch p e below (s₁.setTop (mkF m 2 #[.val (.int p1), .unset] [(.int (3 : Int32)), (.int p1)])) _
  refine Rch.go (fun _ k => XS.iand X0.here hx rfl (hb hby d1_2) rfl k) ?_
  show Rch p e below (s₁.setTop (mkF m 3 #[.val (.int p1), .unset] [(.int (p1 &&& (3 : Int32)))])) _
  refine Rch.go (fun _ k => XS.istoreN X0.here hx rfl (hb hby d1_3) rfl (l' := #[.val (.int p1), .val (.int (p1 &&& (3 : Int32)))]) rfl k) ?_
  show Rch p e below (s₁.setTop (mkF m 4 #[.val (.int p1), .val (.int (p1 &&& (3 : Int32)))] [])) _
  refine Rch.go (fun _ k => XS.iloadN X0.here hx rfl (hb hby d1_4) rfl  k) ?_
  show Rch p e below (s₁.setTop (mkF m 5 #[.val (.int p1), .val (.int (p1 &&& (3 : Int32)))] [(.int (p1 &&& (3 : Int32)))])) _
  by_cases hc5_1 : (p1 &&& (3 : Int32)) = (0 : Int32)
  · refine Rch.go (fun _ k => XS.ifNo X0.here hx rfl (hb hby d1_5) rfl ((if0 _ _).trans (teq hc5_1).2) k) ?_
    show Rch p e below (s₁.setTop (mkF m 8 #[.val (.int p1), .val (.int (p1 &&& (3 : Int32)))] [])) _
    refine Rch.go (fun _ k => XS.bipush X0.here hx rfl (hb hby d1_8) k) ?_
    show Rch p e below (s₁.setTop (mkF m 10 #[.val (.int p1), .val (.int (p1 &&& (3 : Int32)))] [(.int (13 : Int32))])) _
    have hv : own_dr p1 = (13 : Int32) := by simp only [own_dr, if_pos hc5_1]
    exact Rch.ret X0 hlk (fun h => by rw [hret] at h; cases h) (fun fs hr => retN X0 hx (t := .byte) hret (by simp) (hb hby d1_10) hr) ⟨by rw [hv], N0, e0⟩ (by decide) (by decide)
  · refine Rch.go (fun _ k => XS.ifYes X0.here hx rfl (pc0 := 5) (pc' := 11) rfl (hb hby d1_5) rfl ((if0 _ _).trans (feq hc5_1).2) (by decide) (by decide) k) ?_
    show Rch p e below (s₁.setTop (mkF m 11 #[.val (.int p1), .val (.int (p1 &&& (3 : Int32)))] [])) _
    refine Rch.go (fun _ k => XS.iloadN X0.here hx rfl (hb hby d1_11) rfl  k) ?_
    show Rch p e below (s₁.setTop (mkF m 12 #[.val (.int p1), .val (.int (p1 &&& (3 : Int32)))] [(.int (p1 &&& (3 : Int32)))])) _
    refine Rch.go (fun _ k => XS.iconst X0.here hx rfl (hb hby d1_12) k) ?_
    show Rch p e below (s₁.setTop (mkF m 13 #[.val (.int p1), .val (.int (p1 &&& (3 : Int32)))] [(.int (1 : Int32)), (.int (p1 &&& (3 : Int32)))])) _
    by_cases hc13_2 : (p1 &&& (3 : Int32)) = (1 : Int32)
    · refine Rch.go (fun _ k => XS.icmpNo X0.here hx rfl (hb hby d1_13) rfl (teq hc13_2).2 k) ?_
      show Rch p e below (s₁.setTop (mkF m 16 #[.val (.int p1), .val (.int (p1 &&& (3 : Int32)))] [])) _
      refine Rch.go (fun _ k => XS.bipush X0.here hx rfl (hb hby d1_16) k) ?_
      show Rch p e below (s₁.setTop (mkF m 18 #[.val (.int p1), .val (.int (p1 &&& (3 : Int32)))] [(.int (10 : Int32))])) _
      have hv : own_dr p1 = (10 : Int32) := by simp only [own_dr, if_neg hc5_1, if_pos hc13_2]
      exact Rch.ret X0 hlk (fun h => by rw [hret] at h; cases h) (fun fs hr => retN X0 hx (t := .byte) hret (by simp) (hb hby d1_18) hr) ⟨by rw [hv], N0, e0⟩ (by decide) (by decide)
    · refine Rch.go (fun _ k => XS.icmpYes X0.here hx rfl (pc0 := 13) (pc' := 19) rfl (hb hby d1_13) rfl (feq hc13_2).2 (by decide) (by decide) k) ?_
      show Rch p e below (s₁.setTop (mkF m 19 #[.val (.int p1), .val (.int (p1 &&& (3 : Int32)))] [])) _
      refine Rch.go (fun _ k => XS.iloadN X0.here hx rfl (hb hby d1_19) rfl  k) ?_
      show Rch p e below (s₁.setTop (mkF m 20 #[.val (.int p1), .val (.int (p1 &&& (3 : Int32)))] [(.int p1)])) _
      refine Rch.go (fun _ k => XS.iconst X0.here hx rfl (hb hby d1_20) k) ?_
      show Rch p e below (s₁.setTop (mkF m 21 #[.val (.int p1), .val (.int (p1 &&& (3 : Int32)))] [(.int (2 : Int32)), (.int p1)])) _
      refine Rch.go (fun _ k => XS.ishr X0.here hx rfl (hb hby d1_21) rfl k) ?_
      show Rch p e below (s₁.setTop (mkF m 22 #[.val (.int p1), .val (.int (p1 &&& (3 : Int32)))] [(.int (p1 >>> ((2 : Int32) &&& 31)))])) _
      refine Rch.go (fun _ k => XS.i2b X0.here hx rfl (hb hby d1_22) rfl k) ?_
      show Rch p e below (s₁.setTop (mkF m 23 #[.val (.int p1), .val (.int (p1 &&& (3 : Int32)))] [(.int ((p1 >>> ((2 : Int32) &&& 31)).toInt8.toInt32))])) _
      have hv : own_dr p1 = ((p1 >>> ((2 : Int32) &&& 31)).toInt8.toInt32) := by simp only [own_dr, if_neg hc5_1, if_neg hc13_2]
      exact Rch.ret X0 hlk (fun h => by rw [hret] at h; cases h) (fun fs hr => retN X0 hx (t := .byte) hret (by simp) (hb hby d1_23) hr) ⟨by rw [hv], N0, e0⟩ (by decide) (by decide)
def own_putf (f : Nat → Int32) (q : Nat) (z : Int32) : Nat → Int32 := if z = (0 : Int32) then updI f q (nar .byte (10 : Int32)) else updI (updI f q (nar .byte (13 : Int32))) (q + 1) (nar .byte (10 : Int32))
def own_putq (q : Nat) (z : Int32) : Nat := if z = (0 : Int32) then q + 1 else q + 2
theorem own_two (i : Nat) : Int32.ofNat i + (2 : Int32) = Int32.ofNat (i + 2) := (Int32.ofNat_add i 2).symm
theorem d3_0 : decode method_4_code 0 = .ok (.iload_n 2, 1) := by decide +kernel
theorem d3_1 : decode method_4_code 1 = .ok (.ifCond .eq 19, 3) := by decide +kernel
theorem d3_4 : decode method_4_code 4 = .ok (.aload_n 0, 1) := by decide +kernel
theorem d3_5 : decode method_4_code 5 = .ok (.iload_n 1, 1) := by decide +kernel
theorem d3_6 : decode method_4_code 6 = .ok (.bipush 13, 2) := by decide +kernel
theorem d3_8 : decode method_4_code 8 = .ok (.bastore, 1) := by decide +kernel
theorem d3_9 : decode method_4_code 9 = .ok (.aload_n 0, 1) := by decide +kernel
theorem d3_10 : decode method_4_code 10 = .ok (.iload_n 1, 1) := by decide +kernel
theorem d3_11 : decode method_4_code 11 = .ok (.iconst 1, 1) := by decide +kernel
theorem d3_12 : decode method_4_code 12 = .ok (.iadd, 1) := by decide +kernel
theorem d3_13 : decode method_4_code 13 = .ok (.bipush 10, 2) := by decide +kernel
theorem d3_15 : decode method_4_code 15 = .ok (.bastore, 1) := by decide +kernel
theorem d3_16 : decode method_4_code 16 = .ok (.iload_n 1, 1) := by decide +kernel
theorem d3_17 : decode method_4_code 17 = .ok (.iconst 2, 1) := by decide +kernel
theorem d3_18 : decode method_4_code 18 = .ok (.iadd, 1) := by decide +kernel
theorem d3_19 : decode method_4_code 19 = .ok (.ireturn, 1) := by decide +kernel
theorem d3_20 : decode method_4_code 20 = .ok (.aload_n 0, 1) := by decide +kernel
theorem d3_21 : decode method_4_code 21 = .ok (.iload_n 1, 1) := by decide +kernel
theorem d3_22 : decode method_4_code 22 = .ok (.bipush 10, 2) := by decide +kernel
theorem d3_24 : decode method_4_code 24 = .ok (.bastore, 1) := by decide +kernel
theorem d3_25 : decode method_4_code 25 = .ok (.iload_n 1, 1) := by decide +kernel
theorem d3_26 : decode method_4_code 26 = .ok (.iconst 1, 1) := by decide +kernel
theorem d3_27 : decode method_4_code 27 = .ok (.iadd, 1) := by decide +kernel
theorem d3_28 : decode method_4_code 28 = .ok (.ireturn, 1) := by decide +kernel
theorem pn_3 : plainFor (⟨"com/example/labcourier/labcourier/console/HttpRequestRequestLineStartPinLaw", "put", "([BIZ)I"⟩ : MethodName) = true := plainFor_of_name (by first | (simp [plainName, overriddenIn]; done) | decide +kernel)
theorem ef_3 (m : MethodId) (x0 : Addr) (x1 : Int32) (x2 : Int32) : entryFrame m #[(.ref x0), (.int x1), (.int x2)] 3 = mkF m 0 #[.val (.ref x0), .val (.int x1), .val (.int x2)] [] := by first | (simp [entryFrame, mkF, argsToLocals, Value.category]; done) | rfl
def own_Q_rm3 (Z : State) (a1 : Addr) (q : Nat) (z : Int32) (f : Nat → Int32) (h0 : Heap) (n0 : Nat) (v : Option Value) (h : Heap) (L : List Loc) : Prop := v = some (.int (Int32.ofNat (own_putq q z))) ∧ Fr n0 L ∧ Keep h0 h [a1] ∧ BA Z h a1 12 (own_putf f q z)
set_option maxRecDepth 65536 in
set_option maxHeartbeats 40000000 in
theorem rm3 (l : Launch) (Z : State) (a0 : Array Value) (hw : ∀ d ∈ tables_1, d.before a0 Z = true) (ws : List Jvm.Cond) (a1 : Addr) (q : Nat) (z : Int32) (f : Nat → Int32) (h0 : Heap) (n0 : Nat) (Z0 : n0 ≤ h0.size) (hq12 : q + 1 < 12) (g_a1 : n0 ≤ a1) (B_a1 : BA Z h0 a1 12 f) :
    MetFree l (⟨"com/example/labcourier/labcourier/console/HttpRequestRequestLineStartPinLaw", "put", "([BIZ)I"⟩ : MethodName) (head1 (Jvm.Cond.code (⟨"com/example/labcourier/labcourier/console/HttpRequestRequestLineStartPinLaw", "put", "([BIZ)I"⟩ : MethodName) method_4_code 3 (some .int) :: ws) ({ frames := 0, cells := 0, slots := 0, locals := 0 } : Room)) (fun a U => a = #[(.ref a1), (.int (Int32.ofNat q)), (.int z)] ∧ Z.Warmed39 U.vm ∧ U.heap = h0) (fun _ _ _ _ _ => True) (fun _ U o U' => ∃ v L, o = .returned v ∧ own_Q_rm3 Z a1 q z f h0 n0 v U'.heap L ∧ FrameEnd U o U' L ({ frames := 0, cells := 0, slots := 0, locals := 0 } : Room).cells ({ frames := 0, cells := 0, slots := 0, locals := 0 } : Room).slots) := by
  refine own_body (Q := (own_Q_rm3 Z a1 q z f h0 n0)) pn_3 ?_
  intro p e s m below meth c s₁ X0 hx hby hml hown hnm hret hlk hZ e0
  have N0 := Fr.nil n0
  refine Rch.go (fun t k => castTop (ef_3 m a1 (Int32.ofNat q) z) k) ?_
  have K0 := Keep.refl h0 [a1]
  show Rch p e below (s₁.setTop (mkF m 0 #[.val (.ref a1), .val (.int (Int32.ofNat q)), .val (.int z)] [])) _
  refine Rch.go (fun _ k => XS.iloadN X0.here hx rfl (hb hby d3_0) rfl  k) ?_
  show Rch p e below (s₁.setTop (mkF m 1 #[.val (.ref a1), .val (.int (Int32.ofNat q)), .val (.int z)] [(.int z)])) _
  by_cases hc1_1 : z = (0 : Int32)
  · refine Rch.go (fun _ k => XS.ifYes X0.here hx rfl (pc0 := 1) (pc' := 20) rfl (hb hby d3_1) rfl ((if0 _ _).trans (teq hc1_1).1) (by decide) (by decide) k) ?_
    show Rch p e below (s₁.setTop (mkF m 20 #[.val (.ref a1), .val (.int (Int32.ofNat q)), .val (.int z)] [])) _
    refine Rch.go (fun _ k => XS.aloadN X0.here hx rfl (hb hby d3_20) rfl rfl k) ?_
    show Rch p e below (s₁.setTop (mkF m 21 #[.val (.ref a1), .val (.int (Int32.ofNat q)), .val (.int z)] [(.ref a1)])) _
    refine Rch.go (fun _ k => XS.iloadN X0.here hx rfl (hb hby d3_21) rfl  k) ?_
    show Rch p e below (s₁.setTop (mkF m 22 #[.val (.ref a1), .val (.int (Int32.ofNat q)), .val (.int z)] [(.int (Int32.ofNat q)), (.ref a1)])) _
    refine Rch.go (fun _ k => XS.bipush X0.here hx rfl (hb hby d3_22) k) ?_
    show Rch p e below (s₁.setTop (mkF m 24 #[.val (.ref a1), .val (.int (Int32.ofNat q)), .val (.int z)] [(.int (10 : Int32)), (.int (Int32.ofNat q)), (.ref a1)])) _
    obtain ⟨cl2, Ar2, Sz2, At2⟩ := B_a1
    obtain ⟨T2, h2, X2, e2, W2, st2⟩ := stB X0 hx hZ e0 Ar2 (j := (Int32.ofNat q)) (inb (k := q) Sz2 (natOf (by omega)).1 (natOf (by omega)).2.1 (by omega)) (g := (mkF m 24 #[.val (.ref a1), .val (.int (Int32.ofNat q)), .val (.int z)] [(.int (10 : Int32)), (.int (Int32.ofNat q)), (.ref a1)])) rfl rfl (hb hby d3_24)
    have B_a1 := BA.set ⟨cl2, Ar2, Sz2, At2⟩ (k := q) (natOf (by omega)).2.1 (by omega) W2
    have K0 := K0.wr W2 (Or.inl (List.mem_of_getElem? (i := 0) rfl))
    have Z0 := Nat.le_trans Z0 (Keep.of_wr W2).1
    have N2 := Fr.snoc X2 N0 g_a1
    refine Rch.go st2 ?_
    show Rch p e below (T2.setTop (mkF m 25 #[.val (.ref a1), .val (.int (Int32.ofNat q)), .val (.int z)] [])) _
    refine Rch.go (fun _ k => XS.iloadN X2.here hx rfl (hb hby d3_25) rfl  k) ?_
    show Rch p e below (T2.setTop (mkF m 26 #[.val (.ref a1), .val (.int (Int32.ofNat q)), .val (.int z)] [(.int (Int32.ofNat q))])) _
    refine Rch.go (fun _ k => XS.iconst X2.here hx rfl (hb hby d3_26) k) ?_
    show Rch p e below (T2.setTop (mkF m 27 #[.val (.ref a1), .val (.int (Int32.ofNat q)), .val (.int z)] [(.int (1 : Int32)), (.int (Int32.ofNat q))])) _
    refine Rch.go (fun _ k => XS.iadd X2.here hx rfl (hb hby d3_27) rfl k) ?_
    show Rch p e below (T2.setTop (mkF m 28 #[.val (.ref a1), .val (.int (Int32.ofNat q)), .val (.int z)] [(.int ((Int32.ofNat q) + (1 : Int32)))])) _
    have hq : own_putq q z = q + 1 := by simp only [own_putq, if_pos hc1_1]
    have hf : own_putf f q z = (updI f q (nar .byte (10 : Int32))) := by simp only [own_putf, if_pos hc1_1]
    exact Rch.ret X2 hlk (fun h => by rw [hret] at h; cases h) (fun fs hr => retI' X2 hx hret (hb hby d3_28) hr) (by rw [e2]; exact ⟨by rw [hq, ← ofNat_succ], N2, K0, by rw [hf]; exact B_a1⟩) (by decide) (by decide)
  · refine Rch.go (fun _ k => XS.ifNo X0.here hx rfl (hb hby d3_1) rfl ((if0 _ _).trans (feq hc1_1).1) k) ?_
    show Rch p e below (s₁.setTop (mkF m 4 #[.val (.ref a1), .val (.int (Int32.ofNat q)), .val (.int z)] [])) _
    refine Rch.go (fun _ k => XS.aloadN X0.here hx rfl (hb hby d3_4) rfl rfl k) ?_
    show Rch p e below (s₁.setTop (mkF m 5 #[.val (.ref a1), .val (.int (Int32.ofNat q)), .val (.int z)] [(.ref a1)])) _
    refine Rch.go (fun _ k => XS.iloadN X0.here hx rfl (hb hby d3_5) rfl  k) ?_
    show Rch p e below (s₁.setTop (mkF m 6 #[.val (.ref a1), .val (.int (Int32.ofNat q)), .val (.int z)] [(.int (Int32.ofNat q)), (.ref a1)])) _
    refine Rch.go (fun _ k => XS.bipush X0.here hx rfl (hb hby d3_6) k) ?_
    show Rch p e below (s₁.setTop (mkF m 8 #[.val (.ref a1), .val (.int (Int32.ofNat q)), .val (.int z)] [(.int (13 : Int32)), (.int (Int32.ofNat q)), (.ref a1)])) _
    obtain ⟨cl3, Ar3, Sz3, At3⟩ := B_a1
    obtain ⟨T3, h3, X3, e3, W3, st3⟩ := stB X0 hx hZ e0 Ar3 (j := (Int32.ofNat q)) (inb (k := q) Sz3 (natOf (by omega)).1 (natOf (by omega)).2.1 (by omega)) (g := (mkF m 8 #[.val (.ref a1), .val (.int (Int32.ofNat q)), .val (.int z)] [(.int (13 : Int32)), (.int (Int32.ofNat q)), (.ref a1)])) rfl rfl (hb hby d3_8)
    have B_a1 := BA.set ⟨cl3, Ar3, Sz3, At3⟩ (k := q) (natOf (by omega)).2.1 (by omega) W3
    have K0 := K0.wr W3 (Or.inl (List.mem_of_getElem? (i := 0) rfl))
    have Z0 := Nat.le_trans Z0 (Keep.of_wr W3).1
    have N3 := Fr.snoc X3 N0 g_a1
    refine Rch.go st3 ?_
    show Rch p e below (T3.setTop (mkF m 9 #[.val (.ref a1), .val (.int (Int32.ofNat q)), .val (.int z)] [])) _
    refine Rch.go (fun _ k => XS.aloadN X3.here hx rfl (hb hby d3_9) rfl rfl k) ?_
    show Rch p e below (T3.setTop (mkF m 10 #[.val (.ref a1), .val (.int (Int32.ofNat q)), .val (.int z)] [(.ref a1)])) _
    refine Rch.go (fun _ k => XS.iloadN X3.here hx rfl (hb hby d3_10) rfl  k) ?_
    show Rch p e below (T3.setTop (mkF m 11 #[.val (.ref a1), .val (.int (Int32.ofNat q)), .val (.int z)] [(.int (Int32.ofNat q)), (.ref a1)])) _
    refine Rch.go (fun _ k => XS.iconst X3.here hx rfl (hb hby d3_11) k) ?_
    show Rch p e below (T3.setTop (mkF m 12 #[.val (.ref a1), .val (.int (Int32.ofNat q)), .val (.int z)] [(.int (1 : Int32)), (.int (Int32.ofNat q)), (.ref a1)])) _
    refine Rch.go (fun _ k => XS.iadd X3.here hx rfl (hb hby d3_12) rfl k) ?_
    show Rch p e below (T3.setTop (mkF m 13 #[.val (.ref a1), .val (.int (Int32.ofNat q)), .val (.int z)] [(.int ((Int32.ofNat q) + (1 : Int32))), (.ref a1)])) _
    rw [ofNat_succ]
    show Rch p e below (T3.setTop (mkF m 13 #[.val (.ref a1), .val (.int (Int32.ofNat q)), .val (.int z)] [(.int (Int32.ofNat (q + 1))), (.ref a1)])) _
    refine Rch.go (fun _ k => XS.bipush X3.here hx rfl (hb hby d3_13) k) ?_
    show Rch p e below (T3.setTop (mkF m 15 #[.val (.ref a1), .val (.int (Int32.ofNat q)), .val (.int z)] [(.int (10 : Int32)), (.int (Int32.ofNat (q + 1))), (.ref a1)])) _
    obtain ⟨cl4, Ar4, Sz4, At4⟩ := B_a1
    obtain ⟨T4, h4, X4, e4, W4, st4⟩ := stB X3 hx hZ e3 Ar4 (j := (Int32.ofNat (q + 1))) (inb (k := (q + 1)) Sz4 (natOf (by omega)).1 (natOf (by omega)).2.1 (by omega)) (g := (mkF m 15 #[.val (.ref a1), .val (.int (Int32.ofNat q)), .val (.int z)] [(.int (10 : Int32)), (.int (Int32.ofNat (q + 1))), (.ref a1)])) rfl rfl (hb hby d3_15)
    have B_a1 := BA.set ⟨cl4, Ar4, Sz4, At4⟩ (k := (q + 1)) (natOf (by omega)).2.1 (by omega) W4
    have K0 := K0.wr W4 (Or.inl (List.mem_of_getElem? (i := 0) rfl))
    have Z0 := Nat.le_trans Z0 (Keep.of_wr W4).1
    have N4 := Fr.snoc X4 N3 g_a1
    refine Rch.go st4 ?_
    show Rch p e below (T4.setTop (mkF m 16 #[.val (.ref a1), .val (.int (Int32.ofNat q)), .val (.int z)] [])) _
    refine Rch.go (fun _ k => XS.iloadN X4.here hx rfl (hb hby d3_16) rfl  k) ?_
    show Rch p e below (T4.setTop (mkF m 17 #[.val (.ref a1), .val (.int (Int32.ofNat q)), .val (.int z)] [(.int (Int32.ofNat q))])) _
    refine Rch.go (fun _ k => XS.iconst X4.here hx rfl (hb hby d3_17) k) ?_
    show Rch p e below (T4.setTop (mkF m 18 #[.val (.ref a1), .val (.int (Int32.ofNat q)), .val (.int z)] [(.int (2 : Int32)), (.int (Int32.ofNat q))])) _
    refine Rch.go (fun _ k => XS.iadd X4.here hx rfl (hb hby d3_18) rfl k) ?_
    show Rch p e below (T4.setTop (mkF m 19 #[.val (.ref a1), .val (.int (Int32.ofNat q)), .val (.int z)] [(.int ((Int32.ofNat q) + (2 : Int32)))])) _
    have hq : own_putq q z = q + 2 := by simp only [own_putq, if_neg hc1_1]
    have hf : own_putf f q z = (updI (updI f q (nar .byte (13 : Int32))) (q + 1) (nar .byte (10 : Int32))) := by simp only [own_putf, if_neg hc1_1]
    exact Rch.ret X4 hlk (fun h => by rw [hret] at h; cases h) (fun fs hr => retI' X4 hx hret (hb hby d3_19) hr) (by rw [e4]; exact ⟨by rw [hq, ← own_two], N4, K0, by rw [hf]; exact B_a1⟩) (by decide) (by decide)
def own_scan (f : Nat → Int32) (n i : Nat) : Nat :=
  if h : i < n then (if f i = (13 : Int32) then (if i + 1 = n then i else if f (i + 1) = (10 : Int32) then own_scan f n (i + 2) else i) else (if f i = (10 : Int32) then own_scan f n (i + 1) else i)) else i
termination_by n - i
theorem own_scan_13 {f : Nat → Int32} {n i : Nat} (h : i < n) (h1 : f i = (13 : Int32)) (h2 : ¬ i + 1 = n) (h3 : f (i + 1) = (10 : Int32)) : own_scan f n i = own_scan f n (i + 2) := by rw [own_scan, dif_pos h, if_pos h1, if_neg h2, if_pos h3]
theorem own_scan_10 {f : Nat → Int32} {n i : Nat} (h : i < n) (h1 : ¬ f i = (13 : Int32)) (h3 : f i = (10 : Int32)) : own_scan f n i = own_scan f n (i + 1) := by rw [own_scan, dif_pos h, if_neg h1, if_pos h3]
theorem own_scan_end {f : Nat → Int32} {n i : Nat} (h : ¬ i < n) : own_scan f n i = i := by rw [own_scan, dif_neg h]
theorem own_scan_13e {f : Nat → Int32} {n i : Nat} (h : i < n) (h1 : f i = (13 : Int32)) (h2 : i + 1 = n) : own_scan f n i = i := by rw [own_scan, dif_pos h, if_pos h1, if_pos h2]
theorem own_scan_13n {f : Nat → Int32} {n i : Nat} (h : i < n) (h1 : f i = (13 : Int32)) (h2 : ¬ i + 1 = n) (h3 : ¬ f (i + 1) = (10 : Int32)) : own_scan f n i = i := by rw [own_scan, dif_pos h, if_pos h1, if_neg h2, if_neg h3]
theorem own_scan_n {f : Nat → Int32} {n i : Nat} (h : i < n) (h1 : ¬ f i = (13 : Int32)) (h3 : ¬ f i = (10 : Int32)) : own_scan f n i = i := by rw [own_scan, dif_pos h, if_neg h1, if_neg h3]
theorem d2_0 : decode prog_20_method_2_code 0 = .ok (.iload_n 1, 1) := by decide +kernel
theorem d2_1 : decode prog_20_method_2_code 1 = .ok (.istore_n 3, 1) := by decide +kernel
theorem d2_2 : decode prog_20_method_2_code 2 = .ok (.iload_n 3, 1) := by decide +kernel
theorem d2_3 : decode prog_20_method_2_code 3 = .ok (.iload_n 2, 1) := by decide +kernel
theorem d2_4 : decode prog_20_method_2_code 4 = .ok (.if_icmp .ge 46, 3) := by decide +kernel
theorem d2_7 : decode prog_20_method_2_code 7 = .ok (.aload_n 0, 1) := by decide +kernel
theorem d2_8 : decode prog_20_method_2_code 8 = .ok (.iload_n 3, 1) := by decide +kernel
theorem d2_9 : decode prog_20_method_2_code 9 = .ok (.baload, 1) := by decide +kernel
theorem d2_10 : decode prog_20_method_2_code 10 = .ok (.bipush 13, 2) := by decide +kernel
theorem d2_12 : decode prog_20_method_2_code 12 = .ok (.if_icmp .ne 9, 3) := by decide +kernel
theorem d2_15 : decode prog_20_method_2_code 15 = .ok (.iload_n 3, 1) := by decide +kernel
theorem d2_16 : decode prog_20_method_2_code 16 = .ok (.iconst 1, 1) := by decide +kernel
theorem d2_17 : decode prog_20_method_2_code 17 = .ok (.iadd, 1) := by decide +kernel
theorem d2_18 : decode prog_20_method_2_code 18 = .ok (.goto 4, 3) := by decide +kernel
theorem d2_21 : decode prog_20_method_2_code 21 = .ok (.iload_n 3, 1) := by decide +kernel
theorem d2_22 : decode prog_20_method_2_code 22 = .ok (.istore 4, 2) := by decide +kernel
theorem d2_24 : decode prog_20_method_2_code 24 = .ok (.iload 4, 2) := by decide +kernel
theorem d2_26 : decode prog_20_method_2_code 26 = .ok (.iload_n 2, 1) := by decide +kernel
theorem d2_27 : decode prog_20_method_2_code 27 = .ok (.if_icmp .eq 23, 3) := by decide +kernel
theorem d2_30 : decode prog_20_method_2_code 30 = .ok (.aload_n 0, 1) := by decide +kernel
theorem d2_31 : decode prog_20_method_2_code 31 = .ok (.iload 4, 2) := by decide +kernel
theorem d2_33 : decode prog_20_method_2_code 33 = .ok (.baload, 1) := by decide +kernel
theorem d2_34 : decode prog_20_method_2_code 34 = .ok (.bipush 10, 2) := by decide +kernel
theorem d2_36 : decode prog_20_method_2_code 36 = .ok (.if_icmp .eq 6, 3) := by decide +kernel
theorem d2_39 : decode prog_20_method_2_code 39 = .ok (.goto 11, 3) := by decide +kernel
theorem d2_42 : decode prog_20_method_2_code 42 = .ok (.iload 4, 2) := by decide +kernel
theorem d2_44 : decode prog_20_method_2_code 44 = .ok (.iconst 1, 1) := by decide +kernel
theorem d2_45 : decode prog_20_method_2_code 45 = .ok (.iadd, 1) := by decide +kernel
theorem d2_46 : decode prog_20_method_2_code 46 = .ok (.istore_n 3, 1) := by decide +kernel
theorem d2_47 : decode prog_20_method_2_code 47 = .ok (.goto (-45), 3) := by decide +kernel
theorem d2_50 : decode prog_20_method_2_code 50 = .ok (.iload_n 3, 1) := by decide +kernel
theorem d2_51 : decode prog_20_method_2_code 51 = .ok (.ireturn, 1) := by decide +kernel
theorem own_st4 {a1 : Addr} {x y z : Value} {s4 : Slot} {v : Int32} (h : One s4) (hx : x.category = 1) (hy : y.category = 1) (hz : z.category = 1) : storeLocals #[.val (.ref a1), .val x, .val y, .val z, s4] 4 (.int v) = some #[.val (.ref a1), .val x, .val y, .val z, .val (.int v)] := by
  rcases h with rfl | ⟨u, rfl, hu⟩
  · cases x <;> cases y <;> cases z <;> first | rfl | (simp [Value.category] at hx hy hz)
  · cases x <;> cases y <;> cases z <;> cases u <;> first | rfl | (simp [Value.category] at hx hy hz hu)
set_option maxRecDepth 65536 in
set_option maxHeartbeats 40000000 in
theorem own_loop {p : Program} {l : Launch} {e : Env} {R : Room} {s : State} {m : MethodId} {args : Array Value} {below : List Frame} {meth : Method} {c : Code} {locs : List Loc} {cells slots : Nat} {Z : State} {h0 : Heap} (a1 : Addr) (fr : Int32) (n : Nat) (f : Nat → Int32) {T0 : State} (hn : n ≤ 12) (B_a1 : BA Z h0 a1 12 f) (hx : p.tables.exec = Jvm.exec) (hZ : Z.Warmed39 s.vm) (hby : c.code = prog_20_method_2_code) (X0 : Stand p l e R s m args below meth c T0 locs cells slots) (e0 : T0.heap = h0) :
    ∀ (k i : Nat) (s4 : Slot), n - i ≤ k → i < 2 ^ 31 → One s4 → Rch p e below (T0.setTop (mkF m 2 #[.val (.ref a1), .val (.int fr), .val (.int (Int32.ofNat n)), .val (.int (Int32.ofNat i)), s4] [])) (fun B => ∃ s4' : Slot, B = T0.setTop (mkF m 50 #[.val (.ref a1), .val (.int fr), .val (.int (Int32.ofNat n)), .val (.int (Int32.ofNat (own_scan f n i))), s4'] [])) := by
  intro k
  induction k with
  | zero =>
    intro i s4 hk hi h4
    have hlt : ¬ i < n := by omega
    by_cases hi31 : i < 2 ^ 31
    · refine Rch.go (fun _ k => XS.iloadN X0.here hx rfl (hb hby d2_2) rfl k) ?_
      refine Rch.go (fun _ k => XS.iloadN X0.here hx rfl (hb hby d2_3) rfl k) ?_
      refine Rch.go (fun _ k => XS.icmpYes X0.here hx rfl (pc0 := 4) (pc' := 50) rfl (hb hby d2_4) rfl (flt (fun q => hlt ((ofNat_lt hi31 (by omega)).mp q))).2.1 (by decide) (by decide) k) ?_
      exact Rch.here ⟨_, by rw [own_scan_end hlt]⟩
    · exact absurd hi hi31
  | succ k ih =>
    intro i s4 hk hi h4
    refine Rch.go (fun _ k => XS.iloadN X0.here hx rfl (hb hby d2_2) rfl  k) ?_
    show Rch p e below (T0.setTop (mkF m 3 #[.val (.ref a1), .val (.int fr), .val (.int (Int32.ofNat n)), .val (.int (Int32.ofNat i)), s4] [(.int (Int32.ofNat i))])) _
    refine Rch.go (fun _ k => XS.iloadN X0.here hx rfl (hb hby d2_3) rfl  k) ?_
    show Rch p e below (T0.setTop (mkF m 4 #[.val (.ref a1), .val (.int fr), .val (.int (Int32.ofNat n)), .val (.int (Int32.ofNat i)), s4] [(.int (Int32.ofNat n)), (.int (Int32.ofNat i))])) _
    by_cases hlt : i < n
    · refine Rch.go (fun _ k => XS.icmpNo X0.here hx rfl (hb hby d2_4) rfl (tlt ((ofNat_lt (by omega) (by omega)).mpr hlt)).2.1 k) ?_
      show Rch p e below (T0.setTop (mkF m 7 #[.val (.ref a1), .val (.int fr), .val (.int (Int32.ofNat n)), .val (.int (Int32.ofNat i)), s4] [])) _
      refine Rch.go (fun _ k => XS.aloadN X0.here hx rfl (hb hby d2_7) rfl rfl k) ?_
      show Rch p e below (T0.setTop (mkF m 8 #[.val (.ref a1), .val (.int fr), .val (.int (Int32.ofNat n)), .val (.int (Int32.ofNat i)), s4] [(.ref a1)])) _
      refine Rch.go (fun _ k => XS.iloadN X0.here hx rfl (hb hby d2_8) rfl  k) ?_
      show Rch p e below (T0.setTop (mkF m 9 #[.val (.ref a1), .val (.int fr), .val (.int (Int32.ofNat n)), .val (.int (Int32.ofNat i)), s4] [(.int (Int32.ofNat i)), (.ref a1)])) _
      obtain ⟨cl1, Ar1, Sz1, At1⟩ := id B_a1
      refine Rch.go (X0.baloadBytes hx (j := (Int32.ofNat i)) (v := (.int (f i))) (by rw [e0]; exact Ar1.1) (State.isArrayOf_alike hZ.alike Ar1.2.1) Ar1.2.2 (inb (k := i) Sz1 (natOf (by omega)).1 (natOf (by omega)).2.1 (by omega)) (by rw [(natOf (by omega)).2.1]; exact At1 _ (by omega)) (g := (mkF m 9 #[.val (.ref a1), .val (.int fr), .val (.int (Int32.ofNat n)), .val (.int (Int32.ofNat i)), s4] [(.int (Int32.ofNat i)), (.ref a1)])) rfl rfl (hb hby d2_9)) ?_
      show Rch p e below (T0.setTop (mkF m 10 #[.val (.ref a1), .val (.int fr), .val (.int (Int32.ofNat n)), .val (.int (Int32.ofNat i)), s4] [(.int (f i))])) _
      refine Rch.go (fun _ k => XS.bipush X0.here hx rfl (hb hby d2_10) k) ?_
      show Rch p e below (T0.setTop (mkF m 12 #[.val (.ref a1), .val (.int fr), .val (.int (Int32.ofNat n)), .val (.int (Int32.ofNat i)), s4] [(.int (13 : Int32)), (.int (f i))])) _
      by_cases h13 : f i = (13 : Int32)
      · refine Rch.go (fun _ k => XS.icmpNo X0.here hx rfl (hb hby d2_12) rfl (teq h13).2 k) ?_
        show Rch p e below (T0.setTop (mkF m 15 #[.val (.ref a1), .val (.int fr), .val (.int (Int32.ofNat n)), .val (.int (Int32.ofNat i)), s4] [])) _
        refine Rch.go (fun _ k => XS.iloadN X0.here hx rfl (hb hby d2_15) rfl  k) ?_
        show Rch p e below (T0.setTop (mkF m 16 #[.val (.ref a1), .val (.int fr), .val (.int (Int32.ofNat n)), .val (.int (Int32.ofNat i)), s4] [(.int (Int32.ofNat i))])) _
        refine Rch.go (fun _ k => XS.iconst X0.here hx rfl (hb hby d2_16) k) ?_
        show Rch p e below (T0.setTop (mkF m 17 #[.val (.ref a1), .val (.int fr), .val (.int (Int32.ofNat n)), .val (.int (Int32.ofNat i)), s4] [(.int (1 : Int32)), (.int (Int32.ofNat i))])) _
        refine Rch.go (fun _ k => XS.iadd X0.here hx rfl (hb hby d2_17) rfl k) ?_
        show Rch p e below (T0.setTop (mkF m 18 #[.val (.ref a1), .val (.int fr), .val (.int (Int32.ofNat n)), .val (.int (Int32.ofNat i)), s4] [(.int ((Int32.ofNat i) + (1 : Int32)))])) _
        rw [ofNat_succ]
        show Rch p e below (T0.setTop (mkF m 18 #[.val (.ref a1), .val (.int fr), .val (.int (Int32.ofNat n)), .val (.int (Int32.ofNat i)), s4] [(.int (Int32.ofNat (i + 1)))])) _
        refine Rch.go (fun _ k => XS.goto X0.here hx rfl (pc0 := 18) (pc' := 22) rfl (hb hby d2_18) (by decide) (by decide) k) ?_
        show Rch p e below (T0.setTop (mkF m 22 #[.val (.ref a1), .val (.int fr), .val (.int (Int32.ofNat n)), .val (.int (Int32.ofNat i)), s4] [(.int (Int32.ofNat (i + 1)))])) _
        refine Rch.go (fun _ k => XS.istore X0.here hx rfl (hb hby d2_22) rfl (l' := #[.val (.ref a1), .val (.int fr), .val (.int (Int32.ofNat n)), .val (.int (Int32.ofNat i)), .val (.int (Int32.ofNat (i + 1)))]) (own_st4 h4 rfl rfl rfl) k) ?_
        show Rch p e below (T0.setTop (mkF m 24 #[.val (.ref a1), .val (.int fr), .val (.int (Int32.ofNat n)), .val (.int (Int32.ofNat i)), .val (.int (Int32.ofNat (i + 1)))] [])) _
        refine Rch.go (fun _ k => XS.iload X0.here hx rfl (hb hby d2_24) rfl  k) ?_
        show Rch p e below (T0.setTop (mkF m 26 #[.val (.ref a1), .val (.int fr), .val (.int (Int32.ofNat n)), .val (.int (Int32.ofNat i)), .val (.int (Int32.ofNat (i + 1)))] [(.int (Int32.ofNat (i + 1)))])) _
        refine Rch.go (fun _ k => XS.iloadN X0.here hx rfl (hb hby d2_26) rfl  k) ?_
        show Rch p e below (T0.setTop (mkF m 27 #[.val (.ref a1), .val (.int fr), .val (.int (Int32.ofNat n)), .val (.int (Int32.ofNat i)), .val (.int (Int32.ofNat (i + 1)))] [(.int (Int32.ofNat n)), (.int (Int32.ofNat (i + 1)))])) _
        by_cases hen : i + 1 = n
        · refine Rch.go (fun _ k => XS.icmpYes X0.here hx rfl (pc0 := 27) (pc' := 50) rfl (hb hby d2_27) rfl (teq (congrArg Int32.ofNat hen)).1 (by decide) (by decide) k) ?_
          show Rch p e below (T0.setTop (mkF m 50 #[.val (.ref a1), .val (.int fr), .val (.int (Int32.ofNat n)), .val (.int (Int32.ofNat i)), .val (.int (Int32.ofNat (i + 1)))] [])) _
          exact Rch.here ⟨_, by rw [own_scan_13e hlt h13 hen]⟩
        · refine Rch.go (fun _ k => XS.icmpNo X0.here hx rfl (hb hby d2_27) rfl (feq (fun q => hen ((ofNat_inj (by omega) (by omega)).mp q))).1 k) ?_
          show Rch p e below (T0.setTop (mkF m 30 #[.val (.ref a1), .val (.int fr), .val (.int (Int32.ofNat n)), .val (.int (Int32.ofNat i)), .val (.int (Int32.ofNat (i + 1)))] [])) _
          refine Rch.go (fun _ k => XS.aloadN X0.here hx rfl (hb hby d2_30) rfl rfl k) ?_
          show Rch p e below (T0.setTop (mkF m 31 #[.val (.ref a1), .val (.int fr), .val (.int (Int32.ofNat n)), .val (.int (Int32.ofNat i)), .val (.int (Int32.ofNat (i + 1)))] [(.ref a1)])) _
          refine Rch.go (fun _ k => XS.iload X0.here hx rfl (hb hby d2_31) rfl  k) ?_
          show Rch p e below (T0.setTop (mkF m 33 #[.val (.ref a1), .val (.int fr), .val (.int (Int32.ofNat n)), .val (.int (Int32.ofNat i)), .val (.int (Int32.ofNat (i + 1)))] [(.int (Int32.ofNat (i + 1))), (.ref a1)])) _
          obtain ⟨cl2, Ar2, Sz2, At2⟩ := id B_a1
          refine Rch.go (X0.baloadBytes hx (j := (Int32.ofNat (i + 1))) (v := (.int (f ((i + 1))))) (by rw [e0]; exact Ar2.1) (State.isArrayOf_alike hZ.alike Ar2.2.1) Ar2.2.2 (inb (k := (i + 1)) Sz2 (natOf (by omega)).1 (natOf (by omega)).2.1 (by omega)) (by rw [(natOf (by omega)).2.1]; exact At2 _ (by omega)) (g := (mkF m 33 #[.val (.ref a1), .val (.int fr), .val (.int (Int32.ofNat n)), .val (.int (Int32.ofNat i)), .val (.int (Int32.ofNat (i + 1)))] [(.int (Int32.ofNat (i + 1))), (.ref a1)])) rfl rfl (hb hby d2_33)) ?_
          show Rch p e below (T0.setTop (mkF m 34 #[.val (.ref a1), .val (.int fr), .val (.int (Int32.ofNat n)), .val (.int (Int32.ofNat i)), .val (.int (Int32.ofNat (i + 1)))] [(.int (f ((i + 1))))])) _
          refine Rch.go (fun _ k => XS.bipush X0.here hx rfl (hb hby d2_34) k) ?_
          show Rch p e below (T0.setTop (mkF m 36 #[.val (.ref a1), .val (.int fr), .val (.int (Int32.ofNat n)), .val (.int (Int32.ofNat i)), .val (.int (Int32.ofNat (i + 1)))] [(.int (10 : Int32)), (.int (f ((i + 1))))])) _
          by_cases h10 : f (i + 1) = (10 : Int32)
          · refine Rch.go (fun _ k => XS.icmpYes X0.here hx rfl (pc0 := 36) (pc' := 42) rfl (hb hby d2_36) rfl (teq h10).1 (by decide) (by decide) k) ?_
            show Rch p e below (T0.setTop (mkF m 42 #[.val (.ref a1), .val (.int fr), .val (.int (Int32.ofNat n)), .val (.int (Int32.ofNat i)), .val (.int (Int32.ofNat (i + 1)))] [])) _
            refine Rch.go (fun _ k => XS.iload X0.here hx rfl (hb hby d2_42) rfl  k) ?_
            show Rch p e below (T0.setTop (mkF m 44 #[.val (.ref a1), .val (.int fr), .val (.int (Int32.ofNat n)), .val (.int (Int32.ofNat i)), .val (.int (Int32.ofNat (i + 1)))] [(.int (Int32.ofNat (i + 1)))])) _
            refine Rch.go (fun _ k => XS.iconst X0.here hx rfl (hb hby d2_44) k) ?_
            show Rch p e below (T0.setTop (mkF m 45 #[.val (.ref a1), .val (.int fr), .val (.int (Int32.ofNat n)), .val (.int (Int32.ofNat i)), .val (.int (Int32.ofNat (i + 1)))] [(.int (1 : Int32)), (.int (Int32.ofNat (i + 1)))])) _
            refine Rch.go (fun _ k => XS.iadd X0.here hx rfl (hb hby d2_45) rfl k) ?_
            show Rch p e below (T0.setTop (mkF m 46 #[.val (.ref a1), .val (.int fr), .val (.int (Int32.ofNat n)), .val (.int (Int32.ofNat i)), .val (.int (Int32.ofNat (i + 1)))] [(.int ((Int32.ofNat (i + 1)) + (1 : Int32)))])) _
            rw [ofNat_succ]
            show Rch p e below (T0.setTop (mkF m 46 #[.val (.ref a1), .val (.int fr), .val (.int (Int32.ofNat n)), .val (.int (Int32.ofNat i)), .val (.int (Int32.ofNat (i + 1)))] [(.int (Int32.ofNat (i + 2)))])) _
            refine Rch.go (fun _ k => XS.istoreN X0.here hx rfl (hb hby d2_46) rfl (l' := #[.val (.ref a1), .val (.int fr), .val (.int (Int32.ofNat n)), .val (.int (Int32.ofNat (i + 2))), .val (.int (Int32.ofNat (i + 1)))]) rfl k) ?_
            show Rch p e below (T0.setTop (mkF m 47 #[.val (.ref a1), .val (.int fr), .val (.int (Int32.ofNat n)), .val (.int (Int32.ofNat (i + 2))), .val (.int (Int32.ofNat (i + 1)))] [])) _
            refine Rch.go (fun _ k => XS.goto X0.here hx rfl (pc0 := 47) (pc' := 2) rfl (hb hby d2_47) (by decide) (by decide) k) ?_
            show Rch p e below (T0.setTop (mkF m 2 #[.val (.ref a1), .val (.int fr), .val (.int (Int32.ofNat n)), .val (.int (Int32.ofNat (i + 2))), .val (.int (Int32.ofNat (i + 1)))] [])) _
            rw [own_scan_13 hlt h13 hen h10]
            exact ih _ _ (by omega) (by omega) (One.val rfl)
          · refine Rch.go (fun _ k => XS.icmpNo X0.here hx rfl (hb hby d2_36) rfl (feq h10).1 k) ?_
            show Rch p e below (T0.setTop (mkF m 39 #[.val (.ref a1), .val (.int fr), .val (.int (Int32.ofNat n)), .val (.int (Int32.ofNat i)), .val (.int (Int32.ofNat (i + 1)))] [])) _
            refine Rch.go (fun _ k => XS.goto X0.here hx rfl (pc0 := 39) (pc' := 50) rfl (hb hby d2_39) (by decide) (by decide) k) ?_
            show Rch p e below (T0.setTop (mkF m 50 #[.val (.ref a1), .val (.int fr), .val (.int (Int32.ofNat n)), .val (.int (Int32.ofNat i)), .val (.int (Int32.ofNat (i + 1)))] [])) _
            exact Rch.here ⟨_, by rw [own_scan_13n hlt h13 hen h10]⟩
      · refine Rch.go (fun _ k => XS.icmpYes X0.here hx rfl (pc0 := 12) (pc' := 21) rfl (hb hby d2_12) rfl (feq h13).2 (by decide) (by decide) k) ?_
        show Rch p e below (T0.setTop (mkF m 21 #[.val (.ref a1), .val (.int fr), .val (.int (Int32.ofNat n)), .val (.int (Int32.ofNat i)), s4] [])) _
        refine Rch.go (fun _ k => XS.iloadN X0.here hx rfl (hb hby d2_21) rfl  k) ?_
        show Rch p e below (T0.setTop (mkF m 22 #[.val (.ref a1), .val (.int fr), .val (.int (Int32.ofNat n)), .val (.int (Int32.ofNat i)), s4] [(.int (Int32.ofNat i))])) _
        refine Rch.go (fun _ k => XS.istore X0.here hx rfl (hb hby d2_22) rfl (l' := #[.val (.ref a1), .val (.int fr), .val (.int (Int32.ofNat n)), .val (.int (Int32.ofNat i)), .val (.int (Int32.ofNat i))]) (own_st4 h4 rfl rfl rfl) k) ?_
        show Rch p e below (T0.setTop (mkF m 24 #[.val (.ref a1), .val (.int fr), .val (.int (Int32.ofNat n)), .val (.int (Int32.ofNat i)), .val (.int (Int32.ofNat i))] [])) _
        refine Rch.go (fun _ k => XS.iload X0.here hx rfl (hb hby d2_24) rfl  k) ?_
        show Rch p e below (T0.setTop (mkF m 26 #[.val (.ref a1), .val (.int fr), .val (.int (Int32.ofNat n)), .val (.int (Int32.ofNat i)), .val (.int (Int32.ofNat i))] [(.int (Int32.ofNat i))])) _
        refine Rch.go (fun _ k => XS.iloadN X0.here hx rfl (hb hby d2_26) rfl  k) ?_
        show Rch p e below (T0.setTop (mkF m 27 #[.val (.ref a1), .val (.int fr), .val (.int (Int32.ofNat n)), .val (.int (Int32.ofNat i)), .val (.int (Int32.ofNat i))] [(.int (Int32.ofNat n)), (.int (Int32.ofNat i))])) _
        refine Rch.go (fun _ k => XS.icmpNo X0.here hx rfl (hb hby d2_27) rfl (feq (fun q => absurd ((ofNat_inj (by omega) (by omega)).mp q) (by omega))).1 k) ?_
        show Rch p e below (T0.setTop (mkF m 30 #[.val (.ref a1), .val (.int fr), .val (.int (Int32.ofNat n)), .val (.int (Int32.ofNat i)), .val (.int (Int32.ofNat i))] [])) _
        refine Rch.go (fun _ k => XS.aloadN X0.here hx rfl (hb hby d2_30) rfl rfl k) ?_
        show Rch p e below (T0.setTop (mkF m 31 #[.val (.ref a1), .val (.int fr), .val (.int (Int32.ofNat n)), .val (.int (Int32.ofNat i)), .val (.int (Int32.ofNat i))] [(.ref a1)])) _
        refine Rch.go (fun _ k => XS.iload X0.here hx rfl (hb hby d2_31) rfl  k) ?_
        show Rch p e below (T0.setTop (mkF m 33 #[.val (.ref a1), .val (.int fr), .val (.int (Int32.ofNat n)), .val (.int (Int32.ofNat i)), .val (.int (Int32.ofNat i))] [(.int (Int32.ofNat i)), (.ref a1)])) _
        obtain ⟨cl3, Ar3, Sz3, At3⟩ := id B_a1
        refine Rch.go (X0.baloadBytes hx (j := (Int32.ofNat i)) (v := (.int (f i))) (by rw [e0]; exact Ar3.1) (State.isArrayOf_alike hZ.alike Ar3.2.1) Ar3.2.2 (inb (k := i) Sz3 (natOf (by omega)).1 (natOf (by omega)).2.1 (by omega)) (by rw [(natOf (by omega)).2.1]; exact At3 _ (by omega)) (g := (mkF m 33 #[.val (.ref a1), .val (.int fr), .val (.int (Int32.ofNat n)), .val (.int (Int32.ofNat i)), .val (.int (Int32.ofNat i))] [(.int (Int32.ofNat i)), (.ref a1)])) rfl rfl (hb hby d2_33)) ?_
        show Rch p e below (T0.setTop (mkF m 34 #[.val (.ref a1), .val (.int fr), .val (.int (Int32.ofNat n)), .val (.int (Int32.ofNat i)), .val (.int (Int32.ofNat i))] [(.int (f i))])) _
        refine Rch.go (fun _ k => XS.bipush X0.here hx rfl (hb hby d2_34) k) ?_
        show Rch p e below (T0.setTop (mkF m 36 #[.val (.ref a1), .val (.int fr), .val (.int (Int32.ofNat n)), .val (.int (Int32.ofNat i)), .val (.int (Int32.ofNat i))] [(.int (10 : Int32)), (.int (f i))])) _
        by_cases h10 : f i = (10 : Int32)
        · refine Rch.go (fun _ k => XS.icmpYes X0.here hx rfl (pc0 := 36) (pc' := 42) rfl (hb hby d2_36) rfl (teq h10).1 (by decide) (by decide) k) ?_
          show Rch p e below (T0.setTop (mkF m 42 #[.val (.ref a1), .val (.int fr), .val (.int (Int32.ofNat n)), .val (.int (Int32.ofNat i)), .val (.int (Int32.ofNat i))] [])) _
          refine Rch.go (fun _ k => XS.iload X0.here hx rfl (hb hby d2_42) rfl  k) ?_
          show Rch p e below (T0.setTop (mkF m 44 #[.val (.ref a1), .val (.int fr), .val (.int (Int32.ofNat n)), .val (.int (Int32.ofNat i)), .val (.int (Int32.ofNat i))] [(.int (Int32.ofNat i))])) _
          refine Rch.go (fun _ k => XS.iconst X0.here hx rfl (hb hby d2_44) k) ?_
          show Rch p e below (T0.setTop (mkF m 45 #[.val (.ref a1), .val (.int fr), .val (.int (Int32.ofNat n)), .val (.int (Int32.ofNat i)), .val (.int (Int32.ofNat i))] [(.int (1 : Int32)), (.int (Int32.ofNat i))])) _
          refine Rch.go (fun _ k => XS.iadd X0.here hx rfl (hb hby d2_45) rfl k) ?_
          show Rch p e below (T0.setTop (mkF m 46 #[.val (.ref a1), .val (.int fr), .val (.int (Int32.ofNat n)), .val (.int (Int32.ofNat i)), .val (.int (Int32.ofNat i))] [(.int ((Int32.ofNat i) + (1 : Int32)))])) _
          rw [ofNat_succ]
          show Rch p e below (T0.setTop (mkF m 46 #[.val (.ref a1), .val (.int fr), .val (.int (Int32.ofNat n)), .val (.int (Int32.ofNat i)), .val (.int (Int32.ofNat i))] [(.int (Int32.ofNat (i + 1)))])) _
          refine Rch.go (fun _ k => XS.istoreN X0.here hx rfl (hb hby d2_46) rfl (l' := #[.val (.ref a1), .val (.int fr), .val (.int (Int32.ofNat n)), .val (.int (Int32.ofNat (i + 1))), .val (.int (Int32.ofNat i))]) rfl k) ?_
          show Rch p e below (T0.setTop (mkF m 47 #[.val (.ref a1), .val (.int fr), .val (.int (Int32.ofNat n)), .val (.int (Int32.ofNat (i + 1))), .val (.int (Int32.ofNat i))] [])) _
          refine Rch.go (fun _ k => XS.goto X0.here hx rfl (pc0 := 47) (pc' := 2) rfl (hb hby d2_47) (by decide) (by decide) k) ?_
          show Rch p e below (T0.setTop (mkF m 2 #[.val (.ref a1), .val (.int fr), .val (.int (Int32.ofNat n)), .val (.int (Int32.ofNat (i + 1))), .val (.int (Int32.ofNat i))] [])) _
          rw [own_scan_10 hlt h13 h10]
          exact ih _ _ (by omega) (by omega) (One.val rfl)
        · refine Rch.go (fun _ k => XS.icmpNo X0.here hx rfl (hb hby d2_36) rfl (feq h10).1 k) ?_
          show Rch p e below (T0.setTop (mkF m 39 #[.val (.ref a1), .val (.int fr), .val (.int (Int32.ofNat n)), .val (.int (Int32.ofNat i)), .val (.int (Int32.ofNat i))] [])) _
          refine Rch.go (fun _ k => XS.goto X0.here hx rfl (pc0 := 39) (pc' := 50) rfl (hb hby d2_39) (by decide) (by decide) k) ?_
          show Rch p e below (T0.setTop (mkF m 50 #[.val (.ref a1), .val (.int fr), .val (.int (Int32.ofNat n)), .val (.int (Int32.ofNat i)), .val (.int (Int32.ofNat i))] [])) _
          exact Rch.here ⟨_, by rw [own_scan_n hlt h13 h10]⟩
    · refine Rch.go (fun _ k => XS.icmpYes X0.here hx rfl (pc0 := 4) (pc' := 50) rfl (hb hby d2_4) rfl (flt (fun q => hlt ((ofNat_lt (by omega) (by omega)).mp q))).2.1 (by decide) (by decide) k) ?_
      show Rch p e below (T0.setTop (mkF m 50 #[.val (.ref a1), .val (.int fr), .val (.int (Int32.ofNat n)), .val (.int (Int32.ofNat i)), s4] [])) _
      exact Rch.here ⟨_, by rw [own_scan_end hlt]⟩
theorem pn_2 : plainFor (⟨"com/example/labcourier/labcourier/console/HttpRequest", "requestLineStart", "([BII)I"⟩ : MethodName) = true := plainFor_of_name (by first | (simp [plainName, overriddenIn]; done) | decide +kernel)
theorem ef_2 (m : MethodId) (x0 : Addr) (x1 : Int32) (x2 : Int32) : entryFrame m #[(.ref x0), (.int x1), (.int x2)] 5 = mkF m 0 #[.val (.ref x0), .val (.int x1), .val (.int x2), .unset, .unset] [] := by first | (simp [entryFrame, mkF, argsToLocals, Value.category]; done) | rfl
def own_Q_rm2 (Z : State) (a1 : Addr) (i n : Nat) (f : Nat → Int32) (h0 : Heap) (n0 : Nat) (v : Option Value) (h : Heap) (L : List Loc) : Prop := v = some (.int (Int32.ofNat (own_scan f n i))) ∧ Fr n0 L ∧ h = h0
set_option maxRecDepth 65536 in
set_option maxHeartbeats 40000000 in
theorem rm2 (l : Launch) (Z : State) (a0 : Array Value) (hw : ∀ d ∈ tables_1, d.before a0 Z = true) (ws : List Jvm.Cond) (a1 : Addr) (i n : Nat) (f : Nat → Int32) (h0 : Heap) (n0 : Nat) (Z0 : n0 ≤ h0.size) (hn : n ≤ 12) (hi : i < 2 ^ 31) (B_a1 : BA Z h0 a1 12 f) :
    MetFree l (⟨"com/example/labcourier/labcourier/console/HttpRequest", "requestLineStart", "([BII)I"⟩ : MethodName) (head1 (Jvm.Cond.code (⟨"com/example/labcourier/labcourier/console/HttpRequest", "requestLineStart", "([BII)I"⟩ : MethodName) prog_20_method_2_code 5 (some .int) :: ws) ({ frames := 0, cells := 0, slots := 0, locals := 0 } : Room)) (fun a U => a = #[(.ref a1), (.int (Int32.ofNat i)), (.int (Int32.ofNat n))] ∧ Z.Warmed39 U.vm ∧ U.heap = h0) (fun _ _ _ _ _ => True) (fun _ U o U' => ∃ v L, o = .returned v ∧ own_Q_rm2 Z a1 i n f h0 n0 v U'.heap L ∧ FrameEnd U o U' L ({ frames := 0, cells := 0, slots := 0, locals := 0 } : Room).cells ({ frames := 0, cells := 0, slots := 0, locals := 0 } : Room).slots) := by
  refine own_body (Q := (own_Q_rm2 Z a1 i n f h0 n0)) pn_2 ?_
  intro p e s m below meth c s₁ X0 hx hby hml hown hnm hret hlk hZ e0
  have N0 := Fr.nil n0
  refine Rch.go (fun t k => castTop (ef_2 m a1 (Int32.ofNat i) (Int32.ofNat n)) k) ?_
  show Rch p e below (s₁.setTop (mkF m 0 #[.val (.ref a1), .val (.int (Int32.ofNat i)), .val (.int (Int32.ofNat n)), .unset, .unset] [])) _
  refine Rch.go (fun _ k => XS.iloadN X0.here hx rfl (hb hby d2_0) rfl  k) ?_
  show Rch p e below (s₁.setTop (mkF m 1 #[.val (.ref a1), .val (.int (Int32.ofNat i)), .val (.int (Int32.ofNat n)), .unset, .unset] [(.int (Int32.ofNat i))])) _
  refine Rch.go (fun _ k => XS.istoreN X0.here hx rfl (hb hby d2_1) rfl (l' := #[.val (.ref a1), .val (.int (Int32.ofNat i)), .val (.int (Int32.ofNat n)), .val (.int (Int32.ofNat i)), .unset]) rfl k) ?_
  show Rch p e below (s₁.setTop (mkF m 2 #[.val (.ref a1), .val (.int (Int32.ofNat i)), .val (.int (Int32.ofNat n)), .val (.int (Int32.ofNat i)), .unset] [])) _
  refine Rch.bind (own_loop a1 _ n f hn B_a1 hx hZ hby X0 e0 n i .unset (by omega) (by omega) One.u) ?_
  rintro _ ⟨s4, rfl⟩
  show Rch p e below (s₁.setTop (mkF m 50 #[.val (.ref a1), .val (.int (Int32.ofNat i)), .val (.int (Int32.ofNat n)), .val (.int (Int32.ofNat (own_scan f n i))), s4] [])) _
  refine Rch.go (fun _ k => XS.iloadN X0.here hx rfl (hb hby d2_50) rfl  k) ?_
  show Rch p e below (s₁.setTop (mkF m 51 #[.val (.ref a1), .val (.int (Int32.ofNat i)), .val (.int (Int32.ofNat n)), .val (.int (Int32.ofNat (own_scan f n i))), s4] [(.int (Int32.ofNat (own_scan f n i)))])) _
  exact Rch.ret X0 hlk (fun h => by rw [hret] at h; cases h) (fun fs hr => retI' X0 hx hret (hb hby d2_51) hr) ⟨rfl, N0, e0⟩ (by decide) (by decide)
def own_z (p1 b : Int32) : Int32 := if (p1 &&& b) = (0 : Int32) then (0 : Int32) else (1 : Int32)
def own_zz173_S0 (p1 : Int32) : Int32 := (if (p1 &&& (1 : Int32)) = (0 : Int32) then (0 : Int32) else (1 : Int32))
def own_zz199_S0 (p1 : Int32) : Int32 := (if (p1 &&& (2 : Int32)) = (0 : Int32) then (0 : Int32) else (1 : Int32))
def own_zz225_S0 (p1 : Int32) : Int32 := (if (p1 &&& (4 : Int32)) = (0 : Int32) then (0 : Int32) else (1 : Int32))
def own_x_L14 (tl : Nat) (q3 : Nat) (cc : Int32) (dd : Int32) : Int32 := (if (Int32.ofNat tl) = (0 : Int32) then (Int32.ofNat q3) else (if (Int32.ofNat tl) = (1 : Int32) then (if cc = (10 : Int32) then ((Int32.ofNat q3) + (1 : Int32)) else (Int32.ofNat q3)) else (if cc = (10 : Int32) then (if dd = (10 : Int32) then ((Int32.ofNat q3) + (2 : Int32)) else ((Int32.ofNat q3) + (1 : Int32))) else (if cc = (13 : Int32) then (if dd = (10 : Int32) then ((Int32.ofNat q3) + (2 : Int32)) else (Int32.ofNat q3)) else (Int32.ofNat q3)))))
theorem own_gt {a b : Nat} (ha : a < 2 ^ 31) (hb : b < 2 ^ 31) (h : Int32.ofNat a < Int32.ofNat b) : a < b := (ofNat_lt ha hb).mp h
theorem own_ngt {a b : Nat} (ha : a < 2 ^ 31) (hb : b < 2 ^ 31) (h : ¬ Int32.ofNat a < Int32.ofNat b) : ¬ a < b := fun q => h ((ofNat_lt ha hb).mpr q)
theorem own_le (P : Prop) [Decidable P] (q : Nat) (z : Int32) : (if P then own_putq q z else q) ≤ q + 2 := by
  unfold own_putq; split
  · split <;> omega
  · omega
theorem own_tl (x : Int32) : ∃ n : Nat, n ≤ 2 ∧ ((x &&& (3 : Int32)) % (3 : Int32)) = Int32.ofNat n := by
  obtain ⟨n, h1, h2⟩ := mask_of x 3 (by decide)
  rw [show (x &&& (3 : Int32)) = Int32.ofNat n from h2]
  match n, h1 with
  | 0, _ => exact ⟨0, by decide, by decide⟩
  | 1, _ => exact ⟨1, by decide, by decide⟩
  | 2, _ => exact ⟨2, by decide, by decide⟩
  | 3, _ => exact ⟨0, by decide, by decide⟩

theorem own_putf_below {f : Nat → Int32} {q j : Nat} {z : Int32} (h : j < q) : own_putf f q z j = f j := by
  unfold own_putf updI
  split
  · show (if j = q then _ else f j) = f j
    rw [if_neg (by omega)]
  · show (if j = q + 1 then _ else if j = q then _ else f j) = f j
    rw [if_neg (by omega), if_neg (by omega)]
theorem own_line {f g : Nat → Int32} {n q : Nat} {z : Int32} (hq : own_putq q z ≤ n) (h : ∀ j, j < own_putq q z → f j = own_putf g q z j) : own_scan f n q = own_scan f n (own_putq q z) := by
  by_cases hz : z = (0 : Int32)
  · have e : own_putq q z = q + 1 := by simp only [own_putq, if_pos hz]
    rw [e] at hq h ⊢
    have h1 : f q = (10 : Int32) := by rw [h q (by omega)]; simp only [own_putf, if_pos hz, updI, if_true]; decide
    exact own_scan_10 (by omega) (by rw [h1]; decide) h1
  · have e : own_putq q z = q + 2 := by simp only [own_putq, if_neg hz]
    rw [e] at hq h ⊢
    have h1 : f q = (13 : Int32) := by
      rw [h q (by omega)]; simp only [own_putf, if_neg hz, updI]
      rw [if_neg (by omega), if_pos trivial]; decide
    have h2 : f (q + 1) = (10 : Int32) := by rw [h (q + 1) (by omega)]; simp only [own_putf, if_neg hz, updI, if_true]; decide
    exact own_scan_13 (by omega) h1 (by omega) h2
theorem own_step {P : Prop} [Decidable P] {F f f' : Nat → Int32} {q q' n : Nat} {z : Int32} (hq : (if P then own_putq q z else q) = q') (hf : (if P then own_putf f q z else f) = f') (hle : q' ≤ n) (hF : ∀ j, j < q' → F j = f' j) : own_scan F n q = own_scan F n q' ∧ (∀ j, j < q → F j = f j) ∧ q ≤ q' := by
  by_cases hP : P
  · rw [if_pos hP] at hq hf
    subst hq hf
    have hge : q ≤ own_putq q z := by unfold own_putq; split <;> omega
    exact ⟨own_line hle hF, fun j hj => by rw [hF j (by omega)]; exact own_putf_below hj, hge⟩
  · rw [if_neg hP] at hq hf
    subst hq hf
    exact ⟨rfl, hF, Nat.le_refl _⟩
theorem own_same {fr kk tl q1 q2 q3 : Nat} {p1 cc dd : Int32} {f3 f4 f5 f6 f7 f8 : Nat → Int32} (htl : tl ≤ 2) (hcc : nar .byte cc = cc) (hdd : nar .byte dd = dd)
    (hq1 : (if 0 < kk then own_putq fr (own_z p1 (1 : Int32)) else fr) = q1) (hf4 : (if 0 < kk then own_putf f3 fr (own_z p1 (1 : Int32)) else f3) = f4)
    (hq2 : (if 1 < kk then own_putq q1 (own_z p1 (2 : Int32)) else q1) = q2) (hf5 : (if 1 < kk then own_putf f4 q1 (own_z p1 (2 : Int32)) else f4) = f5)
    (hq3 : (if 2 < kk then own_putq q2 (own_z p1 (4 : Int32)) else q2) = q3) (hf6 : (if 2 < kk then own_putf f5 q2 (own_z p1 (4 : Int32)) else f5) = f6)
    (hf7 : (if 0 < tl then updI f6 q3 (nar .byte cc) else f6) = f7) (hf8 : (if 1 < tl then updI f7 (q3 + 1) (nar .byte dd) else f7) = f8) :
    Int32.ofNat (own_scan f8 (q3 + tl) fr) = own_x_L14 tl q3 cc dd := by
  have h86 : ∀ j, j < q3 → f8 j = f6 j := fun j hj => by
    have h7 : f7 j = f6 j := by
      rw [← hf7]; split
      · show (if j = q3 then _ else f6 j) = f6 j
        rw [if_neg (by omega)]
      · rfl
    rw [← hf8]; split
    · show (if j = q3 + 1 then _ else f7 j) = f6 j
      rw [if_neg (by omega)]; exact h7
    · exact h7
  obtain ⟨s3, g3, l3⟩ := own_step hq3 hf6 (n := q3 + tl) (by omega) h86
  obtain ⟨s2, g2, l2⟩ := own_step hq2 hf5 (n := q3 + tl) (by omega) g3
  obtain ⟨s1, g1, l1⟩ := own_step hq1 hf4 (n := q3 + tl) (by omega) g2
  rw [s1, s2, s3]
  unfold own_x_L14
  match tl, htl with
  | 0, _ => rw [if_pos (by decide), own_scan_end (by omega)]
  | 1, _ =>
    rw [if_neg (by decide), if_pos (by decide)]
    have hc : f8 q3 = cc := by
      rw [← hf8, if_neg (by decide), ← hf7, if_pos (by decide), hcc]; simp [updI]
    by_cases h10 : cc = (10 : Int32)
    · rw [if_pos h10, own_scan_10 (by omega) (by rw [hc, h10]; decide) (by rw [hc, h10]), own_scan_end (by omega), ofNat_succ]
    · rw [if_neg h10]
      by_cases h13 : cc = (13 : Int32)
      · rw [own_scan_13e (by omega) (by rw [hc, h13]) rfl]
      · rw [own_scan_n (by omega) (by rw [hc]; exact h13) (by rw [hc]; exact h10)]
  | 2, _ =>
    rw [if_neg (by decide), if_neg (by decide)]
    have hc : f8 q3 = cc := by
      rw [← hf8, if_pos (by decide), ← hf7, if_pos (by decide), hcc]; simp [updI]
    have hd : f8 (q3 + 1) = dd := by
      rw [← hf8, if_pos (by decide), hdd]; simp [updI]
    by_cases h10 : cc = (10 : Int32)
    · rw [if_pos h10, own_scan_10 (by omega) (by rw [hc, h10]; decide) (by rw [hc, h10])]
      by_cases e10 : dd = (10 : Int32)
      · rw [if_pos e10, own_scan_10 (by omega) (by rw [hd, e10]; decide) (by rw [hd, e10]), own_scan_end (by omega), own_two]
      · rw [if_neg e10]
        by_cases e13 : dd = (13 : Int32)
        · rw [own_scan_13e (by omega) (by rw [hd, e13]) rfl, ofNat_succ]
        · rw [own_scan_n (by omega) (by rw [hd]; exact e13) (by rw [hd]; exact e10), ofNat_succ]
    · rw [if_neg h10]
      by_cases h13 : cc = (13 : Int32)
      · rw [if_pos h13]
        by_cases e10 : dd = (10 : Int32)
        · rw [if_pos e10, own_scan_13 (by omega) (by rw [hc, h13]) (by omega) (by rw [hd, e10]), own_scan_end (by omega), own_two]
        · rw [if_neg e10, own_scan_13n (by omega) (by rw [hc, h13]) (by omega) (by rw [hd]; exact e10)]
      · rw [if_neg h13, own_scan_n (by omega) (by rw [hc]; exact h13) (by rw [hc]; exact h10)]

theorem pd0_0 : parseMethodDescriptor "(I)B" = some ⟨[.int], some .byte⟩ := by decide +kernel
theorem pd0_1 : parseMethodDescriptor "([BIZ)I" = some ⟨[(.array .byte), .int, .boolean], some .int⟩ := by decide +kernel
theorem pd0_2 : parseMethodDescriptor "([BII)I" = some ⟨[(.array .byte), .int, .int], some .int⟩ := by decide +kernel
theorem pn_0 : plainFor x = true := plainFor_of_name (by first | (simp [plainName, overriddenIn]; done) | decide +kernel)
theorem ef_0 (m : MethodId) (x0 : Int32) (x1 : Int32) (x2 : Int32) (x3 : Int32) (x4 : Int32) : entryFrame m #[(.int x0), (.int x1), (.int x2), (.int x3), (.int x4)] maxLocals = mkF m 0 #[.val (.int x0), .val (.int x1), .val (.int x2), .val (.int x3), .val (.int x4), .unset, .unset, .unset, .unset, .unset, .unset, .unset, .unset, .unset, .unset] [] := by first | (simp [entryFrame, mkF, argsToLocals, Value.category, maxLocals]; done) | rfl
def own_Q_rm0 (Z : State) (p0 p1 p2 p3 p4 : Int32) (h0 : Heap) (n0 : Nat) (v : Option Value) (h : Heap) (L : List Loc) : Prop := v = some (.int 1) ∧ Fr n0 L
set_option maxRecDepth 65536 in
set_option maxHeartbeats 40000000 in
theorem rm0 (l : Launch) (Z : State) (a0 : Array Value) (hw : ∀ d ∈ tables_1, d.before a0 Z = true) (ws : List Jvm.Cond) (p0 p1 p2 p3 p4 : Int32) (h0 : Heap) (n0 : Nat) (Z0 : n0 ≤ h0.size)  :
    MetFree l x (head1 (Jvm.Cond.code x code maxLocals ret :: ws) room_1) (fun a U => a = #[(.int p0), (.int p1), (.int p2), (.int p3), (.int p4)] ∧ Z.Warmed39 U.vm ∧ U.heap = h0) (fun _ _ _ _ _ => True) (fun _ U o U' => ∃ v L, o = .returned v ∧ own_Q_rm0 Z p0 p1 p2 p3 p4 h0 n0 v U'.heap L ∧ FrameEnd U o U' L 16 128) := by
  refine own_body (Q := (own_Q_rm0 Z p0 p1 p2 p3 p4 h0 n0)) pn_0 ?_
  intro p e s m below meth c s₁ X0 hx hby hml hown hnm hret hlk hZ e0
  have N0 := Fr.nil n0
  refine Rch.go (fun t k => castTop (ef_0 m p0 p1 p2 p3 p4) k) ?_
  show Rch p e below (s₁.setTop (mkF m 0 #[.val (.int p0), .val (.int p1), .val (.int p2), .val (.int p3), .val (.int p4), .unset, .unset, .unset, .unset, .unset, .unset, .unset, .unset, .unset, .unset] [])) _
  refine Rch.go (fun _ k => XS.iload X0.here hx rfl (hb hby at_0) rfl  k) ?_
  show Rch p e below (s₁.setTop (mkF m 2 #[.val (.int p0), .val (.int p1), .val (.int p2), .val (.int p3), .val (.int p4), .unset, .unset, .unset, .unset, .unset, .unset, .unset, .unset, .unset, .unset] [(.int p4)])) _
  refine Rch.go (fun _ k => XS.iconst X0.here hx rfl (hb hby at_2) k) ?_
  show Rch p e below (s₁.setTop (mkF m 3 #[.val (.int p0), .val (.int p1), .val (.int p2), .val (.int p3), .val (.int p4), .unset, .unset, .unset, .unset, .unset, .unset, .unset, .unset, .unset, .unset] [(.int (3 : Int32)), (.int p4)])) _
  refine Rch.go (fun _ k => XS.iand X0.here hx rfl (hb hby at_3) rfl k) ?_
  show Rch p e below (s₁.setTop (mkF m 4 #[.val (.int p0), .val (.int p1), .val (.int p2), .val (.int p3), .val (.int p4), .unset, .unset, .unset, .unset, .unset, .unset, .unset, .unset, .unset, .unset] [(.int (p4 &&& (3 : Int32)))])) _
  refine Rch.go (fun _ k => XS.istore X0.here hx rfl (hb hby at_4) rfl (l' := #[.val (.int p0), .val (.int p1), .val (.int p2), .val (.int p3), .val (.int p4), .val (.int (p4 &&& (3 : Int32))), .unset, .unset, .unset, .unset, .unset, .unset, .unset, .unset, .unset]) rfl k) ?_
  show Rch p e below (s₁.setTop (mkF m 6 #[.val (.int p0), .val (.int p1), .val (.int p2), .val (.int p3), .val (.int p4), .val (.int (p4 &&& (3 : Int32))), .unset, .unset, .unset, .unset, .unset, .unset, .unset, .unset, .unset] [])) _
  obtain ⟨fr, hfr, ef⟩ := mask_of p4 3 (by decide)
  rw [show (p4 &&& (3 : Int32)) = Int32.ofNat fr from ef]
  show Rch p e below (s₁.setTop (mkF m 6 #[.val (.int p0), .val (.int p1), .val (.int p2), .val (.int p3), .val (.int p4), .val (.int (Int32.ofNat fr)), .unset, .unset, .unset, .unset, .unset, .unset, .unset, .unset, .unset] [])) _
  refine Rch.go (fun _ k => XS.iload X0.here hx rfl (hb hby at_6) rfl  k) ?_
  show Rch p e below (s₁.setTop (mkF m 8 #[.val (.int p0), .val (.int p1), .val (.int p2), .val (.int p3), .val (.int p4), .val (.int (Int32.ofNat fr)), .unset, .unset, .unset, .unset, .unset, .unset, .unset, .unset, .unset] [(.int p4)])) _
  refine Rch.go (fun _ k => XS.iconst X0.here hx rfl (hb hby at_8) k) ?_
  show Rch p e below (s₁.setTop (mkF m 9 #[.val (.int p0), .val (.int p1), .val (.int p2), .val (.int p3), .val (.int p4), .val (.int (Int32.ofNat fr)), .unset, .unset, .unset, .unset, .unset, .unset, .unset, .unset, .unset] [(.int (2 : Int32)), (.int p4)])) _
  refine Rch.go (fun _ k => XS.iushr X0.here hx rfl (hb hby at_9) rfl k) ?_
  show Rch p e below (s₁.setTop (mkF m 10 #[.val (.int p0), .val (.int p1), .val (.int p2), .val (.int p3), .val (.int p4), .val (.int (Int32.ofNat fr)), .unset, .unset, .unset, .unset, .unset, .unset, .unset, .unset, .unset] [(.int ((p4.toUInt32 >>> ((2 : Int32) &&& 31).toUInt32).toInt32))])) _
  refine Rch.go (fun _ k => XS.iconst X0.here hx rfl (hb hby at_10) k) ?_
  show Rch p e below (s₁.setTop (mkF m 11 #[.val (.int p0), .val (.int p1), .val (.int p2), .val (.int p3), .val (.int p4), .val (.int (Int32.ofNat fr)), .unset, .unset, .unset, .unset, .unset, .unset, .unset, .unset, .unset] [(.int (3 : Int32)), (.int ((p4.toUInt32 >>> ((2 : Int32) &&& 31).toUInt32).toInt32))])) _
  refine Rch.go (fun _ k => XS.iand X0.here hx rfl (hb hby at_11) rfl k) ?_
  show Rch p e below (s₁.setTop (mkF m 12 #[.val (.int p0), .val (.int p1), .val (.int p2), .val (.int p3), .val (.int p4), .val (.int (Int32.ofNat fr)), .unset, .unset, .unset, .unset, .unset, .unset, .unset, .unset, .unset] [(.int (((p4.toUInt32 >>> ((2 : Int32) &&& 31).toUInt32).toInt32) &&& (3 : Int32)))])) _
  refine Rch.go (fun _ k => XS.istore X0.here hx rfl (hb hby at_12) rfl (l' := #[.val (.int p0), .val (.int p1), .val (.int p2), .val (.int p3), .val (.int p4), .val (.int (Int32.ofNat fr)), .val (.int (((p4.toUInt32 >>> ((2 : Int32) &&& 31).toUInt32).toInt32) &&& (3 : Int32))), .unset, .unset, .unset, .unset, .unset, .unset, .unset, .unset]) rfl k) ?_
  show Rch p e below (s₁.setTop (mkF m 14 #[.val (.int p0), .val (.int p1), .val (.int p2), .val (.int p3), .val (.int p4), .val (.int (Int32.ofNat fr)), .val (.int (((p4.toUInt32 >>> ((2 : Int32) &&& 31).toUInt32).toInt32) &&& (3 : Int32))), .unset, .unset, .unset, .unset, .unset, .unset, .unset, .unset] [])) _
  obtain ⟨kk, hkk, ek⟩ := mask_of ((p4.toUInt32 >>> ((2 : Int32) &&& 31).toUInt32).toInt32) 3 (by decide)
  rw [show (((p4.toUInt32 >>> ((2 : Int32) &&& 31).toUInt32).toInt32) &&& (3 : Int32)) = Int32.ofNat kk from ek]
  show Rch p e below (s₁.setTop (mkF m 14 #[.val (.int p0), .val (.int p1), .val (.int p2), .val (.int p3), .val (.int p4), .val (.int (Int32.ofNat fr)), .val (.int (Int32.ofNat kk)), .unset, .unset, .unset, .unset, .unset, .unset, .unset, .unset] [])) _
  refine Rch.go (fun _ k => XS.iload X0.here hx rfl (hb hby at_14) rfl  k) ?_
  show Rch p e below (s₁.setTop (mkF m 16 #[.val (.int p0), .val (.int p1), .val (.int p2), .val (.int p3), .val (.int p4), .val (.int (Int32.ofNat fr)), .val (.int (Int32.ofNat kk)), .unset, .unset, .unset, .unset, .unset, .unset, .unset, .unset] [(.int p4)])) _
  refine Rch.go (fun _ k => XS.iconst X0.here hx rfl (hb hby at_16) k) ?_
  show Rch p e below (s₁.setTop (mkF m 17 #[.val (.int p0), .val (.int p1), .val (.int p2), .val (.int p3), .val (.int p4), .val (.int (Int32.ofNat fr)), .val (.int (Int32.ofNat kk)), .unset, .unset, .unset, .unset, .unset, .unset, .unset, .unset] [(.int (4 : Int32)), (.int p4)])) _
  refine Rch.go (fun _ k => XS.iushr X0.here hx rfl (hb hby at_17) rfl k) ?_
  show Rch p e below (s₁.setTop (mkF m 18 #[.val (.int p0), .val (.int p1), .val (.int p2), .val (.int p3), .val (.int p4), .val (.int (Int32.ofNat fr)), .val (.int (Int32.ofNat kk)), .unset, .unset, .unset, .unset, .unset, .unset, .unset, .unset] [(.int ((p4.toUInt32 >>> ((4 : Int32) &&& 31).toUInt32).toInt32))])) _
  refine Rch.go (fun _ k => XS.iconst X0.here hx rfl (hb hby at_18) k) ?_
  show Rch p e below (s₁.setTop (mkF m 19 #[.val (.int p0), .val (.int p1), .val (.int p2), .val (.int p3), .val (.int p4), .val (.int (Int32.ofNat fr)), .val (.int (Int32.ofNat kk)), .unset, .unset, .unset, .unset, .unset, .unset, .unset, .unset] [(.int (3 : Int32)), (.int ((p4.toUInt32 >>> ((4 : Int32) &&& 31).toUInt32).toInt32))])) _
  refine Rch.go (fun _ k => XS.iand X0.here hx rfl (hb hby at_19) rfl k) ?_
  show Rch p e below (s₁.setTop (mkF m 20 #[.val (.int p0), .val (.int p1), .val (.int p2), .val (.int p3), .val (.int p4), .val (.int (Int32.ofNat fr)), .val (.int (Int32.ofNat kk)), .unset, .unset, .unset, .unset, .unset, .unset, .unset, .unset] [(.int (((p4.toUInt32 >>> ((4 : Int32) &&& 31).toUInt32).toInt32) &&& (3 : Int32)))])) _
  refine Rch.go (fun _ k => XS.iconst X0.here hx rfl (hb hby at_20) k) ?_
  show Rch p e below (s₁.setTop (mkF m 21 #[.val (.int p0), .val (.int p1), .val (.int p2), .val (.int p3), .val (.int p4), .val (.int (Int32.ofNat fr)), .val (.int (Int32.ofNat kk)), .unset, .unset, .unset, .unset, .unset, .unset, .unset, .unset] [(.int (3 : Int32)), (.int (((p4.toUInt32 >>> ((4 : Int32) &&& 31).toUInt32).toInt32) &&& (3 : Int32)))])) _
  refine Rch.go (fun _ k => iremM X0 hx rfl (hb hby at_21) rfl (by decide) k) ?_
  show Rch p e below (s₁.setTop (mkF m 22 #[.val (.int p0), .val (.int p1), .val (.int p2), .val (.int p3), .val (.int p4), .val (.int (Int32.ofNat fr)), .val (.int (Int32.ofNat kk)), .unset, .unset, .unset, .unset, .unset, .unset, .unset, .unset] [(.int ((((p4.toUInt32 >>> ((4 : Int32) &&& 31).toUInt32).toInt32) &&& (3 : Int32)) % (3 : Int32)))])) _
  refine Rch.go (fun _ k => XS.istore X0.here hx rfl (hb hby at_22) rfl (l' := #[.val (.int p0), .val (.int p1), .val (.int p2), .val (.int p3), .val (.int p4), .val (.int (Int32.ofNat fr)), .val (.int (Int32.ofNat kk)), .val (.int ((((p4.toUInt32 >>> ((4 : Int32) &&& 31).toUInt32).toInt32) &&& (3 : Int32)) % (3 : Int32))), .unset, .unset, .unset, .unset, .unset, .unset, .unset]) rfl k) ?_
  show Rch p e below (s₁.setTop (mkF m 24 #[.val (.int p0), .val (.int p1), .val (.int p2), .val (.int p3), .val (.int p4), .val (.int (Int32.ofNat fr)), .val (.int (Int32.ofNat kk)), .val (.int ((((p4.toUInt32 >>> ((4 : Int32) &&& 31).toUInt32).toInt32) &&& (3 : Int32)) % (3 : Int32))), .unset, .unset, .unset, .unset, .unset, .unset, .unset] [])) _
  obtain ⟨tl, htl, et⟩ := own_tl ((p4.toUInt32 >>> ((4 : Int32) &&& 31).toUInt32).toInt32)
  rw [show ((((p4.toUInt32 >>> ((4 : Int32) &&& 31).toUInt32).toInt32) &&& (3 : Int32)) % (3 : Int32)) = Int32.ofNat tl from et]
  show Rch p e below (s₁.setTop (mkF m 24 #[.val (.int p0), .val (.int p1), .val (.int p2), .val (.int p3), .val (.int p4), .val (.int (Int32.ofNat fr)), .val (.int (Int32.ofNat kk)), .val (.int (Int32.ofNat tl)), .unset, .unset, .unset, .unset, .unset, .unset, .unset] [])) _
  refine Rch.go (fun _ k => XS.iloadN X0.here hx rfl (hb hby at_24) rfl  k) ?_
  show Rch p e below (s₁.setTop (mkF m 25 #[.val (.int p0), .val (.int p1), .val (.int p2), .val (.int p3), .val (.int p4), .val (.int (Int32.ofNat fr)), .val (.int (Int32.ofNat kk)), .val (.int (Int32.ofNat tl)), .unset, .unset, .unset, .unset, .unset, .unset, .unset] [(.int p2)])) _
  refine Rch.callS X0 hx hZ hown (hw _ (List.mem_of_getElem? (i := 0) rfl)) (hw _ (List.mem_of_getElem? (i := 1) rfl)) (hw _ (List.mem_of_getElem? (i := 2) rfl)) (hw _ (List.mem_of_getElem? (i := 3) rfl)) (by decide) (rm1 l Z a0 hw [] p2 h0 n0 Z0) 0 (by decide) (by decide) (by decide) (by decide) e0 (g := (mkF m 25 #[.val (.int p0), .val (.int p1), .val (.int p2), .val (.int p3), .val (.int p4), .val (.int (Int32.ofNat fr)), .val (.int (Int32.ofNat kk)), .val (.int (Int32.ofNat tl)), .unset, .unset, .unset, .unset, .unset, .unset, .unset] [(.int p2)])) rfl (by rw [hml]; rfl) [(.int p2)] [] rfl (lenOf pd0_0 rfl) rfl (by show 2 * 0 + _ ≤ _; exact Nat.le_of_eq rfl) (hb hby at_25) ?_
  intro v1 T1 L1 X1 hQ1
  obtain ⟨rfl, N1q, e1⟩ := hQ1
  have N1 := Fr.app N0 N1q
  show Rch p e below (T1.setTop (mkF m 28 #[.val (.int p0), .val (.int p1), .val (.int p2), .val (.int p3), .val (.int p4), .val (.int (Int32.ofNat fr)), .val (.int (Int32.ofNat kk)), .val (.int (Int32.ofNat tl)), .unset, .unset, .unset, .unset, .unset, .unset, .unset] [(.int (nar .byte (own_dr p2)))])) _
  refine Rch.go (fun _ k => XS.istore X1.here hx rfl (hb hby at_28) rfl (l' := #[.val (.int p0), .val (.int p1), .val (.int p2), .val (.int p3), .val (.int p4), .val (.int (Int32.ofNat fr)), .val (.int (Int32.ofNat kk)), .val (.int (Int32.ofNat tl)), .val (.int (nar .byte (own_dr p2))), .unset, .unset, .unset, .unset, .unset, .unset]) rfl k) ?_
  show Rch p e below (T1.setTop (mkF m 30 #[.val (.int p0), .val (.int p1), .val (.int p2), .val (.int p3), .val (.int p4), .val (.int (Int32.ofNat fr)), .val (.int (Int32.ofNat kk)), .val (.int (Int32.ofNat tl)), .val (.int (nar .byte (own_dr p2))), .unset, .unset, .unset, .unset, .unset, .unset] [])) _
  refine Rch.go (fun _ k => XS.iloadN X1.here hx rfl (hb hby at_30) rfl  k) ?_
  show Rch p e below (T1.setTop (mkF m 31 #[.val (.int p0), .val (.int p1), .val (.int p2), .val (.int p3), .val (.int p4), .val (.int (Int32.ofNat fr)), .val (.int (Int32.ofNat kk)), .val (.int (Int32.ofNat tl)), .val (.int (nar .byte (own_dr p2))), .unset, .unset, .unset, .unset, .unset, .unset] [(.int p3)])) _
  refine Rch.callS X1 hx hZ hown (hw _ (List.mem_of_getElem? (i := 0) rfl)) (hw _ (List.mem_of_getElem? (i := 1) rfl)) (hw _ (List.mem_of_getElem? (i := 2) rfl)) (hw _ (List.mem_of_getElem? (i := 3) rfl)) (by decide) (rm1 l Z a0 hw [] p3 h0 n0 Z0) 0 (by decide) (by decide) (by decide) (by decide) e1 (g := (mkF m 31 #[.val (.int p0), .val (.int p1), .val (.int p2), .val (.int p3), .val (.int p4), .val (.int (Int32.ofNat fr)), .val (.int (Int32.ofNat kk)), .val (.int (Int32.ofNat tl)), .val (.int (nar .byte (own_dr p2))), .unset, .unset, .unset, .unset, .unset, .unset] [(.int p3)])) rfl (by rw [hml]; rfl) [(.int p3)] [] rfl (lenOf pd0_0 rfl) rfl (by show 2 * 0 + _ ≤ _; exact Nat.le_of_eq rfl) (hb hby at_31) ?_
  intro v2 T2 L2 X2 hQ2
  obtain ⟨rfl, N2q, e2⟩ := hQ2
  have N2 := Fr.app N1 N2q
  show Rch p e below (T2.setTop (mkF m 34 #[.val (.int p0), .val (.int p1), .val (.int p2), .val (.int p3), .val (.int p4), .val (.int (Int32.ofNat fr)), .val (.int (Int32.ofNat kk)), .val (.int (Int32.ofNat tl)), .val (.int (nar .byte (own_dr p2))), .unset, .unset, .unset, .unset, .unset, .unset] [(.int (nar .byte (own_dr p3)))])) _
  refine Rch.go (fun _ k => XS.istore X2.here hx rfl (hb hby at_34) rfl (l' := #[.val (.int p0), .val (.int p1), .val (.int p2), .val (.int p3), .val (.int p4), .val (.int (Int32.ofNat fr)), .val (.int (Int32.ofNat kk)), .val (.int (Int32.ofNat tl)), .val (.int (nar .byte (own_dr p2))), .val (.int (nar .byte (own_dr p3))), .unset, .unset, .unset, .unset, .unset]) rfl k) ?_
  show Rch p e below (T2.setTop (mkF m 36 #[.val (.int p0), .val (.int p1), .val (.int p2), .val (.int p3), .val (.int p4), .val (.int (Int32.ofNat fr)), .val (.int (Int32.ofNat kk)), .val (.int (Int32.ofNat tl)), .val (.int (nar .byte (own_dr p2))), .val (.int (nar .byte (own_dr p3))), .unset, .unset, .unset, .unset, .unset] [])) _
  refine Rch.go (fun _ k => XS.bipush X2.here hx rfl (hb hby at_36) k) ?_
  show Rch p e below (T2.setTop (mkF m 38 #[.val (.int p0), .val (.int p1), .val (.int p2), .val (.int p3), .val (.int p4), .val (.int (Int32.ofNat fr)), .val (.int (Int32.ofNat kk)), .val (.int (Int32.ofNat tl)), .val (.int (nar .byte (own_dr p2))), .val (.int (nar .byte (own_dr p3))), .unset, .unset, .unset, .unset, .unset] [(.int (12 : Int32))])) _
  obtain ⟨T3, h3, k3, X3, e3, E3, A3, st3⟩ := newP X2 hx hZ (hw _ (List.mem_of_getElem? (i := 4) rfl)) e2 (g := (mkF m 38 #[.val (.int p0), .val (.int p1), .val (.int p2), .val (.int p3), .val (.int p4), .val (.int (Int32.ofNat fr)), .val (.int (Int32.ofNat kk)), .val (.int (Int32.ofNat tl)), .val (.int (nar .byte (own_dr p2))), .val (.int (nar .byte (own_dr p3))), .unset, .unset, .unset, .unset, .unset] [(.int (12 : Int32))])) rfl (hb hby at_38) rfl (by decide) (cap := 12) (by decide) (by decide) (by decide) (by decide)
  obtain ⟨b3, g3⟩ : ∃ z, z = h0.size := ⟨_, rfl⟩
  rw [← g3] at A3 st3
  have g_b3 : n0 ≤ b3 := Nat.le_trans Z0 (Nat.le_of_eq g3.symm)
  have Z0 := Nat.le_trans Z0 E3.1
  have B_b3 := BA.new (n := 12) A3 (by decide)
  refine Rch.go st3 ?_
  show Rch p e below (T3.setTop (mkF m 40 #[.val (.int p0), .val (.int p1), .val (.int p2), .val (.int p3), .val (.int p4), .val (.int (Int32.ofNat fr)), .val (.int (Int32.ofNat kk)), .val (.int (Int32.ofNat tl)), .val (.int (nar .byte (own_dr p2))), .val (.int (nar .byte (own_dr p3))), .unset, .unset, .unset, .unset, .unset] [(.ref b3)])) _
  refine Rch.go (fun _ k => XS.dup X3.here hx rfl (hb hby at_40) rfl rfl k) ?_
  show Rch p e below (T3.setTop (mkF m 41 #[.val (.int p0), .val (.int p1), .val (.int p2), .val (.int p3), .val (.int p4), .val (.int (Int32.ofNat fr)), .val (.int (Int32.ofNat kk)), .val (.int (Int32.ofNat tl)), .val (.int (nar .byte (own_dr p2))), .val (.int (nar .byte (own_dr p3))), .unset, .unset, .unset, .unset, .unset] [(.ref b3), (.ref b3)])) _
  refine Rch.go (fun _ k => XS.iconst X3.here hx rfl (hb hby at_41) k) ?_
  show Rch p e below (T3.setTop (mkF m 42 #[.val (.int p0), .val (.int p1), .val (.int p2), .val (.int p3), .val (.int p4), .val (.int (Int32.ofNat fr)), .val (.int (Int32.ofNat kk)), .val (.int (Int32.ofNat tl)), .val (.int (nar .byte (own_dr p2))), .val (.int (nar .byte (own_dr p3))), .unset, .unset, .unset, .unset, .unset] [(.int (0 : Int32)), (.ref b3), (.ref b3)])) _
  refine Rch.go (fun _ k => XS.bipush X3.here hx rfl (hb hby at_42) k) ?_
  show Rch p e below (T3.setTop (mkF m 44 #[.val (.int p0), .val (.int p1), .val (.int p2), .val (.int p3), .val (.int p4), .val (.int (Int32.ofNat fr)), .val (.int (Int32.ofNat kk)), .val (.int (Int32.ofNat tl)), .val (.int (nar .byte (own_dr p2))), .val (.int (nar .byte (own_dr p3))), .unset, .unset, .unset, .unset, .unset] [(.int (10 : Int32)), (.int (0 : Int32)), (.ref b3), (.ref b3)])) _
  obtain ⟨cl4, Ar4, Sz4, At4⟩ := B_b3
  obtain ⟨T4, h4, X4, e4, W4, st4⟩ := stB X3 hx hZ e3 Ar4 (j := (0 : Int32)) (inb (k := 0) Sz4 (by decide) (by decide) (by omega)) (g := (mkF m 44 #[.val (.int p0), .val (.int p1), .val (.int p2), .val (.int p3), .val (.int p4), .val (.int (Int32.ofNat fr)), .val (.int (Int32.ofNat kk)), .val (.int (Int32.ofNat tl)), .val (.int (nar .byte (own_dr p2))), .val (.int (nar .byte (own_dr p3))), .unset, .unset, .unset, .unset, .unset] [(.int (10 : Int32)), (.int (0 : Int32)), (.ref b3), (.ref b3)])) rfl rfl (hb hby at_44)
  have B_b3 := BA.set ⟨cl4, Ar4, Sz4, At4⟩ (k := 0) (by decide) (by omega) W4
  have Z0 := Nat.le_trans Z0 (Keep.of_wr W4).1
  have N4 := Fr.snoc X4 N2 g_b3
  refine Rch.go st4 ?_
  show Rch p e below (T4.setTop (mkF m 45 #[.val (.int p0), .val (.int p1), .val (.int p2), .val (.int p3), .val (.int p4), .val (.int (Int32.ofNat fr)), .val (.int (Int32.ofNat kk)), .val (.int (Int32.ofNat tl)), .val (.int (nar .byte (own_dr p2))), .val (.int (nar .byte (own_dr p3))), .unset, .unset, .unset, .unset, .unset] [(.ref b3)])) _
  refine Rch.go (fun _ k => XS.dup X4.here hx rfl (hb hby at_45) rfl rfl k) ?_
  show Rch p e below (T4.setTop (mkF m 46 #[.val (.int p0), .val (.int p1), .val (.int p2), .val (.int p3), .val (.int p4), .val (.int (Int32.ofNat fr)), .val (.int (Int32.ofNat kk)), .val (.int (Int32.ofNat tl)), .val (.int (nar .byte (own_dr p2))), .val (.int (nar .byte (own_dr p3))), .unset, .unset, .unset, .unset, .unset] [(.ref b3), (.ref b3)])) _
  refine Rch.go (fun _ k => XS.iconst X4.here hx rfl (hb hby at_46) k) ?_
  show Rch p e below (T4.setTop (mkF m 47 #[.val (.int p0), .val (.int p1), .val (.int p2), .val (.int p3), .val (.int p4), .val (.int (Int32.ofNat fr)), .val (.int (Int32.ofNat kk)), .val (.int (Int32.ofNat tl)), .val (.int (nar .byte (own_dr p2))), .val (.int (nar .byte (own_dr p3))), .unset, .unset, .unset, .unset, .unset] [(.int (1 : Int32)), (.ref b3), (.ref b3)])) _
  refine Rch.go (fun _ k => XS.bipush X4.here hx rfl (hb hby at_47) k) ?_
  show Rch p e below (T4.setTop (mkF m 49 #[.val (.int p0), .val (.int p1), .val (.int p2), .val (.int p3), .val (.int p4), .val (.int (Int32.ofNat fr)), .val (.int (Int32.ofNat kk)), .val (.int (Int32.ofNat tl)), .val (.int (nar .byte (own_dr p2))), .val (.int (nar .byte (own_dr p3))), .unset, .unset, .unset, .unset, .unset] [(.int (10 : Int32)), (.int (1 : Int32)), (.ref b3), (.ref b3)])) _
  obtain ⟨cl5, Ar5, Sz5, At5⟩ := B_b3
  obtain ⟨T5, h5, X5, e5, W5, st5⟩ := stB X4 hx hZ e4 Ar5 (j := (1 : Int32)) (inb (k := 1) Sz5 (by decide) (by decide) (by omega)) (g := (mkF m 49 #[.val (.int p0), .val (.int p1), .val (.int p2), .val (.int p3), .val (.int p4), .val (.int (Int32.ofNat fr)), .val (.int (Int32.ofNat kk)), .val (.int (Int32.ofNat tl)), .val (.int (nar .byte (own_dr p2))), .val (.int (nar .byte (own_dr p3))), .unset, .unset, .unset, .unset, .unset] [(.int (10 : Int32)), (.int (1 : Int32)), (.ref b3), (.ref b3)])) rfl rfl (hb hby at_49)
  have B_b3 := BA.set ⟨cl5, Ar5, Sz5, At5⟩ (k := 1) (by decide) (by omega) W5
  have Z0 := Nat.le_trans Z0 (Keep.of_wr W5).1
  have N5 := Fr.snoc X5 N4 g_b3
  refine Rch.go st5 ?_
  show Rch p e below (T5.setTop (mkF m 50 #[.val (.int p0), .val (.int p1), .val (.int p2), .val (.int p3), .val (.int p4), .val (.int (Int32.ofNat fr)), .val (.int (Int32.ofNat kk)), .val (.int (Int32.ofNat tl)), .val (.int (nar .byte (own_dr p2))), .val (.int (nar .byte (own_dr p3))), .unset, .unset, .unset, .unset, .unset] [(.ref b3)])) _
  refine Rch.go (fun _ k => XS.dup X5.here hx rfl (hb hby at_50) rfl rfl k) ?_
  show Rch p e below (T5.setTop (mkF m 51 #[.val (.int p0), .val (.int p1), .val (.int p2), .val (.int p3), .val (.int p4), .val (.int (Int32.ofNat fr)), .val (.int (Int32.ofNat kk)), .val (.int (Int32.ofNat tl)), .val (.int (nar .byte (own_dr p2))), .val (.int (nar .byte (own_dr p3))), .unset, .unset, .unset, .unset, .unset] [(.ref b3), (.ref b3)])) _
  refine Rch.go (fun _ k => XS.iconst X5.here hx rfl (hb hby at_51) k) ?_
  show Rch p e below (T5.setTop (mkF m 52 #[.val (.int p0), .val (.int p1), .val (.int p2), .val (.int p3), .val (.int p4), .val (.int (Int32.ofNat fr)), .val (.int (Int32.ofNat kk)), .val (.int (Int32.ofNat tl)), .val (.int (nar .byte (own_dr p2))), .val (.int (nar .byte (own_dr p3))), .unset, .unset, .unset, .unset, .unset] [(.int (2 : Int32)), (.ref b3), (.ref b3)])) _
  refine Rch.go (fun _ k => XS.bipush X5.here hx rfl (hb hby at_52) k) ?_
  show Rch p e below (T5.setTop (mkF m 54 #[.val (.int p0), .val (.int p1), .val (.int p2), .val (.int p3), .val (.int p4), .val (.int (Int32.ofNat fr)), .val (.int (Int32.ofNat kk)), .val (.int (Int32.ofNat tl)), .val (.int (nar .byte (own_dr p2))), .val (.int (nar .byte (own_dr p3))), .unset, .unset, .unset, .unset, .unset] [(.int (10 : Int32)), (.int (2 : Int32)), (.ref b3), (.ref b3)])) _
  obtain ⟨cl6, Ar6, Sz6, At6⟩ := B_b3
  obtain ⟨T6, h6, X6, e6, W6, st6⟩ := stB X5 hx hZ e5 Ar6 (j := (2 : Int32)) (inb (k := 2) Sz6 (by decide) (by decide) (by omega)) (g := (mkF m 54 #[.val (.int p0), .val (.int p1), .val (.int p2), .val (.int p3), .val (.int p4), .val (.int (Int32.ofNat fr)), .val (.int (Int32.ofNat kk)), .val (.int (Int32.ofNat tl)), .val (.int (nar .byte (own_dr p2))), .val (.int (nar .byte (own_dr p3))), .unset, .unset, .unset, .unset, .unset] [(.int (10 : Int32)), (.int (2 : Int32)), (.ref b3), (.ref b3)])) rfl rfl (hb hby at_54)
  have B_b3 := BA.set ⟨cl6, Ar6, Sz6, At6⟩ (k := 2) (by decide) (by omega) W6
  have Z0 := Nat.le_trans Z0 (Keep.of_wr W6).1
  have N6 := Fr.snoc X6 N5 g_b3
  refine Rch.go st6 ?_
  show Rch p e below (T6.setTop (mkF m 55 #[.val (.int p0), .val (.int p1), .val (.int p2), .val (.int p3), .val (.int p4), .val (.int (Int32.ofNat fr)), .val (.int (Int32.ofNat kk)), .val (.int (Int32.ofNat tl)), .val (.int (nar .byte (own_dr p2))), .val (.int (nar .byte (own_dr p3))), .unset, .unset, .unset, .unset, .unset] [(.ref b3)])) _
  refine Rch.go (fun _ k => XS.dup X6.here hx rfl (hb hby at_55) rfl rfl k) ?_
  show Rch p e below (T6.setTop (mkF m 56 #[.val (.int p0), .val (.int p1), .val (.int p2), .val (.int p3), .val (.int p4), .val (.int (Int32.ofNat fr)), .val (.int (Int32.ofNat kk)), .val (.int (Int32.ofNat tl)), .val (.int (nar .byte (own_dr p2))), .val (.int (nar .byte (own_dr p3))), .unset, .unset, .unset, .unset, .unset] [(.ref b3), (.ref b3)])) _
  refine Rch.go (fun _ k => XS.iconst X6.here hx rfl (hb hby at_56) k) ?_
  show Rch p e below (T6.setTop (mkF m 57 #[.val (.int p0), .val (.int p1), .val (.int p2), .val (.int p3), .val (.int p4), .val (.int (Int32.ofNat fr)), .val (.int (Int32.ofNat kk)), .val (.int (Int32.ofNat tl)), .val (.int (nar .byte (own_dr p2))), .val (.int (nar .byte (own_dr p3))), .unset, .unset, .unset, .unset, .unset] [(.int (3 : Int32)), (.ref b3), (.ref b3)])) _
  refine Rch.go (fun _ k => XS.bipush X6.here hx rfl (hb hby at_57) k) ?_
  show Rch p e below (T6.setTop (mkF m 59 #[.val (.int p0), .val (.int p1), .val (.int p2), .val (.int p3), .val (.int p4), .val (.int (Int32.ofNat fr)), .val (.int (Int32.ofNat kk)), .val (.int (Int32.ofNat tl)), .val (.int (nar .byte (own_dr p2))), .val (.int (nar .byte (own_dr p3))), .unset, .unset, .unset, .unset, .unset] [(.int (10 : Int32)), (.int (3 : Int32)), (.ref b3), (.ref b3)])) _
  obtain ⟨cl7, Ar7, Sz7, At7⟩ := B_b3
  obtain ⟨T7, h7, X7, e7, W7, st7⟩ := stB X6 hx hZ e6 Ar7 (j := (3 : Int32)) (inb (k := 3) Sz7 (by decide) (by decide) (by omega)) (g := (mkF m 59 #[.val (.int p0), .val (.int p1), .val (.int p2), .val (.int p3), .val (.int p4), .val (.int (Int32.ofNat fr)), .val (.int (Int32.ofNat kk)), .val (.int (Int32.ofNat tl)), .val (.int (nar .byte (own_dr p2))), .val (.int (nar .byte (own_dr p3))), .unset, .unset, .unset, .unset, .unset] [(.int (10 : Int32)), (.int (3 : Int32)), (.ref b3), (.ref b3)])) rfl rfl (hb hby at_59)
  have B_b3 := BA.set ⟨cl7, Ar7, Sz7, At7⟩ (k := 3) (by decide) (by omega) W7
  have Z0 := Nat.le_trans Z0 (Keep.of_wr W7).1
  have N7 := Fr.snoc X7 N6 g_b3
  refine Rch.go st7 ?_
  show Rch p e below (T7.setTop (mkF m 60 #[.val (.int p0), .val (.int p1), .val (.int p2), .val (.int p3), .val (.int p4), .val (.int (Int32.ofNat fr)), .val (.int (Int32.ofNat kk)), .val (.int (Int32.ofNat tl)), .val (.int (nar .byte (own_dr p2))), .val (.int (nar .byte (own_dr p3))), .unset, .unset, .unset, .unset, .unset] [(.ref b3)])) _
  refine Rch.go (fun _ k => XS.dup X7.here hx rfl (hb hby at_60) rfl rfl k) ?_
  show Rch p e below (T7.setTop (mkF m 61 #[.val (.int p0), .val (.int p1), .val (.int p2), .val (.int p3), .val (.int p4), .val (.int (Int32.ofNat fr)), .val (.int (Int32.ofNat kk)), .val (.int (Int32.ofNat tl)), .val (.int (nar .byte (own_dr p2))), .val (.int (nar .byte (own_dr p3))), .unset, .unset, .unset, .unset, .unset] [(.ref b3), (.ref b3)])) _
  refine Rch.go (fun _ k => XS.iconst X7.here hx rfl (hb hby at_61) k) ?_
  show Rch p e below (T7.setTop (mkF m 62 #[.val (.int p0), .val (.int p1), .val (.int p2), .val (.int p3), .val (.int p4), .val (.int (Int32.ofNat fr)), .val (.int (Int32.ofNat kk)), .val (.int (Int32.ofNat tl)), .val (.int (nar .byte (own_dr p2))), .val (.int (nar .byte (own_dr p3))), .unset, .unset, .unset, .unset, .unset] [(.int (4 : Int32)), (.ref b3), (.ref b3)])) _
  refine Rch.go (fun _ k => XS.bipush X7.here hx rfl (hb hby at_62) k) ?_
  show Rch p e below (T7.setTop (mkF m 64 #[.val (.int p0), .val (.int p1), .val (.int p2), .val (.int p3), .val (.int p4), .val (.int (Int32.ofNat fr)), .val (.int (Int32.ofNat kk)), .val (.int (Int32.ofNat tl)), .val (.int (nar .byte (own_dr p2))), .val (.int (nar .byte (own_dr p3))), .unset, .unset, .unset, .unset, .unset] [(.int (10 : Int32)), (.int (4 : Int32)), (.ref b3), (.ref b3)])) _
  obtain ⟨cl8, Ar8, Sz8, At8⟩ := B_b3
  obtain ⟨T8, h8, X8, e8, W8, st8⟩ := stB X7 hx hZ e7 Ar8 (j := (4 : Int32)) (inb (k := 4) Sz8 (by decide) (by decide) (by omega)) (g := (mkF m 64 #[.val (.int p0), .val (.int p1), .val (.int p2), .val (.int p3), .val (.int p4), .val (.int (Int32.ofNat fr)), .val (.int (Int32.ofNat kk)), .val (.int (Int32.ofNat tl)), .val (.int (nar .byte (own_dr p2))), .val (.int (nar .byte (own_dr p3))), .unset, .unset, .unset, .unset, .unset] [(.int (10 : Int32)), (.int (4 : Int32)), (.ref b3), (.ref b3)])) rfl rfl (hb hby at_64)
  have B_b3 := BA.set ⟨cl8, Ar8, Sz8, At8⟩ (k := 4) (by decide) (by omega) W8
  have Z0 := Nat.le_trans Z0 (Keep.of_wr W8).1
  have N8 := Fr.snoc X8 N7 g_b3
  refine Rch.go st8 ?_
  show Rch p e below (T8.setTop (mkF m 65 #[.val (.int p0), .val (.int p1), .val (.int p2), .val (.int p3), .val (.int p4), .val (.int (Int32.ofNat fr)), .val (.int (Int32.ofNat kk)), .val (.int (Int32.ofNat tl)), .val (.int (nar .byte (own_dr p2))), .val (.int (nar .byte (own_dr p3))), .unset, .unset, .unset, .unset, .unset] [(.ref b3)])) _
  refine Rch.go (fun _ k => XS.dup X8.here hx rfl (hb hby at_65) rfl rfl k) ?_
  show Rch p e below (T8.setTop (mkF m 66 #[.val (.int p0), .val (.int p1), .val (.int p2), .val (.int p3), .val (.int p4), .val (.int (Int32.ofNat fr)), .val (.int (Int32.ofNat kk)), .val (.int (Int32.ofNat tl)), .val (.int (nar .byte (own_dr p2))), .val (.int (nar .byte (own_dr p3))), .unset, .unset, .unset, .unset, .unset] [(.ref b3), (.ref b3)])) _
  refine Rch.go (fun _ k => XS.iconst X8.here hx rfl (hb hby at_66) k) ?_
  show Rch p e below (T8.setTop (mkF m 67 #[.val (.int p0), .val (.int p1), .val (.int p2), .val (.int p3), .val (.int p4), .val (.int (Int32.ofNat fr)), .val (.int (Int32.ofNat kk)), .val (.int (Int32.ofNat tl)), .val (.int (nar .byte (own_dr p2))), .val (.int (nar .byte (own_dr p3))), .unset, .unset, .unset, .unset, .unset] [(.int (5 : Int32)), (.ref b3), (.ref b3)])) _
  refine Rch.go (fun _ k => XS.bipush X8.here hx rfl (hb hby at_67) k) ?_
  show Rch p e below (T8.setTop (mkF m 69 #[.val (.int p0), .val (.int p1), .val (.int p2), .val (.int p3), .val (.int p4), .val (.int (Int32.ofNat fr)), .val (.int (Int32.ofNat kk)), .val (.int (Int32.ofNat tl)), .val (.int (nar .byte (own_dr p2))), .val (.int (nar .byte (own_dr p3))), .unset, .unset, .unset, .unset, .unset] [(.int (10 : Int32)), (.int (5 : Int32)), (.ref b3), (.ref b3)])) _
  obtain ⟨cl9, Ar9, Sz9, At9⟩ := B_b3
  obtain ⟨T9, h9, X9, e9, W9, st9⟩ := stB X8 hx hZ e8 Ar9 (j := (5 : Int32)) (inb (k := 5) Sz9 (by decide) (by decide) (by omega)) (g := (mkF m 69 #[.val (.int p0), .val (.int p1), .val (.int p2), .val (.int p3), .val (.int p4), .val (.int (Int32.ofNat fr)), .val (.int (Int32.ofNat kk)), .val (.int (Int32.ofNat tl)), .val (.int (nar .byte (own_dr p2))), .val (.int (nar .byte (own_dr p3))), .unset, .unset, .unset, .unset, .unset] [(.int (10 : Int32)), (.int (5 : Int32)), (.ref b3), (.ref b3)])) rfl rfl (hb hby at_69)
  have B_b3 := BA.set ⟨cl9, Ar9, Sz9, At9⟩ (k := 5) (by decide) (by omega) W9
  have Z0 := Nat.le_trans Z0 (Keep.of_wr W9).1
  have N9 := Fr.snoc X9 N8 g_b3
  refine Rch.go st9 ?_
  show Rch p e below (T9.setTop (mkF m 70 #[.val (.int p0), .val (.int p1), .val (.int p2), .val (.int p3), .val (.int p4), .val (.int (Int32.ofNat fr)), .val (.int (Int32.ofNat kk)), .val (.int (Int32.ofNat tl)), .val (.int (nar .byte (own_dr p2))), .val (.int (nar .byte (own_dr p3))), .unset, .unset, .unset, .unset, .unset] [(.ref b3)])) _
  refine Rch.go (fun _ k => XS.dup X9.here hx rfl (hb hby at_70) rfl rfl k) ?_
  show Rch p e below (T9.setTop (mkF m 71 #[.val (.int p0), .val (.int p1), .val (.int p2), .val (.int p3), .val (.int p4), .val (.int (Int32.ofNat fr)), .val (.int (Int32.ofNat kk)), .val (.int (Int32.ofNat tl)), .val (.int (nar .byte (own_dr p2))), .val (.int (nar .byte (own_dr p3))), .unset, .unset, .unset, .unset, .unset] [(.ref b3), (.ref b3)])) _
  refine Rch.go (fun _ k => XS.bipush X9.here hx rfl (hb hby at_71) k) ?_
  show Rch p e below (T9.setTop (mkF m 73 #[.val (.int p0), .val (.int p1), .val (.int p2), .val (.int p3), .val (.int p4), .val (.int (Int32.ofNat fr)), .val (.int (Int32.ofNat kk)), .val (.int (Int32.ofNat tl)), .val (.int (nar .byte (own_dr p2))), .val (.int (nar .byte (own_dr p3))), .unset, .unset, .unset, .unset, .unset] [(.int (6 : Int32)), (.ref b3), (.ref b3)])) _
  refine Rch.go (fun _ k => XS.bipush X9.here hx rfl (hb hby at_73) k) ?_
  show Rch p e below (T9.setTop (mkF m 75 #[.val (.int p0), .val (.int p1), .val (.int p2), .val (.int p3), .val (.int p4), .val (.int (Int32.ofNat fr)), .val (.int (Int32.ofNat kk)), .val (.int (Int32.ofNat tl)), .val (.int (nar .byte (own_dr p2))), .val (.int (nar .byte (own_dr p3))), .unset, .unset, .unset, .unset, .unset] [(.int (10 : Int32)), (.int (6 : Int32)), (.ref b3), (.ref b3)])) _
  obtain ⟨cl10, Ar10, Sz10, At10⟩ := B_b3
  obtain ⟨T10, h10, X10, e10, W10, st10⟩ := stB X9 hx hZ e9 Ar10 (j := (6 : Int32)) (inb (k := 6) Sz10 (by decide) (by decide) (by omega)) (g := (mkF m 75 #[.val (.int p0), .val (.int p1), .val (.int p2), .val (.int p3), .val (.int p4), .val (.int (Int32.ofNat fr)), .val (.int (Int32.ofNat kk)), .val (.int (Int32.ofNat tl)), .val (.int (nar .byte (own_dr p2))), .val (.int (nar .byte (own_dr p3))), .unset, .unset, .unset, .unset, .unset] [(.int (10 : Int32)), (.int (6 : Int32)), (.ref b3), (.ref b3)])) rfl rfl (hb hby at_75)
  have B_b3 := BA.set ⟨cl10, Ar10, Sz10, At10⟩ (k := 6) (by decide) (by omega) W10
  have Z0 := Nat.le_trans Z0 (Keep.of_wr W10).1
  have N10 := Fr.snoc X10 N9 g_b3
  refine Rch.go st10 ?_
  show Rch p e below (T10.setTop (mkF m 76 #[.val (.int p0), .val (.int p1), .val (.int p2), .val (.int p3), .val (.int p4), .val (.int (Int32.ofNat fr)), .val (.int (Int32.ofNat kk)), .val (.int (Int32.ofNat tl)), .val (.int (nar .byte (own_dr p2))), .val (.int (nar .byte (own_dr p3))), .unset, .unset, .unset, .unset, .unset] [(.ref b3)])) _
  refine Rch.go (fun _ k => XS.dup X10.here hx rfl (hb hby at_76) rfl rfl k) ?_
  show Rch p e below (T10.setTop (mkF m 77 #[.val (.int p0), .val (.int p1), .val (.int p2), .val (.int p3), .val (.int p4), .val (.int (Int32.ofNat fr)), .val (.int (Int32.ofNat kk)), .val (.int (Int32.ofNat tl)), .val (.int (nar .byte (own_dr p2))), .val (.int (nar .byte (own_dr p3))), .unset, .unset, .unset, .unset, .unset] [(.ref b3), (.ref b3)])) _
  refine Rch.go (fun _ k => XS.bipush X10.here hx rfl (hb hby at_77) k) ?_
  show Rch p e below (T10.setTop (mkF m 79 #[.val (.int p0), .val (.int p1), .val (.int p2), .val (.int p3), .val (.int p4), .val (.int (Int32.ofNat fr)), .val (.int (Int32.ofNat kk)), .val (.int (Int32.ofNat tl)), .val (.int (nar .byte (own_dr p2))), .val (.int (nar .byte (own_dr p3))), .unset, .unset, .unset, .unset, .unset] [(.int (7 : Int32)), (.ref b3), (.ref b3)])) _
  refine Rch.go (fun _ k => XS.bipush X10.here hx rfl (hb hby at_79) k) ?_
  show Rch p e below (T10.setTop (mkF m 81 #[.val (.int p0), .val (.int p1), .val (.int p2), .val (.int p3), .val (.int p4), .val (.int (Int32.ofNat fr)), .val (.int (Int32.ofNat kk)), .val (.int (Int32.ofNat tl)), .val (.int (nar .byte (own_dr p2))), .val (.int (nar .byte (own_dr p3))), .unset, .unset, .unset, .unset, .unset] [(.int (10 : Int32)), (.int (7 : Int32)), (.ref b3), (.ref b3)])) _
  obtain ⟨cl11, Ar11, Sz11, At11⟩ := B_b3
  obtain ⟨T11, h11, X11, e11, W11, st11⟩ := stB X10 hx hZ e10 Ar11 (j := (7 : Int32)) (inb (k := 7) Sz11 (by decide) (by decide) (by omega)) (g := (mkF m 81 #[.val (.int p0), .val (.int p1), .val (.int p2), .val (.int p3), .val (.int p4), .val (.int (Int32.ofNat fr)), .val (.int (Int32.ofNat kk)), .val (.int (Int32.ofNat tl)), .val (.int (nar .byte (own_dr p2))), .val (.int (nar .byte (own_dr p3))), .unset, .unset, .unset, .unset, .unset] [(.int (10 : Int32)), (.int (7 : Int32)), (.ref b3), (.ref b3)])) rfl rfl (hb hby at_81)
  have B_b3 := BA.set ⟨cl11, Ar11, Sz11, At11⟩ (k := 7) (by decide) (by omega) W11
  have Z0 := Nat.le_trans Z0 (Keep.of_wr W11).1
  have N11 := Fr.snoc X11 N10 g_b3
  refine Rch.go st11 ?_
  show Rch p e below (T11.setTop (mkF m 82 #[.val (.int p0), .val (.int p1), .val (.int p2), .val (.int p3), .val (.int p4), .val (.int (Int32.ofNat fr)), .val (.int (Int32.ofNat kk)), .val (.int (Int32.ofNat tl)), .val (.int (nar .byte (own_dr p2))), .val (.int (nar .byte (own_dr p3))), .unset, .unset, .unset, .unset, .unset] [(.ref b3)])) _
  refine Rch.go (fun _ k => XS.dup X11.here hx rfl (hb hby at_82) rfl rfl k) ?_
  show Rch p e below (T11.setTop (mkF m 83 #[.val (.int p0), .val (.int p1), .val (.int p2), .val (.int p3), .val (.int p4), .val (.int (Int32.ofNat fr)), .val (.int (Int32.ofNat kk)), .val (.int (Int32.ofNat tl)), .val (.int (nar .byte (own_dr p2))), .val (.int (nar .byte (own_dr p3))), .unset, .unset, .unset, .unset, .unset] [(.ref b3), (.ref b3)])) _
  refine Rch.go (fun _ k => XS.bipush X11.here hx rfl (hb hby at_83) k) ?_
  show Rch p e below (T11.setTop (mkF m 85 #[.val (.int p0), .val (.int p1), .val (.int p2), .val (.int p3), .val (.int p4), .val (.int (Int32.ofNat fr)), .val (.int (Int32.ofNat kk)), .val (.int (Int32.ofNat tl)), .val (.int (nar .byte (own_dr p2))), .val (.int (nar .byte (own_dr p3))), .unset, .unset, .unset, .unset, .unset] [(.int (8 : Int32)), (.ref b3), (.ref b3)])) _
  refine Rch.go (fun _ k => XS.bipush X11.here hx rfl (hb hby at_85) k) ?_
  show Rch p e below (T11.setTop (mkF m 87 #[.val (.int p0), .val (.int p1), .val (.int p2), .val (.int p3), .val (.int p4), .val (.int (Int32.ofNat fr)), .val (.int (Int32.ofNat kk)), .val (.int (Int32.ofNat tl)), .val (.int (nar .byte (own_dr p2))), .val (.int (nar .byte (own_dr p3))), .unset, .unset, .unset, .unset, .unset] [(.int (10 : Int32)), (.int (8 : Int32)), (.ref b3), (.ref b3)])) _
  obtain ⟨cl12, Ar12, Sz12, At12⟩ := B_b3
  obtain ⟨T12, h12, X12, e12, W12, st12⟩ := stB X11 hx hZ e11 Ar12 (j := (8 : Int32)) (inb (k := 8) Sz12 (by decide) (by decide) (by omega)) (g := (mkF m 87 #[.val (.int p0), .val (.int p1), .val (.int p2), .val (.int p3), .val (.int p4), .val (.int (Int32.ofNat fr)), .val (.int (Int32.ofNat kk)), .val (.int (Int32.ofNat tl)), .val (.int (nar .byte (own_dr p2))), .val (.int (nar .byte (own_dr p3))), .unset, .unset, .unset, .unset, .unset] [(.int (10 : Int32)), (.int (8 : Int32)), (.ref b3), (.ref b3)])) rfl rfl (hb hby at_87)
  have B_b3 := BA.set ⟨cl12, Ar12, Sz12, At12⟩ (k := 8) (by decide) (by omega) W12
  have Z0 := Nat.le_trans Z0 (Keep.of_wr W12).1
  have N12 := Fr.snoc X12 N11 g_b3
  refine Rch.go st12 ?_
  show Rch p e below (T12.setTop (mkF m 88 #[.val (.int p0), .val (.int p1), .val (.int p2), .val (.int p3), .val (.int p4), .val (.int (Int32.ofNat fr)), .val (.int (Int32.ofNat kk)), .val (.int (Int32.ofNat tl)), .val (.int (nar .byte (own_dr p2))), .val (.int (nar .byte (own_dr p3))), .unset, .unset, .unset, .unset, .unset] [(.ref b3)])) _
  refine Rch.go (fun _ k => XS.dup X12.here hx rfl (hb hby at_88) rfl rfl k) ?_
  show Rch p e below (T12.setTop (mkF m 89 #[.val (.int p0), .val (.int p1), .val (.int p2), .val (.int p3), .val (.int p4), .val (.int (Int32.ofNat fr)), .val (.int (Int32.ofNat kk)), .val (.int (Int32.ofNat tl)), .val (.int (nar .byte (own_dr p2))), .val (.int (nar .byte (own_dr p3))), .unset, .unset, .unset, .unset, .unset] [(.ref b3), (.ref b3)])) _
  refine Rch.go (fun _ k => XS.bipush X12.here hx rfl (hb hby at_89) k) ?_
  show Rch p e below (T12.setTop (mkF m 91 #[.val (.int p0), .val (.int p1), .val (.int p2), .val (.int p3), .val (.int p4), .val (.int (Int32.ofNat fr)), .val (.int (Int32.ofNat kk)), .val (.int (Int32.ofNat tl)), .val (.int (nar .byte (own_dr p2))), .val (.int (nar .byte (own_dr p3))), .unset, .unset, .unset, .unset, .unset] [(.int (9 : Int32)), (.ref b3), (.ref b3)])) _
  refine Rch.go (fun _ k => XS.bipush X12.here hx rfl (hb hby at_91) k) ?_
  show Rch p e below (T12.setTop (mkF m 93 #[.val (.int p0), .val (.int p1), .val (.int p2), .val (.int p3), .val (.int p4), .val (.int (Int32.ofNat fr)), .val (.int (Int32.ofNat kk)), .val (.int (Int32.ofNat tl)), .val (.int (nar .byte (own_dr p2))), .val (.int (nar .byte (own_dr p3))), .unset, .unset, .unset, .unset, .unset] [(.int (10 : Int32)), (.int (9 : Int32)), (.ref b3), (.ref b3)])) _
  obtain ⟨cl13, Ar13, Sz13, At13⟩ := B_b3
  obtain ⟨T13, h13, X13, e13, W13, st13⟩ := stB X12 hx hZ e12 Ar13 (j := (9 : Int32)) (inb (k := 9) Sz13 (by decide) (by decide) (by omega)) (g := (mkF m 93 #[.val (.int p0), .val (.int p1), .val (.int p2), .val (.int p3), .val (.int p4), .val (.int (Int32.ofNat fr)), .val (.int (Int32.ofNat kk)), .val (.int (Int32.ofNat tl)), .val (.int (nar .byte (own_dr p2))), .val (.int (nar .byte (own_dr p3))), .unset, .unset, .unset, .unset, .unset] [(.int (10 : Int32)), (.int (9 : Int32)), (.ref b3), (.ref b3)])) rfl rfl (hb hby at_93)
  have B_b3 := BA.set ⟨cl13, Ar13, Sz13, At13⟩ (k := 9) (by decide) (by omega) W13
  have Z0 := Nat.le_trans Z0 (Keep.of_wr W13).1
  have N13 := Fr.snoc X13 N12 g_b3
  refine Rch.go st13 ?_
  show Rch p e below (T13.setTop (mkF m 94 #[.val (.int p0), .val (.int p1), .val (.int p2), .val (.int p3), .val (.int p4), .val (.int (Int32.ofNat fr)), .val (.int (Int32.ofNat kk)), .val (.int (Int32.ofNat tl)), .val (.int (nar .byte (own_dr p2))), .val (.int (nar .byte (own_dr p3))), .unset, .unset, .unset, .unset, .unset] [(.ref b3)])) _
  refine Rch.go (fun _ k => XS.dup X13.here hx rfl (hb hby at_94) rfl rfl k) ?_
  show Rch p e below (T13.setTop (mkF m 95 #[.val (.int p0), .val (.int p1), .val (.int p2), .val (.int p3), .val (.int p4), .val (.int (Int32.ofNat fr)), .val (.int (Int32.ofNat kk)), .val (.int (Int32.ofNat tl)), .val (.int (nar .byte (own_dr p2))), .val (.int (nar .byte (own_dr p3))), .unset, .unset, .unset, .unset, .unset] [(.ref b3), (.ref b3)])) _
  refine Rch.go (fun _ k => XS.bipush X13.here hx rfl (hb hby at_95) k) ?_
  show Rch p e below (T13.setTop (mkF m 97 #[.val (.int p0), .val (.int p1), .val (.int p2), .val (.int p3), .val (.int p4), .val (.int (Int32.ofNat fr)), .val (.int (Int32.ofNat kk)), .val (.int (Int32.ofNat tl)), .val (.int (nar .byte (own_dr p2))), .val (.int (nar .byte (own_dr p3))), .unset, .unset, .unset, .unset, .unset] [(.int (10 : Int32)), (.ref b3), (.ref b3)])) _
  refine Rch.go (fun _ k => XS.bipush X13.here hx rfl (hb hby at_97) k) ?_
  show Rch p e below (T13.setTop (mkF m 99 #[.val (.int p0), .val (.int p1), .val (.int p2), .val (.int p3), .val (.int p4), .val (.int (Int32.ofNat fr)), .val (.int (Int32.ofNat kk)), .val (.int (Int32.ofNat tl)), .val (.int (nar .byte (own_dr p2))), .val (.int (nar .byte (own_dr p3))), .unset, .unset, .unset, .unset, .unset] [(.int (10 : Int32)), (.int (10 : Int32)), (.ref b3), (.ref b3)])) _
  obtain ⟨cl14, Ar14, Sz14, At14⟩ := B_b3
  obtain ⟨T14, h14, X14, e14, W14, st14⟩ := stB X13 hx hZ e13 Ar14 (j := (10 : Int32)) (inb (k := 10) Sz14 (by decide) (by decide) (by omega)) (g := (mkF m 99 #[.val (.int p0), .val (.int p1), .val (.int p2), .val (.int p3), .val (.int p4), .val (.int (Int32.ofNat fr)), .val (.int (Int32.ofNat kk)), .val (.int (Int32.ofNat tl)), .val (.int (nar .byte (own_dr p2))), .val (.int (nar .byte (own_dr p3))), .unset, .unset, .unset, .unset, .unset] [(.int (10 : Int32)), (.int (10 : Int32)), (.ref b3), (.ref b3)])) rfl rfl (hb hby at_99)
  have B_b3 := BA.set ⟨cl14, Ar14, Sz14, At14⟩ (k := 10) (by decide) (by omega) W14
  have Z0 := Nat.le_trans Z0 (Keep.of_wr W14).1
  have N14 := Fr.snoc X14 N13 g_b3
  refine Rch.go st14 ?_
  show Rch p e below (T14.setTop (mkF m 100 #[.val (.int p0), .val (.int p1), .val (.int p2), .val (.int p3), .val (.int p4), .val (.int (Int32.ofNat fr)), .val (.int (Int32.ofNat kk)), .val (.int (Int32.ofNat tl)), .val (.int (nar .byte (own_dr p2))), .val (.int (nar .byte (own_dr p3))), .unset, .unset, .unset, .unset, .unset] [(.ref b3)])) _
  refine Rch.go (fun _ k => XS.dup X14.here hx rfl (hb hby at_100) rfl rfl k) ?_
  show Rch p e below (T14.setTop (mkF m 101 #[.val (.int p0), .val (.int p1), .val (.int p2), .val (.int p3), .val (.int p4), .val (.int (Int32.ofNat fr)), .val (.int (Int32.ofNat kk)), .val (.int (Int32.ofNat tl)), .val (.int (nar .byte (own_dr p2))), .val (.int (nar .byte (own_dr p3))), .unset, .unset, .unset, .unset, .unset] [(.ref b3), (.ref b3)])) _
  refine Rch.go (fun _ k => XS.bipush X14.here hx rfl (hb hby at_101) k) ?_
  show Rch p e below (T14.setTop (mkF m 103 #[.val (.int p0), .val (.int p1), .val (.int p2), .val (.int p3), .val (.int p4), .val (.int (Int32.ofNat fr)), .val (.int (Int32.ofNat kk)), .val (.int (Int32.ofNat tl)), .val (.int (nar .byte (own_dr p2))), .val (.int (nar .byte (own_dr p3))), .unset, .unset, .unset, .unset, .unset] [(.int (11 : Int32)), (.ref b3), (.ref b3)])) _
  refine Rch.go (fun _ k => XS.bipush X14.here hx rfl (hb hby at_103) k) ?_
  show Rch p e below (T14.setTop (mkF m 105 #[.val (.int p0), .val (.int p1), .val (.int p2), .val (.int p3), .val (.int p4), .val (.int (Int32.ofNat fr)), .val (.int (Int32.ofNat kk)), .val (.int (Int32.ofNat tl)), .val (.int (nar .byte (own_dr p2))), .val (.int (nar .byte (own_dr p3))), .unset, .unset, .unset, .unset, .unset] [(.int (10 : Int32)), (.int (11 : Int32)), (.ref b3), (.ref b3)])) _
  obtain ⟨cl15, Ar15, Sz15, At15⟩ := B_b3
  obtain ⟨T15, h15, X15, e15, W15, st15⟩ := stB X14 hx hZ e14 Ar15 (j := (11 : Int32)) (inb (k := 11) Sz15 (by decide) (by decide) (by omega)) (g := (mkF m 105 #[.val (.int p0), .val (.int p1), .val (.int p2), .val (.int p3), .val (.int p4), .val (.int (Int32.ofNat fr)), .val (.int (Int32.ofNat kk)), .val (.int (Int32.ofNat tl)), .val (.int (nar .byte (own_dr p2))), .val (.int (nar .byte (own_dr p3))), .unset, .unset, .unset, .unset, .unset] [(.int (10 : Int32)), (.int (11 : Int32)), (.ref b3), (.ref b3)])) rfl rfl (hb hby at_105)
  have B_b3 := BA.set ⟨cl15, Ar15, Sz15, At15⟩ (k := 11) (by decide) (by omega) W15
  have Z0 := Nat.le_trans Z0 (Keep.of_wr W15).1
  have N15 := Fr.snoc X15 N14 g_b3
  refine Rch.go st15 ?_
  show Rch p e below (T15.setTop (mkF m 106 #[.val (.int p0), .val (.int p1), .val (.int p2), .val (.int p3), .val (.int p4), .val (.int (Int32.ofNat fr)), .val (.int (Int32.ofNat kk)), .val (.int (Int32.ofNat tl)), .val (.int (nar .byte (own_dr p2))), .val (.int (nar .byte (own_dr p3))), .unset, .unset, .unset, .unset, .unset] [(.ref b3)])) _
  refine Rch.go (fun _ k => XS.astore X15.here hx rfl (hb hby at_106) rfl rfl (l' := #[.val (.int p0), .val (.int p1), .val (.int p2), .val (.int p3), .val (.int p4), .val (.int (Int32.ofNat fr)), .val (.int (Int32.ofNat kk)), .val (.int (Int32.ofNat tl)), .val (.int (nar .byte (own_dr p2))), .val (.int (nar .byte (own_dr p3))), .val (.ref b3), .unset, .unset, .unset, .unset]) rfl k) ?_
  show Rch p e below (T15.setTop (mkF m 108 #[.val (.int p0), .val (.int p1), .val (.int p2), .val (.int p3), .val (.int p4), .val (.int (Int32.ofNat fr)), .val (.int (Int32.ofNat kk)), .val (.int (Int32.ofNat tl)), .val (.int (nar .byte (own_dr p2))), .val (.int (nar .byte (own_dr p3))), .val (.ref b3), .unset, .unset, .unset, .unset] [])) _
  generalize hcc : (nar .byte (own_dr p2)) = cc
  generalize hdd : (nar .byte (own_dr p3)) = dd
  have B0 : BA Z h15 b3 12 (fun _ => (10 : Int32)) := B_b3.congr (by intro j hj; match j, hj with | 0, _ => rfl | 1, _ => rfl | 2, _ => rfl | 3, _ => rfl | 4, _ => rfl | 5, _ => rfl | 6, _ => rfl | 7, _ => rfl | 8, _ => rfl | 9, _ => rfl | 10, _ => rfl | 11, _ => rfl)
  have X108 : Stand p l e room_1 s m #[(.int p0), (.int p1), (.int p2), (.int p3), (.int p4)] below meth c T15 _ 1 12 := X15
  show Rch p e below (T15.setTop (mkF m 108 #[.val (.int p0), .val (.int p1), .val (.int p2), .val (.int p3), .val (.int p4), .val (.int (Int32.ofNat fr)), .val (.int (Int32.ofNat kk)), .val (.int (Int32.ofNat tl)), .val (.int cc), .val (.int dd), .val (.ref b3), .unset, .unset, .unset, .unset] [])) _
  refine Rch.bind (P := fun B => ∃ (T' : State) (L' : List Loc) (h' : Heap), B = T'.setTop (mkF m 119 #[.val (.int p0), .val (.int p1), .val (.int p2), .val (.int p3), .val (.int p4), .val (.int (Int32.ofNat fr)), .val (.int (Int32.ofNat kk)), .val (.int (Int32.ofNat tl)), .val (.int cc), .val (.int dd), .val (.ref b3), .unset, .unset, .unset, .unset] []) ∧ Stand p l e room_1 s m #[(.int p0), (.int p1), (.int p2), (.int p3), (.int p4)] below meth c T' L' 1 12 ∧ T'.heap = h' ∧ Fr n0 L' ∧ BA Z h' b3 12 (if 0 < fr then updI (fun _ => (10 : Int32)) 0 (nar .byte (p0.toInt8.toInt32)) else (fun _ => (10 : Int32)))) ?_ ?_
  · refine Rch.go (fun _ k => XS.iload X108.here hx rfl (hb hby at_108) rfl  k) ?_
    show Rch p e below (T15.setTop (mkF m 110 #[.val (.int p0), .val (.int p1), .val (.int p2), .val (.int p3), .val (.int p4), .val (.int (Int32.ofNat fr)), .val (.int (Int32.ofNat kk)), .val (.int (Int32.ofNat tl)), .val (.int cc), .val (.int dd), .val (.ref b3), .unset, .unset, .unset, .unset] [(.int (Int32.ofNat fr))])) _
    by_cases hc110_17 : (0 : Int32) < (Int32.ofNat fr)
    · refine Rch.go (fun _ k => XS.ifNo X108.here hx rfl (hb hby at_110) rfl ((if0 _ _).trans (tlt hc110_17).2.2.2) k) ?_
      show Rch p e below (T15.setTop (mkF m 113 #[.val (.int p0), .val (.int p1), .val (.int p2), .val (.int p3), .val (.int p4), .val (.int (Int32.ofNat fr)), .val (.int (Int32.ofNat kk)), .val (.int (Int32.ofNat tl)), .val (.int cc), .val (.int dd), .val (.ref b3), .unset, .unset, .unset, .unset] [])) _
      refine Rch.go (fun _ k => XS.aload X108.here hx rfl (hb hby at_113) rfl rfl k) ?_
      show Rch p e below (T15.setTop (mkF m 115 #[.val (.int p0), .val (.int p1), .val (.int p2), .val (.int p3), .val (.int p4), .val (.int (Int32.ofNat fr)), .val (.int (Int32.ofNat kk)), .val (.int (Int32.ofNat tl)), .val (.int cc), .val (.int dd), .val (.ref b3), .unset, .unset, .unset, .unset] [(.ref b3)])) _
      refine Rch.go (fun _ k => XS.iconst X108.here hx rfl (hb hby at_115) k) ?_
      show Rch p e below (T15.setTop (mkF m 116 #[.val (.int p0), .val (.int p1), .val (.int p2), .val (.int p3), .val (.int p4), .val (.int (Int32.ofNat fr)), .val (.int (Int32.ofNat kk)), .val (.int (Int32.ofNat tl)), .val (.int cc), .val (.int dd), .val (.ref b3), .unset, .unset, .unset, .unset] [(.int (0 : Int32)), (.ref b3)])) _
      refine Rch.go (fun _ k => XS.iloadN X108.here hx rfl (hb hby at_116) rfl  k) ?_
      show Rch p e below (T15.setTop (mkF m 117 #[.val (.int p0), .val (.int p1), .val (.int p2), .val (.int p3), .val (.int p4), .val (.int (Int32.ofNat fr)), .val (.int (Int32.ofNat kk)), .val (.int (Int32.ofNat tl)), .val (.int cc), .val (.int dd), .val (.ref b3), .unset, .unset, .unset, .unset] [(.int p0), (.int (0 : Int32)), (.ref b3)])) _
      refine Rch.go (fun _ k => XS.i2b X108.here hx rfl (hb hby at_117) rfl k) ?_
      show Rch p e below (T15.setTop (mkF m 118 #[.val (.int p0), .val (.int p1), .val (.int p2), .val (.int p3), .val (.int p4), .val (.int (Int32.ofNat fr)), .val (.int (Int32.ofNat kk)), .val (.int (Int32.ofNat tl)), .val (.int cc), .val (.int dd), .val (.ref b3), .unset, .unset, .unset, .unset] [(.int (p0.toInt8.toInt32)), (.int (0 : Int32)), (.ref b3)])) _
      obtain ⟨cl18, Ar18, Sz18, At18⟩ := B0
      obtain ⟨T18, h18, X18, e18, W18, st18⟩ := stB X108 hx hZ e15 Ar18 (j := (0 : Int32)) (inb (k := 0) Sz18 (by decide) (by decide) (by omega)) (g := (mkF m 118 #[.val (.int p0), .val (.int p1), .val (.int p2), .val (.int p3), .val (.int p4), .val (.int (Int32.ofNat fr)), .val (.int (Int32.ofNat kk)), .val (.int (Int32.ofNat tl)), .val (.int cc), .val (.int dd), .val (.ref b3), .unset, .unset, .unset, .unset] [(.int (p0.toInt8.toInt32)), (.int (0 : Int32)), (.ref b3)])) rfl rfl (hb hby at_118)
      have B0 := BA.set ⟨cl18, Ar18, Sz18, At18⟩ (k := 0) (by decide) (by omega) W18
      have Z0 := Nat.le_trans Z0 (Keep.of_wr W18).1
      have N18 := Fr.snoc X18 N15 g_b3
      refine Rch.go st18 ?_
      show Rch p e below (T18.setTop (mkF m 119 #[.val (.int p0), .val (.int p1), .val (.int p2), .val (.int p3), .val (.int p4), .val (.int (Int32.ofNat fr)), .val (.int (Int32.ofNat kk)), .val (.int (Int32.ofNat tl)), .val (.int cc), .val (.int dd), .val (.ref b3), .unset, .unset, .unset, .unset] [])) _
      exact Rch.here ⟨_, _, _, rfl, X18, e18, N18, by rw [if_pos (own_gt (a := 0) (by omega) (by omega) hc110_17)]; exact B0⟩
    · refine Rch.go (fun _ k => XS.ifYes X108.here hx rfl (pc0 := 110) (pc' := 119) rfl (hb hby at_110) rfl ((if0 _ _).trans (flt hc110_17).2.2.2) (by decide) (by decide) k) ?_
      show Rch p e below (T15.setTop (mkF m 119 #[.val (.int p0), .val (.int p1), .val (.int p2), .val (.int p3), .val (.int p4), .val (.int (Int32.ofNat fr)), .val (.int (Int32.ofNat kk)), .val (.int (Int32.ofNat tl)), .val (.int cc), .val (.int dd), .val (.ref b3), .unset, .unset, .unset, .unset] [])) _
      exact Rch.here ⟨_, _, _, rfl, X108, e15, N15, by rw [if_neg (own_ngt (a := 0) (by omega) (by omega) hc110_17)]; exact B0⟩
  rintro _ ⟨T16, L16, h16, rfl, X16, e16, N16, B1⟩
  show Rch p e below (T16.setTop (mkF m 119 #[.val (.int p0), .val (.int p1), .val (.int p2), .val (.int p3), .val (.int p4), .val (.int (Int32.ofNat fr)), .val (.int (Int32.ofNat kk)), .val (.int (Int32.ofNat tl)), .val (.int cc), .val (.int dd), .val (.ref b3), .unset, .unset, .unset, .unset] [])) _
  generalize hf_f1 : (if 0 < fr then updI (fun _ => (10 : Int32)) 0 (nar .byte (p0.toInt8.toInt32)) else (fun _ => (10 : Int32))) = f1 at B1
  refine Rch.bind (P := fun B => ∃ (T' : State) (L' : List Loc) (h' : Heap), B = T'.setTop (mkF m 134 #[.val (.int p0), .val (.int p1), .val (.int p2), .val (.int p3), .val (.int p4), .val (.int (Int32.ofNat fr)), .val (.int (Int32.ofNat kk)), .val (.int (Int32.ofNat tl)), .val (.int cc), .val (.int dd), .val (.ref b3), .unset, .unset, .unset, .unset] []) ∧ Stand p l e room_1 s m #[(.int p0), (.int p1), (.int p2), (.int p3), (.int p4)] below meth c T' L' 1 12 ∧ T'.heap = h' ∧ Fr n0 L' ∧ BA Z h' b3 12 (if 1 < fr then updI f1 1 (nar .byte ((p0 >>> ((8 : Int32) &&& 31)).toInt8.toInt32)) else f1)) ?_ ?_
  · refine Rch.go (fun _ k => XS.iload X16.here hx rfl (hb hby at_119) rfl  k) ?_
    show Rch p e below (T16.setTop (mkF m 121 #[.val (.int p0), .val (.int p1), .val (.int p2), .val (.int p3), .val (.int p4), .val (.int (Int32.ofNat fr)), .val (.int (Int32.ofNat kk)), .val (.int (Int32.ofNat tl)), .val (.int cc), .val (.int dd), .val (.ref b3), .unset, .unset, .unset, .unset] [(.int (Int32.ofNat fr))])) _
    refine Rch.go (fun _ k => XS.iconst X16.here hx rfl (hb hby at_121) k) ?_
    show Rch p e below (T16.setTop (mkF m 122 #[.val (.int p0), .val (.int p1), .val (.int p2), .val (.int p3), .val (.int p4), .val (.int (Int32.ofNat fr)), .val (.int (Int32.ofNat kk)), .val (.int (Int32.ofNat tl)), .val (.int cc), .val (.int dd), .val (.ref b3), .unset, .unset, .unset, .unset] [(.int (1 : Int32)), (.int (Int32.ofNat fr))])) _
    by_cases hc122_20 : (1 : Int32) < (Int32.ofNat fr)
    · refine Rch.go (fun _ k => XS.icmpNo X16.here hx rfl (hb hby at_122) rfl (tlt hc122_20).2.2.2 k) ?_
      show Rch p e below (T16.setTop (mkF m 125 #[.val (.int p0), .val (.int p1), .val (.int p2), .val (.int p3), .val (.int p4), .val (.int (Int32.ofNat fr)), .val (.int (Int32.ofNat kk)), .val (.int (Int32.ofNat tl)), .val (.int cc), .val (.int dd), .val (.ref b3), .unset, .unset, .unset, .unset] [])) _
      refine Rch.go (fun _ k => XS.aload X16.here hx rfl (hb hby at_125) rfl rfl k) ?_
      show Rch p e below (T16.setTop (mkF m 127 #[.val (.int p0), .val (.int p1), .val (.int p2), .val (.int p3), .val (.int p4), .val (.int (Int32.ofNat fr)), .val (.int (Int32.ofNat kk)), .val (.int (Int32.ofNat tl)), .val (.int cc), .val (.int dd), .val (.ref b3), .unset, .unset, .unset, .unset] [(.ref b3)])) _
      refine Rch.go (fun _ k => XS.iconst X16.here hx rfl (hb hby at_127) k) ?_
      show Rch p e below (T16.setTop (mkF m 128 #[.val (.int p0), .val (.int p1), .val (.int p2), .val (.int p3), .val (.int p4), .val (.int (Int32.ofNat fr)), .val (.int (Int32.ofNat kk)), .val (.int (Int32.ofNat tl)), .val (.int cc), .val (.int dd), .val (.ref b3), .unset, .unset, .unset, .unset] [(.int (1 : Int32)), (.ref b3)])) _
      refine Rch.go (fun _ k => XS.iloadN X16.here hx rfl (hb hby at_128) rfl  k) ?_
      show Rch p e below (T16.setTop (mkF m 129 #[.val (.int p0), .val (.int p1), .val (.int p2), .val (.int p3), .val (.int p4), .val (.int (Int32.ofNat fr)), .val (.int (Int32.ofNat kk)), .val (.int (Int32.ofNat tl)), .val (.int cc), .val (.int dd), .val (.ref b3), .unset, .unset, .unset, .unset] [(.int p0), (.int (1 : Int32)), (.ref b3)])) _
      refine Rch.go (fun _ k => XS.bipush X16.here hx rfl (hb hby at_129) k) ?_
      show Rch p e below (T16.setTop (mkF m 131 #[.val (.int p0), .val (.int p1), .val (.int p2), .val (.int p3), .val (.int p4), .val (.int (Int32.ofNat fr)), .val (.int (Int32.ofNat kk)), .val (.int (Int32.ofNat tl)), .val (.int cc), .val (.int dd), .val (.ref b3), .unset, .unset, .unset, .unset] [(.int (8 : Int32)), (.int p0), (.int (1 : Int32)), (.ref b3)])) _
      refine Rch.go (fun _ k => XS.ishr X16.here hx rfl (hb hby at_131) rfl k) ?_
      show Rch p e below (T16.setTop (mkF m 132 #[.val (.int p0), .val (.int p1), .val (.int p2), .val (.int p3), .val (.int p4), .val (.int (Int32.ofNat fr)), .val (.int (Int32.ofNat kk)), .val (.int (Int32.ofNat tl)), .val (.int cc), .val (.int dd), .val (.ref b3), .unset, .unset, .unset, .unset] [(.int (p0 >>> ((8 : Int32) &&& 31))), (.int (1 : Int32)), (.ref b3)])) _
      refine Rch.go (fun _ k => XS.i2b X16.here hx rfl (hb hby at_132) rfl k) ?_
      show Rch p e below (T16.setTop (mkF m 133 #[.val (.int p0), .val (.int p1), .val (.int p2), .val (.int p3), .val (.int p4), .val (.int (Int32.ofNat fr)), .val (.int (Int32.ofNat kk)), .val (.int (Int32.ofNat tl)), .val (.int cc), .val (.int dd), .val (.ref b3), .unset, .unset, .unset, .unset] [(.int ((p0 >>> ((8 : Int32) &&& 31)).toInt8.toInt32)), (.int (1 : Int32)), (.ref b3)])) _
      obtain ⟨cl21, Ar21, Sz21, At21⟩ := B1
      obtain ⟨T21, h21, X21, e21, W21, st21⟩ := stB X16 hx hZ e16 Ar21 (j := (1 : Int32)) (inb (k := 1) Sz21 (by decide) (by decide) (by omega)) (g := (mkF m 133 #[.val (.int p0), .val (.int p1), .val (.int p2), .val (.int p3), .val (.int p4), .val (.int (Int32.ofNat fr)), .val (.int (Int32.ofNat kk)), .val (.int (Int32.ofNat tl)), .val (.int cc), .val (.int dd), .val (.ref b3), .unset, .unset, .unset, .unset] [(.int ((p0 >>> ((8 : Int32) &&& 31)).toInt8.toInt32)), (.int (1 : Int32)), (.ref b3)])) rfl rfl (hb hby at_133)
      have B1 := BA.set ⟨cl21, Ar21, Sz21, At21⟩ (k := 1) (by decide) (by omega) W21
      have N21 := Fr.snoc X21 N16 g_b3
      refine Rch.go st21 ?_
      show Rch p e below (T21.setTop (mkF m 134 #[.val (.int p0), .val (.int p1), .val (.int p2), .val (.int p3), .val (.int p4), .val (.int (Int32.ofNat fr)), .val (.int (Int32.ofNat kk)), .val (.int (Int32.ofNat tl)), .val (.int cc), .val (.int dd), .val (.ref b3), .unset, .unset, .unset, .unset] [])) _
      exact Rch.here ⟨_, _, _, rfl, X21, e21, N21, by rw [if_pos (own_gt (a := 1) (by omega) (by omega) hc122_20)]; exact B1⟩
    · refine Rch.go (fun _ k => XS.icmpYes X16.here hx rfl (pc0 := 122) (pc' := 134) rfl (hb hby at_122) rfl (flt hc122_20).2.2.2 (by decide) (by decide) k) ?_
      show Rch p e below (T16.setTop (mkF m 134 #[.val (.int p0), .val (.int p1), .val (.int p2), .val (.int p3), .val (.int p4), .val (.int (Int32.ofNat fr)), .val (.int (Int32.ofNat kk)), .val (.int (Int32.ofNat tl)), .val (.int cc), .val (.int dd), .val (.ref b3), .unset, .unset, .unset, .unset] [])) _
      exact Rch.here ⟨_, _, _, rfl, X16, e16, N16, by rw [if_neg (own_ngt (a := 1) (by omega) (by omega) hc122_20)]; exact B1⟩
  rintro _ ⟨T19, L19, h19, rfl, X19, e19, N19, B2⟩
  show Rch p e below (T19.setTop (mkF m 134 #[.val (.int p0), .val (.int p1), .val (.int p2), .val (.int p3), .val (.int p4), .val (.int (Int32.ofNat fr)), .val (.int (Int32.ofNat kk)), .val (.int (Int32.ofNat tl)), .val (.int cc), .val (.int dd), .val (.ref b3), .unset, .unset, .unset, .unset] [])) _
  generalize hf_f2 : (if 1 < fr then updI f1 1 (nar .byte ((p0 >>> ((8 : Int32) &&& 31)).toInt8.toInt32)) else f1) = f2 at B2
  refine Rch.bind (P := fun B => ∃ (T' : State) (L' : List Loc) (h' : Heap), B = T'.setTop (mkF m 149 #[.val (.int p0), .val (.int p1), .val (.int p2), .val (.int p3), .val (.int p4), .val (.int (Int32.ofNat fr)), .val (.int (Int32.ofNat kk)), .val (.int (Int32.ofNat tl)), .val (.int cc), .val (.int dd), .val (.ref b3), .unset, .unset, .unset, .unset] []) ∧ Stand p l e room_1 s m #[(.int p0), (.int p1), (.int p2), (.int p3), (.int p4)] below meth c T' L' 1 12 ∧ T'.heap = h' ∧ Fr n0 L' ∧ BA Z h' b3 12 (if 2 < fr then updI f2 2 (nar .byte ((p0 >>> ((16 : Int32) &&& 31)).toInt8.toInt32)) else f2)) ?_ ?_
  · refine Rch.go (fun _ k => XS.iload X19.here hx rfl (hb hby at_134) rfl  k) ?_
    show Rch p e below (T19.setTop (mkF m 136 #[.val (.int p0), .val (.int p1), .val (.int p2), .val (.int p3), .val (.int p4), .val (.int (Int32.ofNat fr)), .val (.int (Int32.ofNat kk)), .val (.int (Int32.ofNat tl)), .val (.int cc), .val (.int dd), .val (.ref b3), .unset, .unset, .unset, .unset] [(.int (Int32.ofNat fr))])) _
    refine Rch.go (fun _ k => XS.iconst X19.here hx rfl (hb hby at_136) k) ?_
    show Rch p e below (T19.setTop (mkF m 137 #[.val (.int p0), .val (.int p1), .val (.int p2), .val (.int p3), .val (.int p4), .val (.int (Int32.ofNat fr)), .val (.int (Int32.ofNat kk)), .val (.int (Int32.ofNat tl)), .val (.int cc), .val (.int dd), .val (.ref b3), .unset, .unset, .unset, .unset] [(.int (2 : Int32)), (.int (Int32.ofNat fr))])) _
    by_cases hc137_23 : (2 : Int32) < (Int32.ofNat fr)
    · refine Rch.go (fun _ k => XS.icmpNo X19.here hx rfl (hb hby at_137) rfl (tlt hc137_23).2.2.2 k) ?_
      show Rch p e below (T19.setTop (mkF m 140 #[.val (.int p0), .val (.int p1), .val (.int p2), .val (.int p3), .val (.int p4), .val (.int (Int32.ofNat fr)), .val (.int (Int32.ofNat kk)), .val (.int (Int32.ofNat tl)), .val (.int cc), .val (.int dd), .val (.ref b3), .unset, .unset, .unset, .unset] [])) _
      refine Rch.go (fun _ k => XS.aload X19.here hx rfl (hb hby at_140) rfl rfl k) ?_
      show Rch p e below (T19.setTop (mkF m 142 #[.val (.int p0), .val (.int p1), .val (.int p2), .val (.int p3), .val (.int p4), .val (.int (Int32.ofNat fr)), .val (.int (Int32.ofNat kk)), .val (.int (Int32.ofNat tl)), .val (.int cc), .val (.int dd), .val (.ref b3), .unset, .unset, .unset, .unset] [(.ref b3)])) _
      refine Rch.go (fun _ k => XS.iconst X19.here hx rfl (hb hby at_142) k) ?_
      show Rch p e below (T19.setTop (mkF m 143 #[.val (.int p0), .val (.int p1), .val (.int p2), .val (.int p3), .val (.int p4), .val (.int (Int32.ofNat fr)), .val (.int (Int32.ofNat kk)), .val (.int (Int32.ofNat tl)), .val (.int cc), .val (.int dd), .val (.ref b3), .unset, .unset, .unset, .unset] [(.int (2 : Int32)), (.ref b3)])) _
      refine Rch.go (fun _ k => XS.iloadN X19.here hx rfl (hb hby at_143) rfl  k) ?_
      show Rch p e below (T19.setTop (mkF m 144 #[.val (.int p0), .val (.int p1), .val (.int p2), .val (.int p3), .val (.int p4), .val (.int (Int32.ofNat fr)), .val (.int (Int32.ofNat kk)), .val (.int (Int32.ofNat tl)), .val (.int cc), .val (.int dd), .val (.ref b3), .unset, .unset, .unset, .unset] [(.int p0), (.int (2 : Int32)), (.ref b3)])) _
      refine Rch.go (fun _ k => XS.bipush X19.here hx rfl (hb hby at_144) k) ?_
      show Rch p e below (T19.setTop (mkF m 146 #[.val (.int p0), .val (.int p1), .val (.int p2), .val (.int p3), .val (.int p4), .val (.int (Int32.ofNat fr)), .val (.int (Int32.ofNat kk)), .val (.int (Int32.ofNat tl)), .val (.int cc), .val (.int dd), .val (.ref b3), .unset, .unset, .unset, .unset] [(.int (16 : Int32)), (.int p0), (.int (2 : Int32)), (.ref b3)])) _
      refine Rch.go (fun _ k => XS.ishr X19.here hx rfl (hb hby at_146) rfl k) ?_
      show Rch p e below (T19.setTop (mkF m 147 #[.val (.int p0), .val (.int p1), .val (.int p2), .val (.int p3), .val (.int p4), .val (.int (Int32.ofNat fr)), .val (.int (Int32.ofNat kk)), .val (.int (Int32.ofNat tl)), .val (.int cc), .val (.int dd), .val (.ref b3), .unset, .unset, .unset, .unset] [(.int (p0 >>> ((16 : Int32) &&& 31))), (.int (2 : Int32)), (.ref b3)])) _
      refine Rch.go (fun _ k => XS.i2b X19.here hx rfl (hb hby at_147) rfl k) ?_
      show Rch p e below (T19.setTop (mkF m 148 #[.val (.int p0), .val (.int p1), .val (.int p2), .val (.int p3), .val (.int p4), .val (.int (Int32.ofNat fr)), .val (.int (Int32.ofNat kk)), .val (.int (Int32.ofNat tl)), .val (.int cc), .val (.int dd), .val (.ref b3), .unset, .unset, .unset, .unset] [(.int ((p0 >>> ((16 : Int32) &&& 31)).toInt8.toInt32)), (.int (2 : Int32)), (.ref b3)])) _
      obtain ⟨cl24, Ar24, Sz24, At24⟩ := B2
      obtain ⟨T24, h24, X24, e24, W24, st24⟩ := stB X19 hx hZ e19 Ar24 (j := (2 : Int32)) (inb (k := 2) Sz24 (by decide) (by decide) (by omega)) (g := (mkF m 148 #[.val (.int p0), .val (.int p1), .val (.int p2), .val (.int p3), .val (.int p4), .val (.int (Int32.ofNat fr)), .val (.int (Int32.ofNat kk)), .val (.int (Int32.ofNat tl)), .val (.int cc), .val (.int dd), .val (.ref b3), .unset, .unset, .unset, .unset] [(.int ((p0 >>> ((16 : Int32) &&& 31)).toInt8.toInt32)), (.int (2 : Int32)), (.ref b3)])) rfl rfl (hb hby at_148)
      have B2 := BA.set ⟨cl24, Ar24, Sz24, At24⟩ (k := 2) (by decide) (by omega) W24
      have N24 := Fr.snoc X24 N19 g_b3
      refine Rch.go st24 ?_
      show Rch p e below (T24.setTop (mkF m 149 #[.val (.int p0), .val (.int p1), .val (.int p2), .val (.int p3), .val (.int p4), .val (.int (Int32.ofNat fr)), .val (.int (Int32.ofNat kk)), .val (.int (Int32.ofNat tl)), .val (.int cc), .val (.int dd), .val (.ref b3), .unset, .unset, .unset, .unset] [])) _
      exact Rch.here ⟨_, _, _, rfl, X24, e24, N24, by rw [if_pos (own_gt (a := 2) (by omega) (by omega) hc137_23)]; exact B2⟩
    · refine Rch.go (fun _ k => XS.icmpYes X19.here hx rfl (pc0 := 137) (pc' := 149) rfl (hb hby at_137) rfl (flt hc137_23).2.2.2 (by decide) (by decide) k) ?_
      show Rch p e below (T19.setTop (mkF m 149 #[.val (.int p0), .val (.int p1), .val (.int p2), .val (.int p3), .val (.int p4), .val (.int (Int32.ofNat fr)), .val (.int (Int32.ofNat kk)), .val (.int (Int32.ofNat tl)), .val (.int cc), .val (.int dd), .val (.ref b3), .unset, .unset, .unset, .unset] [])) _
      exact Rch.here ⟨_, _, _, rfl, X19, e19, N19, by rw [if_neg (own_ngt (a := 2) (by omega) (by omega) hc137_23)]; exact B2⟩
  rintro _ ⟨T22, L22, h22, rfl, X22, e22, N22, B3⟩
  show Rch p e below (T22.setTop (mkF m 149 #[.val (.int p0), .val (.int p1), .val (.int p2), .val (.int p3), .val (.int p4), .val (.int (Int32.ofNat fr)), .val (.int (Int32.ofNat kk)), .val (.int (Int32.ofNat tl)), .val (.int cc), .val (.int dd), .val (.ref b3), .unset, .unset, .unset, .unset] [])) _
  generalize hf_f3 : (if 2 < fr then updI f2 2 (nar .byte ((p0 >>> ((16 : Int32) &&& 31)).toInt8.toInt32)) else f2) = f3 at B3
  refine Rch.go (fun _ k => XS.iload X22.here hx rfl (hb hby at_149) rfl  k) ?_
  show Rch p e below (T22.setTop (mkF m 151 #[.val (.int p0), .val (.int p1), .val (.int p2), .val (.int p3), .val (.int p4), .val (.int (Int32.ofNat fr)), .val (.int (Int32.ofNat kk)), .val (.int (Int32.ofNat tl)), .val (.int cc), .val (.int dd), .val (.ref b3), .unset, .unset, .unset, .unset] [(.int (Int32.ofNat fr))])) _
  refine Rch.go (fun _ k => XS.istore X22.here hx rfl (hb hby at_151) rfl (l' := #[.val (.int p0), .val (.int p1), .val (.int p2), .val (.int p3), .val (.int p4), .val (.int (Int32.ofNat fr)), .val (.int (Int32.ofNat kk)), .val (.int (Int32.ofNat tl)), .val (.int cc), .val (.int dd), .val (.ref b3), .val (.int (Int32.ofNat fr)), .unset, .unset, .unset]) rfl k) ?_
  show Rch p e below (T22.setTop (mkF m 153 #[.val (.int p0), .val (.int p1), .val (.int p2), .val (.int p3), .val (.int p4), .val (.int (Int32.ofNat fr)), .val (.int (Int32.ofNat kk)), .val (.int (Int32.ofNat tl)), .val (.int cc), .val (.int dd), .val (.ref b3), .val (.int (Int32.ofNat fr)), .unset, .unset, .unset] [])) _
  refine Rch.bind (P := fun B => ∃ (T' : State) (L' : List Loc) (h' : Heap), B = T'.setTop (mkF m 178 #[.val (.int p0), .val (.int p1), .val (.int p2), .val (.int p3), .val (.int p4), .val (.int (Int32.ofNat fr)), .val (.int (Int32.ofNat kk)), .val (.int (Int32.ofNat tl)), .val (.int cc), .val (.int dd), .val (.ref b3), .val (.int (Int32.ofNat (if 0 < kk then own_putq fr (own_z p1 (1 : Int32)) else fr))), .unset, .unset, .unset] []) ∧ Stand p l e room_1 s m #[(.int p0), (.int p1), (.int p2), (.int p3), (.int p4)] below meth c T' L' 1 12 ∧ T'.heap = h' ∧ Fr n0 L' ∧ BA Z h' b3 12 (if 0 < kk then own_putf f3 fr (own_z p1 (1 : Int32)) else f3)) ?_ ?_
  · refine Rch.go (fun _ k => XS.iload X22.here hx rfl (hb hby at_153) rfl  k) ?_
    show Rch p e below (T22.setTop (mkF m 155 #[.val (.int p0), .val (.int p1), .val (.int p2), .val (.int p3), .val (.int p4), .val (.int (Int32.ofNat fr)), .val (.int (Int32.ofNat kk)), .val (.int (Int32.ofNat tl)), .val (.int cc), .val (.int dd), .val (.ref b3), .val (.int (Int32.ofNat fr)), .unset, .unset, .unset] [(.int (Int32.ofNat kk))])) _
    by_cases hc155_26 : (0 : Int32) < (Int32.ofNat kk)
    · refine Rch.go (fun _ k => XS.ifNo X22.here hx rfl (hb hby at_155) rfl ((if0 _ _).trans (tlt hc155_26).2.2.2) k) ?_
      show Rch p e below (T22.setTop (mkF m 158 #[.val (.int p0), .val (.int p1), .val (.int p2), .val (.int p3), .val (.int p4), .val (.int (Int32.ofNat fr)), .val (.int (Int32.ofNat kk)), .val (.int (Int32.ofNat tl)), .val (.int cc), .val (.int dd), .val (.ref b3), .val (.int (Int32.ofNat fr)), .unset, .unset, .unset] [])) _
      refine Rch.go (fun _ k => XS.aload X22.here hx rfl (hb hby at_158) rfl rfl k) ?_
      show Rch p e below (T22.setTop (mkF m 160 #[.val (.int p0), .val (.int p1), .val (.int p2), .val (.int p3), .val (.int p4), .val (.int (Int32.ofNat fr)), .val (.int (Int32.ofNat kk)), .val (.int (Int32.ofNat tl)), .val (.int cc), .val (.int dd), .val (.ref b3), .val (.int (Int32.ofNat fr)), .unset, .unset, .unset] [(.ref b3)])) _
      refine Rch.go (fun _ k => XS.iload X22.here hx rfl (hb hby at_160) rfl  k) ?_
      show Rch p e below (T22.setTop (mkF m 162 #[.val (.int p0), .val (.int p1), .val (.int p2), .val (.int p3), .val (.int p4), .val (.int (Int32.ofNat fr)), .val (.int (Int32.ofNat kk)), .val (.int (Int32.ofNat tl)), .val (.int cc), .val (.int dd), .val (.ref b3), .val (.int (Int32.ofNat fr)), .unset, .unset, .unset] [(.int (Int32.ofNat fr)), (.ref b3)])) _
      have hj28 : ∀ P', Rch p e below (T22.setTop (mkF m 173 #[.val (.int p0), .val (.int p1), .val (.int p2), .val (.int p3), .val (.int p4), .val (.int (Int32.ofNat fr)), .val (.int (Int32.ofNat kk)), .val (.int (Int32.ofNat tl)), .val (.int cc), .val (.int dd), .val (.ref b3), .val (.int (Int32.ofNat fr)), .unset, .unset, .unset] [(.int (own_zz173_S0 p1)), (.int (Int32.ofNat fr)), (.ref b3)])) P' → Rch p e below (T22.setTop (mkF m 162 #[.val (.int p0), .val (.int p1), .val (.int p2), .val (.int p3), .val (.int p4), .val (.int (Int32.ofNat fr)), .val (.int (Int32.ofNat kk)), .val (.int (Int32.ofNat tl)), .val (.int cc), .val (.int dd), .val (.ref b3), .val (.int (Int32.ofNat fr)), .unset, .unset, .unset] [(.int (Int32.ofNat fr)), (.ref b3)])) P' := by
        intro P' kt
        refine Rch.go (fun _ k => XS.iloadN X22.here hx rfl (hb hby at_162) rfl  k) ?_
        show Rch p e below (T22.setTop (mkF m 163 #[.val (.int p0), .val (.int p1), .val (.int p2), .val (.int p3), .val (.int p4), .val (.int (Int32.ofNat fr)), .val (.int (Int32.ofNat kk)), .val (.int (Int32.ofNat tl)), .val (.int cc), .val (.int dd), .val (.ref b3), .val (.int (Int32.ofNat fr)), .unset, .unset, .unset] [(.int p1), (.int (Int32.ofNat fr)), (.ref b3)])) _
        refine Rch.go (fun _ k => XS.iconst X22.here hx rfl (hb hby at_163) k) ?_
        show Rch p e below (T22.setTop (mkF m 164 #[.val (.int p0), .val (.int p1), .val (.int p2), .val (.int p3), .val (.int p4), .val (.int (Int32.ofNat fr)), .val (.int (Int32.ofNat kk)), .val (.int (Int32.ofNat tl)), .val (.int cc), .val (.int dd), .val (.ref b3), .val (.int (Int32.ofNat fr)), .unset, .unset, .unset] [(.int (1 : Int32)), (.int p1), (.int (Int32.ofNat fr)), (.ref b3)])) _
        refine Rch.go (fun _ k => XS.iand X22.here hx rfl (hb hby at_164) rfl k) ?_
        show Rch p e below (T22.setTop (mkF m 165 #[.val (.int p0), .val (.int p1), .val (.int p2), .val (.int p3), .val (.int p4), .val (.int (Int32.ofNat fr)), .val (.int (Int32.ofNat kk)), .val (.int (Int32.ofNat tl)), .val (.int cc), .val (.int dd), .val (.ref b3), .val (.int (Int32.ofNat fr)), .unset, .unset, .unset] [(.int (p1 &&& (1 : Int32))), (.int (Int32.ofNat fr)), (.ref b3)])) _
        by_cases hc165_27 : (p1 &&& (1 : Int32)) = (0 : Int32)
        · refine Rch.go (fun _ k => XS.ifYes X22.here hx rfl (pc0 := 165) (pc' := 172) rfl (hb hby at_165) rfl ((if0 _ _).trans (teq hc165_27).1) (by decide) (by decide) k) ?_
          show Rch p e below (T22.setTop (mkF m 172 #[.val (.int p0), .val (.int p1), .val (.int p2), .val (.int p3), .val (.int p4), .val (.int (Int32.ofNat fr)), .val (.int (Int32.ofNat kk)), .val (.int (Int32.ofNat tl)), .val (.int cc), .val (.int dd), .val (.ref b3), .val (.int (Int32.ofNat fr)), .unset, .unset, .unset] [(.int (Int32.ofNat fr)), (.ref b3)])) _
          refine Rch.go (fun _ k => XS.iconst X22.here hx rfl (hb hby at_172) k) ?_
          show Rch p e below (T22.setTop (mkF m 173 #[.val (.int p0), .val (.int p1), .val (.int p2), .val (.int p3), .val (.int p4), .val (.int (Int32.ofNat fr)), .val (.int (Int32.ofNat kk)), .val (.int (Int32.ofNat tl)), .val (.int cc), .val (.int dd), .val (.ref b3), .val (.int (Int32.ofNat fr)), .unset, .unset, .unset] [(.int (0 : Int32)), (.int (Int32.ofNat fr)), (.ref b3)])) _
          rw [show own_zz173_S0 p1 = (0 : Int32) from by simp only [own_zz173_S0, if_pos hc165_27]] at kt
          exact kt
        · refine Rch.go (fun _ k => XS.ifNo X22.here hx rfl (hb hby at_165) rfl ((if0 _ _).trans (feq hc165_27).1) k) ?_
          show Rch p e below (T22.setTop (mkF m 168 #[.val (.int p0), .val (.int p1), .val (.int p2), .val (.int p3), .val (.int p4), .val (.int (Int32.ofNat fr)), .val (.int (Int32.ofNat kk)), .val (.int (Int32.ofNat tl)), .val (.int cc), .val (.int dd), .val (.ref b3), .val (.int (Int32.ofNat fr)), .unset, .unset, .unset] [(.int (Int32.ofNat fr)), (.ref b3)])) _
          refine Rch.go (fun _ k => XS.iconst X22.here hx rfl (hb hby at_168) k) ?_
          show Rch p e below (T22.setTop (mkF m 169 #[.val (.int p0), .val (.int p1), .val (.int p2), .val (.int p3), .val (.int p4), .val (.int (Int32.ofNat fr)), .val (.int (Int32.ofNat kk)), .val (.int (Int32.ofNat tl)), .val (.int cc), .val (.int dd), .val (.ref b3), .val (.int (Int32.ofNat fr)), .unset, .unset, .unset] [(.int (1 : Int32)), (.int (Int32.ofNat fr)), (.ref b3)])) _
          refine Rch.go (fun _ k => XS.goto X22.here hx rfl (pc0 := 169) (pc' := 173) rfl (hb hby at_169) (by decide) (by decide) k) ?_
          show Rch p e below (T22.setTop (mkF m 173 #[.val (.int p0), .val (.int p1), .val (.int p2), .val (.int p3), .val (.int p4), .val (.int (Int32.ofNat fr)), .val (.int (Int32.ofNat kk)), .val (.int (Int32.ofNat tl)), .val (.int cc), .val (.int dd), .val (.ref b3), .val (.int (Int32.ofNat fr)), .unset, .unset, .unset] [(.int (1 : Int32)), (.int (Int32.ofNat fr)), (.ref b3)])) _
          rw [show own_zz173_S0 p1 = (1 : Int32) from by simp only [own_zz173_S0, if_neg hc165_27]] at kt
          exact kt
      refine hj28 _ ?_
      show Rch p e below (T22.setTop (mkF m 173 #[.val (.int p0), .val (.int p1), .val (.int p2), .val (.int p3), .val (.int p4), .val (.int (Int32.ofNat fr)), .val (.int (Int32.ofNat kk)), .val (.int (Int32.ofNat tl)), .val (.int cc), .val (.int dd), .val (.ref b3), .val (.int (Int32.ofNat fr)), .unset, .unset, .unset] [(.int (own_zz173_S0 p1)), (.int (Int32.ofNat fr)), (.ref b3)])) _
      rw [show (own_zz173_S0 p1) = (own_z p1 (1 : Int32)) from rfl]
      show Rch p e below (T22.setTop (mkF m 173 #[.val (.int p0), .val (.int p1), .val (.int p2), .val (.int p3), .val (.int p4), .val (.int (Int32.ofNat fr)), .val (.int (Int32.ofNat kk)), .val (.int (Int32.ofNat tl)), .val (.int cc), .val (.int dd), .val (.ref b3), .val (.int (Int32.ofNat fr)), .unset, .unset, .unset] [(.int (own_z p1 (1 : Int32))), (.int (Int32.ofNat fr)), (.ref b3)])) _
      refine Rch.callS X22 hx hZ hown (hw _ (List.mem_of_getElem? (i := 9) rfl)) (hw _ (List.mem_of_getElem? (i := 10) rfl)) (hw _ (List.mem_of_getElem? (i := 2) rfl)) (hw _ (List.mem_of_getElem? (i := 11) rfl)) (by decide) (rm3 l Z a0 hw [] b3 fr (own_z p1 (1 : Int32)) f3 h22 n0 (Nat.le_of_lt (Nat.lt_of_le_of_lt g_b3 B3.lt)) (by omega) g_b3 B3) 0 (by decide) (by decide) (by decide) (by decide) e22 (g := (mkF m 173 #[.val (.int p0), .val (.int p1), .val (.int p2), .val (.int p3), .val (.int p4), .val (.int (Int32.ofNat fr)), .val (.int (Int32.ofNat kk)), .val (.int (Int32.ofNat tl)), .val (.int cc), .val (.int dd), .val (.ref b3), .val (.int (Int32.ofNat fr)), .unset, .unset, .unset] [(.int (own_z p1 (1 : Int32))), (.int (Int32.ofNat fr)), (.ref b3)])) rfl (by rw [hml]; rfl) [(.ref b3), (.int (Int32.ofNat fr)), (.int (own_z p1 (1 : Int32)))] [] rfl (lenOf pd0_1 rfl) rfl (by show 2 * 0 + _ ≤ _; exact Nat.le_of_eq rfl) (hb hby at_173) ?_
      intro v29 T29 L29 X29 hQ29
      obtain ⟨rfl, N29q, K29, B3⟩ := hQ29
      have N29 := Fr.app N22 N29q
      show Rch p e below (T29.setTop (mkF m 176 #[.val (.int p0), .val (.int p1), .val (.int p2), .val (.int p3), .val (.int p4), .val (.int (Int32.ofNat fr)), .val (.int (Int32.ofNat kk)), .val (.int (Int32.ofNat tl)), .val (.int cc), .val (.int dd), .val (.ref b3), .val (.int (Int32.ofNat fr)), .unset, .unset, .unset] [(.int (Int32.ofNat (own_putq fr (own_z p1 (1 : Int32)))))])) _
      refine Rch.go (fun _ k => XS.istore X29.here hx rfl (hb hby at_176) rfl (l' := #[.val (.int p0), .val (.int p1), .val (.int p2), .val (.int p3), .val (.int p4), .val (.int (Int32.ofNat fr)), .val (.int (Int32.ofNat kk)), .val (.int (Int32.ofNat tl)), .val (.int cc), .val (.int dd), .val (.ref b3), .val (.int (Int32.ofNat (own_putq fr (own_z p1 (1 : Int32))))), .unset, .unset, .unset]) rfl k) ?_
      show Rch p e below (T29.setTop (mkF m 178 #[.val (.int p0), .val (.int p1), .val (.int p2), .val (.int p3), .val (.int p4), .val (.int (Int32.ofNat fr)), .val (.int (Int32.ofNat kk)), .val (.int (Int32.ofNat tl)), .val (.int cc), .val (.int dd), .val (.ref b3), .val (.int (Int32.ofNat (own_putq fr (own_z p1 (1 : Int32))))), .unset, .unset, .unset] [])) _
      exact Rch.here ⟨_, _, _, by rw [if_pos (own_gt (a := 0) (by omega) (by omega) hc155_26)], X29, rfl, N29, by rw [if_pos (own_gt (a := 0) (by omega) (by omega) hc155_26)]; exact B3⟩
    · refine Rch.go (fun _ k => XS.ifYes X22.here hx rfl (pc0 := 155) (pc' := 178) rfl (hb hby at_155) rfl ((if0 _ _).trans (flt hc155_26).2.2.2) (by decide) (by decide) k) ?_
      show Rch p e below (T22.setTop (mkF m 178 #[.val (.int p0), .val (.int p1), .val (.int p2), .val (.int p3), .val (.int p4), .val (.int (Int32.ofNat fr)), .val (.int (Int32.ofNat kk)), .val (.int (Int32.ofNat tl)), .val (.int cc), .val (.int dd), .val (.ref b3), .val (.int (Int32.ofNat fr)), .unset, .unset, .unset] [])) _
      exact Rch.here ⟨_, _, _, by rw [if_neg (own_ngt (a := 0) (by omega) (by omega) hc155_26)], X22, e22, N22, by rw [if_neg (own_ngt (a := 0) (by omega) (by omega) hc155_26)]; exact B3⟩
  rintro _ ⟨T25, L25, h25, rfl, X25, e25, N25, B4⟩
  show Rch p e below (T25.setTop (mkF m 178 #[.val (.int p0), .val (.int p1), .val (.int p2), .val (.int p3), .val (.int p4), .val (.int (Int32.ofNat fr)), .val (.int (Int32.ofNat kk)), .val (.int (Int32.ofNat tl)), .val (.int cc), .val (.int dd), .val (.ref b3), .val (.int (Int32.ofNat (if 0 < kk then own_putq fr (own_z p1 (1 : Int32)) else fr))), .unset, .unset, .unset] [])) _
  have hbq1 : (if 0 < kk then own_putq fr (own_z p1 (1 : Int32)) else fr) ≤ fr + 2 := own_le _ _ _
  generalize hq_q1 : (if 0 < kk then own_putq fr (own_z p1 (1 : Int32)) else fr) = q1
  rw [hq_q1] at hbq1
  generalize hf_f4 : (if 0 < kk then own_putf f3 fr (own_z p1 (1 : Int32)) else f3) = f4 at B4
  show Rch p e below (T25.setTop (mkF m 178 #[.val (.int p0), .val (.int p1), .val (.int p2), .val (.int p3), .val (.int p4), .val (.int (Int32.ofNat fr)), .val (.int (Int32.ofNat kk)), .val (.int (Int32.ofNat tl)), .val (.int cc), .val (.int dd), .val (.ref b3), .val (.int (Int32.ofNat q1)), .unset, .unset, .unset] [])) _
  refine Rch.bind (P := fun B => ∃ (T' : State) (L' : List Loc) (h' : Heap), B = T'.setTop (mkF m 204 #[.val (.int p0), .val (.int p1), .val (.int p2), .val (.int p3), .val (.int p4), .val (.int (Int32.ofNat fr)), .val (.int (Int32.ofNat kk)), .val (.int (Int32.ofNat tl)), .val (.int cc), .val (.int dd), .val (.ref b3), .val (.int (Int32.ofNat (if 1 < kk then own_putq q1 (own_z p1 (2 : Int32)) else q1))), .unset, .unset, .unset] []) ∧ Stand p l e room_1 s m #[(.int p0), (.int p1), (.int p2), (.int p3), (.int p4)] below meth c T' L' 1 12 ∧ T'.heap = h' ∧ Fr n0 L' ∧ BA Z h' b3 12 (if 1 < kk then own_putf f4 q1 (own_z p1 (2 : Int32)) else f4)) ?_ ?_
  · refine Rch.go (fun _ k => XS.iload X25.here hx rfl (hb hby at_178) rfl  k) ?_
    show Rch p e below (T25.setTop (mkF m 180 #[.val (.int p0), .val (.int p1), .val (.int p2), .val (.int p3), .val (.int p4), .val (.int (Int32.ofNat fr)), .val (.int (Int32.ofNat kk)), .val (.int (Int32.ofNat tl)), .val (.int cc), .val (.int dd), .val (.ref b3), .val (.int (Int32.ofNat q1)), .unset, .unset, .unset] [(.int (Int32.ofNat kk))])) _
    refine Rch.go (fun _ k => XS.iconst X25.here hx rfl (hb hby at_180) k) ?_
    show Rch p e below (T25.setTop (mkF m 181 #[.val (.int p0), .val (.int p1), .val (.int p2), .val (.int p3), .val (.int p4), .val (.int (Int32.ofNat fr)), .val (.int (Int32.ofNat kk)), .val (.int (Int32.ofNat tl)), .val (.int cc), .val (.int dd), .val (.ref b3), .val (.int (Int32.ofNat q1)), .unset, .unset, .unset] [(.int (1 : Int32)), (.int (Int32.ofNat kk))])) _
    by_cases hc181_31 : (1 : Int32) < (Int32.ofNat kk)
    · refine Rch.go (fun _ k => XS.icmpNo X25.here hx rfl (hb hby at_181) rfl (tlt hc181_31).2.2.2 k) ?_
      show Rch p e below (T25.setTop (mkF m 184 #[.val (.int p0), .val (.int p1), .val (.int p2), .val (.int p3), .val (.int p4), .val (.int (Int32.ofNat fr)), .val (.int (Int32.ofNat kk)), .val (.int (Int32.ofNat tl)), .val (.int cc), .val (.int dd), .val (.ref b3), .val (.int (Int32.ofNat q1)), .unset, .unset, .unset] [])) _
      refine Rch.go (fun _ k => XS.aload X25.here hx rfl (hb hby at_184) rfl rfl k) ?_
      show Rch p e below (T25.setTop (mkF m 186 #[.val (.int p0), .val (.int p1), .val (.int p2), .val (.int p3), .val (.int p4), .val (.int (Int32.ofNat fr)), .val (.int (Int32.ofNat kk)), .val (.int (Int32.ofNat tl)), .val (.int cc), .val (.int dd), .val (.ref b3), .val (.int (Int32.ofNat q1)), .unset, .unset, .unset] [(.ref b3)])) _
      refine Rch.go (fun _ k => XS.iload X25.here hx rfl (hb hby at_186) rfl  k) ?_
      show Rch p e below (T25.setTop (mkF m 188 #[.val (.int p0), .val (.int p1), .val (.int p2), .val (.int p3), .val (.int p4), .val (.int (Int32.ofNat fr)), .val (.int (Int32.ofNat kk)), .val (.int (Int32.ofNat tl)), .val (.int cc), .val (.int dd), .val (.ref b3), .val (.int (Int32.ofNat q1)), .unset, .unset, .unset] [(.int (Int32.ofNat q1)), (.ref b3)])) _
      have hj33 : ∀ P', Rch p e below (T25.setTop (mkF m 199 #[.val (.int p0), .val (.int p1), .val (.int p2), .val (.int p3), .val (.int p4), .val (.int (Int32.ofNat fr)), .val (.int (Int32.ofNat kk)), .val (.int (Int32.ofNat tl)), .val (.int cc), .val (.int dd), .val (.ref b3), .val (.int (Int32.ofNat q1)), .unset, .unset, .unset] [(.int (own_zz199_S0 p1)), (.int (Int32.ofNat q1)), (.ref b3)])) P' → Rch p e below (T25.setTop (mkF m 188 #[.val (.int p0), .val (.int p1), .val (.int p2), .val (.int p3), .val (.int p4), .val (.int (Int32.ofNat fr)), .val (.int (Int32.ofNat kk)), .val (.int (Int32.ofNat tl)), .val (.int cc), .val (.int dd), .val (.ref b3), .val (.int (Int32.ofNat q1)), .unset, .unset, .unset] [(.int (Int32.ofNat q1)), (.ref b3)])) P' := by
        intro P' kt
        refine Rch.go (fun _ k => XS.iloadN X25.here hx rfl (hb hby at_188) rfl  k) ?_
        show Rch p e below (T25.setTop (mkF m 189 #[.val (.int p0), .val (.int p1), .val (.int p2), .val (.int p3), .val (.int p4), .val (.int (Int32.ofNat fr)), .val (.int (Int32.ofNat kk)), .val (.int (Int32.ofNat tl)), .val (.int cc), .val (.int dd), .val (.ref b3), .val (.int (Int32.ofNat q1)), .unset, .unset, .unset] [(.int p1), (.int (Int32.ofNat q1)), (.ref b3)])) _
        refine Rch.go (fun _ k => XS.iconst X25.here hx rfl (hb hby at_189) k) ?_
        show Rch p e below (T25.setTop (mkF m 190 #[.val (.int p0), .val (.int p1), .val (.int p2), .val (.int p3), .val (.int p4), .val (.int (Int32.ofNat fr)), .val (.int (Int32.ofNat kk)), .val (.int (Int32.ofNat tl)), .val (.int cc), .val (.int dd), .val (.ref b3), .val (.int (Int32.ofNat q1)), .unset, .unset, .unset] [(.int (2 : Int32)), (.int p1), (.int (Int32.ofNat q1)), (.ref b3)])) _
        refine Rch.go (fun _ k => XS.iand X25.here hx rfl (hb hby at_190) rfl k) ?_
        show Rch p e below (T25.setTop (mkF m 191 #[.val (.int p0), .val (.int p1), .val (.int p2), .val (.int p3), .val (.int p4), .val (.int (Int32.ofNat fr)), .val (.int (Int32.ofNat kk)), .val (.int (Int32.ofNat tl)), .val (.int cc), .val (.int dd), .val (.ref b3), .val (.int (Int32.ofNat q1)), .unset, .unset, .unset] [(.int (p1 &&& (2 : Int32))), (.int (Int32.ofNat q1)), (.ref b3)])) _
        by_cases hc191_32 : (p1 &&& (2 : Int32)) = (0 : Int32)
        · refine Rch.go (fun _ k => XS.ifYes X25.here hx rfl (pc0 := 191) (pc' := 198) rfl (hb hby at_191) rfl ((if0 _ _).trans (teq hc191_32).1) (by decide) (by decide) k) ?_
          show Rch p e below (T25.setTop (mkF m 198 #[.val (.int p0), .val (.int p1), .val (.int p2), .val (.int p3), .val (.int p4), .val (.int (Int32.ofNat fr)), .val (.int (Int32.ofNat kk)), .val (.int (Int32.ofNat tl)), .val (.int cc), .val (.int dd), .val (.ref b3), .val (.int (Int32.ofNat q1)), .unset, .unset, .unset] [(.int (Int32.ofNat q1)), (.ref b3)])) _
          refine Rch.go (fun _ k => XS.iconst X25.here hx rfl (hb hby at_198) k) ?_
          show Rch p e below (T25.setTop (mkF m 199 #[.val (.int p0), .val (.int p1), .val (.int p2), .val (.int p3), .val (.int p4), .val (.int (Int32.ofNat fr)), .val (.int (Int32.ofNat kk)), .val (.int (Int32.ofNat tl)), .val (.int cc), .val (.int dd), .val (.ref b3), .val (.int (Int32.ofNat q1)), .unset, .unset, .unset] [(.int (0 : Int32)), (.int (Int32.ofNat q1)), (.ref b3)])) _
          rw [show own_zz199_S0 p1 = (0 : Int32) from by simp only [own_zz199_S0, if_pos hc191_32]] at kt
          exact kt
        · refine Rch.go (fun _ k => XS.ifNo X25.here hx rfl (hb hby at_191) rfl ((if0 _ _).trans (feq hc191_32).1) k) ?_
          show Rch p e below (T25.setTop (mkF m 194 #[.val (.int p0), .val (.int p1), .val (.int p2), .val (.int p3), .val (.int p4), .val (.int (Int32.ofNat fr)), .val (.int (Int32.ofNat kk)), .val (.int (Int32.ofNat tl)), .val (.int cc), .val (.int dd), .val (.ref b3), .val (.int (Int32.ofNat q1)), .unset, .unset, .unset] [(.int (Int32.ofNat q1)), (.ref b3)])) _
          refine Rch.go (fun _ k => XS.iconst X25.here hx rfl (hb hby at_194) k) ?_
          show Rch p e below (T25.setTop (mkF m 195 #[.val (.int p0), .val (.int p1), .val (.int p2), .val (.int p3), .val (.int p4), .val (.int (Int32.ofNat fr)), .val (.int (Int32.ofNat kk)), .val (.int (Int32.ofNat tl)), .val (.int cc), .val (.int dd), .val (.ref b3), .val (.int (Int32.ofNat q1)), .unset, .unset, .unset] [(.int (1 : Int32)), (.int (Int32.ofNat q1)), (.ref b3)])) _
          refine Rch.go (fun _ k => XS.goto X25.here hx rfl (pc0 := 195) (pc' := 199) rfl (hb hby at_195) (by decide) (by decide) k) ?_
          show Rch p e below (T25.setTop (mkF m 199 #[.val (.int p0), .val (.int p1), .val (.int p2), .val (.int p3), .val (.int p4), .val (.int (Int32.ofNat fr)), .val (.int (Int32.ofNat kk)), .val (.int (Int32.ofNat tl)), .val (.int cc), .val (.int dd), .val (.ref b3), .val (.int (Int32.ofNat q1)), .unset, .unset, .unset] [(.int (1 : Int32)), (.int (Int32.ofNat q1)), (.ref b3)])) _
          rw [show own_zz199_S0 p1 = (1 : Int32) from by simp only [own_zz199_S0, if_neg hc191_32]] at kt
          exact kt
      refine hj33 _ ?_
      show Rch p e below (T25.setTop (mkF m 199 #[.val (.int p0), .val (.int p1), .val (.int p2), .val (.int p3), .val (.int p4), .val (.int (Int32.ofNat fr)), .val (.int (Int32.ofNat kk)), .val (.int (Int32.ofNat tl)), .val (.int cc), .val (.int dd), .val (.ref b3), .val (.int (Int32.ofNat q1)), .unset, .unset, .unset] [(.int (own_zz199_S0 p1)), (.int (Int32.ofNat q1)), (.ref b3)])) _
      rw [show (own_zz199_S0 p1) = (own_z p1 (2 : Int32)) from rfl]
      show Rch p e below (T25.setTop (mkF m 199 #[.val (.int p0), .val (.int p1), .val (.int p2), .val (.int p3), .val (.int p4), .val (.int (Int32.ofNat fr)), .val (.int (Int32.ofNat kk)), .val (.int (Int32.ofNat tl)), .val (.int cc), .val (.int dd), .val (.ref b3), .val (.int (Int32.ofNat q1)), .unset, .unset, .unset] [(.int (own_z p1 (2 : Int32))), (.int (Int32.ofNat q1)), (.ref b3)])) _
      refine Rch.callS X25 hx hZ hown (hw _ (List.mem_of_getElem? (i := 9) rfl)) (hw _ (List.mem_of_getElem? (i := 10) rfl)) (hw _ (List.mem_of_getElem? (i := 2) rfl)) (hw _ (List.mem_of_getElem? (i := 11) rfl)) (by decide) (rm3 l Z a0 hw [] b3 q1 (own_z p1 (2 : Int32)) f4 h25 n0 (Nat.le_of_lt (Nat.lt_of_le_of_lt g_b3 B4.lt)) (by omega) g_b3 B4) 0 (by decide) (by decide) (by decide) (by decide) e25 (g := (mkF m 199 #[.val (.int p0), .val (.int p1), .val (.int p2), .val (.int p3), .val (.int p4), .val (.int (Int32.ofNat fr)), .val (.int (Int32.ofNat kk)), .val (.int (Int32.ofNat tl)), .val (.int cc), .val (.int dd), .val (.ref b3), .val (.int (Int32.ofNat q1)), .unset, .unset, .unset] [(.int (own_z p1 (2 : Int32))), (.int (Int32.ofNat q1)), (.ref b3)])) rfl (by rw [hml]; rfl) [(.ref b3), (.int (Int32.ofNat q1)), (.int (own_z p1 (2 : Int32)))] [] rfl (lenOf pd0_1 rfl) rfl (by show 2 * 0 + _ ≤ _; exact Nat.le_of_eq rfl) (hb hby at_199) ?_
      intro v34 T34 L34 X34 hQ34
      obtain ⟨rfl, N34q, K34, B4⟩ := hQ34
      have N34 := Fr.app N25 N34q
      show Rch p e below (T34.setTop (mkF m 202 #[.val (.int p0), .val (.int p1), .val (.int p2), .val (.int p3), .val (.int p4), .val (.int (Int32.ofNat fr)), .val (.int (Int32.ofNat kk)), .val (.int (Int32.ofNat tl)), .val (.int cc), .val (.int dd), .val (.ref b3), .val (.int (Int32.ofNat q1)), .unset, .unset, .unset] [(.int (Int32.ofNat (own_putq q1 (own_z p1 (2 : Int32)))))])) _
      refine Rch.go (fun _ k => XS.istore X34.here hx rfl (hb hby at_202) rfl (l' := #[.val (.int p0), .val (.int p1), .val (.int p2), .val (.int p3), .val (.int p4), .val (.int (Int32.ofNat fr)), .val (.int (Int32.ofNat kk)), .val (.int (Int32.ofNat tl)), .val (.int cc), .val (.int dd), .val (.ref b3), .val (.int (Int32.ofNat (own_putq q1 (own_z p1 (2 : Int32))))), .unset, .unset, .unset]) rfl k) ?_
      show Rch p e below (T34.setTop (mkF m 204 #[.val (.int p0), .val (.int p1), .val (.int p2), .val (.int p3), .val (.int p4), .val (.int (Int32.ofNat fr)), .val (.int (Int32.ofNat kk)), .val (.int (Int32.ofNat tl)), .val (.int cc), .val (.int dd), .val (.ref b3), .val (.int (Int32.ofNat (own_putq q1 (own_z p1 (2 : Int32))))), .unset, .unset, .unset] [])) _
      exact Rch.here ⟨_, _, _, by rw [if_pos (own_gt (a := 1) (by omega) (by omega) hc181_31)], X34, rfl, N34, by rw [if_pos (own_gt (a := 1) (by omega) (by omega) hc181_31)]; exact B4⟩
    · refine Rch.go (fun _ k => XS.icmpYes X25.here hx rfl (pc0 := 181) (pc' := 204) rfl (hb hby at_181) rfl (flt hc181_31).2.2.2 (by decide) (by decide) k) ?_
      show Rch p e below (T25.setTop (mkF m 204 #[.val (.int p0), .val (.int p1), .val (.int p2), .val (.int p3), .val (.int p4), .val (.int (Int32.ofNat fr)), .val (.int (Int32.ofNat kk)), .val (.int (Int32.ofNat tl)), .val (.int cc), .val (.int dd), .val (.ref b3), .val (.int (Int32.ofNat q1)), .unset, .unset, .unset] [])) _
      exact Rch.here ⟨_, _, _, by rw [if_neg (own_ngt (a := 1) (by omega) (by omega) hc181_31)], X25, e25, N25, by rw [if_neg (own_ngt (a := 1) (by omega) (by omega) hc181_31)]; exact B4⟩
  rintro _ ⟨T30, L30, h30, rfl, X30, e30, N30, B5⟩
  show Rch p e below (T30.setTop (mkF m 204 #[.val (.int p0), .val (.int p1), .val (.int p2), .val (.int p3), .val (.int p4), .val (.int (Int32.ofNat fr)), .val (.int (Int32.ofNat kk)), .val (.int (Int32.ofNat tl)), .val (.int cc), .val (.int dd), .val (.ref b3), .val (.int (Int32.ofNat (if 1 < kk then own_putq q1 (own_z p1 (2 : Int32)) else q1))), .unset, .unset, .unset] [])) _
  have hbq2 : (if 1 < kk then own_putq q1 (own_z p1 (2 : Int32)) else q1) ≤ q1 + 2 := own_le _ _ _
  generalize hq_q2 : (if 1 < kk then own_putq q1 (own_z p1 (2 : Int32)) else q1) = q2
  rw [hq_q2] at hbq2
  generalize hf_f5 : (if 1 < kk then own_putf f4 q1 (own_z p1 (2 : Int32)) else f4) = f5 at B5
  show Rch p e below (T30.setTop (mkF m 204 #[.val (.int p0), .val (.int p1), .val (.int p2), .val (.int p3), .val (.int p4), .val (.int (Int32.ofNat fr)), .val (.int (Int32.ofNat kk)), .val (.int (Int32.ofNat tl)), .val (.int cc), .val (.int dd), .val (.ref b3), .val (.int (Int32.ofNat q2)), .unset, .unset, .unset] [])) _
  refine Rch.bind (P := fun B => ∃ (T' : State) (L' : List Loc) (h' : Heap), B = T'.setTop (mkF m 230 #[.val (.int p0), .val (.int p1), .val (.int p2), .val (.int p3), .val (.int p4), .val (.int (Int32.ofNat fr)), .val (.int (Int32.ofNat kk)), .val (.int (Int32.ofNat tl)), .val (.int cc), .val (.int dd), .val (.ref b3), .val (.int (Int32.ofNat (if 2 < kk then own_putq q2 (own_z p1 (4 : Int32)) else q2))), .unset, .unset, .unset] []) ∧ Stand p l e room_1 s m #[(.int p0), (.int p1), (.int p2), (.int p3), (.int p4)] below meth c T' L' 1 12 ∧ T'.heap = h' ∧ Fr n0 L' ∧ BA Z h' b3 12 (if 2 < kk then own_putf f5 q2 (own_z p1 (4 : Int32)) else f5)) ?_ ?_
  · refine Rch.go (fun _ k => XS.iload X30.here hx rfl (hb hby at_204) rfl  k) ?_
    show Rch p e below (T30.setTop (mkF m 206 #[.val (.int p0), .val (.int p1), .val (.int p2), .val (.int p3), .val (.int p4), .val (.int (Int32.ofNat fr)), .val (.int (Int32.ofNat kk)), .val (.int (Int32.ofNat tl)), .val (.int cc), .val (.int dd), .val (.ref b3), .val (.int (Int32.ofNat q2)), .unset, .unset, .unset] [(.int (Int32.ofNat kk))])) _
    refine Rch.go (fun _ k => XS.iconst X30.here hx rfl (hb hby at_206) k) ?_
    show Rch p e below (T30.setTop (mkF m 207 #[.val (.int p0), .val (.int p1), .val (.int p2), .val (.int p3), .val (.int p4), .val (.int (Int32.ofNat fr)), .val (.int (Int32.ofNat kk)), .val (.int (Int32.ofNat tl)), .val (.int cc), .val (.int dd), .val (.ref b3), .val (.int (Int32.ofNat q2)), .unset, .unset, .unset] [(.int (2 : Int32)), (.int (Int32.ofNat kk))])) _
    by_cases hc207_36 : (2 : Int32) < (Int32.ofNat kk)
    · refine Rch.go (fun _ k => XS.icmpNo X30.here hx rfl (hb hby at_207) rfl (tlt hc207_36).2.2.2 k) ?_
      show Rch p e below (T30.setTop (mkF m 210 #[.val (.int p0), .val (.int p1), .val (.int p2), .val (.int p3), .val (.int p4), .val (.int (Int32.ofNat fr)), .val (.int (Int32.ofNat kk)), .val (.int (Int32.ofNat tl)), .val (.int cc), .val (.int dd), .val (.ref b3), .val (.int (Int32.ofNat q2)), .unset, .unset, .unset] [])) _
      refine Rch.go (fun _ k => XS.aload X30.here hx rfl (hb hby at_210) rfl rfl k) ?_
      show Rch p e below (T30.setTop (mkF m 212 #[.val (.int p0), .val (.int p1), .val (.int p2), .val (.int p3), .val (.int p4), .val (.int (Int32.ofNat fr)), .val (.int (Int32.ofNat kk)), .val (.int (Int32.ofNat tl)), .val (.int cc), .val (.int dd), .val (.ref b3), .val (.int (Int32.ofNat q2)), .unset, .unset, .unset] [(.ref b3)])) _
      refine Rch.go (fun _ k => XS.iload X30.here hx rfl (hb hby at_212) rfl  k) ?_
      show Rch p e below (T30.setTop (mkF m 214 #[.val (.int p0), .val (.int p1), .val (.int p2), .val (.int p3), .val (.int p4), .val (.int (Int32.ofNat fr)), .val (.int (Int32.ofNat kk)), .val (.int (Int32.ofNat tl)), .val (.int cc), .val (.int dd), .val (.ref b3), .val (.int (Int32.ofNat q2)), .unset, .unset, .unset] [(.int (Int32.ofNat q2)), (.ref b3)])) _
      have hj38 : ∀ P', Rch p e below (T30.setTop (mkF m 225 #[.val (.int p0), .val (.int p1), .val (.int p2), .val (.int p3), .val (.int p4), .val (.int (Int32.ofNat fr)), .val (.int (Int32.ofNat kk)), .val (.int (Int32.ofNat tl)), .val (.int cc), .val (.int dd), .val (.ref b3), .val (.int (Int32.ofNat q2)), .unset, .unset, .unset] [(.int (own_zz225_S0 p1)), (.int (Int32.ofNat q2)), (.ref b3)])) P' → Rch p e below (T30.setTop (mkF m 214 #[.val (.int p0), .val (.int p1), .val (.int p2), .val (.int p3), .val (.int p4), .val (.int (Int32.ofNat fr)), .val (.int (Int32.ofNat kk)), .val (.int (Int32.ofNat tl)), .val (.int cc), .val (.int dd), .val (.ref b3), .val (.int (Int32.ofNat q2)), .unset, .unset, .unset] [(.int (Int32.ofNat q2)), (.ref b3)])) P' := by
        intro P' kt
        refine Rch.go (fun _ k => XS.iloadN X30.here hx rfl (hb hby at_214) rfl  k) ?_
        show Rch p e below (T30.setTop (mkF m 215 #[.val (.int p0), .val (.int p1), .val (.int p2), .val (.int p3), .val (.int p4), .val (.int (Int32.ofNat fr)), .val (.int (Int32.ofNat kk)), .val (.int (Int32.ofNat tl)), .val (.int cc), .val (.int dd), .val (.ref b3), .val (.int (Int32.ofNat q2)), .unset, .unset, .unset] [(.int p1), (.int (Int32.ofNat q2)), (.ref b3)])) _
        refine Rch.go (fun _ k => XS.iconst X30.here hx rfl (hb hby at_215) k) ?_
        show Rch p e below (T30.setTop (mkF m 216 #[.val (.int p0), .val (.int p1), .val (.int p2), .val (.int p3), .val (.int p4), .val (.int (Int32.ofNat fr)), .val (.int (Int32.ofNat kk)), .val (.int (Int32.ofNat tl)), .val (.int cc), .val (.int dd), .val (.ref b3), .val (.int (Int32.ofNat q2)), .unset, .unset, .unset] [(.int (4 : Int32)), (.int p1), (.int (Int32.ofNat q2)), (.ref b3)])) _
        refine Rch.go (fun _ k => XS.iand X30.here hx rfl (hb hby at_216) rfl k) ?_
        show Rch p e below (T30.setTop (mkF m 217 #[.val (.int p0), .val (.int p1), .val (.int p2), .val (.int p3), .val (.int p4), .val (.int (Int32.ofNat fr)), .val (.int (Int32.ofNat kk)), .val (.int (Int32.ofNat tl)), .val (.int cc), .val (.int dd), .val (.ref b3), .val (.int (Int32.ofNat q2)), .unset, .unset, .unset] [(.int (p1 &&& (4 : Int32))), (.int (Int32.ofNat q2)), (.ref b3)])) _
        by_cases hc217_37 : (p1 &&& (4 : Int32)) = (0 : Int32)
        · refine Rch.go (fun _ k => XS.ifYes X30.here hx rfl (pc0 := 217) (pc' := 224) rfl (hb hby at_217) rfl ((if0 _ _).trans (teq hc217_37).1) (by decide) (by decide) k) ?_
          show Rch p e below (T30.setTop (mkF m 224 #[.val (.int p0), .val (.int p1), .val (.int p2), .val (.int p3), .val (.int p4), .val (.int (Int32.ofNat fr)), .val (.int (Int32.ofNat kk)), .val (.int (Int32.ofNat tl)), .val (.int cc), .val (.int dd), .val (.ref b3), .val (.int (Int32.ofNat q2)), .unset, .unset, .unset] [(.int (Int32.ofNat q2)), (.ref b3)])) _
          refine Rch.go (fun _ k => XS.iconst X30.here hx rfl (hb hby at_224) k) ?_
          show Rch p e below (T30.setTop (mkF m 225 #[.val (.int p0), .val (.int p1), .val (.int p2), .val (.int p3), .val (.int p4), .val (.int (Int32.ofNat fr)), .val (.int (Int32.ofNat kk)), .val (.int (Int32.ofNat tl)), .val (.int cc), .val (.int dd), .val (.ref b3), .val (.int (Int32.ofNat q2)), .unset, .unset, .unset] [(.int (0 : Int32)), (.int (Int32.ofNat q2)), (.ref b3)])) _
          rw [show own_zz225_S0 p1 = (0 : Int32) from by simp only [own_zz225_S0, if_pos hc217_37]] at kt
          exact kt
        · refine Rch.go (fun _ k => XS.ifNo X30.here hx rfl (hb hby at_217) rfl ((if0 _ _).trans (feq hc217_37).1) k) ?_
          show Rch p e below (T30.setTop (mkF m 220 #[.val (.int p0), .val (.int p1), .val (.int p2), .val (.int p3), .val (.int p4), .val (.int (Int32.ofNat fr)), .val (.int (Int32.ofNat kk)), .val (.int (Int32.ofNat tl)), .val (.int cc), .val (.int dd), .val (.ref b3), .val (.int (Int32.ofNat q2)), .unset, .unset, .unset] [(.int (Int32.ofNat q2)), (.ref b3)])) _
          refine Rch.go (fun _ k => XS.iconst X30.here hx rfl (hb hby at_220) k) ?_
          show Rch p e below (T30.setTop (mkF m 221 #[.val (.int p0), .val (.int p1), .val (.int p2), .val (.int p3), .val (.int p4), .val (.int (Int32.ofNat fr)), .val (.int (Int32.ofNat kk)), .val (.int (Int32.ofNat tl)), .val (.int cc), .val (.int dd), .val (.ref b3), .val (.int (Int32.ofNat q2)), .unset, .unset, .unset] [(.int (1 : Int32)), (.int (Int32.ofNat q2)), (.ref b3)])) _
          refine Rch.go (fun _ k => XS.goto X30.here hx rfl (pc0 := 221) (pc' := 225) rfl (hb hby at_221) (by decide) (by decide) k) ?_
          show Rch p e below (T30.setTop (mkF m 225 #[.val (.int p0), .val (.int p1), .val (.int p2), .val (.int p3), .val (.int p4), .val (.int (Int32.ofNat fr)), .val (.int (Int32.ofNat kk)), .val (.int (Int32.ofNat tl)), .val (.int cc), .val (.int dd), .val (.ref b3), .val (.int (Int32.ofNat q2)), .unset, .unset, .unset] [(.int (1 : Int32)), (.int (Int32.ofNat q2)), (.ref b3)])) _
          rw [show own_zz225_S0 p1 = (1 : Int32) from by simp only [own_zz225_S0, if_neg hc217_37]] at kt
          exact kt
      refine hj38 _ ?_
      show Rch p e below (T30.setTop (mkF m 225 #[.val (.int p0), .val (.int p1), .val (.int p2), .val (.int p3), .val (.int p4), .val (.int (Int32.ofNat fr)), .val (.int (Int32.ofNat kk)), .val (.int (Int32.ofNat tl)), .val (.int cc), .val (.int dd), .val (.ref b3), .val (.int (Int32.ofNat q2)), .unset, .unset, .unset] [(.int (own_zz225_S0 p1)), (.int (Int32.ofNat q2)), (.ref b3)])) _
      rw [show (own_zz225_S0 p1) = (own_z p1 (4 : Int32)) from rfl]
      show Rch p e below (T30.setTop (mkF m 225 #[.val (.int p0), .val (.int p1), .val (.int p2), .val (.int p3), .val (.int p4), .val (.int (Int32.ofNat fr)), .val (.int (Int32.ofNat kk)), .val (.int (Int32.ofNat tl)), .val (.int cc), .val (.int dd), .val (.ref b3), .val (.int (Int32.ofNat q2)), .unset, .unset, .unset] [(.int (own_z p1 (4 : Int32))), (.int (Int32.ofNat q2)), (.ref b3)])) _
      refine Rch.callS X30 hx hZ hown (hw _ (List.mem_of_getElem? (i := 9) rfl)) (hw _ (List.mem_of_getElem? (i := 10) rfl)) (hw _ (List.mem_of_getElem? (i := 2) rfl)) (hw _ (List.mem_of_getElem? (i := 11) rfl)) (by decide) (rm3 l Z a0 hw [] b3 q2 (own_z p1 (4 : Int32)) f5 h30 n0 (Nat.le_of_lt (Nat.lt_of_le_of_lt g_b3 B5.lt)) (by omega) g_b3 B5) 0 (by decide) (by decide) (by decide) (by decide) e30 (g := (mkF m 225 #[.val (.int p0), .val (.int p1), .val (.int p2), .val (.int p3), .val (.int p4), .val (.int (Int32.ofNat fr)), .val (.int (Int32.ofNat kk)), .val (.int (Int32.ofNat tl)), .val (.int cc), .val (.int dd), .val (.ref b3), .val (.int (Int32.ofNat q2)), .unset, .unset, .unset] [(.int (own_z p1 (4 : Int32))), (.int (Int32.ofNat q2)), (.ref b3)])) rfl (by rw [hml]; rfl) [(.ref b3), (.int (Int32.ofNat q2)), (.int (own_z p1 (4 : Int32)))] [] rfl (lenOf pd0_1 rfl) rfl (by show 2 * 0 + _ ≤ _; exact Nat.le_of_eq rfl) (hb hby at_225) ?_
      intro v39 T39 L39 X39 hQ39
      obtain ⟨rfl, N39q, K39, B5⟩ := hQ39
      have N39 := Fr.app N30 N39q
      show Rch p e below (T39.setTop (mkF m 228 #[.val (.int p0), .val (.int p1), .val (.int p2), .val (.int p3), .val (.int p4), .val (.int (Int32.ofNat fr)), .val (.int (Int32.ofNat kk)), .val (.int (Int32.ofNat tl)), .val (.int cc), .val (.int dd), .val (.ref b3), .val (.int (Int32.ofNat q2)), .unset, .unset, .unset] [(.int (Int32.ofNat (own_putq q2 (own_z p1 (4 : Int32)))))])) _
      refine Rch.go (fun _ k => XS.istore X39.here hx rfl (hb hby at_228) rfl (l' := #[.val (.int p0), .val (.int p1), .val (.int p2), .val (.int p3), .val (.int p4), .val (.int (Int32.ofNat fr)), .val (.int (Int32.ofNat kk)), .val (.int (Int32.ofNat tl)), .val (.int cc), .val (.int dd), .val (.ref b3), .val (.int (Int32.ofNat (own_putq q2 (own_z p1 (4 : Int32))))), .unset, .unset, .unset]) rfl k) ?_
      show Rch p e below (T39.setTop (mkF m 230 #[.val (.int p0), .val (.int p1), .val (.int p2), .val (.int p3), .val (.int p4), .val (.int (Int32.ofNat fr)), .val (.int (Int32.ofNat kk)), .val (.int (Int32.ofNat tl)), .val (.int cc), .val (.int dd), .val (.ref b3), .val (.int (Int32.ofNat (own_putq q2 (own_z p1 (4 : Int32))))), .unset, .unset, .unset] [])) _
      exact Rch.here ⟨_, _, _, by rw [if_pos (own_gt (a := 2) (by omega) (by omega) hc207_36)], X39, rfl, N39, by rw [if_pos (own_gt (a := 2) (by omega) (by omega) hc207_36)]; exact B5⟩
    · refine Rch.go (fun _ k => XS.icmpYes X30.here hx rfl (pc0 := 207) (pc' := 230) rfl (hb hby at_207) rfl (flt hc207_36).2.2.2 (by decide) (by decide) k) ?_
      show Rch p e below (T30.setTop (mkF m 230 #[.val (.int p0), .val (.int p1), .val (.int p2), .val (.int p3), .val (.int p4), .val (.int (Int32.ofNat fr)), .val (.int (Int32.ofNat kk)), .val (.int (Int32.ofNat tl)), .val (.int cc), .val (.int dd), .val (.ref b3), .val (.int (Int32.ofNat q2)), .unset, .unset, .unset] [])) _
      exact Rch.here ⟨_, _, _, by rw [if_neg (own_ngt (a := 2) (by omega) (by omega) hc207_36)], X30, e30, N30, by rw [if_neg (own_ngt (a := 2) (by omega) (by omega) hc207_36)]; exact B5⟩
  rintro _ ⟨T35, L35, h35, rfl, X35, e35, N35, B6⟩
  show Rch p e below (T35.setTop (mkF m 230 #[.val (.int p0), .val (.int p1), .val (.int p2), .val (.int p3), .val (.int p4), .val (.int (Int32.ofNat fr)), .val (.int (Int32.ofNat kk)), .val (.int (Int32.ofNat tl)), .val (.int cc), .val (.int dd), .val (.ref b3), .val (.int (Int32.ofNat (if 2 < kk then own_putq q2 (own_z p1 (4 : Int32)) else q2))), .unset, .unset, .unset] [])) _
  have hbq3 : (if 2 < kk then own_putq q2 (own_z p1 (4 : Int32)) else q2) ≤ q2 + 2 := own_le _ _ _
  generalize hq_q3 : (if 2 < kk then own_putq q2 (own_z p1 (4 : Int32)) else q2) = q3
  rw [hq_q3] at hbq3
  generalize hf_f6 : (if 2 < kk then own_putf f5 q2 (own_z p1 (4 : Int32)) else f5) = f6 at B6
  show Rch p e below (T35.setTop (mkF m 230 #[.val (.int p0), .val (.int p1), .val (.int p2), .val (.int p3), .val (.int p4), .val (.int (Int32.ofNat fr)), .val (.int (Int32.ofNat kk)), .val (.int (Int32.ofNat tl)), .val (.int cc), .val (.int dd), .val (.ref b3), .val (.int (Int32.ofNat q3)), .unset, .unset, .unset] [])) _
  refine Rch.go (fun _ k => XS.iload X35.here hx rfl (hb hby at_230) rfl  k) ?_
  show Rch p e below (T35.setTop (mkF m 232 #[.val (.int p0), .val (.int p1), .val (.int p2), .val (.int p3), .val (.int p4), .val (.int (Int32.ofNat fr)), .val (.int (Int32.ofNat kk)), .val (.int (Int32.ofNat tl)), .val (.int cc), .val (.int dd), .val (.ref b3), .val (.int (Int32.ofNat q3)), .unset, .unset, .unset] [(.int (Int32.ofNat q3))])) _
  refine Rch.go (fun _ k => XS.istore X35.here hx rfl (hb hby at_232) rfl (l' := #[.val (.int p0), .val (.int p1), .val (.int p2), .val (.int p3), .val (.int p4), .val (.int (Int32.ofNat fr)), .val (.int (Int32.ofNat kk)), .val (.int (Int32.ofNat tl)), .val (.int cc), .val (.int dd), .val (.ref b3), .val (.int (Int32.ofNat q3)), .val (.int (Int32.ofNat q3)), .unset, .unset]) rfl k) ?_
  show Rch p e below (T35.setTop (mkF m 234 #[.val (.int p0), .val (.int p1), .val (.int p2), .val (.int p3), .val (.int p4), .val (.int (Int32.ofNat fr)), .val (.int (Int32.ofNat kk)), .val (.int (Int32.ofNat tl)), .val (.int cc), .val (.int dd), .val (.ref b3), .val (.int (Int32.ofNat q3)), .val (.int (Int32.ofNat q3)), .unset, .unset] [])) _
  refine Rch.bind (P := fun B => ∃ (T' : State) (L' : List Loc) (h' : Heap), B = T'.setTop (mkF m 246 #[.val (.int p0), .val (.int p1), .val (.int p2), .val (.int p3), .val (.int p4), .val (.int (Int32.ofNat fr)), .val (.int (Int32.ofNat kk)), .val (.int (Int32.ofNat tl)), .val (.int cc), .val (.int dd), .val (.ref b3), .val (.int (Int32.ofNat q3)), .val (.int (Int32.ofNat q3)), .unset, .unset] []) ∧ Stand p l e room_1 s m #[(.int p0), (.int p1), (.int p2), (.int p3), (.int p4)] below meth c T' L' 1 12 ∧ T'.heap = h' ∧ Fr n0 L' ∧ BA Z h' b3 12 (if 0 < tl then updI f6 q3 (nar .byte cc) else f6)) ?_ ?_
  · refine Rch.go (fun _ k => XS.iload X35.here hx rfl (hb hby at_234) rfl  k) ?_
    show Rch p e below (T35.setTop (mkF m 236 #[.val (.int p0), .val (.int p1), .val (.int p2), .val (.int p3), .val (.int p4), .val (.int (Int32.ofNat fr)), .val (.int (Int32.ofNat kk)), .val (.int (Int32.ofNat tl)), .val (.int cc), .val (.int dd), .val (.ref b3), .val (.int (Int32.ofNat q3)), .val (.int (Int32.ofNat q3)), .unset, .unset] [(.int (Int32.ofNat tl))])) _
    by_cases hc236_41 : (0 : Int32) < (Int32.ofNat tl)
    · refine Rch.go (fun _ k => XS.ifNo X35.here hx rfl (hb hby at_236) rfl ((if0 _ _).trans (tlt hc236_41).2.2.2) k) ?_
      show Rch p e below (T35.setTop (mkF m 239 #[.val (.int p0), .val (.int p1), .val (.int p2), .val (.int p3), .val (.int p4), .val (.int (Int32.ofNat fr)), .val (.int (Int32.ofNat kk)), .val (.int (Int32.ofNat tl)), .val (.int cc), .val (.int dd), .val (.ref b3), .val (.int (Int32.ofNat q3)), .val (.int (Int32.ofNat q3)), .unset, .unset] [])) _
      refine Rch.go (fun _ k => XS.aload X35.here hx rfl (hb hby at_239) rfl rfl k) ?_
      show Rch p e below (T35.setTop (mkF m 241 #[.val (.int p0), .val (.int p1), .val (.int p2), .val (.int p3), .val (.int p4), .val (.int (Int32.ofNat fr)), .val (.int (Int32.ofNat kk)), .val (.int (Int32.ofNat tl)), .val (.int cc), .val (.int dd), .val (.ref b3), .val (.int (Int32.ofNat q3)), .val (.int (Int32.ofNat q3)), .unset, .unset] [(.ref b3)])) _
      refine Rch.go (fun _ k => XS.iload X35.here hx rfl (hb hby at_241) rfl  k) ?_
      show Rch p e below (T35.setTop (mkF m 243 #[.val (.int p0), .val (.int p1), .val (.int p2), .val (.int p3), .val (.int p4), .val (.int (Int32.ofNat fr)), .val (.int (Int32.ofNat kk)), .val (.int (Int32.ofNat tl)), .val (.int cc), .val (.int dd), .val (.ref b3), .val (.int (Int32.ofNat q3)), .val (.int (Int32.ofNat q3)), .unset, .unset] [(.int (Int32.ofNat q3)), (.ref b3)])) _
      refine Rch.go (fun _ k => XS.iload X35.here hx rfl (hb hby at_243) rfl  k) ?_
      show Rch p e below (T35.setTop (mkF m 245 #[.val (.int p0), .val (.int p1), .val (.int p2), .val (.int p3), .val (.int p4), .val (.int (Int32.ofNat fr)), .val (.int (Int32.ofNat kk)), .val (.int (Int32.ofNat tl)), .val (.int cc), .val (.int dd), .val (.ref b3), .val (.int (Int32.ofNat q3)), .val (.int (Int32.ofNat q3)), .unset, .unset] [(.int cc), (.int (Int32.ofNat q3)), (.ref b3)])) _
      obtain ⟨cl42, Ar42, Sz42, At42⟩ := B6
      obtain ⟨T42, h42, X42, e42, W42, st42⟩ := stB X35 hx hZ e35 Ar42 (j := (Int32.ofNat q3)) (inb (k := q3) Sz42 (natOf (by omega)).1 (natOf (by omega)).2.1 (by omega)) (g := (mkF m 245 #[.val (.int p0), .val (.int p1), .val (.int p2), .val (.int p3), .val (.int p4), .val (.int (Int32.ofNat fr)), .val (.int (Int32.ofNat kk)), .val (.int (Int32.ofNat tl)), .val (.int cc), .val (.int dd), .val (.ref b3), .val (.int (Int32.ofNat q3)), .val (.int (Int32.ofNat q3)), .unset, .unset] [(.int cc), (.int (Int32.ofNat q3)), (.ref b3)])) rfl rfl (hb hby at_245)
      have B6 := BA.set ⟨cl42, Ar42, Sz42, At42⟩ (k := q3) (natOf (by omega)).2.1 (by omega) W42
      have N42 := Fr.snoc X42 N35 g_b3
      refine Rch.go st42 ?_
      show Rch p e below (T42.setTop (mkF m 246 #[.val (.int p0), .val (.int p1), .val (.int p2), .val (.int p3), .val (.int p4), .val (.int (Int32.ofNat fr)), .val (.int (Int32.ofNat kk)), .val (.int (Int32.ofNat tl)), .val (.int cc), .val (.int dd), .val (.ref b3), .val (.int (Int32.ofNat q3)), .val (.int (Int32.ofNat q3)), .unset, .unset] [])) _
      exact Rch.here ⟨_, _, _, rfl, X42, e42, N42, by rw [if_pos (own_gt (a := 0) (by omega) (by omega) hc236_41)]; exact B6⟩
    · refine Rch.go (fun _ k => XS.ifYes X35.here hx rfl (pc0 := 236) (pc' := 246) rfl (hb hby at_236) rfl ((if0 _ _).trans (flt hc236_41).2.2.2) (by decide) (by decide) k) ?_
      show Rch p e below (T35.setTop (mkF m 246 #[.val (.int p0), .val (.int p1), .val (.int p2), .val (.int p3), .val (.int p4), .val (.int (Int32.ofNat fr)), .val (.int (Int32.ofNat kk)), .val (.int (Int32.ofNat tl)), .val (.int cc), .val (.int dd), .val (.ref b3), .val (.int (Int32.ofNat q3)), .val (.int (Int32.ofNat q3)), .unset, .unset] [])) _
      exact Rch.here ⟨_, _, _, rfl, X35, e35, N35, by rw [if_neg (own_ngt (a := 0) (by omega) (by omega) hc236_41)]; exact B6⟩
  rintro _ ⟨T40, L40, h40, rfl, X40, e40, N40, B7⟩
  show Rch p e below (T40.setTop (mkF m 246 #[.val (.int p0), .val (.int p1), .val (.int p2), .val (.int p3), .val (.int p4), .val (.int (Int32.ofNat fr)), .val (.int (Int32.ofNat kk)), .val (.int (Int32.ofNat tl)), .val (.int cc), .val (.int dd), .val (.ref b3), .val (.int (Int32.ofNat q3)), .val (.int (Int32.ofNat q3)), .unset, .unset] [])) _
  generalize hf_f7 : (if 0 < tl then updI f6 q3 (nar .byte cc) else f6) = f7 at B7
  refine Rch.bind (P := fun B => ∃ (T' : State) (L' : List Loc) (h' : Heap), B = T'.setTop (mkF m 261 #[.val (.int p0), .val (.int p1), .val (.int p2), .val (.int p3), .val (.int p4), .val (.int (Int32.ofNat fr)), .val (.int (Int32.ofNat kk)), .val (.int (Int32.ofNat tl)), .val (.int cc), .val (.int dd), .val (.ref b3), .val (.int (Int32.ofNat q3)), .val (.int (Int32.ofNat q3)), .unset, .unset] []) ∧ Stand p l e room_1 s m #[(.int p0), (.int p1), (.int p2), (.int p3), (.int p4)] below meth c T' L' 1 12 ∧ T'.heap = h' ∧ Fr n0 L' ∧ BA Z h' b3 12 (if 1 < tl then updI f7 (q3 + 1) (nar .byte dd) else f7)) ?_ ?_
  · refine Rch.go (fun _ k => XS.iload X40.here hx rfl (hb hby at_246) rfl  k) ?_
    show Rch p e below (T40.setTop (mkF m 248 #[.val (.int p0), .val (.int p1), .val (.int p2), .val (.int p3), .val (.int p4), .val (.int (Int32.ofNat fr)), .val (.int (Int32.ofNat kk)), .val (.int (Int32.ofNat tl)), .val (.int cc), .val (.int dd), .val (.ref b3), .val (.int (Int32.ofNat q3)), .val (.int (Int32.ofNat q3)), .unset, .unset] [(.int (Int32.ofNat tl))])) _
    refine Rch.go (fun _ k => XS.iconst X40.here hx rfl (hb hby at_248) k) ?_
    show Rch p e below (T40.setTop (mkF m 249 #[.val (.int p0), .val (.int p1), .val (.int p2), .val (.int p3), .val (.int p4), .val (.int (Int32.ofNat fr)), .val (.int (Int32.ofNat kk)), .val (.int (Int32.ofNat tl)), .val (.int cc), .val (.int dd), .val (.ref b3), .val (.int (Int32.ofNat q3)), .val (.int (Int32.ofNat q3)), .unset, .unset] [(.int (1 : Int32)), (.int (Int32.ofNat tl))])) _
    by_cases hc249_44 : (1 : Int32) < (Int32.ofNat tl)
    · refine Rch.go (fun _ k => XS.icmpNo X40.here hx rfl (hb hby at_249) rfl (tlt hc249_44).2.2.2 k) ?_
      show Rch p e below (T40.setTop (mkF m 252 #[.val (.int p0), .val (.int p1), .val (.int p2), .val (.int p3), .val (.int p4), .val (.int (Int32.ofNat fr)), .val (.int (Int32.ofNat kk)), .val (.int (Int32.ofNat tl)), .val (.int cc), .val (.int dd), .val (.ref b3), .val (.int (Int32.ofNat q3)), .val (.int (Int32.ofNat q3)), .unset, .unset] [])) _
      refine Rch.go (fun _ k => XS.aload X40.here hx rfl (hb hby at_252) rfl rfl k) ?_
      show Rch p e below (T40.setTop (mkF m 254 #[.val (.int p0), .val (.int p1), .val (.int p2), .val (.int p3), .val (.int p4), .val (.int (Int32.ofNat fr)), .val (.int (Int32.ofNat kk)), .val (.int (Int32.ofNat tl)), .val (.int cc), .val (.int dd), .val (.ref b3), .val (.int (Int32.ofNat q3)), .val (.int (Int32.ofNat q3)), .unset, .unset] [(.ref b3)])) _
      refine Rch.go (fun _ k => XS.iload X40.here hx rfl (hb hby at_254) rfl  k) ?_
      show Rch p e below (T40.setTop (mkF m 256 #[.val (.int p0), .val (.int p1), .val (.int p2), .val (.int p3), .val (.int p4), .val (.int (Int32.ofNat fr)), .val (.int (Int32.ofNat kk)), .val (.int (Int32.ofNat tl)), .val (.int cc), .val (.int dd), .val (.ref b3), .val (.int (Int32.ofNat q3)), .val (.int (Int32.ofNat q3)), .unset, .unset] [(.int (Int32.ofNat q3)), (.ref b3)])) _
      refine Rch.go (fun _ k => XS.iconst X40.here hx rfl (hb hby at_256) k) ?_
      show Rch p e below (T40.setTop (mkF m 257 #[.val (.int p0), .val (.int p1), .val (.int p2), .val (.int p3), .val (.int p4), .val (.int (Int32.ofNat fr)), .val (.int (Int32.ofNat kk)), .val (.int (Int32.ofNat tl)), .val (.int cc), .val (.int dd), .val (.ref b3), .val (.int (Int32.ofNat q3)), .val (.int (Int32.ofNat q3)), .unset, .unset] [(.int (1 : Int32)), (.int (Int32.ofNat q3)), (.ref b3)])) _
      refine Rch.go (fun _ k => XS.iadd X40.here hx rfl (hb hby at_257) rfl k) ?_
      show Rch p e below (T40.setTop (mkF m 258 #[.val (.int p0), .val (.int p1), .val (.int p2), .val (.int p3), .val (.int p4), .val (.int (Int32.ofNat fr)), .val (.int (Int32.ofNat kk)), .val (.int (Int32.ofNat tl)), .val (.int cc), .val (.int dd), .val (.ref b3), .val (.int (Int32.ofNat q3)), .val (.int (Int32.ofNat q3)), .unset, .unset] [(.int ((Int32.ofNat q3) + (1 : Int32))), (.ref b3)])) _
      rw [ofNat_succ]
      show Rch p e below (T40.setTop (mkF m 258 #[.val (.int p0), .val (.int p1), .val (.int p2), .val (.int p3), .val (.int p4), .val (.int (Int32.ofNat fr)), .val (.int (Int32.ofNat kk)), .val (.int (Int32.ofNat tl)), .val (.int cc), .val (.int dd), .val (.ref b3), .val (.int (Int32.ofNat q3)), .val (.int (Int32.ofNat q3)), .unset, .unset] [(.int (Int32.ofNat (q3 + 1))), (.ref b3)])) _
      refine Rch.go (fun _ k => XS.iload X40.here hx rfl (hb hby at_258) rfl  k) ?_
      show Rch p e below (T40.setTop (mkF m 260 #[.val (.int p0), .val (.int p1), .val (.int p2), .val (.int p3), .val (.int p4), .val (.int (Int32.ofNat fr)), .val (.int (Int32.ofNat kk)), .val (.int (Int32.ofNat tl)), .val (.int cc), .val (.int dd), .val (.ref b3), .val (.int (Int32.ofNat q3)), .val (.int (Int32.ofNat q3)), .unset, .unset] [(.int dd), (.int (Int32.ofNat (q3 + 1))), (.ref b3)])) _
      obtain ⟨cl45, Ar45, Sz45, At45⟩ := B7
      obtain ⟨T45, h45, X45, e45, W45, st45⟩ := stB X40 hx hZ e40 Ar45 (j := (Int32.ofNat (q3 + 1))) (inb (k := (q3 + 1)) Sz45 (natOf (by omega)).1 (natOf (by omega)).2.1 (by omega)) (g := (mkF m 260 #[.val (.int p0), .val (.int p1), .val (.int p2), .val (.int p3), .val (.int p4), .val (.int (Int32.ofNat fr)), .val (.int (Int32.ofNat kk)), .val (.int (Int32.ofNat tl)), .val (.int cc), .val (.int dd), .val (.ref b3), .val (.int (Int32.ofNat q3)), .val (.int (Int32.ofNat q3)), .unset, .unset] [(.int dd), (.int (Int32.ofNat (q3 + 1))), (.ref b3)])) rfl rfl (hb hby at_260)
      have B7 := BA.set ⟨cl45, Ar45, Sz45, At45⟩ (k := (q3 + 1)) (natOf (by omega)).2.1 (by omega) W45
      have N45 := Fr.snoc X45 N40 g_b3
      refine Rch.go st45 ?_
      show Rch p e below (T45.setTop (mkF m 261 #[.val (.int p0), .val (.int p1), .val (.int p2), .val (.int p3), .val (.int p4), .val (.int (Int32.ofNat fr)), .val (.int (Int32.ofNat kk)), .val (.int (Int32.ofNat tl)), .val (.int cc), .val (.int dd), .val (.ref b3), .val (.int (Int32.ofNat q3)), .val (.int (Int32.ofNat q3)), .unset, .unset] [])) _
      exact Rch.here ⟨_, _, _, rfl, X45, e45, N45, by rw [if_pos (own_gt (a := 1) (by omega) (by omega) hc249_44)]; exact B7⟩
    · refine Rch.go (fun _ k => XS.icmpYes X40.here hx rfl (pc0 := 249) (pc' := 261) rfl (hb hby at_249) rfl (flt hc249_44).2.2.2 (by decide) (by decide) k) ?_
      show Rch p e below (T40.setTop (mkF m 261 #[.val (.int p0), .val (.int p1), .val (.int p2), .val (.int p3), .val (.int p4), .val (.int (Int32.ofNat fr)), .val (.int (Int32.ofNat kk)), .val (.int (Int32.ofNat tl)), .val (.int cc), .val (.int dd), .val (.ref b3), .val (.int (Int32.ofNat q3)), .val (.int (Int32.ofNat q3)), .unset, .unset] [])) _
      exact Rch.here ⟨_, _, _, rfl, X40, e40, N40, by rw [if_neg (own_ngt (a := 1) (by omega) (by omega) hc249_44)]; exact B7⟩
  rintro _ ⟨T43, L43, h43, rfl, X43, e43, N43, B8⟩
  show Rch p e below (T43.setTop (mkF m 261 #[.val (.int p0), .val (.int p1), .val (.int p2), .val (.int p3), .val (.int p4), .val (.int (Int32.ofNat fr)), .val (.int (Int32.ofNat kk)), .val (.int (Int32.ofNat tl)), .val (.int cc), .val (.int dd), .val (.ref b3), .val (.int (Int32.ofNat q3)), .val (.int (Int32.ofNat q3)), .unset, .unset] [])) _
  generalize hf_f8 : (if 1 < tl then updI f7 (q3 + 1) (nar .byte dd) else f7) = f8 at B8
  have hj53 : ∀ P', Rch p e below (T43.setTop (mkF m 369 #[.val (.int p0), .val (.int p1), .val (.int p2), .val (.int p3), .val (.int p4), .val (.int (Int32.ofNat fr)), .val (.int (Int32.ofNat kk)), .val (.int (Int32.ofNat tl)), .val (.int cc), .val (.int dd), .val (.ref b3), .val (.int (Int32.ofNat q3)), .val (.int (Int32.ofNat q3)), .val (.int ((Int32.ofNat q3) + (Int32.ofNat tl))), .val (.int (own_x_L14 tl q3 cc dd))] [])) P' → Rch p e below (T43.setTop (mkF m 261 #[.val (.int p0), .val (.int p1), .val (.int p2), .val (.int p3), .val (.int p4), .val (.int (Int32.ofNat fr)), .val (.int (Int32.ofNat kk)), .val (.int (Int32.ofNat tl)), .val (.int cc), .val (.int dd), .val (.ref b3), .val (.int (Int32.ofNat q3)), .val (.int (Int32.ofNat q3)), .unset, .unset] [])) P' := by
    intro P' kt
    refine Rch.go (fun _ k => XS.iload X43.here hx rfl (hb hby at_261) rfl  k) ?_
    show Rch p e below (T43.setTop (mkF m 263 #[.val (.int p0), .val (.int p1), .val (.int p2), .val (.int p3), .val (.int p4), .val (.int (Int32.ofNat fr)), .val (.int (Int32.ofNat kk)), .val (.int (Int32.ofNat tl)), .val (.int cc), .val (.int dd), .val (.ref b3), .val (.int (Int32.ofNat q3)), .val (.int (Int32.ofNat q3)), .unset, .unset] [(.int (Int32.ofNat q3))])) _
    refine Rch.go (fun _ k => XS.iload X43.here hx rfl (hb hby at_263) rfl  k) ?_
    show Rch p e below (T43.setTop (mkF m 265 #[.val (.int p0), .val (.int p1), .val (.int p2), .val (.int p3), .val (.int p4), .val (.int (Int32.ofNat fr)), .val (.int (Int32.ofNat kk)), .val (.int (Int32.ofNat tl)), .val (.int cc), .val (.int dd), .val (.ref b3), .val (.int (Int32.ofNat q3)), .val (.int (Int32.ofNat q3)), .unset, .unset] [(.int (Int32.ofNat tl)), (.int (Int32.ofNat q3))])) _
    refine Rch.go (fun _ k => XS.iadd X43.here hx rfl (hb hby at_265) rfl k) ?_
    show Rch p e below (T43.setTop (mkF m 266 #[.val (.int p0), .val (.int p1), .val (.int p2), .val (.int p3), .val (.int p4), .val (.int (Int32.ofNat fr)), .val (.int (Int32.ofNat kk)), .val (.int (Int32.ofNat tl)), .val (.int cc), .val (.int dd), .val (.ref b3), .val (.int (Int32.ofNat q3)), .val (.int (Int32.ofNat q3)), .unset, .unset] [(.int ((Int32.ofNat q3) + (Int32.ofNat tl)))])) _
    refine Rch.go (fun _ k => XS.istore X43.here hx rfl (hb hby at_266) rfl (l' := #[.val (.int p0), .val (.int p1), .val (.int p2), .val (.int p3), .val (.int p4), .val (.int (Int32.ofNat fr)), .val (.int (Int32.ofNat kk)), .val (.int (Int32.ofNat tl)), .val (.int cc), .val (.int dd), .val (.ref b3), .val (.int (Int32.ofNat q3)), .val (.int (Int32.ofNat q3)), .val (.int ((Int32.ofNat q3) + (Int32.ofNat tl))), .unset]) rfl k) ?_
    show Rch p e below (T43.setTop (mkF m 268 #[.val (.int p0), .val (.int p1), .val (.int p2), .val (.int p3), .val (.int p4), .val (.int (Int32.ofNat fr)), .val (.int (Int32.ofNat kk)), .val (.int (Int32.ofNat tl)), .val (.int cc), .val (.int dd), .val (.ref b3), .val (.int (Int32.ofNat q3)), .val (.int (Int32.ofNat q3)), .val (.int ((Int32.ofNat q3) + (Int32.ofNat tl))), .unset] [])) _
    refine Rch.go (fun _ k => XS.iload X43.here hx rfl (hb hby at_268) rfl  k) ?_
    show Rch p e below (T43.setTop (mkF m 270 #[.val (.int p0), .val (.int p1), .val (.int p2), .val (.int p3), .val (.int p4), .val (.int (Int32.ofNat fr)), .val (.int (Int32.ofNat kk)), .val (.int (Int32.ofNat tl)), .val (.int cc), .val (.int dd), .val (.ref b3), .val (.int (Int32.ofNat q3)), .val (.int (Int32.ofNat q3)), .val (.int ((Int32.ofNat q3) + (Int32.ofNat tl))), .unset] [(.int (Int32.ofNat tl))])) _
    by_cases hc270_46 : (Int32.ofNat tl) = (0 : Int32)
    · refine Rch.go (fun _ k => XS.ifNo X43.here hx rfl (hb hby at_270) rfl ((if0 _ _).trans (teq hc270_46).2) k) ?_
      show Rch p e below (T43.setTop (mkF m 273 #[.val (.int p0), .val (.int p1), .val (.int p2), .val (.int p3), .val (.int p4), .val (.int (Int32.ofNat fr)), .val (.int (Int32.ofNat kk)), .val (.int (Int32.ofNat tl)), .val (.int cc), .val (.int dd), .val (.ref b3), .val (.int (Int32.ofNat q3)), .val (.int (Int32.ofNat q3)), .val (.int ((Int32.ofNat q3) + (Int32.ofNat tl))), .unset] [])) _
      refine Rch.go (fun _ k => XS.iload X43.here hx rfl (hb hby at_273) rfl  k) ?_
      show Rch p e below (T43.setTop (mkF m 275 #[.val (.int p0), .val (.int p1), .val (.int p2), .val (.int p3), .val (.int p4), .val (.int (Int32.ofNat fr)), .val (.int (Int32.ofNat kk)), .val (.int (Int32.ofNat tl)), .val (.int cc), .val (.int dd), .val (.ref b3), .val (.int (Int32.ofNat q3)), .val (.int (Int32.ofNat q3)), .val (.int ((Int32.ofNat q3) + (Int32.ofNat tl))), .unset] [(.int (Int32.ofNat q3))])) _
      refine Rch.go (fun _ k => XS.istore X43.here hx rfl (hb hby at_275) rfl (l' := #[.val (.int p0), .val (.int p1), .val (.int p2), .val (.int p3), .val (.int p4), .val (.int (Int32.ofNat fr)), .val (.int (Int32.ofNat kk)), .val (.int (Int32.ofNat tl)), .val (.int cc), .val (.int dd), .val (.ref b3), .val (.int (Int32.ofNat q3)), .val (.int (Int32.ofNat q3)), .val (.int ((Int32.ofNat q3) + (Int32.ofNat tl))), .val (.int (Int32.ofNat q3))]) rfl k) ?_
      show Rch p e below (T43.setTop (mkF m 277 #[.val (.int p0), .val (.int p1), .val (.int p2), .val (.int p3), .val (.int p4), .val (.int (Int32.ofNat fr)), .val (.int (Int32.ofNat kk)), .val (.int (Int32.ofNat tl)), .val (.int cc), .val (.int dd), .val (.ref b3), .val (.int (Int32.ofNat q3)), .val (.int (Int32.ofNat q3)), .val (.int ((Int32.ofNat q3) + (Int32.ofNat tl))), .val (.int (Int32.ofNat q3))] [])) _
      refine Rch.go (fun _ k => XS.goto X43.here hx rfl (pc0 := 277) (pc' := 369) rfl (hb hby at_277) (by decide) (by decide) k) ?_
      show Rch p e below (T43.setTop (mkF m 369 #[.val (.int p0), .val (.int p1), .val (.int p2), .val (.int p3), .val (.int p4), .val (.int (Int32.ofNat fr)), .val (.int (Int32.ofNat kk)), .val (.int (Int32.ofNat tl)), .val (.int cc), .val (.int dd), .val (.ref b3), .val (.int (Int32.ofNat q3)), .val (.int (Int32.ofNat q3)), .val (.int ((Int32.ofNat q3) + (Int32.ofNat tl))), .val (.int (Int32.ofNat q3))] [])) _
      rw [show own_x_L14 tl q3 cc dd = (Int32.ofNat q3) from by simp only [own_x_L14, if_pos hc270_46]] at kt
      exact kt
    · refine Rch.go (fun _ k => XS.ifYes X43.here hx rfl (pc0 := 270) (pc' := 280) rfl (hb hby at_270) rfl ((if0 _ _).trans (feq hc270_46).2) (by decide) (by decide) k) ?_
      show Rch p e below (T43.setTop (mkF m 280 #[.val (.int p0), .val (.int p1), .val (.int p2), .val (.int p3), .val (.int p4), .val (.int (Int32.ofNat fr)), .val (.int (Int32.ofNat kk)), .val (.int (Int32.ofNat tl)), .val (.int cc), .val (.int dd), .val (.ref b3), .val (.int (Int32.ofNat q3)), .val (.int (Int32.ofNat q3)), .val (.int ((Int32.ofNat q3) + (Int32.ofNat tl))), .unset] [])) _
      refine Rch.go (fun _ k => XS.iload X43.here hx rfl (hb hby at_280) rfl  k) ?_
      show Rch p e below (T43.setTop (mkF m 282 #[.val (.int p0), .val (.int p1), .val (.int p2), .val (.int p3), .val (.int p4), .val (.int (Int32.ofNat fr)), .val (.int (Int32.ofNat kk)), .val (.int (Int32.ofNat tl)), .val (.int cc), .val (.int dd), .val (.ref b3), .val (.int (Int32.ofNat q3)), .val (.int (Int32.ofNat q3)), .val (.int ((Int32.ofNat q3) + (Int32.ofNat tl))), .unset] [(.int (Int32.ofNat tl))])) _
      refine Rch.go (fun _ k => XS.iconst X43.here hx rfl (hb hby at_282) k) ?_
      show Rch p e below (T43.setTop (mkF m 283 #[.val (.int p0), .val (.int p1), .val (.int p2), .val (.int p3), .val (.int p4), .val (.int (Int32.ofNat fr)), .val (.int (Int32.ofNat kk)), .val (.int (Int32.ofNat tl)), .val (.int cc), .val (.int dd), .val (.ref b3), .val (.int (Int32.ofNat q3)), .val (.int (Int32.ofNat q3)), .val (.int ((Int32.ofNat q3) + (Int32.ofNat tl))), .unset] [(.int (1 : Int32)), (.int (Int32.ofNat tl))])) _
      by_cases hc283_47 : (Int32.ofNat tl) = (1 : Int32)
      · refine Rch.go (fun _ k => XS.icmpNo X43.here hx rfl (hb hby at_283) rfl (teq hc283_47).2 k) ?_
        show Rch p e below (T43.setTop (mkF m 286 #[.val (.int p0), .val (.int p1), .val (.int p2), .val (.int p3), .val (.int p4), .val (.int (Int32.ofNat fr)), .val (.int (Int32.ofNat kk)), .val (.int (Int32.ofNat tl)), .val (.int cc), .val (.int dd), .val (.ref b3), .val (.int (Int32.ofNat q3)), .val (.int (Int32.ofNat q3)), .val (.int ((Int32.ofNat q3) + (Int32.ofNat tl))), .unset] [])) _
        refine Rch.go (fun _ k => XS.iload X43.here hx rfl (hb hby at_286) rfl  k) ?_
        show Rch p e below (T43.setTop (mkF m 288 #[.val (.int p0), .val (.int p1), .val (.int p2), .val (.int p3), .val (.int p4), .val (.int (Int32.ofNat fr)), .val (.int (Int32.ofNat kk)), .val (.int (Int32.ofNat tl)), .val (.int cc), .val (.int dd), .val (.ref b3), .val (.int (Int32.ofNat q3)), .val (.int (Int32.ofNat q3)), .val (.int ((Int32.ofNat q3) + (Int32.ofNat tl))), .unset] [(.int cc)])) _
        refine Rch.go (fun _ k => XS.bipush X43.here hx rfl (hb hby at_288) k) ?_
        show Rch p e below (T43.setTop (mkF m 290 #[.val (.int p0), .val (.int p1), .val (.int p2), .val (.int p3), .val (.int p4), .val (.int (Int32.ofNat fr)), .val (.int (Int32.ofNat kk)), .val (.int (Int32.ofNat tl)), .val (.int cc), .val (.int dd), .val (.ref b3), .val (.int (Int32.ofNat q3)), .val (.int (Int32.ofNat q3)), .val (.int ((Int32.ofNat q3) + (Int32.ofNat tl))), .unset] [(.int (10 : Int32)), (.int cc)])) _
        by_cases hc290_48 : cc = (10 : Int32)
        · refine Rch.go (fun _ k => XS.icmpNo X43.here hx rfl (hb hby at_290) rfl (teq hc290_48).2 k) ?_
          show Rch p e below (T43.setTop (mkF m 293 #[.val (.int p0), .val (.int p1), .val (.int p2), .val (.int p3), .val (.int p4), .val (.int (Int32.ofNat fr)), .val (.int (Int32.ofNat kk)), .val (.int (Int32.ofNat tl)), .val (.int cc), .val (.int dd), .val (.ref b3), .val (.int (Int32.ofNat q3)), .val (.int (Int32.ofNat q3)), .val (.int ((Int32.ofNat q3) + (Int32.ofNat tl))), .unset] [])) _
          refine Rch.go (fun _ k => XS.iload X43.here hx rfl (hb hby at_293) rfl  k) ?_
          show Rch p e below (T43.setTop (mkF m 295 #[.val (.int p0), .val (.int p1), .val (.int p2), .val (.int p3), .val (.int p4), .val (.int (Int32.ofNat fr)), .val (.int (Int32.ofNat kk)), .val (.int (Int32.ofNat tl)), .val (.int cc), .val (.int dd), .val (.ref b3), .val (.int (Int32.ofNat q3)), .val (.int (Int32.ofNat q3)), .val (.int ((Int32.ofNat q3) + (Int32.ofNat tl))), .unset] [(.int (Int32.ofNat q3))])) _
          refine Rch.go (fun _ k => XS.iconst X43.here hx rfl (hb hby at_295) k) ?_
          show Rch p e below (T43.setTop (mkF m 296 #[.val (.int p0), .val (.int p1), .val (.int p2), .val (.int p3), .val (.int p4), .val (.int (Int32.ofNat fr)), .val (.int (Int32.ofNat kk)), .val (.int (Int32.ofNat tl)), .val (.int cc), .val (.int dd), .val (.ref b3), .val (.int (Int32.ofNat q3)), .val (.int (Int32.ofNat q3)), .val (.int ((Int32.ofNat q3) + (Int32.ofNat tl))), .unset] [(.int (1 : Int32)), (.int (Int32.ofNat q3))])) _
          refine Rch.go (fun _ k => XS.iadd X43.here hx rfl (hb hby at_296) rfl k) ?_
          show Rch p e below (T43.setTop (mkF m 297 #[.val (.int p0), .val (.int p1), .val (.int p2), .val (.int p3), .val (.int p4), .val (.int (Int32.ofNat fr)), .val (.int (Int32.ofNat kk)), .val (.int (Int32.ofNat tl)), .val (.int cc), .val (.int dd), .val (.ref b3), .val (.int (Int32.ofNat q3)), .val (.int (Int32.ofNat q3)), .val (.int ((Int32.ofNat q3) + (Int32.ofNat tl))), .unset] [(.int ((Int32.ofNat q3) + (1 : Int32)))])) _
          refine Rch.go (fun _ k => XS.goto X43.here hx rfl (pc0 := 297) (pc' := 302) rfl (hb hby at_297) (by decide) (by decide) k) ?_
          show Rch p e below (T43.setTop (mkF m 302 #[.val (.int p0), .val (.int p1), .val (.int p2), .val (.int p3), .val (.int p4), .val (.int (Int32.ofNat fr)), .val (.int (Int32.ofNat kk)), .val (.int (Int32.ofNat tl)), .val (.int cc), .val (.int dd), .val (.ref b3), .val (.int (Int32.ofNat q3)), .val (.int (Int32.ofNat q3)), .val (.int ((Int32.ofNat q3) + (Int32.ofNat tl))), .unset] [(.int ((Int32.ofNat q3) + (1 : Int32)))])) _
          refine Rch.go (fun _ k => XS.istore X43.here hx rfl (hb hby at_302) rfl (l' := #[.val (.int p0), .val (.int p1), .val (.int p2), .val (.int p3), .val (.int p4), .val (.int (Int32.ofNat fr)), .val (.int (Int32.ofNat kk)), .val (.int (Int32.ofNat tl)), .val (.int cc), .val (.int dd), .val (.ref b3), .val (.int (Int32.ofNat q3)), .val (.int (Int32.ofNat q3)), .val (.int ((Int32.ofNat q3) + (Int32.ofNat tl))), .val (.int ((Int32.ofNat q3) + (1 : Int32)))]) rfl k) ?_
          show Rch p e below (T43.setTop (mkF m 304 #[.val (.int p0), .val (.int p1), .val (.int p2), .val (.int p3), .val (.int p4), .val (.int (Int32.ofNat fr)), .val (.int (Int32.ofNat kk)), .val (.int (Int32.ofNat tl)), .val (.int cc), .val (.int dd), .val (.ref b3), .val (.int (Int32.ofNat q3)), .val (.int (Int32.ofNat q3)), .val (.int ((Int32.ofNat q3) + (Int32.ofNat tl))), .val (.int ((Int32.ofNat q3) + (1 : Int32)))] [])) _
          refine Rch.go (fun _ k => XS.goto X43.here hx rfl (pc0 := 304) (pc' := 369) rfl (hb hby at_304) (by decide) (by decide) k) ?_
          show Rch p e below (T43.setTop (mkF m 369 #[.val (.int p0), .val (.int p1), .val (.int p2), .val (.int p3), .val (.int p4), .val (.int (Int32.ofNat fr)), .val (.int (Int32.ofNat kk)), .val (.int (Int32.ofNat tl)), .val (.int cc), .val (.int dd), .val (.ref b3), .val (.int (Int32.ofNat q3)), .val (.int (Int32.ofNat q3)), .val (.int ((Int32.ofNat q3) + (Int32.ofNat tl))), .val (.int ((Int32.ofNat q3) + (1 : Int32)))] [])) _
          rw [show own_x_L14 tl q3 cc dd = ((Int32.ofNat q3) + (1 : Int32)) from by simp only [own_x_L14, if_neg hc270_46, if_pos hc283_47, if_pos hc290_48]] at kt
          exact kt
        · refine Rch.go (fun _ k => XS.icmpYes X43.here hx rfl (pc0 := 290) (pc' := 300) rfl (hb hby at_290) rfl (feq hc290_48).2 (by decide) (by decide) k) ?_
          show Rch p e below (T43.setTop (mkF m 300 #[.val (.int p0), .val (.int p1), .val (.int p2), .val (.int p3), .val (.int p4), .val (.int (Int32.ofNat fr)), .val (.int (Int32.ofNat kk)), .val (.int (Int32.ofNat tl)), .val (.int cc), .val (.int dd), .val (.ref b3), .val (.int (Int32.ofNat q3)), .val (.int (Int32.ofNat q3)), .val (.int ((Int32.ofNat q3) + (Int32.ofNat tl))), .unset] [])) _
          refine Rch.go (fun _ k => XS.iload X43.here hx rfl (hb hby at_300) rfl  k) ?_
          show Rch p e below (T43.setTop (mkF m 302 #[.val (.int p0), .val (.int p1), .val (.int p2), .val (.int p3), .val (.int p4), .val (.int (Int32.ofNat fr)), .val (.int (Int32.ofNat kk)), .val (.int (Int32.ofNat tl)), .val (.int cc), .val (.int dd), .val (.ref b3), .val (.int (Int32.ofNat q3)), .val (.int (Int32.ofNat q3)), .val (.int ((Int32.ofNat q3) + (Int32.ofNat tl))), .unset] [(.int (Int32.ofNat q3))])) _
          refine Rch.go (fun _ k => XS.istore X43.here hx rfl (hb hby at_302) rfl (l' := #[.val (.int p0), .val (.int p1), .val (.int p2), .val (.int p3), .val (.int p4), .val (.int (Int32.ofNat fr)), .val (.int (Int32.ofNat kk)), .val (.int (Int32.ofNat tl)), .val (.int cc), .val (.int dd), .val (.ref b3), .val (.int (Int32.ofNat q3)), .val (.int (Int32.ofNat q3)), .val (.int ((Int32.ofNat q3) + (Int32.ofNat tl))), .val (.int (Int32.ofNat q3))]) rfl k) ?_
          show Rch p e below (T43.setTop (mkF m 304 #[.val (.int p0), .val (.int p1), .val (.int p2), .val (.int p3), .val (.int p4), .val (.int (Int32.ofNat fr)), .val (.int (Int32.ofNat kk)), .val (.int (Int32.ofNat tl)), .val (.int cc), .val (.int dd), .val (.ref b3), .val (.int (Int32.ofNat q3)), .val (.int (Int32.ofNat q3)), .val (.int ((Int32.ofNat q3) + (Int32.ofNat tl))), .val (.int (Int32.ofNat q3))] [])) _
          refine Rch.go (fun _ k => XS.goto X43.here hx rfl (pc0 := 304) (pc' := 369) rfl (hb hby at_304) (by decide) (by decide) k) ?_
          show Rch p e below (T43.setTop (mkF m 369 #[.val (.int p0), .val (.int p1), .val (.int p2), .val (.int p3), .val (.int p4), .val (.int (Int32.ofNat fr)), .val (.int (Int32.ofNat kk)), .val (.int (Int32.ofNat tl)), .val (.int cc), .val (.int dd), .val (.ref b3), .val (.int (Int32.ofNat q3)), .val (.int (Int32.ofNat q3)), .val (.int ((Int32.ofNat q3) + (Int32.ofNat tl))), .val (.int (Int32.ofNat q3))] [])) _
          rw [show own_x_L14 tl q3 cc dd = (Int32.ofNat q3) from by simp only [own_x_L14, if_neg hc270_46, if_pos hc283_47, if_neg hc290_48]] at kt
          exact kt
      · refine Rch.go (fun _ k => XS.icmpYes X43.here hx rfl (pc0 := 283) (pc' := 307) rfl (hb hby at_283) rfl (feq hc283_47).2 (by decide) (by decide) k) ?_
        show Rch p e below (T43.setTop (mkF m 307 #[.val (.int p0), .val (.int p1), .val (.int p2), .val (.int p3), .val (.int p4), .val (.int (Int32.ofNat fr)), .val (.int (Int32.ofNat kk)), .val (.int (Int32.ofNat tl)), .val (.int cc), .val (.int dd), .val (.ref b3), .val (.int (Int32.ofNat q3)), .val (.int (Int32.ofNat q3)), .val (.int ((Int32.ofNat q3) + (Int32.ofNat tl))), .unset] [])) _
        refine Rch.go (fun _ k => XS.iload X43.here hx rfl (hb hby at_307) rfl  k) ?_
        show Rch p e below (T43.setTop (mkF m 309 #[.val (.int p0), .val (.int p1), .val (.int p2), .val (.int p3), .val (.int p4), .val (.int (Int32.ofNat fr)), .val (.int (Int32.ofNat kk)), .val (.int (Int32.ofNat tl)), .val (.int cc), .val (.int dd), .val (.ref b3), .val (.int (Int32.ofNat q3)), .val (.int (Int32.ofNat q3)), .val (.int ((Int32.ofNat q3) + (Int32.ofNat tl))), .unset] [(.int cc)])) _
        refine Rch.go (fun _ k => XS.bipush X43.here hx rfl (hb hby at_309) k) ?_
        show Rch p e below (T43.setTop (mkF m 311 #[.val (.int p0), .val (.int p1), .val (.int p2), .val (.int p3), .val (.int p4), .val (.int (Int32.ofNat fr)), .val (.int (Int32.ofNat kk)), .val (.int (Int32.ofNat tl)), .val (.int cc), .val (.int dd), .val (.ref b3), .val (.int (Int32.ofNat q3)), .val (.int (Int32.ofNat q3)), .val (.int ((Int32.ofNat q3) + (Int32.ofNat tl))), .unset] [(.int (10 : Int32)), (.int cc)])) _
        by_cases hc311_49 : cc = (10 : Int32)
        · refine Rch.go (fun _ k => XS.icmpNo X43.here hx rfl (hb hby at_311) rfl (teq hc311_49).2 k) ?_
          show Rch p e below (T43.setTop (mkF m 314 #[.val (.int p0), .val (.int p1), .val (.int p2), .val (.int p3), .val (.int p4), .val (.int (Int32.ofNat fr)), .val (.int (Int32.ofNat kk)), .val (.int (Int32.ofNat tl)), .val (.int cc), .val (.int dd), .val (.ref b3), .val (.int (Int32.ofNat q3)), .val (.int (Int32.ofNat q3)), .val (.int ((Int32.ofNat q3) + (Int32.ofNat tl))), .unset] [])) _
          refine Rch.go (fun _ k => XS.iload X43.here hx rfl (hb hby at_314) rfl  k) ?_
          show Rch p e below (T43.setTop (mkF m 316 #[.val (.int p0), .val (.int p1), .val (.int p2), .val (.int p3), .val (.int p4), .val (.int (Int32.ofNat fr)), .val (.int (Int32.ofNat kk)), .val (.int (Int32.ofNat tl)), .val (.int cc), .val (.int dd), .val (.ref b3), .val (.int (Int32.ofNat q3)), .val (.int (Int32.ofNat q3)), .val (.int ((Int32.ofNat q3) + (Int32.ofNat tl))), .unset] [(.int dd)])) _
          refine Rch.go (fun _ k => XS.bipush X43.here hx rfl (hb hby at_316) k) ?_
          show Rch p e below (T43.setTop (mkF m 318 #[.val (.int p0), .val (.int p1), .val (.int p2), .val (.int p3), .val (.int p4), .val (.int (Int32.ofNat fr)), .val (.int (Int32.ofNat kk)), .val (.int (Int32.ofNat tl)), .val (.int cc), .val (.int dd), .val (.ref b3), .val (.int (Int32.ofNat q3)), .val (.int (Int32.ofNat q3)), .val (.int ((Int32.ofNat q3) + (Int32.ofNat tl))), .unset] [(.int (10 : Int32)), (.int dd)])) _
          by_cases hc318_50 : dd = (10 : Int32)
          · refine Rch.go (fun _ k => XS.icmpNo X43.here hx rfl (hb hby at_318) rfl (teq hc318_50).2 k) ?_
            show Rch p e below (T43.setTop (mkF m 321 #[.val (.int p0), .val (.int p1), .val (.int p2), .val (.int p3), .val (.int p4), .val (.int (Int32.ofNat fr)), .val (.int (Int32.ofNat kk)), .val (.int (Int32.ofNat tl)), .val (.int cc), .val (.int dd), .val (.ref b3), .val (.int (Int32.ofNat q3)), .val (.int (Int32.ofNat q3)), .val (.int ((Int32.ofNat q3) + (Int32.ofNat tl))), .unset] [])) _
            refine Rch.go (fun _ k => XS.iload X43.here hx rfl (hb hby at_321) rfl  k) ?_
            show Rch p e below (T43.setTop (mkF m 323 #[.val (.int p0), .val (.int p1), .val (.int p2), .val (.int p3), .val (.int p4), .val (.int (Int32.ofNat fr)), .val (.int (Int32.ofNat kk)), .val (.int (Int32.ofNat tl)), .val (.int cc), .val (.int dd), .val (.ref b3), .val (.int (Int32.ofNat q3)), .val (.int (Int32.ofNat q3)), .val (.int ((Int32.ofNat q3) + (Int32.ofNat tl))), .unset] [(.int (Int32.ofNat q3))])) _
            refine Rch.go (fun _ k => XS.iconst X43.here hx rfl (hb hby at_323) k) ?_
            show Rch p e below (T43.setTop (mkF m 324 #[.val (.int p0), .val (.int p1), .val (.int p2), .val (.int p3), .val (.int p4), .val (.int (Int32.ofNat fr)), .val (.int (Int32.ofNat kk)), .val (.int (Int32.ofNat tl)), .val (.int cc), .val (.int dd), .val (.ref b3), .val (.int (Int32.ofNat q3)), .val (.int (Int32.ofNat q3)), .val (.int ((Int32.ofNat q3) + (Int32.ofNat tl))), .unset] [(.int (2 : Int32)), (.int (Int32.ofNat q3))])) _
            refine Rch.go (fun _ k => XS.iadd X43.here hx rfl (hb hby at_324) rfl k) ?_
            show Rch p e below (T43.setTop (mkF m 325 #[.val (.int p0), .val (.int p1), .val (.int p2), .val (.int p3), .val (.int p4), .val (.int (Int32.ofNat fr)), .val (.int (Int32.ofNat kk)), .val (.int (Int32.ofNat tl)), .val (.int cc), .val (.int dd), .val (.ref b3), .val (.int (Int32.ofNat q3)), .val (.int (Int32.ofNat q3)), .val (.int ((Int32.ofNat q3) + (Int32.ofNat tl))), .unset] [(.int ((Int32.ofNat q3) + (2 : Int32)))])) _
            refine Rch.go (fun _ k => XS.goto X43.here hx rfl (pc0 := 325) (pc' := 332) rfl (hb hby at_325) (by decide) (by decide) k) ?_
            show Rch p e below (T43.setTop (mkF m 332 #[.val (.int p0), .val (.int p1), .val (.int p2), .val (.int p3), .val (.int p4), .val (.int (Int32.ofNat fr)), .val (.int (Int32.ofNat kk)), .val (.int (Int32.ofNat tl)), .val (.int cc), .val (.int dd), .val (.ref b3), .val (.int (Int32.ofNat q3)), .val (.int (Int32.ofNat q3)), .val (.int ((Int32.ofNat q3) + (Int32.ofNat tl))), .unset] [(.int ((Int32.ofNat q3) + (2 : Int32)))])) _
            refine Rch.go (fun _ k => XS.istore X43.here hx rfl (hb hby at_332) rfl (l' := #[.val (.int p0), .val (.int p1), .val (.int p2), .val (.int p3), .val (.int p4), .val (.int (Int32.ofNat fr)), .val (.int (Int32.ofNat kk)), .val (.int (Int32.ofNat tl)), .val (.int cc), .val (.int dd), .val (.ref b3), .val (.int (Int32.ofNat q3)), .val (.int (Int32.ofNat q3)), .val (.int ((Int32.ofNat q3) + (Int32.ofNat tl))), .val (.int ((Int32.ofNat q3) + (2 : Int32)))]) rfl k) ?_
            show Rch p e below (T43.setTop (mkF m 334 #[.val (.int p0), .val (.int p1), .val (.int p2), .val (.int p3), .val (.int p4), .val (.int (Int32.ofNat fr)), .val (.int (Int32.ofNat kk)), .val (.int (Int32.ofNat tl)), .val (.int cc), .val (.int dd), .val (.ref b3), .val (.int (Int32.ofNat q3)), .val (.int (Int32.ofNat q3)), .val (.int ((Int32.ofNat q3) + (Int32.ofNat tl))), .val (.int ((Int32.ofNat q3) + (2 : Int32)))] [])) _
            refine Rch.go (fun _ k => XS.goto X43.here hx rfl (pc0 := 334) (pc' := 369) rfl (hb hby at_334) (by decide) (by decide) k) ?_
            show Rch p e below (T43.setTop (mkF m 369 #[.val (.int p0), .val (.int p1), .val (.int p2), .val (.int p3), .val (.int p4), .val (.int (Int32.ofNat fr)), .val (.int (Int32.ofNat kk)), .val (.int (Int32.ofNat tl)), .val (.int cc), .val (.int dd), .val (.ref b3), .val (.int (Int32.ofNat q3)), .val (.int (Int32.ofNat q3)), .val (.int ((Int32.ofNat q3) + (Int32.ofNat tl))), .val (.int ((Int32.ofNat q3) + (2 : Int32)))] [])) _
            rw [show own_x_L14 tl q3 cc dd = ((Int32.ofNat q3) + (2 : Int32)) from by simp only [own_x_L14, if_neg hc270_46, if_neg hc283_47, if_pos hc311_49, if_pos hc318_50]] at kt
            exact kt
          · refine Rch.go (fun _ k => XS.icmpYes X43.here hx rfl (pc0 := 318) (pc' := 328) rfl (hb hby at_318) rfl (feq hc318_50).2 (by decide) (by decide) k) ?_
            show Rch p e below (T43.setTop (mkF m 328 #[.val (.int p0), .val (.int p1), .val (.int p2), .val (.int p3), .val (.int p4), .val (.int (Int32.ofNat fr)), .val (.int (Int32.ofNat kk)), .val (.int (Int32.ofNat tl)), .val (.int cc), .val (.int dd), .val (.ref b3), .val (.int (Int32.ofNat q3)), .val (.int (Int32.ofNat q3)), .val (.int ((Int32.ofNat q3) + (Int32.ofNat tl))), .unset] [])) _
            refine Rch.go (fun _ k => XS.iload X43.here hx rfl (hb hby at_328) rfl  k) ?_
            show Rch p e below (T43.setTop (mkF m 330 #[.val (.int p0), .val (.int p1), .val (.int p2), .val (.int p3), .val (.int p4), .val (.int (Int32.ofNat fr)), .val (.int (Int32.ofNat kk)), .val (.int (Int32.ofNat tl)), .val (.int cc), .val (.int dd), .val (.ref b3), .val (.int (Int32.ofNat q3)), .val (.int (Int32.ofNat q3)), .val (.int ((Int32.ofNat q3) + (Int32.ofNat tl))), .unset] [(.int (Int32.ofNat q3))])) _
            refine Rch.go (fun _ k => XS.iconst X43.here hx rfl (hb hby at_330) k) ?_
            show Rch p e below (T43.setTop (mkF m 331 #[.val (.int p0), .val (.int p1), .val (.int p2), .val (.int p3), .val (.int p4), .val (.int (Int32.ofNat fr)), .val (.int (Int32.ofNat kk)), .val (.int (Int32.ofNat tl)), .val (.int cc), .val (.int dd), .val (.ref b3), .val (.int (Int32.ofNat q3)), .val (.int (Int32.ofNat q3)), .val (.int ((Int32.ofNat q3) + (Int32.ofNat tl))), .unset] [(.int (1 : Int32)), (.int (Int32.ofNat q3))])) _
            refine Rch.go (fun _ k => XS.iadd X43.here hx rfl (hb hby at_331) rfl k) ?_
            show Rch p e below (T43.setTop (mkF m 332 #[.val (.int p0), .val (.int p1), .val (.int p2), .val (.int p3), .val (.int p4), .val (.int (Int32.ofNat fr)), .val (.int (Int32.ofNat kk)), .val (.int (Int32.ofNat tl)), .val (.int cc), .val (.int dd), .val (.ref b3), .val (.int (Int32.ofNat q3)), .val (.int (Int32.ofNat q3)), .val (.int ((Int32.ofNat q3) + (Int32.ofNat tl))), .unset] [(.int ((Int32.ofNat q3) + (1 : Int32)))])) _
            refine Rch.go (fun _ k => XS.istore X43.here hx rfl (hb hby at_332) rfl (l' := #[.val (.int p0), .val (.int p1), .val (.int p2), .val (.int p3), .val (.int p4), .val (.int (Int32.ofNat fr)), .val (.int (Int32.ofNat kk)), .val (.int (Int32.ofNat tl)), .val (.int cc), .val (.int dd), .val (.ref b3), .val (.int (Int32.ofNat q3)), .val (.int (Int32.ofNat q3)), .val (.int ((Int32.ofNat q3) + (Int32.ofNat tl))), .val (.int ((Int32.ofNat q3) + (1 : Int32)))]) rfl k) ?_
            show Rch p e below (T43.setTop (mkF m 334 #[.val (.int p0), .val (.int p1), .val (.int p2), .val (.int p3), .val (.int p4), .val (.int (Int32.ofNat fr)), .val (.int (Int32.ofNat kk)), .val (.int (Int32.ofNat tl)), .val (.int cc), .val (.int dd), .val (.ref b3), .val (.int (Int32.ofNat q3)), .val (.int (Int32.ofNat q3)), .val (.int ((Int32.ofNat q3) + (Int32.ofNat tl))), .val (.int ((Int32.ofNat q3) + (1 : Int32)))] [])) _
            refine Rch.go (fun _ k => XS.goto X43.here hx rfl (pc0 := 334) (pc' := 369) rfl (hb hby at_334) (by decide) (by decide) k) ?_
            show Rch p e below (T43.setTop (mkF m 369 #[.val (.int p0), .val (.int p1), .val (.int p2), .val (.int p3), .val (.int p4), .val (.int (Int32.ofNat fr)), .val (.int (Int32.ofNat kk)), .val (.int (Int32.ofNat tl)), .val (.int cc), .val (.int dd), .val (.ref b3), .val (.int (Int32.ofNat q3)), .val (.int (Int32.ofNat q3)), .val (.int ((Int32.ofNat q3) + (Int32.ofNat tl))), .val (.int ((Int32.ofNat q3) + (1 : Int32)))] [])) _
            rw [show own_x_L14 tl q3 cc dd = ((Int32.ofNat q3) + (1 : Int32)) from by simp only [own_x_L14, if_neg hc270_46, if_neg hc283_47, if_pos hc311_49, if_neg hc318_50]] at kt
            exact kt
        · refine Rch.go (fun _ k => XS.icmpYes X43.here hx rfl (pc0 := 311) (pc' := 337) rfl (hb hby at_311) rfl (feq hc311_49).2 (by decide) (by decide) k) ?_
          show Rch p e below (T43.setTop (mkF m 337 #[.val (.int p0), .val (.int p1), .val (.int p2), .val (.int p3), .val (.int p4), .val (.int (Int32.ofNat fr)), .val (.int (Int32.ofNat kk)), .val (.int (Int32.ofNat tl)), .val (.int cc), .val (.int dd), .val (.ref b3), .val (.int (Int32.ofNat q3)), .val (.int (Int32.ofNat q3)), .val (.int ((Int32.ofNat q3) + (Int32.ofNat tl))), .unset] [])) _
          refine Rch.go (fun _ k => XS.iload X43.here hx rfl (hb hby at_337) rfl  k) ?_
          show Rch p e below (T43.setTop (mkF m 339 #[.val (.int p0), .val (.int p1), .val (.int p2), .val (.int p3), .val (.int p4), .val (.int (Int32.ofNat fr)), .val (.int (Int32.ofNat kk)), .val (.int (Int32.ofNat tl)), .val (.int cc), .val (.int dd), .val (.ref b3), .val (.int (Int32.ofNat q3)), .val (.int (Int32.ofNat q3)), .val (.int ((Int32.ofNat q3) + (Int32.ofNat tl))), .unset] [(.int cc)])) _
          refine Rch.go (fun _ k => XS.bipush X43.here hx rfl (hb hby at_339) k) ?_
          show Rch p e below (T43.setTop (mkF m 341 #[.val (.int p0), .val (.int p1), .val (.int p2), .val (.int p3), .val (.int p4), .val (.int (Int32.ofNat fr)), .val (.int (Int32.ofNat kk)), .val (.int (Int32.ofNat tl)), .val (.int cc), .val (.int dd), .val (.ref b3), .val (.int (Int32.ofNat q3)), .val (.int (Int32.ofNat q3)), .val (.int ((Int32.ofNat q3) + (Int32.ofNat tl))), .unset] [(.int (13 : Int32)), (.int cc)])) _
          by_cases hc341_51 : cc = (13 : Int32)
          · refine Rch.go (fun _ k => XS.icmpNo X43.here hx rfl (hb hby at_341) rfl (teq hc341_51).2 k) ?_
            show Rch p e below (T43.setTop (mkF m 344 #[.val (.int p0), .val (.int p1), .val (.int p2), .val (.int p3), .val (.int p4), .val (.int (Int32.ofNat fr)), .val (.int (Int32.ofNat kk)), .val (.int (Int32.ofNat tl)), .val (.int cc), .val (.int dd), .val (.ref b3), .val (.int (Int32.ofNat q3)), .val (.int (Int32.ofNat q3)), .val (.int ((Int32.ofNat q3) + (Int32.ofNat tl))), .unset] [])) _
            refine Rch.go (fun _ k => XS.iload X43.here hx rfl (hb hby at_344) rfl  k) ?_
            show Rch p e below (T43.setTop (mkF m 346 #[.val (.int p0), .val (.int p1), .val (.int p2), .val (.int p3), .val (.int p4), .val (.int (Int32.ofNat fr)), .val (.int (Int32.ofNat kk)), .val (.int (Int32.ofNat tl)), .val (.int cc), .val (.int dd), .val (.ref b3), .val (.int (Int32.ofNat q3)), .val (.int (Int32.ofNat q3)), .val (.int ((Int32.ofNat q3) + (Int32.ofNat tl))), .unset] [(.int dd)])) _
            refine Rch.go (fun _ k => XS.bipush X43.here hx rfl (hb hby at_346) k) ?_
            show Rch p e below (T43.setTop (mkF m 348 #[.val (.int p0), .val (.int p1), .val (.int p2), .val (.int p3), .val (.int p4), .val (.int (Int32.ofNat fr)), .val (.int (Int32.ofNat kk)), .val (.int (Int32.ofNat tl)), .val (.int cc), .val (.int dd), .val (.ref b3), .val (.int (Int32.ofNat q3)), .val (.int (Int32.ofNat q3)), .val (.int ((Int32.ofNat q3) + (Int32.ofNat tl))), .unset] [(.int (10 : Int32)), (.int dd)])) _
            by_cases hc348_52 : dd = (10 : Int32)
            · refine Rch.go (fun _ k => XS.icmpNo X43.here hx rfl (hb hby at_348) rfl (teq hc348_52).2 k) ?_
              show Rch p e below (T43.setTop (mkF m 351 #[.val (.int p0), .val (.int p1), .val (.int p2), .val (.int p3), .val (.int p4), .val (.int (Int32.ofNat fr)), .val (.int (Int32.ofNat kk)), .val (.int (Int32.ofNat tl)), .val (.int cc), .val (.int dd), .val (.ref b3), .val (.int (Int32.ofNat q3)), .val (.int (Int32.ofNat q3)), .val (.int ((Int32.ofNat q3) + (Int32.ofNat tl))), .unset] [])) _
              refine Rch.go (fun _ k => XS.iload X43.here hx rfl (hb hby at_351) rfl  k) ?_
              show Rch p e below (T43.setTop (mkF m 353 #[.val (.int p0), .val (.int p1), .val (.int p2), .val (.int p3), .val (.int p4), .val (.int (Int32.ofNat fr)), .val (.int (Int32.ofNat kk)), .val (.int (Int32.ofNat tl)), .val (.int cc), .val (.int dd), .val (.ref b3), .val (.int (Int32.ofNat q3)), .val (.int (Int32.ofNat q3)), .val (.int ((Int32.ofNat q3) + (Int32.ofNat tl))), .unset] [(.int (Int32.ofNat q3))])) _
              refine Rch.go (fun _ k => XS.iconst X43.here hx rfl (hb hby at_353) k) ?_
              show Rch p e below (T43.setTop (mkF m 354 #[.val (.int p0), .val (.int p1), .val (.int p2), .val (.int p3), .val (.int p4), .val (.int (Int32.ofNat fr)), .val (.int (Int32.ofNat kk)), .val (.int (Int32.ofNat tl)), .val (.int cc), .val (.int dd), .val (.ref b3), .val (.int (Int32.ofNat q3)), .val (.int (Int32.ofNat q3)), .val (.int ((Int32.ofNat q3) + (Int32.ofNat tl))), .unset] [(.int (2 : Int32)), (.int (Int32.ofNat q3))])) _
              refine Rch.go (fun _ k => XS.iadd X43.here hx rfl (hb hby at_354) rfl k) ?_
              show Rch p e below (T43.setTop (mkF m 355 #[.val (.int p0), .val (.int p1), .val (.int p2), .val (.int p3), .val (.int p4), .val (.int (Int32.ofNat fr)), .val (.int (Int32.ofNat kk)), .val (.int (Int32.ofNat tl)), .val (.int cc), .val (.int dd), .val (.ref b3), .val (.int (Int32.ofNat q3)), .val (.int (Int32.ofNat q3)), .val (.int ((Int32.ofNat q3) + (Int32.ofNat tl))), .unset] [(.int ((Int32.ofNat q3) + (2 : Int32)))])) _
              refine Rch.go (fun _ k => XS.goto X43.here hx rfl (pc0 := 355) (pc' := 360) rfl (hb hby at_355) (by decide) (by decide) k) ?_
              show Rch p e below (T43.setTop (mkF m 360 #[.val (.int p0), .val (.int p1), .val (.int p2), .val (.int p3), .val (.int p4), .val (.int (Int32.ofNat fr)), .val (.int (Int32.ofNat kk)), .val (.int (Int32.ofNat tl)), .val (.int cc), .val (.int dd), .val (.ref b3), .val (.int (Int32.ofNat q3)), .val (.int (Int32.ofNat q3)), .val (.int ((Int32.ofNat q3) + (Int32.ofNat tl))), .unset] [(.int ((Int32.ofNat q3) + (2 : Int32)))])) _
              refine Rch.go (fun _ k => XS.istore X43.here hx rfl (hb hby at_360) rfl (l' := #[.val (.int p0), .val (.int p1), .val (.int p2), .val (.int p3), .val (.int p4), .val (.int (Int32.ofNat fr)), .val (.int (Int32.ofNat kk)), .val (.int (Int32.ofNat tl)), .val (.int cc), .val (.int dd), .val (.ref b3), .val (.int (Int32.ofNat q3)), .val (.int (Int32.ofNat q3)), .val (.int ((Int32.ofNat q3) + (Int32.ofNat tl))), .val (.int ((Int32.ofNat q3) + (2 : Int32)))]) rfl k) ?_
              show Rch p e below (T43.setTop (mkF m 362 #[.val (.int p0), .val (.int p1), .val (.int p2), .val (.int p3), .val (.int p4), .val (.int (Int32.ofNat fr)), .val (.int (Int32.ofNat kk)), .val (.int (Int32.ofNat tl)), .val (.int cc), .val (.int dd), .val (.ref b3), .val (.int (Int32.ofNat q3)), .val (.int (Int32.ofNat q3)), .val (.int ((Int32.ofNat q3) + (Int32.ofNat tl))), .val (.int ((Int32.ofNat q3) + (2 : Int32)))] [])) _
              refine Rch.go (fun _ k => XS.goto X43.here hx rfl (pc0 := 362) (pc' := 369) rfl (hb hby at_362) (by decide) (by decide) k) ?_
              show Rch p e below (T43.setTop (mkF m 369 #[.val (.int p0), .val (.int p1), .val (.int p2), .val (.int p3), .val (.int p4), .val (.int (Int32.ofNat fr)), .val (.int (Int32.ofNat kk)), .val (.int (Int32.ofNat tl)), .val (.int cc), .val (.int dd), .val (.ref b3), .val (.int (Int32.ofNat q3)), .val (.int (Int32.ofNat q3)), .val (.int ((Int32.ofNat q3) + (Int32.ofNat tl))), .val (.int ((Int32.ofNat q3) + (2 : Int32)))] [])) _
              rw [show own_x_L14 tl q3 cc dd = ((Int32.ofNat q3) + (2 : Int32)) from by simp only [own_x_L14, if_neg hc270_46, if_neg hc283_47, if_neg hc311_49, if_pos hc341_51, if_pos hc348_52]] at kt
              exact kt
            · refine Rch.go (fun _ k => XS.icmpYes X43.here hx rfl (pc0 := 348) (pc' := 358) rfl (hb hby at_348) rfl (feq hc348_52).2 (by decide) (by decide) k) ?_
              show Rch p e below (T43.setTop (mkF m 358 #[.val (.int p0), .val (.int p1), .val (.int p2), .val (.int p3), .val (.int p4), .val (.int (Int32.ofNat fr)), .val (.int (Int32.ofNat kk)), .val (.int (Int32.ofNat tl)), .val (.int cc), .val (.int dd), .val (.ref b3), .val (.int (Int32.ofNat q3)), .val (.int (Int32.ofNat q3)), .val (.int ((Int32.ofNat q3) + (Int32.ofNat tl))), .unset] [])) _
              refine Rch.go (fun _ k => XS.iload X43.here hx rfl (hb hby at_358) rfl  k) ?_
              show Rch p e below (T43.setTop (mkF m 360 #[.val (.int p0), .val (.int p1), .val (.int p2), .val (.int p3), .val (.int p4), .val (.int (Int32.ofNat fr)), .val (.int (Int32.ofNat kk)), .val (.int (Int32.ofNat tl)), .val (.int cc), .val (.int dd), .val (.ref b3), .val (.int (Int32.ofNat q3)), .val (.int (Int32.ofNat q3)), .val (.int ((Int32.ofNat q3) + (Int32.ofNat tl))), .unset] [(.int (Int32.ofNat q3))])) _
              refine Rch.go (fun _ k => XS.istore X43.here hx rfl (hb hby at_360) rfl (l' := #[.val (.int p0), .val (.int p1), .val (.int p2), .val (.int p3), .val (.int p4), .val (.int (Int32.ofNat fr)), .val (.int (Int32.ofNat kk)), .val (.int (Int32.ofNat tl)), .val (.int cc), .val (.int dd), .val (.ref b3), .val (.int (Int32.ofNat q3)), .val (.int (Int32.ofNat q3)), .val (.int ((Int32.ofNat q3) + (Int32.ofNat tl))), .val (.int (Int32.ofNat q3))]) rfl k) ?_
              show Rch p e below (T43.setTop (mkF m 362 #[.val (.int p0), .val (.int p1), .val (.int p2), .val (.int p3), .val (.int p4), .val (.int (Int32.ofNat fr)), .val (.int (Int32.ofNat kk)), .val (.int (Int32.ofNat tl)), .val (.int cc), .val (.int dd), .val (.ref b3), .val (.int (Int32.ofNat q3)), .val (.int (Int32.ofNat q3)), .val (.int ((Int32.ofNat q3) + (Int32.ofNat tl))), .val (.int (Int32.ofNat q3))] [])) _
              refine Rch.go (fun _ k => XS.goto X43.here hx rfl (pc0 := 362) (pc' := 369) rfl (hb hby at_362) (by decide) (by decide) k) ?_
              show Rch p e below (T43.setTop (mkF m 369 #[.val (.int p0), .val (.int p1), .val (.int p2), .val (.int p3), .val (.int p4), .val (.int (Int32.ofNat fr)), .val (.int (Int32.ofNat kk)), .val (.int (Int32.ofNat tl)), .val (.int cc), .val (.int dd), .val (.ref b3), .val (.int (Int32.ofNat q3)), .val (.int (Int32.ofNat q3)), .val (.int ((Int32.ofNat q3) + (Int32.ofNat tl))), .val (.int (Int32.ofNat q3))] [])) _
              rw [show own_x_L14 tl q3 cc dd = (Int32.ofNat q3) from by simp only [own_x_L14, if_neg hc270_46, if_neg hc283_47, if_neg hc311_49, if_pos hc341_51, if_neg hc348_52]] at kt
              exact kt
          · refine Rch.go (fun _ k => XS.icmpYes X43.here hx rfl (pc0 := 341) (pc' := 365) rfl (hb hby at_341) rfl (feq hc341_51).2 (by decide) (by decide) k) ?_
            show Rch p e below (T43.setTop (mkF m 365 #[.val (.int p0), .val (.int p1), .val (.int p2), .val (.int p3), .val (.int p4), .val (.int (Int32.ofNat fr)), .val (.int (Int32.ofNat kk)), .val (.int (Int32.ofNat tl)), .val (.int cc), .val (.int dd), .val (.ref b3), .val (.int (Int32.ofNat q3)), .val (.int (Int32.ofNat q3)), .val (.int ((Int32.ofNat q3) + (Int32.ofNat tl))), .unset] [])) _
            refine Rch.go (fun _ k => XS.iload X43.here hx rfl (hb hby at_365) rfl  k) ?_
            show Rch p e below (T43.setTop (mkF m 367 #[.val (.int p0), .val (.int p1), .val (.int p2), .val (.int p3), .val (.int p4), .val (.int (Int32.ofNat fr)), .val (.int (Int32.ofNat kk)), .val (.int (Int32.ofNat tl)), .val (.int cc), .val (.int dd), .val (.ref b3), .val (.int (Int32.ofNat q3)), .val (.int (Int32.ofNat q3)), .val (.int ((Int32.ofNat q3) + (Int32.ofNat tl))), .unset] [(.int (Int32.ofNat q3))])) _
            refine Rch.go (fun _ k => XS.istore X43.here hx rfl (hb hby at_367) rfl (l' := #[.val (.int p0), .val (.int p1), .val (.int p2), .val (.int p3), .val (.int p4), .val (.int (Int32.ofNat fr)), .val (.int (Int32.ofNat kk)), .val (.int (Int32.ofNat tl)), .val (.int cc), .val (.int dd), .val (.ref b3), .val (.int (Int32.ofNat q3)), .val (.int (Int32.ofNat q3)), .val (.int ((Int32.ofNat q3) + (Int32.ofNat tl))), .val (.int (Int32.ofNat q3))]) rfl k) ?_
            show Rch p e below (T43.setTop (mkF m 369 #[.val (.int p0), .val (.int p1), .val (.int p2), .val (.int p3), .val (.int p4), .val (.int (Int32.ofNat fr)), .val (.int (Int32.ofNat kk)), .val (.int (Int32.ofNat tl)), .val (.int cc), .val (.int dd), .val (.ref b3), .val (.int (Int32.ofNat q3)), .val (.int (Int32.ofNat q3)), .val (.int ((Int32.ofNat q3) + (Int32.ofNat tl))), .val (.int (Int32.ofNat q3))] [])) _
            rw [show own_x_L14 tl q3 cc dd = (Int32.ofNat q3) from by simp only [own_x_L14, if_neg hc270_46, if_neg hc283_47, if_neg hc311_49, if_neg hc341_51]] at kt
            exact kt
  refine hj53 _ ?_
  show Rch p e below (T43.setTop (mkF m 369 #[.val (.int p0), .val (.int p1), .val (.int p2), .val (.int p3), .val (.int p4), .val (.int (Int32.ofNat fr)), .val (.int (Int32.ofNat kk)), .val (.int (Int32.ofNat tl)), .val (.int cc), .val (.int dd), .val (.ref b3), .val (.int (Int32.ofNat q3)), .val (.int (Int32.ofNat q3)), .val (.int ((Int32.ofNat q3) + (Int32.ofNat tl))), .val (.int (own_x_L14 tl q3 cc dd))] [])) _
  rw [show (Int32.ofNat q3 + Int32.ofNat tl) = Int32.ofNat (q3 + tl) from (Int32.ofNat_add _ _).symm]
  show Rch p e below (T43.setTop (mkF m 369 #[.val (.int p0), .val (.int p1), .val (.int p2), .val (.int p3), .val (.int p4), .val (.int (Int32.ofNat fr)), .val (.int (Int32.ofNat kk)), .val (.int (Int32.ofNat tl)), .val (.int cc), .val (.int dd), .val (.ref b3), .val (.int (Int32.ofNat q3)), .val (.int (Int32.ofNat q3)), .val (.int (Int32.ofNat (q3 + tl))), .val (.int (own_x_L14 tl q3 cc dd))] [])) _
  have hcc' : nar .byte cc = cc := by rw [← hcc, nar_nar]
  have hdd' : nar .byte dd = dd := by rw [← hdd, nar_nar]
  refine Rch.go (fun _ k => XS.aload X43.here hx rfl (hb hby at_369) rfl rfl k) ?_
  show Rch p e below (T43.setTop (mkF m 371 #[.val (.int p0), .val (.int p1), .val (.int p2), .val (.int p3), .val (.int p4), .val (.int (Int32.ofNat fr)), .val (.int (Int32.ofNat kk)), .val (.int (Int32.ofNat tl)), .val (.int cc), .val (.int dd), .val (.ref b3), .val (.int (Int32.ofNat q3)), .val (.int (Int32.ofNat q3)), .val (.int (Int32.ofNat (q3 + tl))), .val (.int (own_x_L14 tl q3 cc dd))] [(.ref b3)])) _
  refine Rch.go (fun _ k => XS.iload X43.here hx rfl (hb hby at_371) rfl  k) ?_
  show Rch p e below (T43.setTop (mkF m 373 #[.val (.int p0), .val (.int p1), .val (.int p2), .val (.int p3), .val (.int p4), .val (.int (Int32.ofNat fr)), .val (.int (Int32.ofNat kk)), .val (.int (Int32.ofNat tl)), .val (.int cc), .val (.int dd), .val (.ref b3), .val (.int (Int32.ofNat q3)), .val (.int (Int32.ofNat q3)), .val (.int (Int32.ofNat (q3 + tl))), .val (.int (own_x_L14 tl q3 cc dd))] [(.int (Int32.ofNat fr)), (.ref b3)])) _
  refine Rch.go (fun _ k => XS.iload X43.here hx rfl (hb hby at_373) rfl  k) ?_
  show Rch p e below (T43.setTop (mkF m 375 #[.val (.int p0), .val (.int p1), .val (.int p2), .val (.int p3), .val (.int p4), .val (.int (Int32.ofNat fr)), .val (.int (Int32.ofNat kk)), .val (.int (Int32.ofNat tl)), .val (.int cc), .val (.int dd), .val (.ref b3), .val (.int (Int32.ofNat q3)), .val (.int (Int32.ofNat q3)), .val (.int (Int32.ofNat (q3 + tl))), .val (.int (own_x_L14 tl q3 cc dd))] [(.int (Int32.ofNat (q3 + tl))), (.int (Int32.ofNat fr)), (.ref b3)])) _
  refine Rch.callS X43 hx hZ hown (hw _ (List.mem_of_getElem? (i := 5) rfl)) (hw _ (List.mem_of_getElem? (i := 6) rfl)) (hw _ (List.mem_of_getElem? (i := 7) rfl)) (hw _ (List.mem_of_getElem? (i := 8) rfl)) (by decide) (rm2 l Z a0 hw [] b3 fr (q3 + tl) f8 h43 n0 (Nat.le_of_lt (Nat.lt_of_le_of_lt g_b3 B8.lt)) (by omega) (by omega) B8) 0 (by decide) (by decide) (by decide) (by decide) e43 (g := (mkF m 375 #[.val (.int p0), .val (.int p1), .val (.int p2), .val (.int p3), .val (.int p4), .val (.int (Int32.ofNat fr)), .val (.int (Int32.ofNat kk)), .val (.int (Int32.ofNat tl)), .val (.int cc), .val (.int dd), .val (.ref b3), .val (.int (Int32.ofNat q3)), .val (.int (Int32.ofNat q3)), .val (.int (Int32.ofNat (q3 + tl))), .val (.int (own_x_L14 tl q3 cc dd))] [(.int (Int32.ofNat (q3 + tl))), (.int (Int32.ofNat fr)), (.ref b3)])) rfl (by rw [hml]; rfl) [(.ref b3), (.int (Int32.ofNat fr)), (.int (Int32.ofNat (q3 + tl)))] [] rfl (lenOf pd0_2 rfl) rfl (by show 2 * 0 + _ ≤ _; exact Nat.le_of_eq rfl) (hb hby at_375) ?_
  intro v54 T54 L54 X54 hQ54
  obtain ⟨rfl, N54q, e54⟩ := hQ54
  have NZ := Fr.app N43 N54q
  show Rch p e below (T54.setTop (mkF m 378 #[.val (.int p0), .val (.int p1), .val (.int p2), .val (.int p3), .val (.int p4), .val (.int (Int32.ofNat fr)), .val (.int (Int32.ofNat kk)), .val (.int (Int32.ofNat tl)), .val (.int cc), .val (.int dd), .val (.ref b3), .val (.int (Int32.ofNat q3)), .val (.int (Int32.ofNat q3)), .val (.int (Int32.ofNat (q3 + tl))), .val (.int (own_x_L14 tl q3 cc dd))] [(.int (Int32.ofNat (own_scan f8 (q3 + tl) fr)))])) _
  refine Rch.go (fun _ k => XS.iload X54.here hx rfl (hb hby at_378) rfl  k) ?_
  show Rch p e below (T54.setTop (mkF m 380 #[.val (.int p0), .val (.int p1), .val (.int p2), .val (.int p3), .val (.int p4), .val (.int (Int32.ofNat fr)), .val (.int (Int32.ofNat kk)), .val (.int (Int32.ofNat tl)), .val (.int cc), .val (.int dd), .val (.ref b3), .val (.int (Int32.ofNat q3)), .val (.int (Int32.ofNat q3)), .val (.int (Int32.ofNat (q3 + tl))), .val (.int (own_x_L14 tl q3 cc dd))] [(.int (own_x_L14 tl q3 cc dd)), (.int (Int32.ofNat (own_scan f8 (q3 + tl) fr)))])) _
  refine Rch.go (fun _ k => XS.icmpNo X54.here hx rfl (hb hby at_380) rfl (teq (own_same htl hcc' hdd' hq_q1 hf_f4 hq_q2 hf_f5 hq_q3 hf_f6 hf_f7 hf_f8)).2 k) ?_
  show Rch p e below (T54.setTop (mkF m 383 #[.val (.int p0), .val (.int p1), .val (.int p2), .val (.int p3), .val (.int p4), .val (.int (Int32.ofNat fr)), .val (.int (Int32.ofNat kk)), .val (.int (Int32.ofNat tl)), .val (.int cc), .val (.int dd), .val (.ref b3), .val (.int (Int32.ofNat q3)), .val (.int (Int32.ofNat q3)), .val (.int (Int32.ofNat (q3 + tl))), .val (.int (own_x_L14 tl q3 cc dd))] [])) _
  refine Rch.go (fun _ k => XS.iconst X54.here hx rfl (hb hby at_383) k) ?_
  show Rch p e below (T54.setTop (mkF m 384 #[.val (.int p0), .val (.int p1), .val (.int p2), .val (.int p3), .val (.int p4), .val (.int (Int32.ofNat fr)), .val (.int (Int32.ofNat kk)), .val (.int (Int32.ofNat tl)), .val (.int cc), .val (.int dd), .val (.ref b3), .val (.int (Int32.ofNat q3)), .val (.int (Int32.ofNat q3)), .val (.int (Int32.ofNat (q3 + tl))), .val (.int (own_x_L14 tl q3 cc dd))] [(.int (1 : Int32))])) _
  refine Rch.go (fun _ k => XS.goto X54.here hx rfl (pc0 := 384) (pc' := 388) rfl (hb hby at_384) (by decide) (by decide) k) ?_
  show Rch p e below (T54.setTop (mkF m 388 #[.val (.int p0), .val (.int p1), .val (.int p2), .val (.int p3), .val (.int p4), .val (.int (Int32.ofNat fr)), .val (.int (Int32.ofNat kk)), .val (.int (Int32.ofNat tl)), .val (.int cc), .val (.int dd), .val (.ref b3), .val (.int (Int32.ofNat q3)), .val (.int (Int32.ofNat q3)), .val (.int (Int32.ofNat (q3 + tl))), .val (.int (own_x_L14 tl q3 cc dd))] [(.int (1 : Int32))])) _
  exact Rch.ret X54 hlk (fun h => by rw [hret] at h; cases h) (fun fs hr => retN X54 hx (t := .boolean) hret (by simp) (hb hby at_388) hr) ⟨rfl, NZ⟩ (by decide) (by decide)
set_option maxRecDepth 65536 in
set_option maxHeartbeats 40000000 in
theorem comes_1 {Post : Tables → Env → Array Value → State → Outcome → State → Prop} (hpost : ∀ tb e args s v u, (limb_1_1.after args s (.returned v) u = true ∧ limb_1_2.after args s (.returned v) u = true ∧ True) → FrameEnd s (.returned v) u (Jvm.fieldLocs frame_1_writes args s ++ Jvm.arrayLocs frame_1_arrays args s ++ Jvm.staticLocs frame_1_statics s) 16 128 → Post tb e args s (.returned v) u) :
    ArmFor flags0 classFile x code maxLocals ret World_1 tables_1 room_1 Calls_1 rest_1 Pre_1 Post := by
  intro l hfl _ _ p e ha hc hk s m args below hf hA hF happ hP
  obtain ⟨hcalls, hrest, hpre⟩ := hP
  obtain ⟨-, -, -, hnamed, -, -, -, hat⟩ := (Spec.applies_iff hf).mp happ
  obtain ⟨hg, hn⟩ := and_e (Cond.before_iff.mp (show (Jvm.Cond.and given_1 narrow_1).before args s = true from hpre))
  obtain ⟨hcount, q0⟩ := and_e hg
  obtain ⟨b0, q1⟩ := and_e q0
  obtain ⟨b1, q2⟩ := and_e q1
  obtain ⟨b2, q3⟩ := and_e q2
  obtain ⟨b3, q4⟩ := and_e q3
  obtain ⟨w0, w1, w2, w3, w4, rfl⟩ : ∃ w0 w1 w2 w3 w4 : Value, args = #[w0, w1, w2, w3, w4] := by
    have hs : args.size = 5 := by simpa [Cond.value, given_1] using hcount
    obtain ⟨L⟩ := args
    match L, hs with
    | [w0, w1, w2, w3, w4], _ => exact ⟨w0, w1, w2, w3, w4, rfl⟩
  have hw := fun d (hd : d ∈ tables_1) => atoms_spec (ws := Jvm.Cond.code x code maxLocals ret :: tables_1) hat d (List.mem_cons_of_mem _ hd)
  have hfit : Fit s := fun {y c} hc i hi => by
    obtain ⟨ha, rfl⟩ := Array.getElem?_eq_some_iff.mp hc
    have q := List.all_eq_true.mp ((Array.all_eq_true_iff_forall_mem.mp hF) _ (Array.getElem_mem ha)) i (List.mem_range.mpr hi)
    simpa [Array.getElem?_eq_getElem hi] using q
  obtain ⟨i0, ei0⟩ := is_v b0
  obtain rfl : w0 = (.int i0) := Option.some.inj ei0
  obtain ⟨i1, ei1⟩ := is_v b1
  obtain rfl : w1 = (.int i1) := Option.some.inj ei1
  obtain ⟨i2, ei2⟩ := is_v b2
  obtain rfl : w2 = (.int i2) := Option.some.inj ei2
  obtain ⟨i3, ei3⟩ := is_v b3
  obtain rfl : w3 = (.int i3) := Option.some.inj ei3
  obtain ⟨i4, ei4⟩ := is_v q4
  obtain rfl : w4 = (.int i4) := Option.some.inj ei4
  obtain ⟨n, o, h1, h2, h3, _, L, rfl, ⟨rfl, N⟩, hq⟩ := rm0 l s _ hw tables_1 i0 i1 i2 i3 i4 s.heap s.heap.size (Nat.le_refl _)  p e ha hc hk s m _ below hf ((Spec.applies_iff_loose hf).mp happ).1 ⟨rfl, State.Warmed39.refl s, rfl⟩ trivial
  refine ⟨n, _, h1, h2, h3, hpost _ _ _ _ _ _ ⟨Cond.after_iff.mpr rfl, Cond.after_iff.mpr (eq_i res_at (Term.int_eval (1)) rfl), trivial⟩ ⟨hq.1, hq.2.1, (hq.2.2.sift fun y hy => Or.inr (N y hy)).mono (by decide) (by decide)⟩⟩
theorem main_1_1 : Claimed_1_1 := comes_1 fun _ _ _ _ _ _ h hF => ⟨h.1, hF⟩
theorem main_1_2 : Claimed_1_2 := comes_1 fun _ _ _ _ _ _ h hF => ⟨h.2.1, hF⟩
end Jvm.Pilot.@@N@@
namespace Jvm.Pilot.@@N@@
open Jvm Jvm.ClassFile Sem Op Lib Jvm.Free Jvm.Stand Jvm.Pilot.@@N@@.Jvm.D
/-! MADE BY PROGRAM (witnessworld.py) out of the Statement's table words and the real class files: 10 classes; the members and pool entries that the words name. The judged class is class 1, her method 1. -/
namespace start1
open Jvm.ClassFile
def u (s : String) : CpInfo := .utf8 (stringToUtf16 s)
/-- a pool by its gaps: so many unusable entries, then the entry; so many at the end -/
def gap : Nat → List CpInfo → List CpInfo
  | 0, r => r
  | n + 1, r => .unusable :: gap n r
def poolList (es : List (Nat × CpInfo)) (last : Nat) : List CpInfo := es.foldr (fun e r => gap e.1 (e.2 :: r)) (gap last [])
def pool (es : List (Nat × CpInfo)) (last : Nat) : Array CpInfo := ⟨poolList es last⟩
def fileOf (pool : Array CpInfo) (this : Nat) (attrs : Array Attribute := #[]) (ms : Array MethodInfo := #[]) (fl : Nat := 33) (sup : Nat := 0) (ifs : Array Nat := #[]) (fds : Array FieldInfo := #[]) : ClassFile where
  minorVersion := 0
  majorVersion := 65
  constantPool := pool
  accessFlags := fl
  thisClass := this
  superClass := sup
  interfaces := ifs
  fields := fds
  methods := ms
  attributes := attrs
def plain (name : String) (sup : Option ClassId) : Class where
  name := name
  kind := .ordinary
  loader := none
  accessFlags := 33
  super := sup
  interfaces := #[]
  cf := none
  fields := #[]
  methods := #[]
  instanceTypes := #[]
  staticTypes := #[]
  resolved := #[]
  callSites := []
  init := .initialized
  statics := none
  mirror := none

def pool0 : Array CpInfo := pool [(5, u "<init>"), (0, u "()V"), (1, .class_ 10), (1, u "java/lang/Object")] 113

def k0m0 : Method := { name := "<init>", desc := "()V", sig := { parameters := [], returnType := none }, accessFlags := 1, code := none }
/-- java/lang/Object -/
def k0 : Class := { plain "java/lang/Object" none with
  accessFlags := 33
  interfaces := #[]
  cf := some (fileOf pool0 8 #[] #[{ accessFlags := 1, nameIndex := 5, descriptorIndex := 6, attributes := #[] }] 33 0 #[] #[])
  fields := #[]
  methods := #[k0m0]
  instanceTypes := #[]
  staticTypes := #[]
  resolved := Array.replicate 124 none
  statics := none }

def pool1 : Array CpInfo := pool [(2, .class_ 4), (1, u "java/lang/Object"), (0, u "<init>"), (0, u "()V"), (0, .methodref 8 9), (0, .class_ 10), (0, .nameAndType 11 12), (0, u "com/example/labcourier/labcourier/console/HttpRequestRequestLineStartPinLaw"), (0, u "drawn"), (0, u "(I)B"), (0, .methodref 8 14), (0, .nameAndType 15 16), (0, u "put"), (0, u "([BIZ)I"), (0, .methodref 18 19), (0, .class_ 20), (0, .nameAndType 21 22), (0, u "com/example/labcourier/labcourier/console/HttpRequest"), (0, u "requestLineStart"), (0, u "([BII)I"), (2, u "law"), (0, u "(IIIII)Z")] 5

def k1m0 : Method := { name := "<init>", desc := "()V", sig := { parameters := [], returnType := none }, accessFlags := 1, code := none }
def k1c1 : Code := { maxStack := 4, maxLocals := 15, code := code, exceptionTable := #[], attributes := #[] }
def k1m1 : Method := { name := "law", desc := "(IIIII)Z", sig := { parameters := [.int, .int, .int, .int, .int], returnType := some .boolean }, accessFlags := 9, code := some k1c1 }
def k1c2 : Code := { maxStack := 2, maxLocals := 2, code := method_3_code, exceptionTable := #[], attributes := #[] }
def k1m2 : Method := { name := "drawn", desc := "(I)B", sig := { parameters := [.int], returnType := some .byte }, accessFlags := 10, code := some k1c2 }
def k1c3 : Code := { maxStack := 3, maxLocals := 3, code := method_4_code, exceptionTable := #[], attributes := #[] }
def k1m3 : Method := { name := "put", desc := "([BIZ)I", sig := { parameters := [(.array .byte), .int, .boolean], returnType := some .int }, accessFlags := 10, code := some k1c3 }
/-- com/example/labcourier/labcourier/console/HttpRequestRequestLineStartPinLaw -/
def k1 : Class := { plain "com/example/labcourier/labcourier/console/HttpRequestRequestLineStartPinLaw" (some 0) with
  accessFlags := 49
  interfaces := #[]
  cf := some (fileOf pool1 8 #[] #[{ accessFlags := 1, nameIndex := 5, descriptorIndex := 6, attributes := #[] }, { accessFlags := 9, nameIndex := 25, descriptorIndex := 26, attributes := #[] }, { accessFlags := 10, nameIndex := 11, descriptorIndex := 12, attributes := #[] }, { accessFlags := 10, nameIndex := 15, descriptorIndex := 16, attributes := #[] }] 49 2 #[] #[])
  fields := #[]
  methods := #[k1m0, k1m1, k1m2, k1m3]
  instanceTypes := #[]
  staticTypes := #[]
  resolved := Array.replicate 32 none
  statics := none }

def pool2 : Array CpInfo := pool [(2, .class_ 4), (1, u "java/lang/Object"), (0, u "<init>"), (0, u "()V"), (0, .class_ 8), (0, u "java/lang/Record")] 13

def k2m0 : Method := { name := "<init>", desc := "()V", sig := { parameters := [], returnType := none }, accessFlags := 4, code := none }
/-- java/lang/Record -/
def k2 : Class := { plain "java/lang/Record" (some 0) with
  accessFlags := 1057
  interfaces := #[]
  cf := some (fileOf pool2 7 #[] #[{ accessFlags := 4, nameIndex := 5, descriptorIndex := 6, attributes := #[] }] 1057 2 #[] #[])
  fields := #[]
  methods := #[k2m0]
  instanceTypes := #[]
  staticTypes := #[]
  resolved := Array.replicate 22 none
  statics := none }

def pool3 : Array CpInfo := pool [(2, .class_ 4), (1, u "java/lang/Record"), (9, .class_ 16), (1, u "com/example/labcourier/labcourier/console/HttpRequest"), (0, u "method"), (0, u "Ljava/lang/String;"), (2, u "path"), (2, u "query"), (2, u "headers"), (0, u "Ljava/util/Map;"), (8, u "HEAD"), (0, u "[B"), (25, u "REQUEST_LINE"), (0, u "Ljava/util/regex/Pattern;"), (16, .class_ 83), (0, u "com/example/labcourier/labcourier/console/HttpRequest$Refused"), (18, u "ABSOLUTE"), (17, u "FIELD"), (40, u "HOST"), (69, u "MOST_HEAD_BYTES"), (0, u "I"), (2, u "TOKEN"), (6, u "requestLineStart"), (0, u "([BII)I")] 64

def k3c0 : Code := { maxStack := 2, maxLocals := 5, code := prog_20_method_2_code, exceptionTable := #[], attributes := #[] }
def k3m0 : Method := { name := "requestLineStart", desc := "([BII)I", sig := { parameters := [(.array .byte), .int, .int], returnType := some .int }, accessFlags := 8, code := some k3c0 }
/-- com/example/labcourier/labcourier/console/HttpRequest -/
def k3 : Class := { plain "com/example/labcourier/labcourier/console/HttpRequest" (some 2) with
  accessFlags := 48
  interfaces := #[]
  cf := some (fileOf pool3 14 #[.nestMembers #[82]] #[{ accessFlags := 8, nameIndex := 242, descriptorIndex := 243, attributes := #[] }] 48 2 #[] #[{ accessFlags := 18, nameIndex := 17, descriptorIndex := 18, attributes := #[] }, { accessFlags := 18, nameIndex := 21, descriptorIndex := 18, attributes := #[] }, { accessFlags := 18, nameIndex := 24, descriptorIndex := 18, attributes := #[] }, { accessFlags := 18, nameIndex := 27, descriptorIndex := 28, attributes := #[] }, { accessFlags := 24, nameIndex := 231, descriptorIndex := 232, attributes := #[] }, { accessFlags := 24, nameIndex := 235, descriptorIndex := 18, attributes := #[] }, { accessFlags := 26, nameIndex := 64, descriptorIndex := 65, attributes := #[] }, { accessFlags := 26, nameIndex := 37, descriptorIndex := 38, attributes := #[] }, { accessFlags := 26, nameIndex := 102, descriptorIndex := 65, attributes := #[] }, { accessFlags := 26, nameIndex := 120, descriptorIndex := 65, attributes := #[] }, { accessFlags := 26, nameIndex := 161, descriptorIndex := 65, attributes := #[] }])
  fields := #[{ name := "method", type := (.object "java/lang/String"), accessFlags := 18, slot := 0, constantValue := 0 }, { name := "path", type := (.object "java/lang/String"), accessFlags := 18, slot := 1, constantValue := 0 }, { name := "query", type := (.object "java/lang/String"), accessFlags := 18, slot := 2, constantValue := 0 }, { name := "headers", type := (.object "java/util/Map"), accessFlags := 18, slot := 3, constantValue := 0 }, { name := "MOST_HEAD_BYTES", type := .int, accessFlags := 24, slot := 0, constantValue := 0 }, { name := "TOKEN", type := (.object "java/lang/String"), accessFlags := 24, slot := 1, constantValue := 0 }, { name := "REQUEST_LINE", type := (.object "java/util/regex/Pattern"), accessFlags := 26, slot := 2, constantValue := 0 }, { name := "HEAD", type := (.array .byte), accessFlags := 26, slot := 3, constantValue := 0 }, { name := "ABSOLUTE", type := (.object "java/util/regex/Pattern"), accessFlags := 26, slot := 4, constantValue := 0 }, { name := "FIELD", type := (.object "java/util/regex/Pattern"), accessFlags := 26, slot := 5, constantValue := 0 }, { name := "HOST", type := (.object "java/util/regex/Pattern"), accessFlags := 26, slot := 6, constantValue := 0 }]
  methods := #[k3m0]
  instanceTypes := #[(.object "java/lang/String"), (.object "java/lang/String"), (.object "java/lang/String"), (.object "java/util/Map")]
  staticTypes := #[.int, (.object "java/lang/String"), (.object "java/util/regex/Pattern"), (.array .byte), (.object "java/util/regex/Pattern"), (.object "java/util/regex/Pattern"), (.object "java/util/regex/Pattern")]
  resolved := Array.replicate 308 none
  statics := none }

def pool4 : Array CpInfo := pool [(1, u "java/lang/Cloneable"), (0, .class_ 1), (0, u "java/lang/Object"), (0, .class_ 3)] 3

/-- java/lang/Cloneable -/
def k4 : Class := { plain "java/lang/Cloneable" (some 0) with
  accessFlags := 1537
  interfaces := #[]
  cf := some (fileOf pool4 2 #[] #[] 1537 4 #[] #[])
  fields := #[]
  methods := #[]
  instanceTypes := #[]
  staticTypes := #[]
  resolved := Array.replicate 8 none
  statics := none }

def pool5 : Array CpInfo := pool [(1, u "java/io/Serializable"), (0, .class_ 1), (0, u "java/lang/Object"), (0, .class_ 3)] 3

/-- java/io/Serializable -/
def k5 : Class := { plain "java/io/Serializable" (some 0) with
  accessFlags := 1537
  interfaces := #[]
  cf := some (fileOf pool5 2 #[] #[] 1537 4 #[] #[])
  fields := #[]
  methods := #[]
  instanceTypes := #[]
  staticTypes := #[]
  resolved := Array.replicate 8 none
  statics := none }

/-- the primitive byte -/
def k6 : Class := { plain "byte" none with kind := .primitive 'B', accessFlags := 0x411 }
/-- [B -/
def k7 : Class := { plain "[B" (some 0) with kind := .array 6 .byte, interfaces := #[4, 5], accessFlags := 1041 }

/-- the primitive int -/
def k8 : Class := { plain "int" none with kind := .primitive 'I', accessFlags := 0x411 }
/-- [I -/
def k9 : Class := { plain "[I" (some 0) with kind := .array 8 .int, interfaces := #[4, 5], accessFlags := 1041 }

def heap : Heap := #[]
def classes : Array Class := #[k0, k1, k2, k3, k4, k5, k6, k7, k8, k9]
def interned : List (Array UInt16 × Addr) := []
def slotsUsed : Nat := 0
def theMethod : MethodId := ⟨1, 1⟩
def args0 : Array Value := #[.int 1, .int 2, .int 3, .int 4, .int 5]
def aboutOver (below : List Frame) : State where
  vm := { classes := classes, interned := interned.toArray }
  heap := heap
  slotsUsed := slotsUsed
  threads := #[{ frames := .invoking theMethod args0 :: below }]
def below0 : List Frame := [.native { method := ⟨0, 0⟩, args := #[] }]
def about1 : State := aboutOver below0
def p0 : Program := .bare "" "" ""
def e0 : Env := launch0.env 0 0 0
theorem w_frames : about1.frames = Frame.invoking theMethod args0 :: below0 := rfl
set_option maxRecDepth 65536 in
theorem w_args : argsFit about1.vm theMethod args0 = true := by decide +kernel
set_option maxRecDepth 65536 in
theorem w_heap : heapFits about1 = true := by decide +kernel
set_option maxRecDepth 65536 in
theorem w_runnable : about1.curStatus? = some .runnable := by decide +kernel
set_option maxRecDepth 65536 in
theorem w_alone : about1.alone = true := by decide +kernel
set_option maxRecDepth 65536 in
theorem w_named : about1.methodNamed? x = some theMethod := by decide +kernel
set_option maxRecDepth 65536 in
theorem w_hears : about1.hears theMethod below0 = true := by decide +kernel
set_option maxRecDepth 65536 in
theorem w_ripe : about1.ripe theMethod args0 below0 = true := by decide +kernel
theorem w_running : about1.status = .running := rfl
set_option maxRecDepth 65536 in
theorem w_room : about1.hasRoom e0.platform room_1 = true :=
  launch0.hasRoom_least _ room_1 (by decide +kernel) (by decide +kernel) (by decide +kernel) (by decide +kernel) (by decide +kernel) (by decide +kernel)
theorem allAtoms_all (ts : List Jvm.Cond) (a : Array Jvm.Value) (st : Jvm.State) : (allAtoms ts).before a st = ts.all (fun c => c.before a st) := by
  induction ts with
  | nil => rfl
  | cons c t ih =>
    show (Jvm.Cond.and c (allAtoms t)).before a st = _
    rw [Jvm.Cond.before_and, ih, List.all_cons]
def words1 : List Jvm.Cond := Jvm.Cond.code x code maxLocals ret :: tables_1
/-- a 'code' word, met by the world's own term for the bytes: nothing is compared byte by byte -/
theorem code_word {y : MethodName} {bytes : ByteArray} {mx : Nat} {rt : Option FieldType} {a : Array Value} {s : State} {m : MethodId} {meth : Method} {c : Code} (h1 : s.methodNamed? y = some m) (h2 : s.vm.method? m = some meth) (h3 : meth.code = some c) (h4 : c.code = bytes)
    (h5 : (c.maxLocals == mx && c.exceptionTable.isEmpty && decide (c.maxStack ≤ mostOperands) && decide (meth.sig.returnType = rt) && !meth.locks && decide (parseMethodDescriptor y.desc = some meth.sig)) = true) : (Jvm.Cond.code y bytes mx rt).before a s = true := by
  simp only [Bool.and_eq_true, beq_iff_eq, Bool.not_eq_true', decide_eq_true_eq] at h5
  obtain ⟨⟨⟨⟨⟨g1, g2⟩, g3⟩, g4⟩, g5⟩, g6⟩ := h5
  simp [Cond.before, Cond.holds, Cond.value, h1, h2, h3, h4, g1, g2, g3, g4, g5, g6]
def isCode : Jvm.Cond → Bool
  | .code _ _ _ _ => true
  | _ => false
theorem all_split {L : List Jvm.Cond} {P : Jvm.Cond → Bool} (h1 : L.all (fun c => isCode c || P c) = true) (h2 : ∀ c ∈ L.filter isCode, P c = true) : L.all P = true := by
  refine List.all_eq_true.mpr fun c hc => ?_
  have h := List.all_eq_true.mp h1 c hc
  rcases Bool.eq_false_or_eq_true (isCode c) with hi | hi
  · exact h2 c (List.mem_filter.mpr ⟨hc, hi⟩)
  · simpa [hi] using h
set_option maxRecDepth 65536 in
theorem w_c0 : (Jvm.Cond.code x code maxLocals ret).before args0 about1 = true := code_word (m := ⟨1, 1⟩) (meth := k1m1) (c := k1c1) (by decide +kernel) rfl rfl rfl (by decide +kernel)
set_option maxRecDepth 65536 in
theorem w_c1 : (Jvm.Cond.code ({ cls := "com/example/labcourier/labcourier/console/HttpRequestRequestLineStartPinLaw", name := "drawn", desc := "(I)B" } : Jvm.MethodName) method_3_code (2 : Nat) (Option.some Jvm.ClassFile.FieldType.byte)).before args0 about1 = true := code_word (m := ⟨1, 2⟩) (meth := k1m2) (c := k1c2) (by decide +kernel) rfl rfl rfl (by decide +kernel)
set_option maxRecDepth 65536 in
theorem w_c2 : (Jvm.Cond.code ({ cls := "com/example/labcourier/labcourier/console/HttpRequest", name := "requestLineStart", desc := "([BII)I" } : Jvm.MethodName) prog_20_method_2_code (5 : Nat) (Option.some Jvm.ClassFile.FieldType.int)).before args0 about1 = true := code_word (m := ⟨3, 0⟩) (meth := k3m0) (c := k3c0) (by decide +kernel) rfl rfl rfl (by decide +kernel)
set_option maxRecDepth 65536 in
theorem w_c3 : (Jvm.Cond.code ({ cls := "com/example/labcourier/labcourier/console/HttpRequestRequestLineStartPinLaw", name := "put", desc := "([BIZ)I" } : Jvm.MethodName) method_4_code (3 : Nat) (Option.some Jvm.ClassFile.FieldType.int)).before args0 about1 = true := code_word (m := ⟨1, 3⟩) (meth := k1m3) (c := k1c3) (by decide +kernel) rfl rfl rfl (by decide +kernel)
def codes1 : List Jvm.Cond := [Jvm.Cond.code x code maxLocals ret, Jvm.Cond.code ({ cls := "com/example/labcourier/labcourier/console/HttpRequestRequestLineStartPinLaw", name := "drawn", desc := "(I)B" } : Jvm.MethodName) method_3_code (2 : Nat) (Option.some Jvm.ClassFile.FieldType.byte), Jvm.Cond.code ({ cls := "com/example/labcourier/labcourier/console/HttpRequest", name := "requestLineStart", desc := "([BII)I" } : Jvm.MethodName) prog_20_method_2_code (5 : Nat) (Option.some Jvm.ClassFile.FieldType.int), Jvm.Cond.code ({ cls := "com/example/labcourier/labcourier/console/HttpRequestRequestLineStartPinLaw", name := "put", desc := "([BIZ)I" } : Jvm.MethodName) method_4_code (3 : Nat) (Option.some Jvm.ClassFile.FieldType.int)]
set_option maxRecDepth 65536 in
theorem codes_eq : words1.filter isCode = codes1 := rfl
theorem w_codes : ∀ c ∈ words1.filter isCode, c.before args0 about1 = true := by
  rw [codes_eq]
  intro c hc
  simp only [codes1, List.mem_cons, List.not_mem_nil, or_false] at hc
  rcases hc with rfl | rfl | rfl | rfl
  · exact w_c0
  · exact w_c1
  · exact w_c2
  · exact w_c3
set_option maxRecDepth 65536 in
theorem w_t1 : words1.all (fun c => isCode c || c.before args0 about1) = true := by decide +kernel
theorem w_tables : (allAtoms (Jvm.Cond.code x code maxLocals ret :: tables_1)).before args0 about1 = true := by
  rw [allAtoms_all]
  show words1.all (fun c => c.before args0 about1) = true
  refine all_split ?_ w_codes
  rw [w_t1]
set_option maxRecDepth 65536 in
theorem w_case : (Jvm.Cond.and given_1 narrow_1).before args0 about1 = true := by decide +kernel
theorem w_applies : (headSpec (Jvm.Cond.code x code maxLocals ret :: tables_1) room_1).applies x e0.platform about1 = true :=
  (Spec.applies_iff w_frames).mpr ⟨w_running, w_runnable, w_alone, w_named, w_hears, w_ripe, w_room, w_tables⟩
theorem atStart : AtStart classFile x code maxLocals ret World_1 tables_1 room_1 Calls_1 rest_1 Pre_1 launch0 p0 e0 about1 theMethod args0 below0 :=
  ⟨lists_1, trivial, launch0.admits_env _ _ _, launch0.least_env, fairChoices_fair.cas, fairChoices_fair.clock, w_frames, w_args, w_heap, w_applies, trivial, trivial, w_case⟩
end start1
theorem witness_1 : WitnessClaimed_1 := ⟨start1.p0, start1.e0, start1.about1, start1.theMethod, start1.args0, start1.below0, start1.atStart⟩
end Jvm.Pilot.@@N@@
