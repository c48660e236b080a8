import JvmDerived
import JvmDerived.Pilot.@@N@@Statement
import JvmDerived.Pilot.@@N@@Code
set_option linter.unusedVariables false
set_option linter.unusedSimpArgs false
namespace Jvm.OwnKit
open Sem ClassFile Op Lib Jvm.Stand Jvm.Free Jvm.LawKit Jvm.RoadKit
/-- from A the run comes to a state of which P holds -/
def Rch (p : Program) (e : Env) (below : List Frame) (A : State) (P : State → Prop) : Prop := ∃ B, Steps p.tables e below A B ∧ P B
/-- the end of a body: it returned v, and Q says what it left -/
def Fin1 (s : State) (below : List Frame) (Q : Option Value → Heap → List Loc → Prop) (k n : Nat) (B : State) : Prop := ∃ v L, B.status = .running ∧ Ended B below (.returned v) ∧ Q v B.heap L ∧ FrameEnd s (.returned v) B L k n
section Own
variable {p : Program} {l : Launch} {e : Env} {R : Room} {s : State} {m : MethodId} {args : Array Value} {below : List Frame} {meth : Method} {c : Code} {T : State} {locs : List Loc} {cells slots : Nat} {A A' : State} {P P' : State → Prop} {Z : State} {a0 : Array Value} {h : Heap}
theorem Rch.go (h1 : ∀ t, Steps p.tables e below A' t → Steps p.tables e below A t) (k : Rch p e below A' P) : Rch p e below A P := by
  obtain ⟨B, q1, q2⟩ := k; exact ⟨B, h1 _ q1, q2⟩
theorem Rch.of (h1 : Steps p.tables e below A A') (k : Rch p e below A' P) : Rch p e below A P := by
  obtain ⟨B, q1, q2⟩ := k; exact ⟨B, h1.trans q1, q2⟩
theorem Rch.here (h1 : P A) : Rch p e below A P := ⟨A, Steps.refl _, h1⟩
theorem Rch.bind (k : Rch p e below A P) (f : ∀ B, P B → Rch p e below B P') : Rch p e below A P' := by
  obtain ⟨B, q1, q2⟩ := k
  obtain ⟨D, q3, q4⟩ := f B q2
  exact ⟨D, q1.trans q3, q4⟩
theorem Rch.ret {Q : Option Value → Heap → List Loc → Prop} {k n : Nat} (X : Stand p l e R s m args below meth c T locs cells slots) (hlk : meth.locks = false) {v : Option Value} (hv : meth.sig.returnType = none → v = none)
    (hA : ∀ fs, (∀ (f : JFrame) (acts : List Action), f.method = m → f.locked = none → f.entered = [] → (doReturn e (T.setTop f) acts v).1 = T.setFrames fs) → Steps p.tables e below A (T.setFrames fs))
    (hQ : Q v T.heap locs) (hk : cells ≤ k) (hn : slots ≤ n) : Rch p e below A (Fin1 s below Q k n) := by
  obtain ⟨fs, hr, hrun, hended, hW, hsame⟩ := X.leave (v := v) hv hlk
  exact ⟨_, hA fs hr, v, locs, hrun, hended, hQ, ⟨_, rfl⟩, hW, hsame.mono hk hn⟩
theorem wider (X : Stand p l e R s m args below meth c T locs cells slots) {k n : Nat} (hk : cells ≤ k) (hn : slots ≤ n) : Stand p l e R s m args below meth c T locs k n := { X with same := X.same.mono hk hn }
theorem retI' (X : Stand p l e R s m args below meth c T locs cells slots) (hx : p.tables.exec = Jvm.exec) {pc : Nat} {Ls : Array Slot} {z : Int32} {rest : List Value} (hret : meth.sig.returnType = some .int) (hd : decode c.code pc = .ok (.ireturn, 1)) {fs : List Frame}
    (hl : ∀ (f : JFrame) (acts : List Action), f.method = m → f.locked = none → f.entered = [] → (doReturn e (T.setTop f) acts (some (.int z))).1 = T.setFrames fs) : Steps p.tables e below (T.setTop (mkF m pc Ls (.int z :: rest))) (T.setFrames fs) := by
  have hm' : T.vm.method? m = some meth := X.method'
  have hn : narrow .int (.int z) = .int z := rfl
  show Steps p.tables e below (T.setTop { method := m, pc := pc, locals := Ls, stack := _ :: rest, locked := none }) _
  jvm_step X.here [X.here.top, hx, hd, hm', hret, hn]
  first | (intro acts; rw [hl _ acts rfl rfl rfl]) | rw [hl _ _ rfl rfl rfl]
  exact Steps.refl _
theorem retR' (X : Stand p l e R s m args below meth c T locs cells slots) (hx : p.tables.exec = Jvm.exec) {pc : Nat} {Ls : Array Slot} {w : Value} {t : FieldType} {rest : List Value} (hret : meth.sig.returnType = some t) (ht : t.isReference = true) (hw : w.isRef = true) (hd : decode c.code pc = .ok (.areturn, 1)) {fs : List Frame}
    (hl : ∀ (f : JFrame) (acts : List Action), f.method = m → f.locked = none → f.entered = [] → (doReturn e (T.setTop f) acts (some w)).1 = T.setFrames fs) : Steps p.tables e below (T.setTop (mkF m pc Ls (w :: rest))) (T.setFrames fs) :=
  retOut X hx hret (by rcases ref_cases hw with rfl | ⟨a, rfl⟩ <;> cases t <;> first | rfl | cases ht) (Or.inr (Or.inr (Or.inr (Or.inr ⟨rfl, ht, hw⟩)))) hd hl
theorem own_body {y : MethodName} {bytes : ByteArray} {maxL : Nat} {ret : Option FieldType} {ws : List Jvm.Cond} {rm : Room} {as' : Array Value} {h0 : Heap} {Q : Option Value → Heap → List Loc → Prop} {k n : Nat} (hp : plainFor y = true)
    (body : ∀ (p : Program) (e : Env) (s : State) (m : MethodId) (below : List Frame) (meth : Method) (c : Code) (s₁ : State), Stand p l e rm s m as' below meth c s₁ [] 0 0 → p.tables.exec = Jvm.exec → c.code = bytes → c.maxLocals = maxL → s.vm.findClass y.cls = some m.cls → meth.name = y.name → meth.sig.returnType = ret → meth.locks = false → Z.Warmed39 s.vm → s₁.heap = h0 →
      Rch p e below (s₁.setTop (entryFrame m as' maxL)) (Fin1 s below Q k n)) :
    MetFree l y (head1 (Jvm.Cond.code y bytes maxL ret :: ws) rm) (fun a U => a = as' ∧ Z.Warmed39 U.vm ∧ U.heap = h0) (fun _ _ _ _ _ => True) (fun _ U o U' => ∃ v L, o = .returned v ∧ Q v U'.heap L ∧ FrameEnd U o U' L k n) := by
  refine MetFree.of_bodySF hp hisR ?_
  intro p e s m args below meth c s₁ Bd hml0 hP hK
  obtain ⟨rfl, hZ, hh⟩ := hP
  obtain ⟨B, hs, v, L, h1, h2, h3, h4⟩ := body p e s m below meth c s₁ (Stand.of_body Bd) Bd.exec Bd.bytes hml0 (findClass_of_methodNamed Bd.named) ((name_of_methodNamed Bd.named Bd.method).1) Bd.returns (BodyLoose.notSynchronized Bd) hZ (by rw [← hh, Bd.state]; rfl)
  exact ⟨B, _, hs, h1, h2, v, L, rfl, h3, h4⟩
abbrev Met1 (l : Launch) (y : MethodName) (bytes : ByteArray) (maxL : Nat) (ret : Option FieldType) (rm : Room) (Z : State) (as' : Array Value) (h : Heap) (Q : Option Value → Heap → List Loc → Prop) : Prop :=
  MetFree l y (head1 [Jvm.Cond.code y bytes maxL ret] rm) (fun a U => a = as' ∧ Z.Warmed39 U.vm ∧ U.heap = h) (fun _ _ _ _ _ => True) (fun _ U o U' => ∃ v L, o = .returned v ∧ Q v U'.heap L ∧ FrameEnd U o U' L rm.cells rm.slots)
/-- a static call by the callee's contract -/
theorem Rch.callS (X : Stand p l e R s m args below meth c T locs cells slots) (hx : p.tables.exec = Jvm.exec) (hZ : Z.Warmed39 s.vm) {own : String} {index : Nat} {y : MethodName} {bytes : ByteArray} {maxL : Nat} {ret : Option FieldType} {rm : Room} {as' : Array Value} {Q : Option Value → Heap → List Loc → Prop}
    (hown : s.vm.findClass own = some m.cls) (w1 : (Jvm.Cond.methodLink own index y).before a0 Z = true) (w2 : (Jvm.Cond.static y).before a0 Z = true) (w3 : (Jvm.Cond.initialized y.cls).before a0 Z = true) (w4 : (Jvm.Cond.code y bytes maxL ret).before a0 Z = true) (hy : y.cls ≠ "java/lang/invoke/MethodHandle" ∧ y.cls ≠ "java/lang/invoke/VarHandle")
    (hM : Met1 l y bytes maxL ret rm Z as' h Q) (W : Nat) (hf : rm.frames + 1 ≤ R.frames) (hl : W + (maxL + 11) + rm.locals ≤ R.locals) (hc : cells + rm.cells ≤ R.cells) (hs : slots + rm.slots ≤ R.slots) (eT : T.heap = h)
    {g : JFrame} (hg : g.method = m) (hsize : g.locals.size = c.maxLocals) (argsL rest : List Value) (has : argsL.toArray = as') (hlen : ∀ sig, parseMethodDescriptor y.desc = some sig → argsL.length = sig.parameters.length)
    (hstack : g.stack = argsL.reverse ++ rest) (hW : 2 * g.monitorRoom + (rest.map fun v => v.category).sum ≤ W) (hdg : decode c.code g.pc = .ok (.invokestatic index, 3))
    (k : ∀ v T' L, Stand p l e R s m args below meth c T' (locs ++ L) (cells + rm.cells) (slots + rm.slots) → Q v T'.heap L → Rch p e below (T'.setTop { g with pc := g.pc + 3, stack := v.toList ++ rest }) P) : Rch p e below (T.setTop g) P := by
  obtain ⟨v, _, ⟨T1, L1, k1, n1⟩, -, X1, ⟨Lc, hQ, l1, y1, z1⟩, st⟩ := Jvm.LawKit.callS X hx (y := y) hown (mvT hZ w1) (mvT hZ w2) (mvT hZ w3) (mvT hZ w4) hy (backOf (W := W) hM hZ w4 w3 hf hl) (g := g) hg hsize (argsL := argsL) (rest := rest) hlen hstack hW hdg (fun _ _ => ⟨has, eT, hc, hs⟩)
  dsimp only [Pt.U, Pt.locs, Pt.cells, Pt.slots] at X1 l1 y1 z1 st hQ
  subst l1 y1 z1
  exact Rch.go st (k v T1 Lc X1 hQ)
/-- a constructor by its contract -/
theorem Rch.callC (X : Stand p l e R s m args below meth c T locs cells slots) (hx : p.tables.exec = Jvm.exec) (hZ : Z.Warmed39 s.vm) {own : String} {index : Nat} {y : MethodName} {bytes : ByteArray} {maxL : Nat} {rm : Room} {as' : Array Value} {Q : Option Value → Heap → List Loc → Prop} (hy1 : y.name = "<init>")
    (hown : s.vm.findClass own = some m.cls) (w1 : (Jvm.Cond.methodLink own index y).before a0 Z = true) (w2 : (Jvm.Cond.instanceMethod y).before a0 Z = true) (w3 : (Jvm.Cond.initialized y.cls).before a0 Z = true) (w4 : (Jvm.Cond.code y bytes maxL none).before a0 Z = true) (hy : y.cls ≠ "java/lang/invoke/MethodHandle" ∧ y.cls ≠ "java/lang/invoke/VarHandle")
    (hM : Met1 l y bytes maxL none rm Z as' h Q) (W : Nat) (hf : rm.frames + 1 ≤ R.frames) (hl : W + (maxL + 11) + rm.locals ≤ R.locals) (hc : cells + rm.cells ≤ R.cells) (hs : slots + rm.slots ≤ R.slots) (eT : T.heap = h)
    {g : JFrame} (hg : g.method = m) (hsize : g.locals.size = c.maxLocals) (a : Addr) (argsL rest : List Value) (has : (.ref a :: argsL).toArray = as') (hlen : ∀ sig, parseMethodDescriptor y.desc = some sig → argsL.length = sig.parameters.length)
    (hstack : g.stack = argsL.reverse ++ .ref a :: rest) (hW : 2 * g.monitorRoom + (rest.map fun v => v.category).sum ≤ W) (hdg : decode c.code g.pc = .ok (.invokespecial index, 3))
    (k : ∀ v T' L, Stand p l e R s m args below meth c T' (locs ++ L) (cells + rm.cells) (slots + rm.slots) → Q v T'.heap L → Rch p e below (T'.setTop { g with pc := g.pc + 3, stack := v.toList ++ rest }) P) : Rch p e below (T.setTop g) P := by
  obtain ⟨v, _, ⟨T1, L1, k1, n1⟩, -, X1, ⟨Lc, hQ, l1, y1, z1⟩, st⟩ := X.specialBack hx (y := y) hy1 hown (mvT hZ w1) (mvT hZ w2) (mvT hZ w4) hy (backOf (W := W) hM hZ w4 w3 hf hl) (g := g) hg hsize (Steps.refl _) (a := a) (argsL := argsL) (rest := rest) hlen hstack hW hdg (fun _ _ => ⟨has, eT, hc, hs⟩)
  dsimp only [Pt.U, Pt.locs, Pt.cells, Pt.slots] at X1 l1 y1 z1 st hQ
  subst l1 y1 z1
  exact Rch.of st (k v T1 Lc X1 hQ)
/-- an instance method, selected by the receiver's class C, by the contract of the selected one -/
theorem Rch.callV (X : Stand p l e R s m args below meth c T locs cells slots) (hx : p.tables.exec = Jvm.exec) (hZ : Z.Warmed39 s.vm) {own C : String} {index : Nat} {y z : MethodName} {bytes : ByteArray} {maxL : Nat} {ret : Option FieldType} {rm : Room} {as' : Array Value} {Q : Option Value → Heap → List Loc → Prop}
    (hown : s.vm.findClass own = some m.cls) (w1 : (Jvm.Cond.methodLink own index y).before a0 Z = true) (w2 : (Jvm.Cond.declares y).before a0 Z = true) (hnf : NotFace s y) (w5 : (Jvm.Cond.selects C y z).before a0 Z = true) (w6 : (Jvm.Cond.instanceMethod z).before a0 Z = true) (w3 : (Jvm.Cond.initialized z.cls).before a0 Z = true) (w4 : (Jvm.Cond.code z bytes maxL ret).before a0 Z = true) (hy : y.cls ≠ "java/lang/invoke/MethodHandle" ∧ y.cls ≠ "java/lang/invoke/VarHandle")
    (hM : Met1 l z bytes maxL ret rm Z as' h Q) (W : Nat) (hf : rm.frames + 1 ≤ R.frames) (hl : W + (maxL + 11) + rm.locals ≤ R.locals) (hc : cells + rm.cells ≤ R.cells) (hs : slots + rm.slots ≤ R.slots) (eT : T.heap = h) {b : Addr} (hE : Exa Z h b C)
    {g : JFrame} (hg : g.method = m) (hsize : g.locals.size = c.maxLocals) (argsL rest : List Value) (has : (.ref b :: argsL).toArray = as') (hlen : ∀ sig, parseMethodDescriptor y.desc = some sig → argsL.length = sig.parameters.length)
    (hstack : g.stack = argsL.reverse ++ .ref b :: rest) (hW : 2 * g.monitorRoom + (rest.map fun v => v.category).sum ≤ W) (hdg : decode c.code g.pc = .ok (.invokevirtual index, 3))
    (k : ∀ v T' L, Stand p l e R s m args below meth c T' (locs ++ L) (cells + rm.cells) (slots + rm.slots) → Q v T'.heap L → Rch p e below (T'.setTop { g with pc := g.pc + 3, stack := v.toList ++ rest }) P) : Rch p e below (T.setTop g) P := by
  obtain ⟨cq, kq, q1, q2, q3⟩ := isOf hZ eT hE
  obtain ⟨v, _, ⟨T1, L1, k1, n1⟩, -, X1, ⟨Lc, hQ, l1, y1, z1⟩, st⟩ := X.virtualBack hx (y := y) (z := z) hown (mvT hZ w1) (mvT hZ w2) hnf (mvT hZ w5) (mvT hZ w6) hy (backOf (W := W) hM hZ w4 w3 hf hl) q1 q3 (g := g) hg hsize (Steps.refl _) (argsL := argsL) (rest := rest) hlen hstack hW hdg (fun _ _ => ⟨has, eT, hc, hs⟩)
  dsimp only [Pt.U, Pt.locs, Pt.cells, Pt.slots] at X1 l1 y1 z1 st hQ
  subst l1 y1 z1
  exact Rch.of st (k v T1 Lc X1 hQ)
/-- a private instance method, by invokevirtual -/
theorem Rch.callP (X : Stand p l e R s m args below meth c T locs cells slots) (hx : p.tables.exec = Jvm.exec) (hZ : Z.Warmed39 s.vm) {own C : String} {index : Nat} {y : MethodName} {bytes : ByteArray} {maxL : Nat} {ret : Option FieldType} {rm : Room} {as' : Array Value} {Q : Option Value → Heap → List Loc → Prop}
    (hown : s.vm.findClass own = some m.cls) (w1 : (Jvm.Cond.methodLink own index y).before a0 Z = true) (w6 : (Jvm.Cond.instanceMethod y).before a0 Z = true) (w5 : (Jvm.Cond.selects y.cls y y).before a0 Z = true) (w7 : (Jvm.Cond.privateMethod y).before a0 Z = true) (w3 : (Jvm.Cond.initialized y.cls).before a0 Z = true) (w4 : (Jvm.Cond.code y bytes maxL ret).before a0 Z = true) (hy : y.cls ≠ "java/lang/invoke/MethodHandle" ∧ y.cls ≠ "java/lang/invoke/VarHandle")
    (hM : Met1 l y bytes maxL ret rm Z as' h Q) (W : Nat) (hf : rm.frames + 1 ≤ R.frames) (hl : W + (maxL + 11) + rm.locals ≤ R.locals) (hc : cells + rm.cells ≤ R.cells) (hs : slots + rm.slots ≤ R.slots) (eT : T.heap = h) {b : Addr} (hE : Exa Z h b C)
    {g : JFrame} (hg : g.method = m) (hsize : g.locals.size = c.maxLocals) (argsL rest : List Value) (has : (.ref b :: argsL).toArray = as') (hlen : ∀ sig, parseMethodDescriptor y.desc = some sig → argsL.length = sig.parameters.length)
    (hstack : g.stack = argsL.reverse ++ .ref b :: rest) (hW : 2 * g.monitorRoom + (rest.map fun v => v.category).sum ≤ W) (hdg : decode c.code g.pc = .ok (.invokevirtual index, 3))
    (k : ∀ v T' L, Stand p l e R s m args below meth c T' (locs ++ L) (cells + rm.cells) (slots + rm.slots) → Q v T'.heap L → Rch p e below (T'.setTop { g with pc := g.pc + 3, stack := v.toList ++ rest }) P) : Rch p e below (T.setTop g) P := by
  obtain ⟨cq, q1, q2⟩ := hE.cell
  obtain ⟨v, _, ⟨T1, L1, k1, n1⟩, -, X1, ⟨Lc, hQ, l1, y1, z1⟩, st⟩ := X.privateBack hx (y := y) hown (mvT hZ w1) (mvT hZ w6) (mvT hZ w5) (Cond.privateMethod_at (mvP hZ w7 (args := #[]))) (mvT hZ w4) hy (backOf (W := W) hM hZ w4 w3 hf hl) (g := g) hg hsize (Steps.refl _) (a := b) (by rw [eT]; exact q1) q2 (argsL := argsL) (rest := rest) hlen hstack hW hdg (fun _ _ => ⟨has, eT, hc, hs⟩)
  dsimp only [Pt.U, Pt.locs, Pt.cells, Pt.slots] at X1 l1 y1 z1 st hQ
  subst l1 y1 z1
  exact Rch.of st (k v T1 Lc X1 hQ)
end Own
end Jvm.OwnKit
namespace Jvm.Pilot.@@N@@
open Jvm Jvm.ClassFile Sem Op Lib Jvm.Free Jvm.Stand Jvm.LawKit Jvm.RoadKit Bundle Jvm.OwnKit Jvm.Pilot.@@N@@.Jvm.D

def own_tab (A : Nat → Addr) (j : Nat) : Value := if j = 1 then .ref (A 1) else if j = 2 then .ref (A 2) else if j = 3 then .ref (A 3) else if j = 4 then .ref (A 4) else if j = 5 then .ref (A 5) else if j = 6 then .ref (A 6) else if j = 7 then .ref (A 7) else if j = 9 then .ref (A 9) else if j = 11 then .ref (A 11) else if j = 12 then .ref (A 12) else if j = 13 then .ref (A 13) else if j = 14 then .ref (A 14) else .null
def own_exp (A : Nat → Addr) (p1 : Int32) : Addr := if p1 = (1 : Int32) then A 1 else if p1 = (2 : Int32) then A 2 else if p1 = (3 : Int32) then A 3 else if p1 = (4 : Int32) then A 4 else if p1 = (5 : Int32) then A 5 else if p1 = (6 : Int32) then A 6 else if p1 = (7 : Int32) then A 7 else if p1 = (9 : Int32) then A 9 else if p1 = (11 : Int32) then A 11 else if p1 = (12 : Int32) then A 12 else if p1 = (13 : Int32) then A 13 else if p1 = (14 : Int32) then A 14 else A 0
def own_of (A : Nat → Addr) (p1 : Int32) : Value := if p1 < (0 : Int32) then .ref (A 0) else if p1 < (15 : Int32) then (if own_tab A p1.toNatClampNeg = .null then .ref (A 0) else own_tab A p1.toNatClampNeg) else .ref (A 0)
theorem own_idx {i : Int32} (h0 : ¬ i < 0) (h1 : i < (15 : Int32)) : i.toNatClampNeg < 15 ∧ ∃ n : Fin 15, i = Int32.ofNat n.val ∧ i.toNatClampNeg = n.val := by
  rw [Int32.lt_iff_toInt_lt] at h0 h1
  have k0 : (0 : Int32).toInt = 0 := rfl
  have k1 : (15 : Int32).toInt = 15 := rfl
  have hn : i.toNatClampNeg = i.toInt.toNat := rfl
  refine ⟨by omega, ⟨i.toInt.toNat, by omega⟩, ?_, rfl⟩
  apply Int32.toInt_inj.mp
  rw [Int32.toInt_ofNat_of_lt (by show i.toInt.toNat < _; omega)]
  show i.toInt = ((i.toInt.toNat : Nat) : Int); omega
theorem own_tabref (A : Nat → Addr) (j : Nat) : own_tab A j = .null ∨ ∃ a, own_tab A j = .ref a := by
  unfold own_tab
  by_cases h1 : j = 1
  · rw [if_pos h1]; exact Or.inr ⟨_, rfl⟩
  rw [if_neg h1]
  by_cases h2 : j = 2
  · rw [if_pos h2]; exact Or.inr ⟨_, rfl⟩
  rw [if_neg h2]
  by_cases h3 : j = 3
  · rw [if_pos h3]; exact Or.inr ⟨_, rfl⟩
  rw [if_neg h3]
  by_cases h4 : j = 4
  · rw [if_pos h4]; exact Or.inr ⟨_, rfl⟩
  rw [if_neg h4]
  by_cases h5 : j = 5
  · rw [if_pos h5]; exact Or.inr ⟨_, rfl⟩
  rw [if_neg h5]
  by_cases h6 : j = 6
  · rw [if_pos h6]; exact Or.inr ⟨_, rfl⟩
  rw [if_neg h6]
  by_cases h7 : j = 7
  · rw [if_pos h7]; exact Or.inr ⟨_, rfl⟩
  rw [if_neg h7]
  by_cases h9 : j = 9
  · rw [if_pos h9]; exact Or.inr ⟨_, rfl⟩
  rw [if_neg h9]
  by_cases h11 : j = 11
  · rw [if_pos h11]; exact Or.inr ⟨_, rfl⟩
  rw [if_neg h11]
  by_cases h12 : j = 12
  · rw [if_pos h12]; exact Or.inr ⟨_, rfl⟩
  rw [if_neg h12]
  by_cases h13 : j = 13
  · rw [if_pos h13]; exact Or.inr ⟨_, rfl⟩
  rw [if_neg h13]
  by_cases h14 : j = 14
  · rw [if_pos h14]; exact Or.inr ⟨_, rfl⟩
  rw [if_neg h14]
  exact Or.inl rfl
theorem own_same (A : Nat → Addr) (p1 : Int32) : own_of A p1 = .ref (own_exp A p1) := by
  have out : (p1 < 0 ∨ ¬ p1 < (15 : Int32)) → own_exp A p1 = A 0 := fun h => by
    have ne : ∀ k : Int32, 0 ≤ k.toInt → k.toInt < 15 → ¬ p1 = k := fun k q1 q2 q => by
      subst q
      rcases h with h | h
      · rw [Int32.lt_iff_toInt_lt] at h; have : (0 : Int32).toInt = 0 := rfl; omega
      · rw [Int32.lt_iff_toInt_lt] at h; have : (15 : Int32).toInt = 15 := rfl; omega
    simp only [own_exp, if_neg (ne 1 (by decide) (by decide)), if_neg (ne 2 (by decide) (by decide)), if_neg (ne 3 (by decide) (by decide)), if_neg (ne 4 (by decide) (by decide)), if_neg (ne 5 (by decide) (by decide)), if_neg (ne 6 (by decide) (by decide)), if_neg (ne 7 (by decide) (by decide)), if_neg (ne 9 (by decide) (by decide)), if_neg (ne 11 (by decide) (by decide)), if_neg (ne 12 (by decide) (by decide)), if_neg (ne 13 (by decide) (by decide)), if_neg (ne 14 (by decide) (by decide))]
  unfold own_of
  by_cases h0 : p1 < 0
  · rw [if_pos h0, out (Or.inl h0)]
  · by_cases h1 : p1 < (15 : Int32)
    · rw [if_neg h0, if_pos h1]
      obtain ⟨-, n, e1, e2⟩ := own_idx h0 h1
      rw [e2, e1]
      match n with
      | ⟨0, _⟩ => simp [own_tab, own_exp]
      | ⟨1, _⟩ => simp [own_tab, own_exp]
      | ⟨2, _⟩ => simp [own_tab, own_exp]
      | ⟨3, _⟩ => simp [own_tab, own_exp]
      | ⟨4, _⟩ => simp [own_tab, own_exp]
      | ⟨5, _⟩ => simp [own_tab, own_exp]
      | ⟨6, _⟩ => simp [own_tab, own_exp]
      | ⟨7, _⟩ => simp [own_tab, own_exp]
      | ⟨8, _⟩ => simp [own_tab, own_exp]
      | ⟨9, _⟩ => simp [own_tab, own_exp]
      | ⟨10, _⟩ => simp [own_tab, own_exp]
      | ⟨11, _⟩ => simp [own_tab, own_exp]
      | ⟨12, _⟩ => simp [own_tab, own_exp]
      | ⟨13, _⟩ => simp [own_tab, own_exp]
      | ⟨14, _⟩ => simp [own_tab, own_exp]
    · rw [if_neg h0, if_neg h1, out (Or.inr h1)]
theorem d1_0 : decode prog_36_method_4_code 0 = .ok (.iload_n 0, 1) := by decide +kernel
theorem d1_1 : decode prog_36_method_4_code 1 = .ok (.ifCond .lt 19, 3) := by decide +kernel
theorem d1_4 : decode prog_36_method_4_code 4 = .ok (.iload_n 0, 1) := by decide +kernel
theorem d1_5 : decode prog_36_method_4_code 5 = .ok (.getstatic 70, 3) := by decide +kernel
theorem d1_8 : decode prog_36_method_4_code 8 = .ok (.arraylength, 1) := by decide +kernel
theorem d1_9 : decode prog_36_method_4_code 9 = .ok (.if_icmp .ge 11, 3) := by decide +kernel
theorem d1_12 : decode prog_36_method_4_code 12 = .ok (.getstatic 70, 3) := by decide +kernel
theorem d1_15 : decode prog_36_method_4_code 15 = .ok (.iload_n 0, 1) := by decide +kernel
theorem d1_16 : decode prog_36_method_4_code 16 = .ok (.aaload, 1) := by decide +kernel
theorem d1_17 : decode prog_36_method_4_code 17 = .ok (.goto 4, 3) := by decide +kernel
theorem d1_20 : decode prog_36_method_4_code 20 = .ok (.aconst_null, 1) := by decide +kernel
theorem d1_21 : decode prog_36_method_4_code 21 = .ok (.astore_n 1, 1) := by decide +kernel
theorem d1_22 : decode prog_36_method_4_code 22 = .ok (.aload_n 1, 1) := by decide +kernel
theorem d1_23 : decode prog_36_method_4_code 23 = .ok (.ifnonnull 9, 3) := by decide +kernel
theorem d1_26 : decode prog_36_method_4_code 26 = .ok (.getstatic 40, 3) := by decide +kernel
theorem d1_29 : decode prog_36_method_4_code 29 = .ok (.goto 4, 3) := by decide +kernel
theorem d1_32 : decode prog_36_method_4_code 32 = .ok (.aload_n 1, 1) := by decide +kernel
theorem d1_33 : decode prog_36_method_4_code 33 = .ok (.areturn, 1) := by decide +kernel
theorem pn_1 : plainFor (⟨"com/example/sessionwire/sessionwire/tns/TnsPacketType", "of", "(I)Lcom/example/sessionwire/sessionwire/tns/TnsPacketType;"⟩ : MethodName) = true := plainFor_of_name (by first | (simp [plainName, overriddenIn]; done) | decide +kernel)
theorem ef_1 (m : MethodId) (x0 : Int32) : entryFrame m #[(.int x0)] 2 = mkF m 0 #[.val (.int x0), .unset] [] := by first | (simp [entryFrame, mkF, argsToLocals, Value.category]; done) | rfl
def own_Q_rm1 (Z : State) (p1 : Int32) (A : Nat → Addr) (h0 : Heap) (n0 : Nat) (v : Option Value) (h : Heap) (L : List Loc) : Prop := v = some (own_of A p1) ∧ Fr n0 L ∧ h = h0
set_option maxRecDepth 65536 in
set_option maxHeartbeats 40000000 in
theorem rm1 (l : Launch) (Z : State) (a0 : Array Value) (hw : ∀ d ∈ tables_1, d.before a0 Z = true) (ws : List Jvm.Cond) (p1 : Int32) (A : Nat → Addr) (h0 : Heap) (n0 : Nat) (Z0 : n0 ≤ h0.size) (t : Addr) (cl : Cell) (S0 : Sta Z h0 "com/example/sessionwire/sessionwire/tns/TnsPacketType" "BY_NUMBER" "[Lcom/example/sessionwire/sessionwire/tns/TnsPacketType;" (.ref t)) (Ar : Arr Z h0 t cl (.object "com/example/sessionwire/sessionwire/tns/TnsPacketType")) (S : cl.slots.size = (15 : Int32).toNatClampNeg) (hat : ∀ j, j < 15 → cl.slots[j]? = some (own_tab A j)) (S_UNKNOWN : Sta Z h0 "com/example/sessionwire/sessionwire/tns/TnsPacketType" "UNKNOWN" "Lcom/example/sessionwire/sessionwire/tns/TnsPacketType;" (.ref (A 0))) :
    MetFree l (⟨"com/example/sessionwire/sessionwire/tns/TnsPacketType", "of", "(I)Lcom/example/sessionwire/sessionwire/tns/TnsPacketType;"⟩ : MethodName) (head1 (Jvm.Cond.code (⟨"com/example/sessionwire/sessionwire/tns/TnsPacketType", "of", "(I)Lcom/example/sessionwire/sessionwire/tns/TnsPacketType;"⟩ : MethodName) prog_36_method_4_code 2 (some (.object "com/example/sessionwire/sessionwire/tns/TnsPacketType")) :: ws) ({ frames := 0, cells := 0, slots := 0, locals := 0 } : Room)) (fun a U => a = #[(.int p1)] ∧ Z.Warmed39 U.vm ∧ U.heap = h0) (fun _ _ _ _ _ => True) (fun _ U o U' => ∃ v L, o = .returned v ∧ own_Q_rm1 Z p1 A h0 n0 v U'.heap L ∧ FrameEnd U o U' L ({ frames := 0, cells := 0, slots := 0, locals := 0 } : Room).cells ({ frames := 0, cells := 0, slots := 0, locals := 0 } : Room).slots) := by
  refine own_body (Q := (own_Q_rm1 Z p1 A h0 n0)) pn_1 ?_
  intro p e s m below meth c s₁ X0 hx hby hml hown hnm hret hlk hZ e0
  have N0 := Fr.nil n0
  refine Rch.go (fun t k => castTop (ef_1 m p1) k) ?_
  show Rch p e below (s₁.setTop (mkF m 0 #[.val (.int p1), .unset] [])) _
  refine Rch.go (fun _ k => XS.iloadN X0.here hx rfl (hb hby d1_0) rfl  k) ?_
  show Rch p e below (s₁.setTop (mkF m 1 #[.val (.int p1), .unset] [(.int p1)])) _
  by_cases hc1_1 : p1 < (0 : Int32)
  · refine Rch.go (fun _ k => XS.ifYes X0.here hx rfl (pc0 := 1) (pc' := 20) rfl (hb hby d1_1) rfl ((if0 _ _).trans (tlt hc1_1).1) (by decide) (by decide) k) ?_
    show Rch p e below (s₁.setTop (mkF m 20 #[.val (.int p1), .unset] [])) _
    refine Rch.go (fun _ k => XS.aconstNull X0.here hx rfl (hb hby d1_20) k) ?_
    show Rch p e below (s₁.setTop (mkF m 21 #[.val (.int p1), .unset] [.null])) _
    refine Rch.go (fun _ k => XS.astoreN X0.here hx rfl (hb hby d1_21) rfl rfl (l' := #[.val (.int p1), .val .null]) rfl k) ?_
    show Rch p e below (s₁.setTop (mkF m 22 #[.val (.int p1), .val .null] [])) _
    refine Rch.go (fun _ k => XS.aloadN X0.here hx rfl (hb hby d1_22) rfl rfl k) ?_
    show Rch p e below (s₁.setTop (mkF m 23 #[.val (.int p1), .val .null] [.null])) _
    refine Rch.go (fun _ k => XS.ifnonnullNo X0.here hx rfl (hb hby d1_23) rfl k) ?_
    show Rch p e below (s₁.setTop (mkF m 26 #[.val (.int p1), .val .null] [])) _
    obtain ⟨T2, X2, e2, st2⟩ := getS2 X0 hx hZ hown (host := "") (Or.inl (hw _ (List.mem_of_getElem? (i := 6) rfl))) Via.refl e0 S_UNKNOWN (g := (mkF m 26 #[.val (.int p1), .val .null] [])) rfl (hb hby d1_26)
    refine Rch.go st2 ?_
    show Rch p e below (T2.setTop (mkF m 29 #[.val (.int p1), .val .null] [(.ref (A 0))])) _
    refine Rch.go (fun _ k => XS.goto X2.here hx rfl (pc0 := 29) (pc' := 33) rfl (hb hby d1_29) (by decide) (by decide) k) ?_
    show Rch p e below (T2.setTop (mkF m 33 #[.val (.int p1), .val .null] [(.ref (A 0))])) _
    have hv : own_of A p1 = (.ref (A 0)) := by simp only [own_of, if_pos hc1_1]
    exact Rch.ret X2 hlk (fun h => by rw [hret] at h; cases h) (fun fs hr => retR' X2 hx hret rfl rfl (hb hby d1_33) hr) ⟨by rw [hv], N0, e2⟩ (by decide) (by decide)
  · refine Rch.go (fun _ k => XS.ifNo X0.here hx rfl (hb hby d1_1) rfl ((if0 _ _).trans (flt hc1_1).1) k) ?_
    show Rch p e below (s₁.setTop (mkF m 4 #[.val (.int p1), .unset] [])) _
    refine Rch.go (fun _ k => XS.iloadN X0.here hx rfl (hb hby d1_4) rfl  k) ?_
    show Rch p e below (s₁.setTop (mkF m 5 #[.val (.int p1), .unset] [(.int p1)])) _
    obtain ⟨T3, X3, e3, st3⟩ := getS2 X0 hx hZ hown (host := "") (Or.inl (hw _ (List.mem_of_getElem? (i := 4) rfl))) Via.refl e0 S0 (g := (mkF m 5 #[.val (.int p1), .unset] [(.int p1)])) rfl (hb hby d1_5)
    refine Rch.go st3 ?_
    show Rch p e below (T3.setTop (mkF m 8 #[.val (.int p1), .unset] [(.ref t), (.int p1)])) _
    refine Rch.go (X3.arraylength hx (cell := cl) (by rw [e3]; exact Ar.1) (State.isArrayOf_alike hZ.alike Ar.2.1) (g := (mkF m 8 #[.val (.int p1), .unset] [(.ref t), (.int p1)])) rfl rfl (hb hby d1_8)) ?_
    rw [len_of S (by decide)]
    show Rch p e below (T3.setTop (mkF m 9 #[.val (.int p1), .unset] [(.int (15 : Int32)), (.int p1)])) _
    by_cases hc9_4 : p1 < (15 : Int32)
    · refine Rch.go (fun _ k => XS.icmpNo X3.here hx rfl (hb hby d1_9) rfl (tlt hc9_4).2.1 k) ?_
      show Rch p e below (T3.setTop (mkF m 12 #[.val (.int p1), .unset] [])) _
      obtain ⟨T5, X5, e5, st5⟩ := getS2 X3 hx hZ hown (host := "") (Or.inl (hw _ (List.mem_of_getElem? (i := 4) rfl))) Via.refl e3 S0 (g := (mkF m 12 #[.val (.int p1), .unset] [])) rfl (hb hby d1_12)
      refine Rch.go st5 ?_
      show Rch p e below (T5.setTop (mkF m 15 #[.val (.int p1), .unset] [(.ref t)])) _
      refine Rch.go (fun _ k => XS.iloadN X5.here hx rfl (hb hby d1_15) rfl  k) ?_
      show Rch p e below (T5.setTop (mkF m 16 #[.val (.int p1), .unset] [(.int p1), (.ref t)])) _
      have hq := own_idx hc1_1 hc9_4
      have hin : ¬ (p1 < 0 ∨ cl.slots.size ≤ p1.toNatClampNeg) := fun q => q.elim hc1_1 fun q => absurd hq.1 (by rw [S] at q; exact Nat.not_lt.mpr q)
      refine Rch.go (X5.aaload hx (j := p1) (v := (own_tab A p1.toNatClampNeg)) (by rw [e5]; exact Ar.1) (State.isArrayOf_alike hZ.alike Ar.2.1) rfl Ar.2.2 hin (hat _ hq.1) (g := (mkF m 16 #[.val (.int p1), .unset] [(.int p1), (.ref t)])) rfl rfl (hb hby d1_16)) ?_
      show Rch p e below (T5.setTop (mkF m 17 #[.val (.int p1), .unset] [(own_tab A p1.toNatClampNeg)])) _
      rcases own_tabref A p1.toNatClampNeg with hnu | ⟨ad, had⟩
      · rw [hnu]
        show Rch p e below (T5.setTop (mkF m 17 #[.val (.int p1), .unset] [.null])) _
        refine Rch.go (fun _ k => XS.goto X5.here hx rfl (pc0 := 17) (pc' := 21) rfl (hb hby d1_17) (by decide) (by decide) k) ?_
        show Rch p e below (T5.setTop (mkF m 21 #[.val (.int p1), .unset] [.null])) _
        refine Rch.go (fun _ k => XS.astoreN X5.here hx rfl (hb hby d1_21) rfl rfl (l' := #[.val (.int p1), .val .null]) rfl k) ?_
        show Rch p e below (T5.setTop (mkF m 22 #[.val (.int p1), .val .null] [])) _
        refine Rch.go (fun _ k => XS.aloadN X5.here hx rfl (hb hby d1_22) rfl rfl k) ?_
        show Rch p e below (T5.setTop (mkF m 23 #[.val (.int p1), .val .null] [.null])) _
        refine Rch.go (fun _ k => XS.ifnonnullNo X5.here hx rfl (hb hby d1_23) rfl k) ?_
        show Rch p e below (T5.setTop (mkF m 26 #[.val (.int p1), .val .null] [])) _
        obtain ⟨T6, X6, e6, st6⟩ := getS2 X5 hx hZ hown (host := "") (Or.inl (hw _ (List.mem_of_getElem? (i := 6) rfl))) Via.refl e5 S_UNKNOWN (g := (mkF m 26 #[.val (.int p1), .val .null] [])) rfl (hb hby d1_26)
        refine Rch.go st6 ?_
        show Rch p e below (T6.setTop (mkF m 29 #[.val (.int p1), .val .null] [(.ref (A 0))])) _
        refine Rch.go (fun _ k => XS.goto X6.here hx rfl (pc0 := 29) (pc' := 33) rfl (hb hby d1_29) (by decide) (by decide) k) ?_
        show Rch p e below (T6.setTop (mkF m 33 #[.val (.int p1), .val .null] [(.ref (A 0))])) _
        have hv : own_of A p1 = (.ref (A 0)) := by simp only [own_of, if_neg hc1_1, if_pos hc9_4]; rw [hnu]; simp
        exact Rch.ret X6 hlk (fun h => by rw [hret] at h; cases h) (fun fs hr => retR' X6 hx hret rfl rfl (hb hby d1_33) hr) ⟨by rw [hv], N0, e6⟩ (by decide) (by decide)
      · rw [had]
        show Rch p e below (T5.setTop (mkF m 17 #[.val (.int p1), .unset] [(.ref ad)])) _
        refine Rch.go (fun _ k => XS.goto X5.here hx rfl (pc0 := 17) (pc' := 21) rfl (hb hby d1_17) (by decide) (by decide) k) ?_
        show Rch p e below (T5.setTop (mkF m 21 #[.val (.int p1), .unset] [(.ref ad)])) _
        refine Rch.go (fun _ k => XS.astoreN X5.here hx rfl (hb hby d1_21) rfl rfl (l' := #[.val (.int p1), .val (.ref ad)]) rfl k) ?_
        show Rch p e below (T5.setTop (mkF m 22 #[.val (.int p1), .val (.ref ad)] [])) _
        refine Rch.go (fun _ k => XS.aloadN X5.here hx rfl (hb hby d1_22) rfl rfl k) ?_
        show Rch p e below (T5.setTop (mkF m 23 #[.val (.int p1), .val (.ref ad)] [(.ref ad)])) _
        refine Rch.go (fun _ k => XS.ifnonnullYes X5.here hx rfl (pc0 := 23) (pc' := 32) rfl (hb hby d1_23) rfl (by decide) (by decide) k) ?_
        show Rch p e below (T5.setTop (mkF m 32 #[.val (.int p1), .val (.ref ad)] [])) _
        refine Rch.go (fun _ k => XS.aloadN X5.here hx rfl (hb hby d1_32) rfl rfl k) ?_
        show Rch p e below (T5.setTop (mkF m 33 #[.val (.int p1), .val (.ref ad)] [(.ref ad)])) _
        have hv : own_of A p1 = (.ref ad) := by simp only [own_of, if_neg hc1_1, if_pos hc9_4]; rw [had]; simp
        exact Rch.ret X5 hlk (fun h => by rw [hret] at h; cases h) (fun fs hr => retR' X5 hx hret rfl rfl (hb hby d1_33) hr) ⟨by rw [hv], N0, e5⟩ (by decide) (by decide)
    · refine Rch.go (fun _ k => XS.icmpYes X3.here hx rfl (pc0 := 9) (pc' := 20) rfl (hb hby d1_9) rfl (flt hc9_4).2.1 (by decide) (by decide) k) ?_
      show Rch p e below (T3.setTop (mkF m 20 #[.val (.int p1), .unset] [])) _
      refine Rch.go (fun _ k => XS.aconstNull X3.here hx rfl (hb hby d1_20) k) ?_
      show Rch p e below (T3.setTop (mkF m 21 #[.val (.int p1), .unset] [.null])) _
      refine Rch.go (fun _ k => XS.astoreN X3.here hx rfl (hb hby d1_21) rfl rfl (l' := #[.val (.int p1), .val .null]) rfl k) ?_
      show Rch p e below (T3.setTop (mkF m 22 #[.val (.int p1), .val .null] [])) _
      refine Rch.go (fun _ k => XS.aloadN X3.here hx rfl (hb hby d1_22) rfl rfl k) ?_
      show Rch p e below (T3.setTop (mkF m 23 #[.val (.int p1), .val .null] [.null])) _
      refine Rch.go (fun _ k => XS.ifnonnullNo X3.here hx rfl (hb hby d1_23) rfl k) ?_
      show Rch p e below (T3.setTop (mkF m 26 #[.val (.int p1), .val .null] [])) _
      obtain ⟨T7, X7, e7, st7⟩ := getS2 X3 hx hZ hown (host := "") (Or.inl (hw _ (List.mem_of_getElem? (i := 6) rfl))) Via.refl e3 S_UNKNOWN (g := (mkF m 26 #[.val (.int p1), .val .null] [])) rfl (hb hby d1_26)
      refine Rch.go st7 ?_
      show Rch p e below (T7.setTop (mkF m 29 #[.val (.int p1), .val .null] [(.ref (A 0))])) _
      refine Rch.go (fun _ k => XS.goto X7.here hx rfl (pc0 := 29) (pc' := 33) rfl (hb hby d1_29) (by decide) (by decide) k) ?_
      show Rch p e below (T7.setTop (mkF m 33 #[.val (.int p1), .val .null] [(.ref (A 0))])) _
      have hv : own_of A p1 = (.ref (A 0)) := by simp only [own_of, if_neg hc1_1, if_neg hc9_4]
      exact Rch.ret X7 hlk (fun h => by rw [hret] at h; cases h) (fun fs hr => retR' X7 hx hret rfl rfl (hb hby d1_33) hr) ⟨by rw [hv], N0, e7⟩ (by decide) (by decide)
theorem d2_0 : decode method_2_code 0 = .ok (.iload_n 0, 1) := by decide +kernel
theorem d2_1 : decode method_2_code 1 = .ok (.iconst 1, 1) := by decide +kernel
theorem d2_2 : decode method_2_code 2 = .ok (.if_icmp .ne 7, 3) := by decide +kernel
theorem d2_5 : decode method_2_code 5 = .ok (.getstatic 7, 3) := by decide +kernel
theorem d2_8 : decode method_2_code 8 = .ok (.areturn, 1) := by decide +kernel
theorem d2_9 : decode method_2_code 9 = .ok (.iload_n 0, 1) := by decide +kernel
theorem d2_10 : decode method_2_code 10 = .ok (.iconst 2, 1) := by decide +kernel
theorem d2_11 : decode method_2_code 11 = .ok (.if_icmp .ne 7, 3) := by decide +kernel
theorem d2_14 : decode method_2_code 14 = .ok (.getstatic 13, 3) := by decide +kernel
theorem d2_17 : decode method_2_code 17 = .ok (.areturn, 1) := by decide +kernel
theorem d2_18 : decode method_2_code 18 = .ok (.iload_n 0, 1) := by decide +kernel
theorem d2_19 : decode method_2_code 19 = .ok (.iconst 3, 1) := by decide +kernel
theorem d2_20 : decode method_2_code 20 = .ok (.if_icmp .ne 7, 3) := by decide +kernel
theorem d2_23 : decode method_2_code 23 = .ok (.getstatic 16, 3) := by decide +kernel
theorem d2_26 : decode method_2_code 26 = .ok (.areturn, 1) := by decide +kernel
theorem d2_27 : decode method_2_code 27 = .ok (.iload_n 0, 1) := by decide +kernel
theorem d2_28 : decode method_2_code 28 = .ok (.iconst 4, 1) := by decide +kernel
theorem d2_29 : decode method_2_code 29 = .ok (.if_icmp .ne 7, 3) := by decide +kernel
theorem d2_32 : decode method_2_code 32 = .ok (.getstatic 19, 3) := by decide +kernel
theorem d2_35 : decode method_2_code 35 = .ok (.areturn, 1) := by decide +kernel
theorem d2_36 : decode method_2_code 36 = .ok (.iload_n 0, 1) := by decide +kernel
theorem d2_37 : decode method_2_code 37 = .ok (.iconst 5, 1) := by decide +kernel
theorem d2_38 : decode method_2_code 38 = .ok (.if_icmp .ne 7, 3) := by decide +kernel
theorem d2_41 : decode method_2_code 41 = .ok (.getstatic 22, 3) := by decide +kernel
theorem d2_44 : decode method_2_code 44 = .ok (.areturn, 1) := by decide +kernel
theorem d2_45 : decode method_2_code 45 = .ok (.iload_n 0, 1) := by decide +kernel
theorem d2_46 : decode method_2_code 46 = .ok (.bipush 6, 2) := by decide +kernel
theorem d2_48 : decode method_2_code 48 = .ok (.if_icmp .ne 7, 3) := by decide +kernel
theorem d2_51 : decode method_2_code 51 = .ok (.getstatic 25, 3) := by decide +kernel
theorem d2_54 : decode method_2_code 54 = .ok (.areturn, 1) := by decide +kernel
theorem d2_55 : decode method_2_code 55 = .ok (.iload_n 0, 1) := by decide +kernel
theorem d2_56 : decode method_2_code 56 = .ok (.bipush 7, 2) := by decide +kernel
theorem d2_58 : decode method_2_code 58 = .ok (.if_icmp .ne 7, 3) := by decide +kernel
theorem d2_61 : decode method_2_code 61 = .ok (.getstatic 28, 3) := by decide +kernel
theorem d2_64 : decode method_2_code 64 = .ok (.areturn, 1) := by decide +kernel
theorem d2_65 : decode method_2_code 65 = .ok (.iload_n 0, 1) := by decide +kernel
theorem d2_66 : decode method_2_code 66 = .ok (.bipush 9, 2) := by decide +kernel
theorem d2_68 : decode method_2_code 68 = .ok (.if_icmp .ne 7, 3) := by decide +kernel
theorem d2_71 : decode method_2_code 71 = .ok (.getstatic 31, 3) := by decide +kernel
theorem d2_74 : decode method_2_code 74 = .ok (.areturn, 1) := by decide +kernel
theorem d2_75 : decode method_2_code 75 = .ok (.iload_n 0, 1) := by decide +kernel
theorem d2_76 : decode method_2_code 76 = .ok (.bipush 11, 2) := by decide +kernel
theorem d2_78 : decode method_2_code 78 = .ok (.if_icmp .ne 7, 3) := by decide +kernel
theorem d2_81 : decode method_2_code 81 = .ok (.getstatic 34, 3) := by decide +kernel
theorem d2_84 : decode method_2_code 84 = .ok (.areturn, 1) := by decide +kernel
theorem d2_85 : decode method_2_code 85 = .ok (.iload_n 0, 1) := by decide +kernel
theorem d2_86 : decode method_2_code 86 = .ok (.bipush 12, 2) := by decide +kernel
theorem d2_88 : decode method_2_code 88 = .ok (.if_icmp .ne 7, 3) := by decide +kernel
theorem d2_91 : decode method_2_code 91 = .ok (.getstatic 37, 3) := by decide +kernel
theorem d2_94 : decode method_2_code 94 = .ok (.areturn, 1) := by decide +kernel
theorem d2_95 : decode method_2_code 95 = .ok (.iload_n 0, 1) := by decide +kernel
theorem d2_96 : decode method_2_code 96 = .ok (.bipush 13, 2) := by decide +kernel
theorem d2_98 : decode method_2_code 98 = .ok (.if_icmp .ne 7, 3) := by decide +kernel
theorem d2_101 : decode method_2_code 101 = .ok (.getstatic 40, 3) := by decide +kernel
theorem d2_104 : decode method_2_code 104 = .ok (.areturn, 1) := by decide +kernel
theorem d2_105 : decode method_2_code 105 = .ok (.iload_n 0, 1) := by decide +kernel
theorem d2_106 : decode method_2_code 106 = .ok (.bipush 14, 2) := by decide +kernel
theorem d2_108 : decode method_2_code 108 = .ok (.if_icmp .ne 7, 3) := by decide +kernel
theorem d2_111 : decode method_2_code 111 = .ok (.getstatic 43, 3) := by decide +kernel
theorem d2_114 : decode method_2_code 114 = .ok (.areturn, 1) := by decide +kernel
theorem d2_115 : decode method_2_code 115 = .ok (.getstatic 46, 3) := by decide +kernel
theorem d2_118 : decode method_2_code 118 = .ok (.areturn, 1) := by decide +kernel
theorem pn_2 : plainFor (⟨"com/example/sessionwire/sessionwire/tns/TnsPacketTypeOfPinLaw", "expected", "(I)Lcom/example/sessionwire/sessionwire/tns/TnsPacketType;"⟩ : MethodName) = true := plainFor_of_name (by first | (simp [plainName, overriddenIn]; done) | decide +kernel)
theorem ef_2 (m : MethodId) (x0 : Int32) : entryFrame m #[(.int x0)] 1 = mkF m 0 #[.val (.int x0)] [] := by first | (simp [entryFrame, mkF, argsToLocals, Value.category]; done) | rfl
def own_Q_rm2 (Z : State) (p1 : Int32) (A : Nat → Addr) (h0 : Heap) (n0 : Nat) (v : Option Value) (h : Heap) (L : List Loc) : Prop := v = some (.ref (own_exp A p1)) ∧ Fr n0 L ∧ h = h0
set_option maxRecDepth 65536 in
set_option maxHeartbeats 40000000 in
theorem rm2 (l : Launch) (Z : State) (a0 : Array Value) (hw : ∀ d ∈ tables_1, d.before a0 Z = true) (ws : List Jvm.Cond) (p1 : Int32) (A : Nat → Addr) (h0 : Heap) (n0 : Nat) (Z0 : n0 ≤ h0.size) (S_CONNECT : Sta Z h0 "com/example/sessionwire/sessionwire/tns/TnsPacketType" "CONNECT" "Lcom/example/sessionwire/sessionwire/tns/TnsPacketType;" (.ref (A 1))) (S_ACCEPT : Sta Z h0 "com/example/sessionwire/sessionwire/tns/TnsPacketType" "ACCEPT" "Lcom/example/sessionwire/sessionwire/tns/TnsPacketType;" (.ref (A 2))) (S_ACKNOWLEDGE : Sta Z h0 "com/example/sessionwire/sessionwire/tns/TnsPacketType" "ACKNOWLEDGE" "Lcom/example/sessionwire/sessionwire/tns/TnsPacketType;" (.ref (A 3))) (S_REFUSE : Sta Z h0 "com/example/sessionwire/sessionwire/tns/TnsPacketType" "REFUSE" "Lcom/example/sessionwire/sessionwire/tns/TnsPacketType;" (.ref (A 4))) (S_REDIRECT : Sta Z h0 "com/example/sessionwire/sessionwire/tns/TnsPacketType" "REDIRECT" "Lcom/example/sessionwire/sessionwire/tns/TnsPacketType;" (.ref (A 5))) (S_DATA : Sta Z h0 "com/example/sessionwire/sessionwire/tns/TnsPacketType" "DATA" "Lcom/example/sessionwire/sessionwire/tns/TnsPacketType;" (.ref (A 6))) (S_NULL : Sta Z h0 "com/example/sessionwire/sessionwire/tns/TnsPacketType" "NULL" "Lcom/example/sessionwire/sessionwire/tns/TnsPacketType;" (.ref (A 7))) (S_ABORT : Sta Z h0 "com/example/sessionwire/sessionwire/tns/TnsPacketType" "ABORT" "Lcom/example/sessionwire/sessionwire/tns/TnsPacketType;" (.ref (A 9))) (S_RESEND : Sta Z h0 "com/example/sessionwire/sessionwire/tns/TnsPacketType" "RESEND" "Lcom/example/sessionwire/sessionwire/tns/TnsPacketType;" (.ref (A 11))) (S_MARKER : Sta Z h0 "com/example/sessionwire/sessionwire/tns/TnsPacketType" "MARKER" "Lcom/example/sessionwire/sessionwire/tns/TnsPacketType;" (.ref (A 12))) (S_ATTENTION : Sta Z h0 "com/example/sessionwire/sessionwire/tns/TnsPacketType" "ATTENTION" "Lcom/example/sessionwire/sessionwire/tns/TnsPacketType;" (.ref (A 13))) (S_CONTROL : Sta Z h0 "com/example/sessionwire/sessionwire/tns/TnsPacketType" "CONTROL" "Lcom/example/sessionwire/sessionwire/tns/TnsPacketType;" (.ref (A 14))) (S_UNKNOWN : Sta Z h0 "com/example/sessionwire/sessionwire/tns/TnsPacketType" "UNKNOWN" "Lcom/example/sessionwire/sessionwire/tns/TnsPacketType;" (.ref (A 0))) :
    MetFree l (⟨"com/example/sessionwire/sessionwire/tns/TnsPacketTypeOfPinLaw", "expected", "(I)Lcom/example/sessionwire/sessionwire/tns/TnsPacketType;"⟩ : MethodName) (head1 (Jvm.Cond.code (⟨"com/example/sessionwire/sessionwire/tns/TnsPacketTypeOfPinLaw", "expected", "(I)Lcom/example/sessionwire/sessionwire/tns/TnsPacketType;"⟩ : MethodName) method_2_code 1 (some (.object "com/example/sessionwire/sessionwire/tns/TnsPacketType")) :: ws) ({ frames := 0, cells := 0, slots := 0, locals := 0 } : Room)) (fun a U => a = #[(.int p1)] ∧ Z.Warmed39 U.vm ∧ U.heap = h0) (fun _ _ _ _ _ => True) (fun _ U o U' => ∃ v L, o = .returned v ∧ own_Q_rm2 Z p1 A h0 n0 v U'.heap L ∧ FrameEnd U o U' L ({ frames := 0, cells := 0, slots := 0, locals := 0 } : Room).cells ({ frames := 0, cells := 0, slots := 0, locals := 0 } : Room).slots) := by
  refine own_body (Q := (own_Q_rm2 Z p1 A h0 n0)) pn_2 ?_
  intro p e s m below meth c s₁ X0 hx hby hml hown hnm hret hlk hZ e0
  have N0 := Fr.nil n0
  refine Rch.go (fun t k => castTop (ef_2 m p1) k) ?_
  show Rch p e below (s₁.setTop (mkF m 0 #[.val (.int p1)] [])) _
  refine Rch.go (fun _ k => XS.iloadN X0.here hx rfl (hb hby d2_0) rfl  k) ?_
  show Rch p e below (s₁.setTop (mkF m 1 #[.val (.int p1)] [(.int p1)])) _
  refine Rch.go (fun _ k => XS.iconst X0.here hx rfl (hb hby d2_1) k) ?_
  show Rch p e below (s₁.setTop (mkF m 2 #[.val (.int p1)] [(.int (1 : Int32)), (.int p1)])) _
  by_cases hc2_1 : p1 = (1 : Int32)
  · refine Rch.go (fun _ k => XS.icmpNo X0.here hx rfl (hb hby d2_2) rfl (teq hc2_1).2 k) ?_
    show Rch p e below (s₁.setTop (mkF m 5 #[.val (.int p1)] [])) _
    obtain ⟨T2, X2, e2, st2⟩ := getS2 X0 hx hZ hown (host := "") (Or.inl (hw _ (List.mem_of_getElem? (i := 22) rfl))) Via.refl e0 S_CONNECT (g := (mkF m 5 #[.val (.int p1)] [])) rfl (hb hby d2_5)
    refine Rch.go st2 ?_
    show Rch p e below (T2.setTop (mkF m 8 #[.val (.int p1)] [(.ref (A 1))])) _
    have hv : own_exp A p1 = (A 1) := by simp only [own_exp, if_pos hc2_1]
    exact Rch.ret X2 hlk (fun h => by rw [hret] at h; cases h) (fun fs hr => retR' X2 hx hret rfl rfl (hb hby d2_8) hr) ⟨by rw [hv], N0, e2⟩ (by decide) (by decide)
  · refine Rch.go (fun _ k => XS.icmpYes X0.here hx rfl (pc0 := 2) (pc' := 9) rfl (hb hby d2_2) rfl (feq hc2_1).2 (by decide) (by decide) k) ?_
    show Rch p e below (s₁.setTop (mkF m 9 #[.val (.int p1)] [])) _
    refine Rch.go (fun _ k => XS.iloadN X0.here hx rfl (hb hby d2_9) rfl  k) ?_
    show Rch p e below (s₁.setTop (mkF m 10 #[.val (.int p1)] [(.int p1)])) _
    refine Rch.go (fun _ k => XS.iconst X0.here hx rfl (hb hby d2_10) k) ?_
    show Rch p e below (s₁.setTop (mkF m 11 #[.val (.int p1)] [(.int (2 : Int32)), (.int p1)])) _
    by_cases hc11_3 : p1 = (2 : Int32)
    · refine Rch.go (fun _ k => XS.icmpNo X0.here hx rfl (hb hby d2_11) rfl (teq hc11_3).2 k) ?_
      show Rch p e below (s₁.setTop (mkF m 14 #[.val (.int p1)] [])) _
      obtain ⟨T4, X4, e4, st4⟩ := getS2 X0 hx hZ hown (host := "") (Or.inl (hw _ (List.mem_of_getElem? (i := 26) rfl))) Via.refl e0 S_ACCEPT (g := (mkF m 14 #[.val (.int p1)] [])) rfl (hb hby d2_14)
      refine Rch.go st4 ?_
      show Rch p e below (T4.setTop (mkF m 17 #[.val (.int p1)] [(.ref (A 2))])) _
      have hv : own_exp A p1 = (A 2) := by simp only [own_exp, if_neg hc2_1, if_pos hc11_3]
      exact Rch.ret X4 hlk (fun h => by rw [hret] at h; cases h) (fun fs hr => retR' X4 hx hret rfl rfl (hb hby d2_17) hr) ⟨by rw [hv], N0, e4⟩ (by decide) (by decide)
    · refine Rch.go (fun _ k => XS.icmpYes X0.here hx rfl (pc0 := 11) (pc' := 18) rfl (hb hby d2_11) rfl (feq hc11_3).2 (by decide) (by decide) k) ?_
      show Rch p e below (s₁.setTop (mkF m 18 #[.val (.int p1)] [])) _
      refine Rch.go (fun _ k => XS.iloadN X0.here hx rfl (hb hby d2_18) rfl  k) ?_
      show Rch p e below (s₁.setTop (mkF m 19 #[.val (.int p1)] [(.int p1)])) _
      refine Rch.go (fun _ k => XS.iconst X0.here hx rfl (hb hby d2_19) k) ?_
      show Rch p e below (s₁.setTop (mkF m 20 #[.val (.int p1)] [(.int (3 : Int32)), (.int p1)])) _
      by_cases hc20_5 : p1 = (3 : Int32)
      · refine Rch.go (fun _ k => XS.icmpNo X0.here hx rfl (hb hby d2_20) rfl (teq hc20_5).2 k) ?_
        show Rch p e below (s₁.setTop (mkF m 23 #[.val (.int p1)] [])) _
        obtain ⟨T6, X6, e6, st6⟩ := getS2 X0 hx hZ hown (host := "") (Or.inl (hw _ (List.mem_of_getElem? (i := 20) rfl))) Via.refl e0 S_ACKNOWLEDGE (g := (mkF m 23 #[.val (.int p1)] [])) rfl (hb hby d2_23)
        refine Rch.go st6 ?_
        show Rch p e below (T6.setTop (mkF m 26 #[.val (.int p1)] [(.ref (A 3))])) _
        have hv : own_exp A p1 = (A 3) := by simp only [own_exp, if_neg hc2_1, if_neg hc11_3, if_pos hc20_5]
        exact Rch.ret X6 hlk (fun h => by rw [hret] at h; cases h) (fun fs hr => retR' X6 hx hret rfl rfl (hb hby d2_26) hr) ⟨by rw [hv], N0, e6⟩ (by decide) (by decide)
      · refine Rch.go (fun _ k => XS.icmpYes X0.here hx rfl (pc0 := 20) (pc' := 27) rfl (hb hby d2_20) rfl (feq hc20_5).2 (by decide) (by decide) k) ?_
        show Rch p e below (s₁.setTop (mkF m 27 #[.val (.int p1)] [])) _
        refine Rch.go (fun _ k => XS.iloadN X0.here hx rfl (hb hby d2_27) rfl  k) ?_
        show Rch p e below (s₁.setTop (mkF m 28 #[.val (.int p1)] [(.int p1)])) _
        refine Rch.go (fun _ k => XS.iconst X0.here hx rfl (hb hby d2_28) k) ?_
        show Rch p e below (s₁.setTop (mkF m 29 #[.val (.int p1)] [(.int (4 : Int32)), (.int p1)])) _
        by_cases hc29_7 : p1 = (4 : Int32)
        · refine Rch.go (fun _ k => XS.icmpNo X0.here hx rfl (hb hby d2_29) rfl (teq hc29_7).2 k) ?_
          show Rch p e below (s₁.setTop (mkF m 32 #[.val (.int p1)] [])) _
          obtain ⟨T8, X8, e8, st8⟩ := getS2 X0 hx hZ hown (host := "") (Or.inl (hw _ (List.mem_of_getElem? (i := 34) rfl))) Via.refl e0 S_REFUSE (g := (mkF m 32 #[.val (.int p1)] [])) rfl (hb hby d2_32)
          refine Rch.go st8 ?_
          show Rch p e below (T8.setTop (mkF m 35 #[.val (.int p1)] [(.ref (A 4))])) _
          have hv : own_exp A p1 = (A 4) := by simp only [own_exp, if_neg hc2_1, if_neg hc11_3, if_neg hc20_5, if_pos hc29_7]
          exact Rch.ret X8 hlk (fun h => by rw [hret] at h; cases h) (fun fs hr => retR' X8 hx hret rfl rfl (hb hby d2_35) hr) ⟨by rw [hv], N0, e8⟩ (by decide) (by decide)
        · refine Rch.go (fun _ k => XS.icmpYes X0.here hx rfl (pc0 := 29) (pc' := 36) rfl (hb hby d2_29) rfl (feq hc29_7).2 (by decide) (by decide) k) ?_
          show Rch p e below (s₁.setTop (mkF m 36 #[.val (.int p1)] [])) _
          refine Rch.go (fun _ k => XS.iloadN X0.here hx rfl (hb hby d2_36) rfl  k) ?_
          show Rch p e below (s₁.setTop (mkF m 37 #[.val (.int p1)] [(.int p1)])) _
          refine Rch.go (fun _ k => XS.iconst X0.here hx rfl (hb hby d2_37) k) ?_
          show Rch p e below (s₁.setTop (mkF m 38 #[.val (.int p1)] [(.int (5 : Int32)), (.int p1)])) _
          by_cases hc38_9 : p1 = (5 : Int32)
          · refine Rch.go (fun _ k => XS.icmpNo X0.here hx rfl (hb hby d2_38) rfl (teq hc38_9).2 k) ?_
            show Rch p e below (s₁.setTop (mkF m 41 #[.val (.int p1)] [])) _
            obtain ⟨T10, X10, e10, st10⟩ := getS2 X0 hx hZ hown (host := "") (Or.inl (hw _ (List.mem_of_getElem? (i := 30) rfl))) Via.refl e0 S_REDIRECT (g := (mkF m 41 #[.val (.int p1)] [])) rfl (hb hby d2_41)
            refine Rch.go st10 ?_
            show Rch p e below (T10.setTop (mkF m 44 #[.val (.int p1)] [(.ref (A 5))])) _
            have hv : own_exp A p1 = (A 5) := by simp only [own_exp, if_neg hc2_1, if_neg hc11_3, if_neg hc20_5, if_neg hc29_7, if_pos hc38_9]
            exact Rch.ret X10 hlk (fun h => by rw [hret] at h; cases h) (fun fs hr => retR' X10 hx hret rfl rfl (hb hby d2_44) hr) ⟨by rw [hv], N0, e10⟩ (by decide) (by decide)
          · refine Rch.go (fun _ k => XS.icmpYes X0.here hx rfl (pc0 := 38) (pc' := 45) rfl (hb hby d2_38) rfl (feq hc38_9).2 (by decide) (by decide) k) ?_
            show Rch p e below (s₁.setTop (mkF m 45 #[.val (.int p1)] [])) _
            refine Rch.go (fun _ k => XS.iloadN X0.here hx rfl (hb hby d2_45) rfl  k) ?_
            show Rch p e below (s₁.setTop (mkF m 46 #[.val (.int p1)] [(.int p1)])) _
            refine Rch.go (fun _ k => XS.bipush X0.here hx rfl (hb hby d2_46) k) ?_
            show Rch p e below (s₁.setTop (mkF m 48 #[.val (.int p1)] [(.int (6 : Int32)), (.int p1)])) _
            by_cases hc48_11 : p1 = (6 : Int32)
            · refine Rch.go (fun _ k => XS.icmpNo X0.here hx rfl (hb hby d2_48) rfl (teq hc48_11).2 k) ?_
              show Rch p e below (s₁.setTop (mkF m 51 #[.val (.int p1)] [])) _
              obtain ⟨T12, X12, e12, st12⟩ := getS2 X0 hx hZ hown (host := "") (Or.inl (hw _ (List.mem_of_getElem? (i := 16) rfl))) Via.refl e0 S_DATA (g := (mkF m 51 #[.val (.int p1)] [])) rfl (hb hby d2_51)
              refine Rch.go st12 ?_
              show Rch p e below (T12.setTop (mkF m 54 #[.val (.int p1)] [(.ref (A 6))])) _
              have hv : own_exp A p1 = (A 6) := by simp only [own_exp, if_neg hc2_1, if_neg hc11_3, if_neg hc20_5, if_neg hc29_7, if_neg hc38_9, if_pos hc48_11]
              exact Rch.ret X12 hlk (fun h => by rw [hret] at h; cases h) (fun fs hr => retR' X12 hx hret rfl rfl (hb hby d2_54) hr) ⟨by rw [hv], N0, e12⟩ (by decide) (by decide)
            · refine Rch.go (fun _ k => XS.icmpYes X0.here hx rfl (pc0 := 48) (pc' := 55) rfl (hb hby d2_48) rfl (feq hc48_11).2 (by decide) (by decide) k) ?_
              show Rch p e below (s₁.setTop (mkF m 55 #[.val (.int p1)] [])) _
              refine Rch.go (fun _ k => XS.iloadN X0.here hx rfl (hb hby d2_55) rfl  k) ?_
              show Rch p e below (s₁.setTop (mkF m 56 #[.val (.int p1)] [(.int p1)])) _
              refine Rch.go (fun _ k => XS.bipush X0.here hx rfl (hb hby d2_56) k) ?_
              show Rch p e below (s₁.setTop (mkF m 58 #[.val (.int p1)] [(.int (7 : Int32)), (.int p1)])) _
              by_cases hc58_13 : p1 = (7 : Int32)
              · refine Rch.go (fun _ k => XS.icmpNo X0.here hx rfl (hb hby d2_58) rfl (teq hc58_13).2 k) ?_
                show Rch p e below (s₁.setTop (mkF m 61 #[.val (.int p1)] [])) _
                obtain ⟨T14, X14, e14, st14⟩ := getS2 X0 hx hZ hown (host := "") (Or.inl (hw _ (List.mem_of_getElem? (i := 24) rfl))) Via.refl e0 S_NULL (g := (mkF m 61 #[.val (.int p1)] [])) rfl (hb hby d2_61)
                refine Rch.go st14 ?_
                show Rch p e below (T14.setTop (mkF m 64 #[.val (.int p1)] [(.ref (A 7))])) _
                have hv : own_exp A p1 = (A 7) := by simp only [own_exp, if_neg hc2_1, if_neg hc11_3, if_neg hc20_5, if_neg hc29_7, if_neg hc38_9, if_neg hc48_11, if_pos hc58_13]
                exact Rch.ret X14 hlk (fun h => by rw [hret] at h; cases h) (fun fs hr => retR' X14 hx hret rfl rfl (hb hby d2_64) hr) ⟨by rw [hv], N0, e14⟩ (by decide) (by decide)
              · refine Rch.go (fun _ k => XS.icmpYes X0.here hx rfl (pc0 := 58) (pc' := 65) rfl (hb hby d2_58) rfl (feq hc58_13).2 (by decide) (by decide) k) ?_
                show Rch p e below (s₁.setTop (mkF m 65 #[.val (.int p1)] [])) _
                refine Rch.go (fun _ k => XS.iloadN X0.here hx rfl (hb hby d2_65) rfl  k) ?_
                show Rch p e below (s₁.setTop (mkF m 66 #[.val (.int p1)] [(.int p1)])) _
                refine Rch.go (fun _ k => XS.bipush X0.here hx rfl (hb hby d2_66) k) ?_
                show Rch p e below (s₁.setTop (mkF m 68 #[.val (.int p1)] [(.int (9 : Int32)), (.int p1)])) _
                by_cases hc68_15 : p1 = (9 : Int32)
                · refine Rch.go (fun _ k => XS.icmpNo X0.here hx rfl (hb hby d2_68) rfl (teq hc68_15).2 k) ?_
                  show Rch p e below (s₁.setTop (mkF m 71 #[.val (.int p1)] [])) _
                  obtain ⟨T16, X16, e16, st16⟩ := getS2 X0 hx hZ hown (host := "") (Or.inl (hw _ (List.mem_of_getElem? (i := 32) rfl))) Via.refl e0 S_ABORT (g := (mkF m 71 #[.val (.int p1)] [])) rfl (hb hby d2_71)
                  refine Rch.go st16 ?_
                  show Rch p e below (T16.setTop (mkF m 74 #[.val (.int p1)] [(.ref (A 9))])) _
                  have hv : own_exp A p1 = (A 9) := by simp only [own_exp, if_neg hc2_1, if_neg hc11_3, if_neg hc20_5, if_neg hc29_7, if_neg hc38_9, if_neg hc48_11, if_neg hc58_13, if_pos hc68_15]
                  exact Rch.ret X16 hlk (fun h => by rw [hret] at h; cases h) (fun fs hr => retR' X16 hx hret rfl rfl (hb hby d2_74) hr) ⟨by rw [hv], N0, e16⟩ (by decide) (by decide)
                · refine Rch.go (fun _ k => XS.icmpYes X0.here hx rfl (pc0 := 68) (pc' := 75) rfl (hb hby d2_68) rfl (feq hc68_15).2 (by decide) (by decide) k) ?_
                  show Rch p e below (s₁.setTop (mkF m 75 #[.val (.int p1)] [])) _
                  refine Rch.go (fun _ k => XS.iloadN X0.here hx rfl (hb hby d2_75) rfl  k) ?_
                  show Rch p e below (s₁.setTop (mkF m 76 #[.val (.int p1)] [(.int p1)])) _
                  refine Rch.go (fun _ k => XS.bipush X0.here hx rfl (hb hby d2_76) k) ?_
                  show Rch p e below (s₁.setTop (mkF m 78 #[.val (.int p1)] [(.int (11 : Int32)), (.int p1)])) _
                  by_cases hc78_17 : p1 = (11 : Int32)
                  · refine Rch.go (fun _ k => XS.icmpNo X0.here hx rfl (hb hby d2_78) rfl (teq hc78_17).2 k) ?_
                    show Rch p e below (s₁.setTop (mkF m 81 #[.val (.int p1)] [])) _
                    obtain ⟨T18, X18, e18, st18⟩ := getS2 X0 hx hZ hown (host := "") (Or.inl (hw _ (List.mem_of_getElem? (i := 28) rfl))) Via.refl e0 S_RESEND (g := (mkF m 81 #[.val (.int p1)] [])) rfl (hb hby d2_81)
                    refine Rch.go st18 ?_
                    show Rch p e below (T18.setTop (mkF m 84 #[.val (.int p1)] [(.ref (A 11))])) _
                    have hv : own_exp A p1 = (A 11) := by simp only [own_exp, if_neg hc2_1, if_neg hc11_3, if_neg hc20_5, if_neg hc29_7, if_neg hc38_9, if_neg hc48_11, if_neg hc58_13, if_neg hc68_15, if_pos hc78_17]
                    exact Rch.ret X18 hlk (fun h => by rw [hret] at h; cases h) (fun fs hr => retR' X18 hx hret rfl rfl (hb hby d2_84) hr) ⟨by rw [hv], N0, e18⟩ (by decide) (by decide)
                  · refine Rch.go (fun _ k => XS.icmpYes X0.here hx rfl (pc0 := 78) (pc' := 85) rfl (hb hby d2_78) rfl (feq hc78_17).2 (by decide) (by decide) k) ?_
                    show Rch p e below (s₁.setTop (mkF m 85 #[.val (.int p1)] [])) _
                    refine Rch.go (fun _ k => XS.iloadN X0.here hx rfl (hb hby d2_85) rfl  k) ?_
                    show Rch p e below (s₁.setTop (mkF m 86 #[.val (.int p1)] [(.int p1)])) _
                    refine Rch.go (fun _ k => XS.bipush X0.here hx rfl (hb hby d2_86) k) ?_
                    show Rch p e below (s₁.setTop (mkF m 88 #[.val (.int p1)] [(.int (12 : Int32)), (.int p1)])) _
                    by_cases hc88_19 : p1 = (12 : Int32)
                    · refine Rch.go (fun _ k => XS.icmpNo X0.here hx rfl (hb hby d2_88) rfl (teq hc88_19).2 k) ?_
                      show Rch p e below (s₁.setTop (mkF m 91 #[.val (.int p1)] [])) _
                      obtain ⟨T20, X20, e20, st20⟩ := getS2 X0 hx hZ hown (host := "") (Or.inl (hw _ (List.mem_of_getElem? (i := 18) rfl))) Via.refl e0 S_MARKER (g := (mkF m 91 #[.val (.int p1)] [])) rfl (hb hby d2_91)
                      refine Rch.go st20 ?_
                      show Rch p e below (T20.setTop (mkF m 94 #[.val (.int p1)] [(.ref (A 12))])) _
                      have hv : own_exp A p1 = (A 12) := by simp only [own_exp, if_neg hc2_1, if_neg hc11_3, if_neg hc20_5, if_neg hc29_7, if_neg hc38_9, if_neg hc48_11, if_neg hc58_13, if_neg hc68_15, if_neg hc78_17, if_pos hc88_19]
                      exact Rch.ret X20 hlk (fun h => by rw [hret] at h; cases h) (fun fs hr => retR' X20 hx hret rfl rfl (hb hby d2_94) hr) ⟨by rw [hv], N0, e20⟩ (by decide) (by decide)
                    · refine Rch.go (fun _ k => XS.icmpYes X0.here hx rfl (pc0 := 88) (pc' := 95) rfl (hb hby d2_88) rfl (feq hc88_19).2 (by decide) (by decide) k) ?_
                      show Rch p e below (s₁.setTop (mkF m 95 #[.val (.int p1)] [])) _
                      refine Rch.go (fun _ k => XS.iloadN X0.here hx rfl (hb hby d2_95) rfl  k) ?_
                      show Rch p e below (s₁.setTop (mkF m 96 #[.val (.int p1)] [(.int p1)])) _
                      refine Rch.go (fun _ k => XS.bipush X0.here hx rfl (hb hby d2_96) k) ?_
                      show Rch p e below (s₁.setTop (mkF m 98 #[.val (.int p1)] [(.int (13 : Int32)), (.int p1)])) _
                      by_cases hc98_21 : p1 = (13 : Int32)
                      · refine Rch.go (fun _ k => XS.icmpNo X0.here hx rfl (hb hby d2_98) rfl (teq hc98_21).2 k) ?_
                        show Rch p e below (s₁.setTop (mkF m 101 #[.val (.int p1)] [])) _
                        obtain ⟨T22, X22, e22, st22⟩ := getS2 X0 hx hZ hown (host := "") (Or.inl (hw _ (List.mem_of_getElem? (i := 36) rfl))) Via.refl e0 S_ATTENTION (g := (mkF m 101 #[.val (.int p1)] [])) rfl (hb hby d2_101)
                        refine Rch.go st22 ?_
                        show Rch p e below (T22.setTop (mkF m 104 #[.val (.int p1)] [(.ref (A 13))])) _
                        have hv : own_exp A p1 = (A 13) := by simp only [own_exp, if_neg hc2_1, if_neg hc11_3, if_neg hc20_5, if_neg hc29_7, if_neg hc38_9, if_neg hc48_11, if_neg hc58_13, if_neg hc68_15, if_neg hc78_17, if_neg hc88_19, if_pos hc98_21]
                        exact Rch.ret X22 hlk (fun h => by rw [hret] at h; cases h) (fun fs hr => retR' X22 hx hret rfl rfl (hb hby d2_104) hr) ⟨by rw [hv], N0, e22⟩ (by decide) (by decide)
                      · refine Rch.go (fun _ k => XS.icmpYes X0.here hx rfl (pc0 := 98) (pc' := 105) rfl (hb hby d2_98) rfl (feq hc98_21).2 (by decide) (by decide) k) ?_
                        show Rch p e below (s₁.setTop (mkF m 105 #[.val (.int p1)] [])) _
                        refine Rch.go (fun _ k => XS.iloadN X0.here hx rfl (hb hby d2_105) rfl  k) ?_
                        show Rch p e below (s₁.setTop (mkF m 106 #[.val (.int p1)] [(.int p1)])) _
                        refine Rch.go (fun _ k => XS.bipush X0.here hx rfl (hb hby d2_106) k) ?_
                        show Rch p e below (s₁.setTop (mkF m 108 #[.val (.int p1)] [(.int (14 : Int32)), (.int p1)])) _
                        by_cases hc108_23 : p1 = (14 : Int32)
                        · refine Rch.go (fun _ k => XS.icmpNo X0.here hx rfl (hb hby d2_108) rfl (teq hc108_23).2 k) ?_
                          show Rch p e below (s₁.setTop (mkF m 111 #[.val (.int p1)] [])) _
                          obtain ⟨T24, X24, e24, st24⟩ := getS2 X0 hx hZ hown (host := "") (Or.inl (hw _ (List.mem_of_getElem? (i := 14) rfl))) Via.refl e0 S_CONTROL (g := (mkF m 111 #[.val (.int p1)] [])) rfl (hb hby d2_111)
                          refine Rch.go st24 ?_
                          show Rch p e below (T24.setTop (mkF m 114 #[.val (.int p1)] [(.ref (A 14))])) _
                          have hv : own_exp A p1 = (A 14) := by simp only [own_exp, if_neg hc2_1, if_neg hc11_3, if_neg hc20_5, if_neg hc29_7, if_neg hc38_9, if_neg hc48_11, if_neg hc58_13, if_neg hc68_15, if_neg hc78_17, if_neg hc88_19, if_neg hc98_21, if_pos hc108_23]
                          exact Rch.ret X24 hlk (fun h => by rw [hret] at h; cases h) (fun fs hr => retR' X24 hx hret rfl rfl (hb hby d2_114) hr) ⟨by rw [hv], N0, e24⟩ (by decide) (by decide)
                        · refine Rch.go (fun _ k => XS.icmpYes X0.here hx rfl (pc0 := 108) (pc' := 115) rfl (hb hby d2_108) rfl (feq hc108_23).2 (by decide) (by decide) k) ?_
                          show Rch p e below (s₁.setTop (mkF m 115 #[.val (.int p1)] [])) _
                          obtain ⟨T25, X25, e25, st25⟩ := getS2 X0 hx hZ hown (host := "") (Or.inl (hw _ (List.mem_of_getElem? (i := 12) rfl))) Via.refl e0 S_UNKNOWN (g := (mkF m 115 #[.val (.int p1)] [])) rfl (hb hby d2_115)
                          refine Rch.go st25 ?_
                          show Rch p e below (T25.setTop (mkF m 118 #[.val (.int p1)] [(.ref (A 0))])) _
                          have hv : own_exp A p1 = (A 0) := by simp only [own_exp, if_neg hc2_1, if_neg hc11_3, if_neg hc20_5, if_neg hc29_7, if_neg hc38_9, if_neg hc48_11, if_neg hc58_13, if_neg hc68_15, if_neg hc78_17, if_neg hc88_19, if_neg hc98_21, if_neg hc108_23]
                          exact Rch.ret X25 hlk (fun h => by rw [hret] at h; cases h) (fun fs hr => retR' X25 hx hret rfl rfl (hb hby d2_118) hr) ⟨by rw [hv], N0, e25⟩ (by decide) (by decide)
def own_c_S0 (p0 : Int32) (p1 : Int32) : Int32 := (if (p1 &&& (1 : Int32)) = (0 : Int32) then p0 else (p0 % (20 : Int32)))
abbrev own_T : Term := Jvm.Term.static "com/example/sessionwire/sessionwire/tns/TnsPacketType" "BY_NUMBER" "[Lcom/example/sessionwire/sessionwire/tns/TnsPacketType;"
theorem own_ref {args : Array Value} {s : State} {ty : FieldType} {t : Term} (h : (Jvm.Cond.arrayOf t ty).value args s none s [] = some true) : ∃ a, t.eval args s none [] s = some (.ref a) := by
  simp only [Cond.value] at h
  split at h
  · cases h
  · split at h
    · rename_i a e; exact ⟨a, e⟩
    · cases h
    · cases h
theorem own_eqI {args : Array Value} {s : State} {t : Term} {n : Int32} {idx : List Nat} (h : (Jvm.Cond.eq t (.int n)).value args s none s idx = some true) : t.eval args s none idx s = some (.int n) := by
  simp only [Cond.value, Term.eval] at h
  cases ht : t.eval args s none idx s with
  | none => simp [ht] at h
  | some x => cases x <;> simp [ht] at h ⊢; exact h
theorem own_len {args : Array Value} {s : State} {a : Addr} {cl : Cell} {n : Int32} {t : Term} (ht : t.eval args s none [] s = some (.ref a)) (hc : s.arrayAt? a = some cl) (h : (Jvm.Term.length t).eval args s none [] s = some (.int n)) : cl.slots.size < 2 ^ 31 ∧ cl.slots.size.toInt32 = n := by
  simp only [Term.eval, ht, hc, Option.bind_eq_bind, Option.bind_some] at h
  split at h
  · rename_i q; simp only [Option.pure_def, Option.some.injEq, Value.int.injEq] at h; exact ⟨q, h⟩
  · cases h
theorem own_el {args : Array Value} {s : State} {a : Addr} {cl : Cell} {j : Int32} {v : Value} {idx : List Nat} {t ti : Term} (ht : t.eval args s none idx s = some (.ref a)) (hc : s.arrayAt? a = some cl) (hj : ti.eval args s none idx s = some (.int j)) (h : (Jvm.Term.elem t ti).eval args s none idx s = some v) : cl.slots[j.toNatClampNeg]? = some v := by
  simp only [Term.eval, ht, hj, hc, Option.bind_eq_bind, Option.bind_some] at h
  split at h
  · cases h
  · exact h
theorem own_elE {args : Array Value} {s : State} {a : Addr} {cl : Cell} {j : Int32} {v : Value} (ht : own_T.eval args s none [] s = some (.ref a)) (hc : s.arrayAt? a = some cl) (h : (Jvm.Term.elem own_T (.int j)).eval args s none [] s = some v) : cl.slots[j.toNatClampNeg]? = some v := own_el ht hc rfl h
theorem own_elN {args : Array Value} {s : State} {a : Addr} {cl : Cell} (k : Nat) {j : Int32} (hk : j.toNatClampNeg = k) (ht : own_T.eval args s none [] s = some (.ref a)) (hc : s.arrayAt? a = some cl) (h : (Jvm.Cond.eq (Jvm.Term.elem own_T (.int j)) .null).value args s none s [] = some true) : cl.slots[k]? = some .null := by
  rw [← hk]
  refine own_elE ht hc ?_
  simp only [Cond.value] at h
  have hn : Jvm.Term.null.eval args s none [] s = some .null := rfl
  rw [hn] at h
  cases hv : (Jvm.Term.elem own_T (.int j)).eval args s none [] s with
  | none => simp [hv] at h
  | some x => cases x <;> simp [hv] at h ⊢
theorem own_elR {args : Array Value} {s : State} {a b : Addr} {cl : Cell} {u : Term} (k : Nat) {j : Int32} (hk : j.toNatClampNeg = k) (ht : own_T.eval args s none [] s = some (.ref a)) (hc : s.arrayAt? a = some cl) (hu : u.eval args s none [] s = some (.ref b)) (h : (Jvm.Cond.eq (Jvm.Term.elem own_T (.int j)) u).value args s none s [] = some true) : cl.slots[k]? = some (.ref b) := by
  rw [← hk]
  refine own_elE ht hc ?_
  simp only [Cond.value, hu] at h
  cases hv : (Jvm.Term.elem own_T (.int j)).eval args s none [] s with
  | none => simp [hv] at h
  | some x => cases x <;> simp [hv] at h ⊢; exact h
theorem pd0_0 : parseMethodDescriptor "(I)Lcom/example/sessionwire/sessionwire/tns/TnsPacketType;" = some ⟨[.int], some (.object "com/example/sessionwire/sessionwire/tns/TnsPacketType")⟩ := by decide +kernel
theorem pn_0 : plainFor x = true := plainFor_of_name (by first | (simp [plainName, overriddenIn]; done) | decide +kernel)
theorem ef_0 (m : MethodId) (x0 : Int32) (x1 : Int32) : entryFrame m #[(.int x0), (.int x1)] maxLocals = mkF m 0 #[.val (.int x0), .val (.int x1), .unset, .unset] [] := by first | (simp [entryFrame, mkF, argsToLocals, Value.category, maxLocals]; done) | rfl
def own_Q_rm0 (Z : State) (p0 p1 : Int32) (A : Nat → Addr) (h0 : Heap) (n0 : Nat) (v : Option Value) (h : Heap) (L : List Loc) : Prop := v = some (.int 1) ∧ Fr n0 L
set_option maxRecDepth 65536 in
set_option maxHeartbeats 40000000 in
theorem rm0 (l : Launch) (Z : State) (a0 : Array Value) (hw : ∀ d ∈ tables_1, d.before a0 Z = true) (ws : List Jvm.Cond) (p0 p1 : Int32) (A : Nat → Addr) (h0 : Heap) (n0 : Nat) (Z0 : n0 ≤ h0.size) (t : Addr) (cl : Cell) (S0 : Sta Z h0 "com/example/sessionwire/sessionwire/tns/TnsPacketType" "BY_NUMBER" "[Lcom/example/sessionwire/sessionwire/tns/TnsPacketType;" (.ref t)) (Ar : Arr Z h0 t cl (.object "com/example/sessionwire/sessionwire/tns/TnsPacketType")) (S : cl.slots.size = (15 : Int32).toNatClampNeg) (hat : ∀ j, j < 15 → cl.slots[j]? = some (own_tab A j)) (S_CONNECT : Sta Z h0 "com/example/sessionwire/sessionwire/tns/TnsPacketType" "CONNECT" "Lcom/example/sessionwire/sessionwire/tns/TnsPacketType;" (.ref (A 1))) (S_ACCEPT : Sta Z h0 "com/example/sessionwire/sessionwire/tns/TnsPacketType" "ACCEPT" "Lcom/example/sessionwire/sessionwire/tns/TnsPacketType;" (.ref (A 2))) (S_ACKNOWLEDGE : Sta Z h0 "com/example/sessionwire/sessionwire/tns/TnsPacketType" "ACKNOWLEDGE" "Lcom/example/sessionwire/sessionwire/tns/TnsPacketType;" (.ref (A 3))) (S_REFUSE : Sta Z h0 "com/example/sessionwire/sessionwire/tns/TnsPacketType" "REFUSE" "Lcom/example/sessionwire/sessionwire/tns/TnsPacketType;" (.ref (A 4))) (S_REDIRECT : Sta Z h0 "com/example/sessionwire/sessionwire/tns/TnsPacketType" "REDIRECT" "Lcom/example/sessionwire/sessionwire/tns/TnsPacketType;" (.ref (A 5))) (S_DATA : Sta Z h0 "com/example/sessionwire/sessionwire/tns/TnsPacketType" "DATA" "Lcom/example/sessionwire/sessionwire/tns/TnsPacketType;" (.ref (A 6))) (S_NULL : Sta Z h0 "com/example/sessionwire/sessionwire/tns/TnsPacketType" "NULL" "Lcom/example/sessionwire/sessionwire/tns/TnsPacketType;" (.ref (A 7))) (S_ABORT : Sta Z h0 "com/example/sessionwire/sessionwire/tns/TnsPacketType" "ABORT" "Lcom/example/sessionwire/sessionwire/tns/TnsPacketType;" (.ref (A 9))) (S_RESEND : Sta Z h0 "com/example/sessionwire/sessionwire/tns/TnsPacketType" "RESEND" "Lcom/example/sessionwire/sessionwire/tns/TnsPacketType;" (.ref (A 11))) (S_MARKER : Sta Z h0 "com/example/sessionwire/sessionwire/tns/TnsPacketType" "MARKER" "Lcom/example/sessionwire/sessionwire/tns/TnsPacketType;" (.ref (A 12))) (S_ATTENTION : Sta Z h0 "com/example/sessionwire/sessionwire/tns/TnsPacketType" "ATTENTION" "Lcom/example/sessionwire/sessionwire/tns/TnsPacketType;" (.ref (A 13))) (S_CONTROL : Sta Z h0 "com/example/sessionwire/sessionwire/tns/TnsPacketType" "CONTROL" "Lcom/example/sessionwire/sessionwire/tns/TnsPacketType;" (.ref (A 14))) (S_UNKNOWN : Sta Z h0 "com/example/sessionwire/sessionwire/tns/TnsPacketType" "UNKNOWN" "Lcom/example/sessionwire/sessionwire/tns/TnsPacketType;" (.ref (A 0))) :
    MetFree l x (head1 (Jvm.Cond.code x code maxLocals ret :: ws) room_1) (fun a U => a = #[(.int p0), (.int p1)] ∧ Z.Warmed39 U.vm ∧ U.heap = h0) (fun _ _ _ _ _ => True) (fun _ U o U' => ∃ v L, o = .returned v ∧ own_Q_rm0 Z p0 p1 A h0 n0 v U'.heap L ∧ FrameEnd U o U' L 0 0) := by
  refine own_body (Q := (own_Q_rm0 Z p0 p1 A h0 n0)) pn_0 ?_
  intro p e s m below meth c s₁ X0 hx hby hml hown hnm hret hlk hZ e0
  have N0 := Fr.nil n0
  refine Rch.go (fun t k => castTop (ef_0 m p0 p1) k) ?_
  show Rch p e below (s₁.setTop (mkF m 0 #[.val (.int p0), .val (.int p1), .unset, .unset] [])) _
  have hj2 : ∀ P', Rch p e below (s₁.setTop (mkF m 14 #[.val (.int p0), .val (.int p1), .unset, .unset] [(.int (own_c_S0 p0 p1))])) P' → Rch p e below (s₁.setTop (mkF m 0 #[.val (.int p0), .val (.int p1), .unset, .unset] [])) P' := by
    intro P' kt
    refine Rch.go (fun _ k => XS.iloadN X0.here hx rfl (hb hby at_0) rfl  k) ?_
    show Rch p e below (s₁.setTop (mkF m 1 #[.val (.int p0), .val (.int p1), .unset, .unset] [(.int p1)])) _
    refine Rch.go (fun _ k => XS.iconst X0.here hx rfl (hb hby at_1) k) ?_
    show Rch p e below (s₁.setTop (mkF m 2 #[.val (.int p0), .val (.int p1), .unset, .unset] [(.int (1 : Int32)), (.int p1)])) _
    refine Rch.go (fun _ k => XS.iand X0.here hx rfl (hb hby at_2) rfl k) ?_
    show Rch p e below (s₁.setTop (mkF m 3 #[.val (.int p0), .val (.int p1), .unset, .unset] [(.int (p1 &&& (1 : Int32)))])) _
    by_cases hc3_1 : (p1 &&& (1 : Int32)) = (0 : Int32)
    · refine Rch.go (fun _ k => XS.ifYes X0.here hx rfl (pc0 := 3) (pc' := 13) rfl (hb hby at_3) rfl ((if0 _ _).trans (teq hc3_1).1) (by decide) (by decide) k) ?_
      show Rch p e below (s₁.setTop (mkF m 13 #[.val (.int p0), .val (.int p1), .unset, .unset] [])) _
      refine Rch.go (fun _ k => XS.iloadN X0.here hx rfl (hb hby at_13) rfl  k) ?_
      show Rch p e below (s₁.setTop (mkF m 14 #[.val (.int p0), .val (.int p1), .unset, .unset] [(.int p0)])) _
      rw [show own_c_S0 p0 p1 = p0 from by simp only [own_c_S0, if_pos hc3_1]] at kt
      exact kt
    · refine Rch.go (fun _ k => XS.ifNo X0.here hx rfl (hb hby at_3) rfl ((if0 _ _).trans (feq hc3_1).1) k) ?_
      show Rch p e below (s₁.setTop (mkF m 6 #[.val (.int p0), .val (.int p1), .unset, .unset] [])) _
      refine Rch.go (fun _ k => XS.iloadN X0.here hx rfl (hb hby at_6) rfl  k) ?_
      show Rch p e below (s₁.setTop (mkF m 7 #[.val (.int p0), .val (.int p1), .unset, .unset] [(.int p0)])) _
      refine Rch.go (fun _ k => XS.bipush X0.here hx rfl (hb hby at_7) k) ?_
      show Rch p e below (s₁.setTop (mkF m 9 #[.val (.int p0), .val (.int p1), .unset, .unset] [(.int (20 : Int32)), (.int p0)])) _
      refine Rch.go (fun _ k => iremM X0 hx rfl (hb hby at_9) rfl (by decide) k) ?_
      show Rch p e below (s₁.setTop (mkF m 10 #[.val (.int p0), .val (.int p1), .unset, .unset] [(.int (p0 % (20 : Int32)))])) _
      refine Rch.go (fun _ k => XS.goto X0.here hx rfl (pc0 := 10) (pc' := 14) rfl (hb hby at_10) (by decide) (by decide) k) ?_
      show Rch p e below (s₁.setTop (mkF m 14 #[.val (.int p0), .val (.int p1), .unset, .unset] [(.int (p0 % (20 : Int32)))])) _
      rw [show own_c_S0 p0 p1 = (p0 % (20 : Int32)) from by simp only [own_c_S0, if_neg hc3_1]] at kt
      exact kt
  refine hj2 _ ?_
  show Rch p e below (s₁.setTop (mkF m 14 #[.val (.int p0), .val (.int p1), .unset, .unset] [(.int (own_c_S0 p0 p1))])) _
  generalize hcv : (own_c_S0 p0 p1) = cv
  refine Rch.go (fun _ k => XS.istoreN X0.here hx rfl (hb hby at_14) rfl (l' := #[.val (.int p0), .val (.int p1), .val (.int cv), .unset]) rfl k) ?_
  show Rch p e below (s₁.setTop (mkF m 15 #[.val (.int p0), .val (.int p1), .val (.int cv), .unset] [])) _
  refine Rch.go (fun _ k => XS.iloadN X0.here hx rfl (hb hby at_15) rfl  k) ?_
  show Rch p e below (s₁.setTop (mkF m 16 #[.val (.int p0), .val (.int p1), .val (.int cv), .unset] [(.int cv)])) _
  refine Rch.callS X0 hx hZ hown (hw _ (List.mem_of_getElem? (i := 0) rfl)) (hw _ (List.mem_of_getElem? (i := 1) rfl)) (hw _ (List.mem_of_getElem? (i := 2) rfl)) (hw _ (List.mem_of_getElem? (i := 3) rfl)) (by decide) (rm1 l Z a0 hw [] cv A h0 n0 Z0 t cl S0 Ar S hat S_UNKNOWN) 0 (by decide) (by decide) (by decide) (by decide) e0 (g := (mkF m 16 #[.val (.int p0), .val (.int p1), .val (.int cv), .unset] [(.int cv)])) rfl (by rw [hml]; rfl) [(.int cv)] [] rfl (lenOf pd0_0 rfl) rfl (by show 2 * 0 + _ ≤ _; exact Nat.le_of_eq rfl) (hb hby at_16) ?_
  intro v3 T3 L3 X3 hQ3
  obtain ⟨rfl, N3q, e3⟩ := hQ3
  have N3 := Fr.app N0 N3q
  rw [own_same A cv]
  show Rch p e below (T3.setTop (mkF m 19 #[.val (.int p0), .val (.int p1), .val (.int cv), .unset] [(.ref (own_exp A cv))])) _
  refine Rch.go (fun _ k => XS.astoreN X3.here hx rfl (hb hby at_19) rfl rfl (l' := #[.val (.int p0), .val (.int p1), .val (.int cv), .val (.ref (own_exp A cv))]) rfl k) ?_
  show Rch p e below (T3.setTop (mkF m 20 #[.val (.int p0), .val (.int p1), .val (.int cv), .val (.ref (own_exp A cv))] [])) _
  refine Rch.go (fun _ k => XS.aloadN X3.here hx rfl (hb hby at_20) rfl rfl k) ?_
  show Rch p e below (T3.setTop (mkF m 21 #[.val (.int p0), .val (.int p1), .val (.int cv), .val (.ref (own_exp A cv))] [(.ref (own_exp A cv))])) _
  refine Rch.go (fun _ k => XS.iloadN X3.here hx rfl (hb hby at_21) rfl  k) ?_
  show Rch p e below (T3.setTop (mkF m 22 #[.val (.int p0), .val (.int p1), .val (.int cv), .val (.ref (own_exp A cv))] [(.int cv), (.ref (own_exp A cv))])) _
  refine Rch.callS X3 hx hZ hown (hw _ (List.mem_of_getElem? (i := 8) rfl)) (hw _ (List.mem_of_getElem? (i := 9) rfl)) (hw _ (List.mem_of_getElem? (i := 10) rfl)) (hw _ (List.mem_of_getElem? (i := 11) rfl)) (by decide) (rm2 l Z a0 hw [] cv A h0 n0 Z0 S_CONNECT S_ACCEPT S_ACKNOWLEDGE S_REFUSE S_REDIRECT S_DATA S_NULL S_ABORT S_RESEND S_MARKER S_ATTENTION S_CONTROL S_UNKNOWN) 1 (by decide) (by decide) (by decide) (by decide) e3 (g := (mkF m 22 #[.val (.int p0), .val (.int p1), .val (.int cv), .val (.ref (own_exp A cv))] [(.int cv), (.ref (own_exp A cv))])) rfl (by rw [hml]; rfl) [(.int cv)] [(.ref (own_exp A cv))] rfl (lenOf pd0_0 rfl) rfl (by show 2 * 0 + _ ≤ _; exact Nat.le_of_eq rfl) (hb hby at_22) ?_
  intro v4 T4 L4 X4 hQ4
  obtain ⟨rfl, N4q, e4⟩ := hQ4
  have NN := Fr.app N3 N4q
  show Rch p e below (T4.setTop (mkF m 25 #[.val (.int p0), .val (.int p1), .val (.int cv), .val (.ref (own_exp A cv))] [(.ref (own_exp A cv)), (.ref (own_exp A cv))])) _
  refine Rch.go (fun _ k => Jvm.RoadKit.acmp (g := (mkF m 25 #[.val (.int p0), .val (.int p1), .val (.int cv), .val (.ref (own_exp A cv))] [(.ref (own_exp A cv)), (.ref (own_exp A cv))])) X4 hx rfl rfl rfl (pc0 := 25) (pc' := 28) (same := true) rfl (hb hby at_25) rfl (decide_eq_true rfl) (by decide) (by decide) k) ?_
  show Rch p e below (T4.setTop (mkF m 28 #[.val (.int p0), .val (.int p1), .val (.int cv), .val (.ref (own_exp A cv))] [])) _
  refine Rch.go (fun _ k => XS.iconst X4.here hx rfl (hb hby at_28) k) ?_
  show Rch p e below (T4.setTop (mkF m 29 #[.val (.int p0), .val (.int p1), .val (.int cv), .val (.ref (own_exp A cv))] [(.int (1 : Int32))])) _
  refine Rch.go (fun _ k => XS.goto X4.here hx rfl (pc0 := 29) (pc' := 33) rfl (hb hby at_29) (by decide) (by decide) k) ?_
  show Rch p e below (T4.setTop (mkF m 33 #[.val (.int p0), .val (.int p1), .val (.int cv), .val (.ref (own_exp A cv))] [(.int (1 : Int32))])) _
  exact Rch.ret X4 hlk (fun h => by rw [hret] at h; cases h) (fun fs hr => retN X4 hx (t := .boolean) hret (by simp) (hb hby at_33) hr) ⟨rfl, NN⟩ (by decide) (by decide)
set_option maxRecDepth 65536 in
set_option maxHeartbeats 40000000 in
theorem comes_1 {Post : Tables → Env → Array Value → State → Outcome → State → Prop} (hpost : ∀ tb e args s v u, (limb_1_1.after args s (.returned v) u = true ∧ limb_1_2.after args s (.returned v) u = true ∧ True) → FrameEnd s (.returned v) u (Jvm.fieldLocs frame_1_writes args s ++ Jvm.arrayLocs frame_1_arrays args s ++ Jvm.staticLocs frame_1_statics s) 0 0 → Post tb e args s (.returned v) u) :
    ArmFor flags0 classFile x code maxLocals ret World_1 tables_1 room_1 Calls_1 rest_1 Pre_1 Post := by
  intro l hfl _ _ p e ha hc hk s m args below hf hA hF happ hP
  obtain ⟨hcalls, hrest, hpre⟩ := hP
  obtain ⟨-, -, -, hnamed, -, -, -, hat⟩ := (Spec.applies_iff hf).mp happ
  obtain ⟨hg, hn⟩ := and_e (Cond.before_iff.mp (show (Jvm.Cond.and given_1 narrow_1).before args s = true from hpre))
  obtain ⟨hcount, q0⟩ := and_e hg
  obtain ⟨b0, q1⟩ := and_e q0
  obtain ⟨w0, w1, rfl⟩ : ∃ w0 w1 : Value, args = #[w0, w1] := by
    have hs : args.size = 2 := by simpa [Cond.value, given_1] using hcount
    obtain ⟨L⟩ := args
    match L, hs with
    | [w0, w1], _ => exact ⟨w0, w1, rfl⟩
  have hw := fun d (hd : d ∈ tables_1) => atoms_spec (ws := Jvm.Cond.code x code maxLocals ret :: tables_1) hat d (List.mem_cons_of_mem _ hd)
  have hfit : Fit s := fun {y c} hc i hi => by
    obtain ⟨ha, rfl⟩ := Array.getElem?_eq_some_iff.mp hc
    have q := List.all_eq_true.mp ((Array.all_eq_true_iff_forall_mem.mp hF) _ (Array.getElem_mem ha)) i (List.mem_range.mpr hi)
    simpa [Array.getElem?_eq_getElem hi] using q
  obtain ⟨i0, ei0⟩ := is_v b0
  obtain rfl : w0 = (.int i0) := Option.some.inj ei0
  obtain ⟨i1, ei1⟩ := is_v q1
  obtain rfl : w1 = (.int i1) := Option.some.inj ei1
  obtain ⟨c0, r0⟩ := and_e hn
  obtain ⟨c1, r1⟩ := and_e r0
  obtain ⟨c2, r2⟩ := and_e r1
  obtain ⟨c3, r3⟩ := and_e r2
  obtain ⟨c4, r4⟩ := and_e r3
  obtain ⟨c5, r5⟩ := and_e r4
  obtain ⟨c6, r6⟩ := and_e r5
  obtain ⟨c7, r7⟩ := and_e r6
  obtain ⟨c8, r8⟩ := and_e r7
  obtain ⟨c9, r9⟩ := and_e r8
  obtain ⟨c10, r10⟩ := and_e r9
  obtain ⟨c11, r11⟩ := and_e r10
  obtain ⟨c12, r12⟩ := and_e r11
  obtain ⟨c13, r13⟩ := and_e r12
  obtain ⟨c14, r14⟩ := and_e r13
  obtain ⟨c15, r15⟩ := and_e r14
  obtain ⟨c16, r16⟩ := and_e r15
  obtain ⟨c17, r17⟩ := and_e r16
  obtain ⟨c18, r18⟩ := and_e r17
  obtain ⟨c19, r19⟩ := and_e r18
  obtain ⟨c20, r20⟩ := and_e r19
  obtain ⟨c21, r21⟩ := and_e r20
  obtain ⟨c22, r22⟩ := and_e r21
  obtain ⟨c23, r23⟩ := and_e r22
  obtain ⟨c24, r24⟩ := and_e r23
  obtain ⟨c25, r25⟩ := and_e r24
  obtain ⟨c26, r26⟩ := and_e r25
  obtain ⟨c27, r27⟩ := and_e r26
  obtain ⟨c28, r28⟩ := and_e r27
  obtain ⟨a_UNKNOWN, _, _, _, ev_UNKNOWN, _⟩ := Cond.exactly_spec (Cond.before_iff.mpr c3)
  have S_UNKNOWN := Sta.start ev_UNKNOWN (Or.inr ⟨(hw _ (List.mem_of_getElem? (i := 2) rfl)), (hw _ (List.mem_of_getElem? (i := 7) rfl))⟩)
  obtain ⟨a_CONTROL, _, _, _, ev_CONTROL, _⟩ := Cond.exactly_spec (Cond.before_iff.mpr c4)
  have S_CONTROL := Sta.start ev_CONTROL (Or.inr ⟨(hw _ (List.mem_of_getElem? (i := 2) rfl)), (hw _ (List.mem_of_getElem? (i := 13) rfl))⟩)
  obtain ⟨a_DATA, _, _, _, ev_DATA, _⟩ := Cond.exactly_spec (Cond.before_iff.mpr c7)
  have S_DATA := Sta.start ev_DATA (Or.inr ⟨(hw _ (List.mem_of_getElem? (i := 2) rfl)), (hw _ (List.mem_of_getElem? (i := 15) rfl))⟩)
  obtain ⟨a_MARKER, _, _, _, ev_MARKER, _⟩ := Cond.exactly_spec (Cond.before_iff.mpr c9)
  have S_MARKER := Sta.start ev_MARKER (Or.inr ⟨(hw _ (List.mem_of_getElem? (i := 2) rfl)), (hw _ (List.mem_of_getElem? (i := 17) rfl))⟩)
  obtain ⟨a_ACKNOWLEDGE, _, _, _, ev_ACKNOWLEDGE, _⟩ := Cond.exactly_spec (Cond.before_iff.mpr c11)
  have S_ACKNOWLEDGE := Sta.start ev_ACKNOWLEDGE (Or.inr ⟨(hw _ (List.mem_of_getElem? (i := 2) rfl)), (hw _ (List.mem_of_getElem? (i := 19) rfl))⟩)
  obtain ⟨a_CONNECT, _, _, _, ev_CONNECT, _⟩ := Cond.exactly_spec (Cond.before_iff.mpr c13)
  have S_CONNECT := Sta.start ev_CONNECT (Or.inr ⟨(hw _ (List.mem_of_getElem? (i := 2) rfl)), (hw _ (List.mem_of_getElem? (i := 21) rfl))⟩)
  obtain ⟨a_NULL, _, _, _, ev_NULL, _⟩ := Cond.exactly_spec (Cond.before_iff.mpr c15)
  have S_NULL := Sta.start ev_NULL (Or.inr ⟨(hw _ (List.mem_of_getElem? (i := 2) rfl)), (hw _ (List.mem_of_getElem? (i := 23) rfl))⟩)
  obtain ⟨a_ACCEPT, _, _, _, ev_ACCEPT, _⟩ := Cond.exactly_spec (Cond.before_iff.mpr c17)
  have S_ACCEPT := Sta.start ev_ACCEPT (Or.inr ⟨(hw _ (List.mem_of_getElem? (i := 2) rfl)), (hw _ (List.mem_of_getElem? (i := 25) rfl))⟩)
  obtain ⟨a_RESEND, _, _, _, ev_RESEND, _⟩ := Cond.exactly_spec (Cond.before_iff.mpr c20)
  have S_RESEND := Sta.start ev_RESEND (Or.inr ⟨(hw _ (List.mem_of_getElem? (i := 2) rfl)), (hw _ (List.mem_of_getElem? (i := 27) rfl))⟩)
  obtain ⟨a_REDIRECT, _, _, _, ev_REDIRECT, _⟩ := Cond.exactly_spec (Cond.before_iff.mpr c22)
  have S_REDIRECT := Sta.start ev_REDIRECT (Or.inr ⟨(hw _ (List.mem_of_getElem? (i := 2) rfl)), (hw _ (List.mem_of_getElem? (i := 29) rfl))⟩)
  obtain ⟨a_ABORT, _, _, _, ev_ABORT, _⟩ := Cond.exactly_spec (Cond.before_iff.mpr c24)
  have S_ABORT := Sta.start ev_ABORT (Or.inr ⟨(hw _ (List.mem_of_getElem? (i := 2) rfl)), (hw _ (List.mem_of_getElem? (i := 31) rfl))⟩)
  obtain ⟨a_REFUSE, _, _, _, ev_REFUSE, _⟩ := Cond.exactly_spec (Cond.before_iff.mpr c26)
  have S_REFUSE := Sta.start ev_REFUSE (Or.inr ⟨(hw _ (List.mem_of_getElem? (i := 2) rfl)), (hw _ (List.mem_of_getElem? (i := 33) rfl))⟩)
  obtain ⟨a_ATTENTION, _, _, _, ev_ATTENTION, _⟩ := Cond.exactly_spec (Cond.before_iff.mpr c28)
  have S_ATTENTION := Sta.start ev_ATTENTION (Or.inr ⟨(hw _ (List.mem_of_getElem? (i := 2) rfl)), (hw _ (List.mem_of_getElem? (i := 35) rfl))⟩)
  obtain ⟨t, ev⟩ := own_ref c0
  obtain ⟨cl, Ar⟩ := Arr.start ev c0
  have hca := Ar.fin (Vm.Alike.refl _)
  obtain ⟨hsz, hln⟩ := own_len ev hca (own_eqI c1)
  have S : cl.slots.size = (15 : Int32).toNatClampNeg := by rw [← hln, Int32.toNatClampNeg, show cl.slots.size.toInt32.toInt = (cl.slots.size : Int) from Int32.toInt_ofNat_of_lt (by omega)]; rfl
  have S0 := Sta.start ev (Or.inr ⟨(hw _ (List.mem_of_getElem? (i := 2) rfl)), (hw _ (List.mem_of_getElem? (i := 5) rfl))⟩)
  let A : Nat → Addr := fun k => if k = 1 then a_CONNECT else if k = 2 then a_ACCEPT else if k = 3 then a_ACKNOWLEDGE else if k = 4 then a_REFUSE else if k = 5 then a_REDIRECT else if k = 6 then a_DATA else if k = 7 then a_NULL else if k = 9 then a_ABORT else if k = 11 then a_RESEND else if k = 12 then a_MARKER else if k = 13 then a_ATTENTION else if k = 14 then a_CONTROL else a_UNKNOWN
  have hat' : ∀ j, j < 15 → cl.slots[j]? = some (own_tab A j) := by
    intro j hj
    match j, hj with
    | 0, _ => exact own_elN 0 rfl ev hca c2
    | 1, _ => exact own_elR 1 rfl ev hca ev_CONNECT c14
    | 2, _ => exact own_elR 2 rfl ev hca ev_ACCEPT c18
    | 3, _ => exact own_elR 3 rfl ev hca ev_ACKNOWLEDGE c12
    | 4, _ => exact own_elR 4 rfl ev hca ev_REFUSE c27
    | 5, _ => exact own_elR 5 rfl ev hca ev_REDIRECT c23
    | 6, _ => exact own_elR 6 rfl ev hca ev_DATA c8
    | 7, _ => exact own_elR 7 rfl ev hca ev_NULL c16
    | 8, _ => exact own_elN 8 rfl ev hca c6
    | 9, _ => exact own_elR 9 rfl ev hca ev_ABORT c25
    | 10, _ => exact own_elN 10 rfl ev hca c19
    | 11, _ => exact own_elR 11 rfl ev hca ev_RESEND c21
    | 12, _ => exact own_elR 12 rfl ev hca ev_MARKER c10
    | 13, _ => exact own_elR 13 rfl ev hca ev_ATTENTION r28
    | 14, _ => exact own_elR 14 rfl ev hca ev_CONTROL c5
  obtain ⟨n, o, h1, h2, h3, _, L, rfl, ⟨rfl, N⟩, hq⟩ := rm0 l s _ hw tables_1 i0 i1 A s.heap s.heap.size (Nat.le_refl _) t cl S0 Ar S hat' S_CONNECT S_ACCEPT S_ACKNOWLEDGE S_REFUSE S_REDIRECT S_DATA S_NULL S_ABORT S_RESEND S_MARKER S_ATTENTION S_CONTROL S_UNKNOWN p e ha hc hk s m _ below hf ((Spec.applies_iff_loose hf).mp happ).1 ⟨rfl, State.Warmed39.refl s, rfl⟩ trivial
  refine ⟨n, _, h1, h2, h3, hpost _ _ _ _ _ _ ⟨Cond.after_iff.mpr rfl, Cond.after_iff.mpr (eq_i res_at (Term.int_eval (1)) rfl), trivial⟩ ⟨hq.1, hq.2.1, (hq.2.2.sift fun y hy => Or.inr (N y hy)).mono (by decide) (by decide)⟩⟩
theorem main_1_1 : Claimed_1_1 := comes_1 fun _ _ _ _ _ _ h hF => ⟨h.1, hF⟩
theorem main_1_2 : Claimed_1_2 := comes_1 fun _ _ _ _ _ _ h hF => ⟨h.2.1, hF⟩
end Jvm.Pilot.@@N@@
namespace Jvm.Pilot.@@N@@
open Jvm Jvm.ClassFile Sem Op Lib Jvm.Free Jvm.Stand Jvm.Pilot.@@N@@.Jvm.D
/-! MADE BY PROGRAM (witnessworld.py) out of the Statement's table words and the real class files: 13 classes; the members and pool entries that the words name. The judged class is class 1, her method 2. -/
namespace start1
open Jvm.ClassFile
def u (s : String) : CpInfo := .utf8 (stringToUtf16 s)
/-- a pool by its gaps: so many unusable entries, then the entry; so many at the end -/
def gap : Nat → List CpInfo → List CpInfo
  | 0, r => r
  | n + 1, r => .unusable :: gap n r
def poolList (es : List (Nat × CpInfo)) (last : Nat) : List CpInfo := es.foldr (fun e r => gap e.1 (e.2 :: r)) (gap last [])
def pool (es : List (Nat × CpInfo)) (last : Nat) : Array CpInfo := ⟨poolList es last⟩
def fileOf (pool : Array CpInfo) (this : Nat) (attrs : Array Attribute := #[]) (ms : Array MethodInfo := #[]) (fl : Nat := 33) (sup : Nat := 0) (ifs : Array Nat := #[]) (fds : Array FieldInfo := #[]) : ClassFile where
  minorVersion := 0
  majorVersion := 65
  constantPool := pool
  accessFlags := fl
  thisClass := this
  superClass := sup
  interfaces := ifs
  fields := fds
  methods := ms
  attributes := attrs
def plain (name : String) (sup : Option ClassId) : Class where
  name := name
  kind := .ordinary
  loader := none
  accessFlags := 33
  super := sup
  interfaces := #[]
  cf := none
  fields := #[]
  methods := #[]
  instanceTypes := #[]
  staticTypes := #[]
  resolved := #[]
  callSites := []
  init := .initialized
  statics := none
  mirror := none

def pool0 : Array CpInfo := pool [(5, u "<init>"), (0, u "()V"), (1, .class_ 10), (1, u "java/lang/Object")] 113

def k0m0 : Method := { name := "<init>", desc := "()V", sig := { parameters := [], returnType := none }, accessFlags := 1, code := none }
/-- java/lang/Object -/
def k0 : Class := { plain "java/lang/Object" none with
  accessFlags := 33
  interfaces := #[]
  cf := some (fileOf pool0 8 #[] #[{ accessFlags := 1, nameIndex := 5, descriptorIndex := 6, attributes := #[] }] 33 0 #[] #[])
  fields := #[]
  methods := #[k0m0]
  instanceTypes := #[]
  staticTypes := #[]
  resolved := Array.replicate 124 none
  statics := none }

def pool1 : Array CpInfo := pool [(2, .class_ 4), (1, u "java/lang/Object"), (0, u "<init>"), (0, u "()V"), (0, .fieldref 8 9), (0, .class_ 10), (0, .nameAndType 11 12), (0, u "com/example/sessionwire/sessionwire/tns/TnsPacketType"), (0, u "CONNECT"), (0, u "Lcom/example/sessionwire/sessionwire/tns/TnsPacketType;"), (0, .fieldref 8 14), (0, .nameAndType 15 12), (0, u "ACCEPT"), (0, .fieldref 8 17), (0, .nameAndType 18 12), (0, u "ACKNOWLEDGE"), (0, .fieldref 8 20), (0, .nameAndType 21 12), (0, u "REFUSE"), (0, .fieldref 8 23), (0, .nameAndType 24 12), (0, u "REDIRECT"), (0, .fieldref 8 26), (0, .nameAndType 27 12), (0, u "DATA"), (0, .fieldref 8 29), (0, .nameAndType 30 12), (0, u "NULL"), (0, .fieldref 8 32), (0, .nameAndType 33 12), (0, u "ABORT"), (0, .fieldref 8 35), (0, .nameAndType 36 12), (0, u "RESEND"), (0, .fieldref 8 38), (0, .nameAndType 39 12), (0, u "MARKER"), (0, .fieldref 8 41), (0, .nameAndType 42 12), (0, u "ATTENTION"), (0, .fieldref 8 44), (0, .nameAndType 45 12), (0, u "CONTROL"), (0, .fieldref 8 47), (0, .nameAndType 48 12), (0, u "UNKNOWN"), (0, .methodref 8 50), (0, .nameAndType 51 52), (0, u "of"), (0, u "(I)Lcom/example/sessionwire/sessionwire/tns/TnsPacketType;"), (0, .methodref 54 55), (0, .class_ 56), (0, .nameAndType 57 52), (0, u "com/example/sessionwire/sessionwire/tns/TnsPacketTypeOfPinLaw"), (0, u "expected"), (3, u "law"), (0, u "(II)Z")] 2

def k1m0 : Method := { name := "<init>", desc := "()V", sig := { parameters := [], returnType := none }, accessFlags := 2, code := none }
def k1c1 : Code := { maxStack := 2, maxLocals := 1, code := method_2_code, exceptionTable := #[], attributes := #[] }
def k1m1 : Method := { name := "expected", desc := "(I)Lcom/example/sessionwire/sessionwire/tns/TnsPacketType;", sig := { parameters := [.int], returnType := some (.object "com/example/sessionwire/sessionwire/tns/TnsPacketType") }, accessFlags := 10, code := some k1c1 }
def k1c2 : Code := { maxStack := 2, maxLocals := 4, code := code, exceptionTable := #[], attributes := #[] }
def k1m2 : Method := { name := "law", desc := "(II)Z", sig := { parameters := [.int, .int], returnType := some .boolean }, accessFlags := 9, code := some k1c2 }
/-- com/example/sessionwire/sessionwire/tns/TnsPacketTypeOfPinLaw -/
def k1 : Class := { plain "com/example/sessionwire/sessionwire/tns/TnsPacketTypeOfPinLaw" (some 0) with
  accessFlags := 49
  interfaces := #[]
  cf := some (fileOf pool1 54 #[] #[{ accessFlags := 2, nameIndex := 5, descriptorIndex := 6, attributes := #[] }, { accessFlags := 10, nameIndex := 57, descriptorIndex := 52, attributes := #[] }, { accessFlags := 9, nameIndex := 61, descriptorIndex := 62, attributes := #[] }] 49 2 #[] #[])
  fields := #[]
  methods := #[k1m0, k1m1, k1m2]
  instanceTypes := #[]
  staticTypes := #[]
  resolved := Array.replicate 65 none
  statics := none }

def pool2 : Array CpInfo := pool [(1, .class_ 2), (0, u "java/lang/constant/Constable"), (0, .class_ 4), (0, u "java/lang/Object")] 6

/-- java/lang/constant/Constable -/
def k2 : Class := { plain "java/lang/constant/Constable" (some 0) with
  accessFlags := 1537
  interfaces := #[]
  cf := some (fileOf pool2 1 #[] #[] 1537 3 #[] #[])
  fields := #[]
  methods := #[]
  instanceTypes := #[]
  staticTypes := #[]
  resolved := Array.replicate 11 none
  statics := none }

def pool3 : Array CpInfo := pool [(1, .class_ 2), (0, u "java/lang/Comparable"), (0, .class_ 4), (0, u "java/lang/Object")] 7

/-- java/lang/Comparable -/
def k3 : Class := { plain "java/lang/Comparable" (some 0) with
  accessFlags := 1537
  interfaces := #[]
  cf := some (fileOf pool3 1 #[] #[] 1537 3 #[] #[])
  fields := #[]
  methods := #[]
  instanceTypes := #[]
  staticTypes := #[]
  resolved := Array.replicate 12 none
  statics := none }

def pool4 : Array CpInfo := pool [(1, .class_ 2), (0, u "java/io/Serializable"), (0, .class_ 4), (0, u "java/lang/Object")] 2

/-- java/io/Serializable -/
def k4 : Class := { plain "java/io/Serializable" (some 0) with
  accessFlags := 1537
  interfaces := #[]
  cf := some (fileOf pool4 1 #[] #[] 1537 3 #[] #[])
  fields := #[]
  methods := #[]
  instanceTypes := #[]
  staticTypes := #[]
  resolved := Array.replicate 7 none
  statics := none }

def pool5 : Array CpInfo := pool [(2, .class_ 4), (1, u "java/lang/Enum"), (0, u "name"), (0, u "Ljava/lang/String;"), (2, u "ordinal"), (0, u "I"), (1, .class_ 14), (1, u "java/lang/Object"), (4, u "hash"), (86, .class_ 108), (1, u "java/lang/Enum$EnumDesc"), (2, .class_ 112), (0, u "java/lang/constant/Constable"), (0, .class_ 114), (0, u "java/lang/Comparable"), (0, .class_ 116), (0, u "java/io/Serializable")] 87

/-- java/lang/Enum -/
def k5 : Class := { plain "java/lang/Enum" (some 0) with
  accessFlags := 1057
  interfaces := #[2, 3, 4]
  cf := some (fileOf pool5 2 #[.nestMembers #[106]] #[] 1057 12 #[111, 113, 115] #[{ accessFlags := 18, nameIndex := 5, descriptorIndex := 6, attributes := #[] }, { accessFlags := 18, nameIndex := 9, descriptorIndex := 10, attributes := #[] }, { accessFlags := 2, nameIndex := 19, descriptorIndex := 10, attributes := #[] }])
  fields := #[{ name := "name", type := (.object "java/lang/String"), accessFlags := 18, slot := 0, constantValue := 0 }, { name := "ordinal", type := .int, accessFlags := 18, slot := 1, constantValue := 0 }, { name := "hash", type := .int, accessFlags := 2, slot := 2, constantValue := 0 }]
  methods := #[]
  instanceTypes := #[(.object "java/lang/String"), .int, .int]
  staticTypes := #[]
  resolved := Array.replicate 204 none
  statics := none }

def pool6 : Array CpInfo := pool [(1, .class_ 2), (0, u "com/example/sessionwire/sessionwire/tns/TnsPacketType"), (2, u "CONNECT"), (0, u "Lcom/example/sessionwire/sessionwire/tns/TnsPacketType;"), (2, u "ACCEPT"), (2, u "ACKNOWLEDGE"), (2, u "REFUSE"), (2, u "REDIRECT"), (2, u "DATA"), (2, u "NULL"), (2, u "ABORT"), (2, u "RESEND"), (2, u "MARKER"), (2, u "ATTENTION"), (2, u "CONTROL"), (0, .fieldref 1 41), (0, .nameAndType 42 6), (0, u "UNKNOWN"), (2, u "$VALUES"), (0, u "[Lcom/example/sessionwire/sessionwire/tns/TnsPacketType;"), (6, .class_ 55), (1, u "java/lang/Enum"), (8, u "number"), (0, u "I"), (2, u "label"), (0, u "Ljava/lang/String;"), (0, .fieldref 1 71), (0, .nameAndType 72 46), (0, u "BY_NUMBER"), (55, u "of"), (0, u "(I)Lcom/example/sessionwire/sessionwire/tns/TnsPacketType;")] 8

def k6c0 : Code := { maxStack := 2, maxLocals := 2, code := prog_36_method_4_code, exceptionTable := #[], attributes := #[] }
def k6m0 : Method := { name := "of", desc := "(I)Lcom/example/sessionwire/sessionwire/tns/TnsPacketType;", sig := { parameters := [.int], returnType := some (.object "com/example/sessionwire/sessionwire/tns/TnsPacketType") }, accessFlags := 9, code := some k6c0 }
/-- com/example/sessionwire/sessionwire/tns/TnsPacketType -/
def k6 : Class := { plain "com/example/sessionwire/sessionwire/tns/TnsPacketType" (some 5) with
  accessFlags := 16433
  interfaces := #[]
  cf := some (fileOf pool6 1 #[] #[{ accessFlags := 9, nameIndex := 128, descriptorIndex := 129, attributes := #[] }] 16433 53 #[] #[{ accessFlags := 16409, nameIndex := 5, descriptorIndex := 6, attributes := #[] }, { accessFlags := 16409, nameIndex := 9, descriptorIndex := 6, attributes := #[] }, { accessFlags := 16409, nameIndex := 12, descriptorIndex := 6, attributes := #[] }, { accessFlags := 16409, nameIndex := 15, descriptorIndex := 6, attributes := #[] }, { accessFlags := 16409, nameIndex := 18, descriptorIndex := 6, attributes := #[] }, { accessFlags := 16409, nameIndex := 21, descriptorIndex := 6, attributes := #[] }, { accessFlags := 16409, nameIndex := 24, descriptorIndex := 6, attributes := #[] }, { accessFlags := 16409, nameIndex := 27, descriptorIndex := 6, attributes := #[] }, { accessFlags := 16409, nameIndex := 30, descriptorIndex := 6, attributes := #[] }, { accessFlags := 16409, nameIndex := 33, descriptorIndex := 6, attributes := #[] }, { accessFlags := 16409, nameIndex := 36, descriptorIndex := 6, attributes := #[] }, { accessFlags := 16409, nameIndex := 39, descriptorIndex := 6, attributes := #[] }, { accessFlags := 16409, nameIndex := 42, descriptorIndex := 6, attributes := #[] }, { accessFlags := 26, nameIndex := 72, descriptorIndex := 46, attributes := #[] }, { accessFlags := 18, nameIndex := 64, descriptorIndex := 65, attributes := #[] }, { accessFlags := 18, nameIndex := 68, descriptorIndex := 69, attributes := #[] }, { accessFlags := 4122, nameIndex := 45, descriptorIndex := 46, attributes := #[] }])
  fields := #[{ name := "CONNECT", type := (.object "com/example/sessionwire/sessionwire/tns/TnsPacketType"), accessFlags := 16409, slot := 0, constantValue := 0 }, { name := "ACCEPT", type := (.object "com/example/sessionwire/sessionwire/tns/TnsPacketType"), accessFlags := 16409, slot := 1, constantValue := 0 }, { name := "ACKNOWLEDGE", type := (.object "com/example/sessionwire/sessionwire/tns/TnsPacketType"), accessFlags := 16409, slot := 2, constantValue := 0 }, { name := "REFUSE", type := (.object "com/example/sessionwire/sessionwire/tns/TnsPacketType"), accessFlags := 16409, slot := 3, constantValue := 0 }, { name := "REDIRECT", type := (.object "com/example/sessionwire/sessionwire/tns/TnsPacketType"), accessFlags := 16409, slot := 4, constantValue := 0 }, { name := "DATA", type := (.object "com/example/sessionwire/sessionwire/tns/TnsPacketType"), accessFlags := 16409, slot := 5, constantValue := 0 }, { name := "NULL", type := (.object "com/example/sessionwire/sessionwire/tns/TnsPacketType"), accessFlags := 16409, slot := 6, constantValue := 0 }, { name := "ABORT", type := (.object "com/example/sessionwire/sessionwire/tns/TnsPacketType"), accessFlags := 16409, slot := 7, constantValue := 0 }, { name := "RESEND", type := (.object "com/example/sessionwire/sessionwire/tns/TnsPacketType"), accessFlags := 16409, slot := 8, constantValue := 0 }, { name := "MARKER", type := (.object "com/example/sessionwire/sessionwire/tns/TnsPacketType"), accessFlags := 16409, slot := 9, constantValue := 0 }, { name := "ATTENTION", type := (.object "com/example/sessionwire/sessionwire/tns/TnsPacketType"), accessFlags := 16409, slot := 10, constantValue := 0 }, { name := "CONTROL", type := (.object "com/example/sessionwire/sessionwire/tns/TnsPacketType"), accessFlags := 16409, slot := 11, constantValue := 0 }, { name := "UNKNOWN", type := (.object "com/example/sessionwire/sessionwire/tns/TnsPacketType"), accessFlags := 16409, slot := 12, constantValue := 0 }, { name := "BY_NUMBER", type := (.array (.object "com/example/sessionwire/sessionwire/tns/TnsPacketType")), accessFlags := 26, slot := 13, constantValue := 0 }, { name := "number", type := .int, accessFlags := 18, slot := 3, constantValue := 0 }, { name := "label", type := (.object "java/lang/String"), accessFlags := 18, slot := 4, constantValue := 0 }, { name := "$VALUES", type := (.array (.object "com/example/sessionwire/sessionwire/tns/TnsPacketType")), accessFlags := 4122, slot := 14, constantValue := 0 }]
  methods := #[k6m0]
  instanceTypes := #[(.object "java/lang/String"), .int, .int, .int, (.object "java/lang/String")]
  staticTypes := #[(.object "com/example/sessionwire/sessionwire/tns/TnsPacketType"), (.object "com/example/sessionwire/sessionwire/tns/TnsPacketType"), (.object "com/example/sessionwire/sessionwire/tns/TnsPacketType"), (.object "com/example/sessionwire/sessionwire/tns/TnsPacketType"), (.object "com/example/sessionwire/sessionwire/tns/TnsPacketType"), (.object "com/example/sessionwire/sessionwire/tns/TnsPacketType"), (.object "com/example/sessionwire/sessionwire/tns/TnsPacketType"), (.object "com/example/sessionwire/sessionwire/tns/TnsPacketType"), (.object "com/example/sessionwire/sessionwire/tns/TnsPacketType"), (.object "com/example/sessionwire/sessionwire/tns/TnsPacketType"), (.object "com/example/sessionwire/sessionwire/tns/TnsPacketType"), (.object "com/example/sessionwire/sessionwire/tns/TnsPacketType"), (.object "com/example/sessionwire/sessionwire/tns/TnsPacketType"), (.array (.object "com/example/sessionwire/sessionwire/tns/TnsPacketType")), (.array (.object "com/example/sessionwire/sessionwire/tns/TnsPacketType"))]
  resolved := Array.replicate 138 none
  statics := some 0 }

def pool7 : Array CpInfo := pool [(1, u "java/lang/Cloneable"), (0, .class_ 1), (0, u "java/lang/Object"), (0, .class_ 3)] 3

/-- java/lang/Cloneable -/
def k7 : Class := { plain "java/lang/Cloneable" (some 0) with
  accessFlags := 1537
  interfaces := #[]
  cf := some (fileOf pool7 2 #[] #[] 1537 4 #[] #[])
  fields := #[]
  methods := #[]
  instanceTypes := #[]
  staticTypes := #[]
  resolved := Array.replicate 8 none
  statics := none }

/-- the primitive byte -/
def k8 : Class := { plain "byte" none with kind := .primitive 'B', accessFlags := 0x411 }
/-- [B -/
def k9 : Class := { plain "[B" (some 0) with kind := .array 8 .byte, interfaces := #[7, 4], accessFlags := 1041 }

/-- the primitive int -/
def k10 : Class := { plain "int" none with kind := .primitive 'I', accessFlags := 0x411 }
/-- [I -/
def k11 : Class := { plain "[I" (some 0) with kind := .array 10 .int, interfaces := #[7, 4], accessFlags := 1041 }

/-- [Lcom/example/sessionwire/sessionwire/tns/TnsPacketType; -/
def k12 : Class := { plain "[Lcom/example/sessionwire/sessionwire/tns/TnsPacketType;" (some 0) with kind := .array 6 (.object "com/example/sessionwire/sessionwire/tns/TnsPacketType"), interfaces := #[7, 4], accessFlags := 1041 }

def heap : Heap := #[{ cls := 6, slots := #[.ref 2, .ref 3, .ref 4, .ref 5, .ref 6, .ref 7, .ref 8, .ref 9, .ref 10, .ref 11, .ref 12, .ref 13, .ref 14, .ref 1, .null], vm := .statics 6 },
  { cls := 12, slots := #[.null, .ref 2, .ref 3, .ref 4, .ref 5, .ref 6, .ref 7, .ref 8, .null, .ref 9, .null, .ref 10, .ref 11, .ref 12, .ref 13], vm := .none },
  { cls := 6, slots := #[.null, .int 0, .int 0, .int 0, .null], vm := .none },
  { cls := 6, slots := #[.null, .int 0, .int 0, .int 0, .null], vm := .none },
  { cls := 6, slots := #[.null, .int 0, .int 0, .int 0, .null], vm := .none },
  { cls := 6, slots := #[.null, .int 0, .int 0, .int 0, .null], vm := .none },
  { cls := 6, slots := #[.null, .int 0, .int 0, .int 0, .null], vm := .none },
  { cls := 6, slots := #[.null, .int 0, .int 0, .int 0, .null], vm := .none },
  { cls := 6, slots := #[.null, .int 0, .int 0, .int 0, .null], vm := .none },
  { cls := 6, slots := #[.null, .int 0, .int 0, .int 0, .null], vm := .none },
  { cls := 6, slots := #[.null, .int 0, .int 0, .int 0, .null], vm := .none },
  { cls := 6, slots := #[.null, .int 0, .int 0, .int 0, .null], vm := .none },
  { cls := 6, slots := #[.null, .int 0, .int 0, .int 0, .null], vm := .none },
  { cls := 6, slots := #[.null, .int 0, .int 0, .int 0, .null], vm := .none },
  { cls := 6, slots := #[.null, .int 0, .int 0, .int 0, .null], vm := .none }]
def classes : Array Class := #[k0, k1, k2, k3, k4, k5, k6, k7, k8, k9, k10, k11, k12]
def interned : List (Array UInt16 × Addr) := []
def slotsUsed : Nat := 95
def theMethod : MethodId := ⟨1, 2⟩
def args0 : Array Value := #[.int 5, .int 7]
def aboutOver (below : List Frame) : State where
  vm := { classes := classes, interned := interned.toArray }
  heap := heap
  slotsUsed := slotsUsed
  threads := #[{ frames := .invoking theMethod args0 :: below }]
def below0 : List Frame := [.native { method := ⟨0, 0⟩, args := #[] }]
def about1 : State := aboutOver below0
def p0 : Program := .bare "" "" ""
def e0 : Env := launch0.env 0 0 0
theorem w_frames : about1.frames = Frame.invoking theMethod args0 :: below0 := rfl
set_option maxRecDepth 65536 in
theorem w_args : argsFit about1.vm theMethod args0 = true := by decide +kernel
set_option maxRecDepth 65536 in
theorem w_heap : heapFits about1 = true := by decide +kernel
set_option maxRecDepth 65536 in
theorem w_runnable : about1.curStatus? = some .runnable := by decide +kernel
set_option maxRecDepth 65536 in
theorem w_alone : about1.alone = true := by decide +kernel
set_option maxRecDepth 65536 in
theorem w_named : about1.methodNamed? x = some theMethod := by decide +kernel
set_option maxRecDepth 65536 in
theorem w_hears : about1.hears theMethod below0 = true := by decide +kernel
set_option maxRecDepth 65536 in
theorem w_ripe : about1.ripe theMethod args0 below0 = true := by decide +kernel
theorem w_running : about1.status = .running := rfl
set_option maxRecDepth 65536 in
theorem w_room : about1.hasRoom e0.platform room_1 = true :=
  launch0.hasRoom_least _ room_1 (by decide +kernel) (by decide +kernel) (by decide +kernel) (by decide +kernel) (by decide +kernel) (by decide +kernel)
theorem allAtoms_all (ts : List Jvm.Cond) (a : Array Jvm.Value) (st : Jvm.State) : (allAtoms ts).before a st = ts.all (fun c => c.before a st) := by
  induction ts with
  | nil => rfl
  | cons c t ih =>
    show (Jvm.Cond.and c (allAtoms t)).before a st = _
    rw [Jvm.Cond.before_and, ih, List.all_cons]
def words1 : List Jvm.Cond := Jvm.Cond.code x code maxLocals ret :: tables_1
/-- a 'code' word, met by the world's own term for the bytes: nothing is compared byte by byte -/
theorem code_word {y : MethodName} {bytes : ByteArray} {mx : Nat} {rt : Option FieldType} {a : Array Value} {s : State} {m : MethodId} {meth : Method} {c : Code} (h1 : s.methodNamed? y = some m) (h2 : s.vm.method? m = some meth) (h3 : meth.code = some c) (h4 : c.code = bytes)
    (h5 : (c.maxLocals == mx && c.exceptionTable.isEmpty && decide (c.maxStack ≤ mostOperands) && decide (meth.sig.returnType = rt) && !meth.locks && decide (parseMethodDescriptor y.desc = some meth.sig)) = true) : (Jvm.Cond.code y bytes mx rt).before a s = true := by
  simp only [Bool.and_eq_true, beq_iff_eq, Bool.not_eq_true', decide_eq_true_eq] at h5
  obtain ⟨⟨⟨⟨⟨g1, g2⟩, g3⟩, g4⟩, g5⟩, g6⟩ := h5
  simp [Cond.before, Cond.holds, Cond.value, h1, h2, h3, h4, g1, g2, g3, g4, g5, g6]
def isCode : Jvm.Cond → Bool
  | .code _ _ _ _ => true
  | _ => false
theorem all_split {L : List Jvm.Cond} {P : Jvm.Cond → Bool} (h1 : L.all (fun c => isCode c || P c) = true) (h2 : ∀ c ∈ L.filter isCode, P c = true) : L.all P = true := by
  refine List.all_eq_true.mpr fun c hc => ?_
  have h := List.all_eq_true.mp h1 c hc
  rcases Bool.eq_false_or_eq_true (isCode c) with hi | hi
  · exact h2 c (List.mem_filter.mpr ⟨hc, hi⟩)
  · simpa [hi] using h
set_option maxRecDepth 65536 in
theorem w_c0 : (Jvm.Cond.code x code maxLocals ret).before args0 about1 = true := code_word (m := ⟨1, 2⟩) (meth := k1m2) (c := k1c2) (by decide +kernel) rfl rfl rfl (by decide +kernel)
set_option maxRecDepth 65536 in
theorem w_c1 : (Jvm.Cond.code ({ cls := "com/example/sessionwire/sessionwire/tns/TnsPacketType", name := "of", desc := "(I)Lcom/example/sessionwire/sessionwire/tns/TnsPacketType;" } : Jvm.MethodName) prog_36_method_4_code (2 : Nat) (Option.some (Jvm.ClassFile.FieldType.object "com/example/sessionwire/sessionwire/tns/TnsPacketType"))).before args0 about1 = true := code_word (m := ⟨6, 0⟩) (meth := k6m0) (c := k6c0) (by decide +kernel) rfl rfl rfl (by decide +kernel)
set_option maxRecDepth 65536 in
theorem w_c2 : (Jvm.Cond.code ({ cls := "com/example/sessionwire/sessionwire/tns/TnsPacketTypeOfPinLaw", name := "expected", desc := "(I)Lcom/example/sessionwire/sessionwire/tns/TnsPacketType;" } : Jvm.MethodName) method_2_code (1 : Nat) (Option.some (Jvm.ClassFile.FieldType.object "com/example/sessionwire/sessionwire/tns/TnsPacketType"))).before args0 about1 = true := code_word (m := ⟨1, 1⟩) (meth := k1m1) (c := k1c1) (by decide +kernel) rfl rfl rfl (by decide +kernel)
def codes1 : List Jvm.Cond := [Jvm.Cond.code x code maxLocals ret, Jvm.Cond.code ({ cls := "com/example/sessionwire/sessionwire/tns/TnsPacketType", name := "of", desc := "(I)Lcom/example/sessionwire/sessionwire/tns/TnsPacketType;" } : Jvm.MethodName) prog_36_method_4_code (2 : Nat) (Option.some (Jvm.ClassFile.FieldType.object "com/example/sessionwire/sessionwire/tns/TnsPacketType")), Jvm.Cond.code ({ cls := "com/example/sessionwire/sessionwire/tns/TnsPacketTypeOfPinLaw", name := "expected", desc := "(I)Lcom/example/sessionwire/sessionwire/tns/TnsPacketType;" } : Jvm.MethodName) method_2_code (1 : Nat) (Option.some (Jvm.ClassFile.FieldType.object "com/example/sessionwire/sessionwire/tns/TnsPacketType"))]
set_option maxRecDepth 65536 in
theorem codes_eq : words1.filter isCode = codes1 := rfl
theorem w_codes : ∀ c ∈ words1.filter isCode, c.before args0 about1 = true := by
  rw [codes_eq]
  intro c hc
  simp only [codes1, List.mem_cons, List.not_mem_nil, or_false] at hc
  rcases hc with rfl | rfl | rfl
  · exact w_c0
  · exact w_c1
  · exact w_c2
set_option maxRecDepth 65536 in
theorem w_t1 : (words1.take 24).all (fun c => isCode c || c.before args0 about1) = true := by decide +kernel
set_option maxRecDepth 65536 in
theorem w_t2 : (words1.drop 24).all (fun c => isCode c || c.before args0 about1) = true := by decide +kernel
theorem w_tables : (allAtoms (Jvm.Cond.code x code maxLocals ret :: tables_1)).before args0 about1 = true := by
  rw [allAtoms_all]
  show words1.all (fun c => c.before args0 about1) = true
  refine all_split ?_ w_codes
  rw [← List.take_append_drop 24 words1, List.all_append, w_t1, w_t2]
  rfl
set_option maxRecDepth 65536 in
theorem w_case : (Jvm.Cond.and given_1 narrow_1).before args0 about1 = true := by decide +kernel
theorem w_applies : (headSpec (Jvm.Cond.code x code maxLocals ret :: tables_1) room_1).applies x e0.platform about1 = true :=
  (Spec.applies_iff w_frames).mpr ⟨w_running, w_runnable, w_alone, w_named, w_hears, w_ripe, w_room, w_tables⟩
theorem atStart : AtStart classFile x code maxLocals ret World_1 tables_1 room_1 Calls_1 rest_1 Pre_1 launch0 p0 e0 about1 theMethod args0 below0 :=
  ⟨lists_1, trivial, launch0.admits_env _ _ _, launch0.least_env, fairChoices_fair.cas, fairChoices_fair.clock, w_frames, w_args, w_heap, w_applies, trivial, trivial, w_case⟩
end start1
theorem witness_1 : WitnessClaimed_1 := ⟨start1.p0, start1.e0, start1.about1, start1.theMethod, start1.args0, start1.below0, start1.atStart⟩
end Jvm.Pilot.@@N@@
