import JvmDerived
import JvmDerived.Pilot.@@N@@Statement
import JvmDerived.Pilot.@@N@@Code
set_option linter.unusedVariables false
set_option linter.unusedSimpArgs false
namespace Jvm.OwnKit
open Sem ClassFile Op Lib Jvm.Stand Jvm.Free Jvm.LawKit Jvm.RoadKit
/-- from A the run comes to a state of which P holds -/
def Rch (p : Program) (e : Env) (below : List Frame) (A : State) (P : State → Prop) : Prop := ∃ B, Steps p.tables e below A B ∧ P B
/-- the end of a body: it returned v, and Q says what it left -/
def Fin1 (s : State) (below : List Frame) (Q : Option Value → Heap → List Loc → Prop) (k n : Nat) (B : State) : Prop := ∃ v L, B.status = .running ∧ Ended B below (.returned v) ∧ Q v B.heap L ∧ FrameEnd s (.returned v) B L k n
section Own
variable {p : Program} {l : Launch} {e : Env} {R : Room} {s : State} {m : MethodId} {args : Array Value} {below : List Frame} {meth : Method} {c : Code} {T : State} {locs : List Loc} {cells slots : Nat} {A A' : State} {P P' : State → Prop} {Z : State} {a0 : Array Value} {h : Heap}
theorem Rch.go (h1 : ∀ t, Steps p.tables e below A' t → Steps p.tables e below A t) (k : Rch p e below A' P) : Rch p e below A P := by
  obtain ⟨B, q1, q2⟩ := k; exact ⟨B, h1 _ q1, q2⟩
theorem Rch.of (h1 : Steps p.tables e below A A') (k : Rch p e below A' P) : Rch p e below A P := by
  obtain ⟨B, q1, q2⟩ := k; exact ⟨B, h1.trans q1, q2⟩
theorem Rch.here (h1 : P A) : Rch p e below A P := ⟨A, Steps.refl _, h1⟩
theorem Rch.bind (k : Rch p e below A P) (f : ∀ B, P B → Rch p e below B P') : Rch p e below A P' := by
  obtain ⟨B, q1, q2⟩ := k
  obtain ⟨D, q3, q4⟩ := f B q2
  exact ⟨D, q1.trans q3, q4⟩
theorem Rch.ret {Q : Option Value → Heap → List Loc → Prop} {k n : Nat} (X : Stand p l e R s m args below meth c T locs cells slots) (hlk : meth.locks = false) {v : Option Value} (hv : meth.sig.returnType = none → v = none)
    (hA : ∀ fs, (∀ (f : JFrame) (acts : List Action), f.method = m → f.locked = none → f.entered = [] → (doReturn e (T.setTop f) acts v).1 = T.setFrames fs) → Steps p.tables e below A (T.setFrames fs))
    (hQ : Q v T.heap locs) (hk : cells ≤ k) (hn : slots ≤ n) : Rch p e below A (Fin1 s below Q k n) := by
  obtain ⟨fs, hr, hrun, hended, hW, hsame⟩ := X.leave (v := v) hv hlk
  exact ⟨_, hA fs hr, v, locs, hrun, hended, hQ, ⟨_, rfl⟩, hW, hsame.mono hk hn⟩
theorem wider (X : Stand p l e R s m args below meth c T locs cells slots) {k n : Nat} (hk : cells ≤ k) (hn : slots ≤ n) : Stand p l e R s m args below meth c T locs k n := { X with same := X.same.mono hk hn }
theorem retI' (X : Stand p l e R s m args below meth c T locs cells slots) (hx : p.tables.exec = Jvm.exec) {pc : Nat} {Ls : Array Slot} {z : Int32} {rest : List Value} (hret : meth.sig.returnType = some .int) (hd : decode c.code pc = .ok (.ireturn, 1)) {fs : List Frame}
    (hl : ∀ (f : JFrame) (acts : List Action), f.method = m → f.locked = none → f.entered = [] → (doReturn e (T.setTop f) acts (some (.int z))).1 = T.setFrames fs) : Steps p.tables e below (T.setTop (mkF m pc Ls (.int z :: rest))) (T.setFrames fs) := by
  have hm' : T.vm.method? m = some meth := X.method'
  have hn : narrow .int (.int z) = .int z := rfl
  show Steps p.tables e below (T.setTop { method := m, pc := pc, locals := Ls, stack := _ :: rest, locked := none }) _
  jvm_step X.here [X.here.top, hx, hd, hm', hret, hn]
  first | (intro acts; rw [hl _ acts rfl rfl rfl]) | rw [hl _ _ rfl rfl rfl]
  exact Steps.refl _
theorem retR' (X : Stand p l e R s m args below meth c T locs cells slots) (hx : p.tables.exec = Jvm.exec) {pc : Nat} {Ls : Array Slot} {w : Value} {t : FieldType} {rest : List Value} (hret : meth.sig.returnType = some t) (ht : t.isReference = true) (hw : w.isRef = true) (hd : decode c.code pc = .ok (.areturn, 1)) {fs : List Frame}
    (hl : ∀ (f : JFrame) (acts : List Action), f.method = m → f.locked = none → f.entered = [] → (doReturn e (T.setTop f) acts (some w)).1 = T.setFrames fs) : Steps p.tables e below (T.setTop (mkF m pc Ls (w :: rest))) (T.setFrames fs) :=
  retOut X hx hret (by rcases ref_cases hw with rfl | ⟨a, rfl⟩ <;> cases t <;> first | rfl | cases ht) (Or.inr (Or.inr (Or.inr (Or.inr ⟨rfl, ht, hw⟩)))) hd hl
theorem own_body {y : MethodName} {bytes : ByteArray} {maxL : Nat} {ret : Option FieldType} {ws : List Jvm.Cond} {rm : Room} {as' : Array Value} {h0 : Heap} {Q : Option Value → Heap → List Loc → Prop} {k n : Nat} (hp : plainFor y = true)
    (body : ∀ (p : Program) (e : Env) (s : State) (m : MethodId) (below : List Frame) (meth : Method) (c : Code) (s₁ : State), Stand p l e rm s m as' below meth c s₁ [] 0 0 → p.tables.exec = Jvm.exec → c.code = bytes → c.maxLocals = maxL → s.vm.findClass y.cls = some m.cls → meth.name = y.name → meth.sig.returnType = ret → meth.locks = false → Z.Warmed39 s.vm → s₁.heap = h0 →
      Rch p e below (s₁.setTop (entryFrame m as' maxL)) (Fin1 s below Q k n)) :
    MetFree l y (head1 (Jvm.Cond.code y bytes maxL ret :: ws) rm) (fun a U => a = as' ∧ Z.Warmed39 U.vm ∧ U.heap = h0) (fun _ _ _ _ _ => True) (fun _ U o U' => ∃ v L, o = .returned v ∧ Q v U'.heap L ∧ FrameEnd U o U' L k n) := by
  refine MetFree.of_bodySF hp hisR ?_
  intro p e s m args below meth c s₁ Bd hml0 hP hK
  obtain ⟨rfl, hZ, hh⟩ := hP
  obtain ⟨B, hs, v, L, h1, h2, h3, h4⟩ := body p e s m below meth c s₁ (Stand.of_body Bd) Bd.exec Bd.bytes hml0 (findClass_of_methodNamed Bd.named) ((name_of_methodNamed Bd.named Bd.method).1) Bd.returns (BodyLoose.notSynchronized Bd) hZ (by rw [← hh, Bd.state]; rfl)
  exact ⟨B, _, hs, h1, h2, v, L, rfl, h3, h4⟩
abbrev Met1 (l : Launch) (y : MethodName) (bytes : ByteArray) (maxL : Nat) (ret : Option FieldType) (rm : Room) (Z : State) (as' : Array Value) (h : Heap) (Q : Option Value → Heap → List Loc → Prop) : Prop :=
  MetFree l y (head1 [Jvm.Cond.code y bytes maxL ret] rm) (fun a U => a = as' ∧ Z.Warmed39 U.vm ∧ U.heap = h) (fun _ _ _ _ _ => True) (fun _ U o U' => ∃ v L, o = .returned v ∧ Q v U'.heap L ∧ FrameEnd U o U' L rm.cells rm.slots)
/-- a static call by the callee's contract -/
theorem Rch.callS (X : Stand p l e R s m args below meth c T locs cells slots) (hx : p.tables.exec = Jvm.exec) (hZ : Z.Warmed39 s.vm) {own : String} {index : Nat} {y : MethodName} {bytes : ByteArray} {maxL : Nat} {ret : Option FieldType} {rm : Room} {as' : Array Value} {Q : Option Value → Heap → List Loc → Prop}
    (hown : s.vm.findClass own = some m.cls) (w1 : (Jvm.Cond.methodLink own index y).before a0 Z = true) (w2 : (Jvm.Cond.static y).before a0 Z = true) (w3 : (Jvm.Cond.initialized y.cls).before a0 Z = true) (w4 : (Jvm.Cond.code y bytes maxL ret).before a0 Z = true) (hy : y.cls ≠ "java/lang/invoke/MethodHandle" ∧ y.cls ≠ "java/lang/invoke/VarHandle")
    (hM : Met1 l y bytes maxL ret rm Z as' h Q) (W : Nat) (hf : rm.frames + 1 ≤ R.frames) (hl : W + (maxL + 11) + rm.locals ≤ R.locals) (hc : cells + rm.cells ≤ R.cells) (hs : slots + rm.slots ≤ R.slots) (eT : T.heap = h)
    {g : JFrame} (hg : g.method = m) (hsize : g.locals.size = c.maxLocals) (argsL rest : List Value) (has : argsL.toArray = as') (hlen : ∀ sig, parseMethodDescriptor y.desc = some sig → argsL.length = sig.parameters.length)
    (hstack : g.stack = argsL.reverse ++ rest) (hW : 2 * g.monitorRoom + (rest.map fun v => v.category).sum ≤ W) (hdg : decode c.code g.pc = .ok (.invokestatic index, 3))
    (k : ∀ v T' L, Stand p l e R s m args below meth c T' (locs ++ L) (cells + rm.cells) (slots + rm.slots) → Q v T'.heap L → Rch p e below (T'.setTop { g with pc := g.pc + 3, stack := v.toList ++ rest }) P) : Rch p e below (T.setTop g) P := by
  obtain ⟨v, _, ⟨T1, L1, k1, n1⟩, -, X1, ⟨Lc, hQ, l1, y1, z1⟩, st⟩ := Jvm.LawKit.callS X hx (y := y) hown (mvT hZ w1) (mvT hZ w2) (mvT hZ w3) (mvT hZ w4) hy (backOf (W := W) hM hZ w4 w3 hf hl) (g := g) hg hsize (argsL := argsL) (rest := rest) hlen hstack hW hdg (fun _ _ => ⟨has, eT, hc, hs⟩)
  dsimp only [Pt.U, Pt.locs, Pt.cells, Pt.slots] at X1 l1 y1 z1 st hQ
  subst l1 y1 z1
  exact Rch.go st (k v T1 Lc X1 hQ)
/-- a constructor by its contract -/
theorem Rch.callC (X : Stand p l e R s m args below meth c T locs cells slots) (hx : p.tables.exec = Jvm.exec) (hZ : Z.Warmed39 s.vm) {own : String} {index : Nat} {y : MethodName} {bytes : ByteArray} {maxL : Nat} {rm : Room} {as' : Array Value} {Q : Option Value → Heap → List Loc → Prop} (hy1 : y.name = "<init>")
    (hown : s.vm.findClass own = some m.cls) (w1 : (Jvm.Cond.methodLink own index y).before a0 Z = true) (w2 : (Jvm.Cond.instanceMethod y).before a0 Z = true) (w3 : (Jvm.Cond.initialized y.cls).before a0 Z = true) (w4 : (Jvm.Cond.code y bytes maxL none).before a0 Z = true) (hy : y.cls ≠ "java/lang/invoke/MethodHandle" ∧ y.cls ≠ "java/lang/invoke/VarHandle")
    (hM : Met1 l y bytes maxL none rm Z as' h Q) (W : Nat) (hf : rm.frames + 1 ≤ R.frames) (hl : W + (maxL + 11) + rm.locals ≤ R.locals) (hc : cells + rm.cells ≤ R.cells) (hs : slots + rm.slots ≤ R.slots) (eT : T.heap = h)
    {g : JFrame} (hg : g.method = m) (hsize : g.locals.size = c.maxLocals) (a : Addr) (argsL rest : List Value) (has : (.ref a :: argsL).toArray = as') (hlen : ∀ sig, parseMethodDescriptor y.desc = some sig → argsL.length = sig.parameters.length)
    (hstack : g.stack = argsL.reverse ++ .ref a :: rest) (hW : 2 * g.monitorRoom + (rest.map fun v => v.category).sum ≤ W) (hdg : decode c.code g.pc = .ok (.invokespecial index, 3))
    (k : ∀ v T' L, Stand p l e R s m args below meth c T' (locs ++ L) (cells + rm.cells) (slots + rm.slots) → Q v T'.heap L → Rch p e below (T'.setTop { g with pc := g.pc + 3, stack := v.toList ++ rest }) P) : Rch p e below (T.setTop g) P := by
  obtain ⟨v, _, ⟨T1, L1, k1, n1⟩, -, X1, ⟨Lc, hQ, l1, y1, z1⟩, st⟩ := X.specialBack hx (y := y) hy1 hown (mvT hZ w1) (mvT hZ w2) (mvT hZ w4) hy (backOf (W := W) hM hZ w4 w3 hf hl) (g := g) hg hsize (Steps.refl _) (a := a) (argsL := argsL) (rest := rest) hlen hstack hW hdg (fun _ _ => ⟨has, eT, hc, hs⟩)
  dsimp only [Pt.U, Pt.locs, Pt.cells, Pt.slots] at X1 l1 y1 z1 st hQ
  subst l1 y1 z1
  exact Rch.of st (k v T1 Lc X1 hQ)
/-- an instance method, selected by the receiver's class C, by the contract of the selected one -/
theorem Rch.callV (X : Stand p l e R s m args below meth c T locs cells slots) (hx : p.tables.exec = Jvm.exec) (hZ : Z.Warmed39 s.vm) {own C : String} {index : Nat} {y z : MethodName} {bytes : ByteArray} {maxL : Nat} {ret : Option FieldType} {rm : Room} {as' : Array Value} {Q : Option Value → Heap → List Loc → Prop}
    (hown : s.vm.findClass own = some m.cls) (w1 : (Jvm.Cond.methodLink own index y).before a0 Z = true) (w2 : (Jvm.Cond.declares y).before a0 Z = true) (hnf : NotFace s y) (w5 : (Jvm.Cond.selects C y z).before a0 Z = true) (w6 : (Jvm.Cond.instanceMethod z).before a0 Z = true) (w3 : (Jvm.Cond.initialized z.cls).before a0 Z = true) (w4 : (Jvm.Cond.code z bytes maxL ret).before a0 Z = true) (hy : y.cls ≠ "java/lang/invoke/MethodHandle" ∧ y.cls ≠ "java/lang/invoke/VarHandle")
    (hM : Met1 l z bytes maxL ret rm Z as' h Q) (W : Nat) (hf : rm.frames + 1 ≤ R.frames) (hl : W + (maxL + 11) + rm.locals ≤ R.locals) (hc : cells + rm.cells ≤ R.cells) (hs : slots + rm.slots ≤ R.slots) (eT : T.heap = h) {b : Addr} (hE : Exa Z h b C)
    {g : JFrame} (hg : g.method = m) (hsize : g.locals.size = c.maxLocals) (argsL rest : List Value) (has : (.ref b :: argsL).toArray = as') (hlen : ∀ sig, parseMethodDescriptor y.desc = some sig → argsL.length = sig.parameters.length)
    (hstack : g.stack = argsL.reverse ++ .ref b :: rest) (hW : 2 * g.monitorRoom + (rest.map fun v => v.category).sum ≤ W) (hdg : decode c.code g.pc = .ok (.invokevirtual index, 3))
    (k : ∀ v T' L, Stand p l e R s m args below meth c T' (locs ++ L) (cells + rm.cells) (slots + rm.slots) → Q v T'.heap L → Rch p e below (T'.setTop { g with pc := g.pc + 3, stack := v.toList ++ rest }) P) : Rch p e below (T.setTop g) P := by
  obtain ⟨cq, kq, q1, q2, q3⟩ := isOf hZ eT hE
  obtain ⟨v, _, ⟨T1, L1, k1, n1⟩, -, X1, ⟨Lc, hQ, l1, y1, z1⟩, st⟩ := X.virtualBack hx (y := y) (z := z) hown (mvT hZ w1) (mvT hZ w2) hnf (mvT hZ w5) (mvT hZ w6) hy (backOf (W := W) hM hZ w4 w3 hf hl) q1 q3 (g := g) hg hsize (Steps.refl _) (argsL := argsL) (rest := rest) hlen hstack hW hdg (fun _ _ => ⟨has, eT, hc, hs⟩)
  dsimp only [Pt.U, Pt.locs, Pt.cells, Pt.slots] at X1 l1 y1 z1 st hQ
  subst l1 y1 z1
  exact Rch.of st (k v T1 Lc X1 hQ)
/-- a private instance method, by invokevirtual -/
theorem Rch.callP (X : Stand p l e R s m args below meth c T locs cells slots) (hx : p.tables.exec = Jvm.exec) (hZ : Z.Warmed39 s.vm) {own C : String} {index : Nat} {y : MethodName} {bytes : ByteArray} {maxL : Nat} {ret : Option FieldType} {rm : Room} {as' : Array Value} {Q : Option Value → Heap → List Loc → Prop}
    (hown : s.vm.findClass own = some m.cls) (w1 : (Jvm.Cond.methodLink own index y).before a0 Z = true) (w6 : (Jvm.Cond.instanceMethod y).before a0 Z = true) (w5 : (Jvm.Cond.selects y.cls y y).before a0 Z = true) (w7 : (Jvm.Cond.privateMethod y).before a0 Z = true) (w3 : (Jvm.Cond.initialized y.cls).before a0 Z = true) (w4 : (Jvm.Cond.code y bytes maxL ret).before a0 Z = true) (hy : y.cls ≠ "java/lang/invoke/MethodHandle" ∧ y.cls ≠ "java/lang/invoke/VarHandle")
    (hM : Met1 l y bytes maxL ret rm Z as' h Q) (W : Nat) (hf : rm.frames + 1 ≤ R.frames) (hl : W + (maxL + 11) + rm.locals ≤ R.locals) (hc : cells + rm.cells ≤ R.cells) (hs : slots + rm.slots ≤ R.slots) (eT : T.heap = h) {b : Addr} (hE : Exa Z h b C)
    {g : JFrame} (hg : g.method = m) (hsize : g.locals.size = c.maxLocals) (argsL rest : List Value) (has : (.ref b :: argsL).toArray = as') (hlen : ∀ sig, parseMethodDescriptor y.desc = some sig → argsL.length = sig.parameters.length)
    (hstack : g.stack = argsL.reverse ++ .ref b :: rest) (hW : 2 * g.monitorRoom + (rest.map fun v => v.category).sum ≤ W) (hdg : decode c.code g.pc = .ok (.invokevirtual index, 3))
    (k : ∀ v T' L, Stand p l e R s m args below meth c T' (locs ++ L) (cells + rm.cells) (slots + rm.slots) → Q v T'.heap L → Rch p e below (T'.setTop { g with pc := g.pc + 3, stack := v.toList ++ rest }) P) : Rch p e below (T.setTop g) P := by
  obtain ⟨cq, q1, q2⟩ := hE.cell
  obtain ⟨v, _, ⟨T1, L1, k1, n1⟩, -, X1, ⟨Lc, hQ, l1, y1, z1⟩, st⟩ := X.privateBack hx (y := y) hown (mvT hZ w1) (mvT hZ w6) (mvT hZ w5) (Cond.privateMethod_at (mvP hZ w7 (args := #[]))) (mvT hZ w4) hy (backOf (W := W) hM hZ w4 w3 hf hl) (g := g) hg hsize (Steps.refl _) (a := b) (by rw [eT]; exact q1) q2 (argsL := argsL) (rest := rest) hlen hstack hW hdg (fun _ _ => ⟨has, eT, hc, hs⟩)
  dsimp only [Pt.U, Pt.locs, Pt.cells, Pt.slots] at X1 l1 y1 z1 st hQ
  subst l1 y1 z1
  exact Rch.of st (k v T1 Lc X1 hQ)
end Own
end Jvm.OwnKit
namespace Jvm.Pilot.@@N@@
open Jvm Jvm.ClassFile Sem Op Lib Jvm.Free Jvm.Stand Jvm.LawKit Jvm.RoadKit Bundle Jvm.OwnKit Jvm.Pilot.@@N@@.Jvm.D

def own_tab (j : Nat) : Int32 := if j < 33 then (0 : Int32) else if j < 34 then (1 : Int32) else if j < 35 then (0 : Int32) else if j < 36 then (0 : Int32) else if j < 37 then (1 : Int32) else if j < 38 then (0 : Int32) else if j < 47 then (1 : Int32) else if j < 48 then (0 : Int32) else if j < 60 then (1 : Int32) else if j < 61 then (0 : Int32) else if j < 62 then (1 : Int32) else if j < 63 then (0 : Int32) else if j < 64 then (0 : Int32) else if j < 91 then (1 : Int32) else if j < 95 then (0 : Int32) else if j < 96 then (1 : Int32) else if j < 97 then (0 : Int32) else if j < 123 then (1 : Int32) else if j < 124 then (0 : Int32) else if j < 125 then (0 : Int32) else if j < 126 then (0 : Int32) else if j < 127 then (1 : Int32) else (0 : Int32)
theorem own_idx {i : Int32} (h0 : ¬ i < 0) (h1 : i < (128 : Int32)) : i.toNatClampNeg < 128 ∧ ∃ n : Fin 128, i = Int32.ofNat n.val ∧ i.toNatClampNeg = n.val := by
  rw [Int32.lt_iff_toInt_lt] at h0 h1
  have k0 : (0 : Int32).toInt = 0 := rfl
  have k1 : (128 : Int32).toInt = 128 := rfl
  have hn : i.toNatClampNeg = i.toInt.toNat := rfl
  refine ⟨by omega, ⟨i.toInt.toNat, by omega⟩, ?_, rfl⟩
  apply Int32.toInt_inj.mp
  rw [Int32.toInt_ofNat_of_lt (by show i.toInt.toNat < _; omega)]
  show i.toInt = ((i.toInt.toNat : Nat) : Int); omega
theorem d1_0 : decode prog_25_method_5_code 0 = .ok (.iload_n 0, 1) := by decide +kernel
theorem d1_1 : decode prog_25_method_5_code 1 = .ok (.ifCond .lt 23, 3) := by decide +kernel
theorem d1_4 : decode prog_25_method_5_code 4 = .ok (.iload_n 0, 1) := by decide +kernel
theorem d1_5 : decode prog_25_method_5_code 5 = .ok (.getstatic 50, 3) := by decide +kernel
theorem d1_8 : decode prog_25_method_5_code 8 = .ok (.arraylength, 1) := by decide +kernel
theorem d1_9 : decode prog_25_method_5_code 9 = .ok (.if_icmp .ge 15, 3) := by decide +kernel
theorem d1_12 : decode prog_25_method_5_code 12 = .ok (.getstatic 50, 3) := by decide +kernel
theorem d1_15 : decode prog_25_method_5_code 15 = .ok (.iload_n 0, 1) := by decide +kernel
theorem d1_16 : decode prog_25_method_5_code 16 = .ok (.baload, 1) := by decide +kernel
theorem d1_17 : decode prog_25_method_5_code 17 = .ok (.ifCond .eq 7, 3) := by decide +kernel
theorem d1_20 : decode prog_25_method_5_code 20 = .ok (.iconst 1, 1) := by decide +kernel
theorem d1_21 : decode prog_25_method_5_code 21 = .ok (.goto 4, 3) := by decide +kernel
theorem d1_24 : decode prog_25_method_5_code 24 = .ok (.iconst 0, 1) := by decide +kernel
theorem d1_25 : decode prog_25_method_5_code 25 = .ok (.ireturn, 1) := by decide +kernel
theorem pn_1 : plainFor (⟨"com/example/remitto/remitto/internal/UriComponents", "isPchar", "(I)Z"⟩ : MethodName) = true := plainFor_of_name (by first | (simp [plainName, overriddenIn]; done) | decide +kernel)
theorem ef_1 (m : MethodId) (x0 : Int32) : entryFrame m #[(.int x0)] 1 = mkF m 0 #[.val (.int x0)] [] := by first | (simp [entryFrame, mkF, argsToLocals, Value.category]; done) | rfl
def own_pc (p1 : Int32) : Int32 := if p1 < (0 : Int32) then (0 : Int32) else if p1 < (128 : Int32) then (if own_tab p1.toNatClampNeg = (0 : Int32) then (0 : Int32) else (1 : Int32)) else (0 : Int32)
def own_Q_rm1 (Z : State) (p1 : Int32) (h0 : Heap) (n0 : Nat) (v : Option Value) (h : Heap) (L : List Loc) : Prop := v = some (.int (own_pc p1)) ∧ Fr n0 L ∧ h = h0
set_option maxRecDepth 65536 in
set_option maxHeartbeats 40000000 in
theorem rm1 (l : Launch) (Z : State) (a0 : Array Value) (hw : ∀ d ∈ tables_1, d.before a0 Z = true) (ws : List Jvm.Cond) (p1 : Int32) (h0 : Heap) (n0 : Nat) (Z0 : n0 ≤ h0.size) (t : Addr) (cl : Cell) (S0 : Sta Z h0 "com/example/remitto/remitto/internal/UriComponents" "ASCII_PCHARS" "[Z" (.ref t)) (Ar : Arr Z h0 t cl .boolean) (S : cl.slots.size = (128 : Int32).toNatClampNeg) (hat : ∀ j, j < 128 → cl.slots[j]? = some (.int (own_tab j))) :
    MetFree l (⟨"com/example/remitto/remitto/internal/UriComponents", "isPchar", "(I)Z"⟩ : MethodName) (head1 (Jvm.Cond.code (⟨"com/example/remitto/remitto/internal/UriComponents", "isPchar", "(I)Z"⟩ : MethodName) prog_25_method_5_code 1 (some .boolean) :: ws) ({ frames := 0, cells := 0, slots := 0, locals := 0 } : Room)) (fun a U => a = #[(.int p1)] ∧ Z.Warmed39 U.vm ∧ U.heap = h0) (fun _ _ _ _ _ => True) (fun _ U o U' => ∃ v L, o = .returned v ∧ own_Q_rm1 Z p1 h0 n0 v U'.heap L ∧ FrameEnd U o U' L ({ frames := 0, cells := 0, slots := 0, locals := 0 } : Room).cells ({ frames := 0, cells := 0, slots := 0, locals := 0 } : Room).slots) := by
  refine own_body (Q := (own_Q_rm1 Z p1 h0 n0)) pn_1 ?_
  intro p e s m below meth c s₁ X0 hx hby hml hown hnm hret hlk hZ e0
  have N0 := Fr.nil n0
  refine Rch.go (fun t k => castTop (ef_1 m p1) k) ?_
  show Rch p e below (s₁.setTop (mkF m 0 #[.val (.int p1)] [])) _
  refine Rch.go (fun _ k => XS.iloadN X0.here hx rfl (hb hby d1_0) rfl  k) ?_
  show Rch p e below (s₁.setTop (mkF m 1 #[.val (.int p1)] [(.int p1)])) _
  by_cases hc1_1 : p1 < (0 : Int32)
  · refine Rch.go (fun _ k => XS.ifYes X0.here hx rfl (pc0 := 1) (pc' := 24) rfl (hb hby d1_1) rfl ((if0 _ _).trans (tlt hc1_1).1) (by decide) (by decide) k) ?_
    show Rch p e below (s₁.setTop (mkF m 24 #[.val (.int p1)] [])) _
    refine Rch.go (fun _ k => XS.iconst X0.here hx rfl (hb hby d1_24) k) ?_
    show Rch p e below (s₁.setTop (mkF m 25 #[.val (.int p1)] [(.int (0 : Int32))])) _
    have hv : own_pc p1 = (0 : Int32) := by simp only [own_pc, if_pos hc1_1]
    exact Rch.ret X0 hlk (fun h => by rw [hret] at h; cases h) (fun fs hr => retN X0 hx (t := .boolean) hret (by simp) (hb hby d1_25) hr) ⟨by rw [hv]; rfl, N0, e0⟩ (by decide) (by decide)
  · refine Rch.go (fun _ k => XS.ifNo X0.here hx rfl (hb hby d1_1) rfl ((if0 _ _).trans (flt hc1_1).1) k) ?_
    show Rch p e below (s₁.setTop (mkF m 4 #[.val (.int p1)] [])) _
    refine Rch.go (fun _ k => XS.iloadN X0.here hx rfl (hb hby d1_4) rfl  k) ?_
    show Rch p e below (s₁.setTop (mkF m 5 #[.val (.int p1)] [(.int p1)])) _
    obtain ⟨T2, X2, e2, st2⟩ := getS2 X0 hx hZ hown (host := "") (Or.inl (hw _ (List.mem_of_getElem? (i := 4) rfl))) Via.refl e0 S0 (g := (mkF m 5 #[.val (.int p1)] [(.int p1)])) rfl (hb hby d1_5)
    refine Rch.go st2 ?_
    show Rch p e below (T2.setTop (mkF m 8 #[.val (.int p1)] [(.ref t), (.int p1)])) _
    refine Rch.go (X2.arraylength hx (cell := cl) (by rw [e2]; exact Ar.1) (State.isArrayOf_alike hZ.alike Ar.2.1) (g := (mkF m 8 #[.val (.int p1)] [(.ref t), (.int p1)])) rfl rfl (hb hby d1_8)) ?_
    rw [len_of S (by decide)]
    show Rch p e below (T2.setTop (mkF m 9 #[.val (.int p1)] [(.int (128 : Int32)), (.int p1)])) _
    by_cases hc9_3 : p1 < (128 : Int32)
    · refine Rch.go (fun _ k => XS.icmpNo X2.here hx rfl (hb hby d1_9) rfl (tlt hc9_3).2.1 k) ?_
      show Rch p e below (T2.setTop (mkF m 12 #[.val (.int p1)] [])) _
      obtain ⟨T4, X4, e4, st4⟩ := getS2 X2 hx hZ hown (host := "") (Or.inl (hw _ (List.mem_of_getElem? (i := 4) rfl))) Via.refl e2 S0 (g := (mkF m 12 #[.val (.int p1)] [])) rfl (hb hby d1_12)
      refine Rch.go st4 ?_
      show Rch p e below (T4.setTop (mkF m 15 #[.val (.int p1)] [(.ref t)])) _
      refine Rch.go (fun _ k => XS.iloadN X4.here hx rfl (hb hby d1_15) rfl  k) ?_
      show Rch p e below (T4.setTop (mkF m 16 #[.val (.int p1)] [(.int p1), (.ref t)])) _
      have hq := own_idx hc1_1 hc9_3
      have hin : ¬ (p1 < 0 ∨ cl.slots.size ≤ p1.toNatClampNeg) := fun q => q.elim hc1_1 fun q => absurd hq.1 (by rw [S] at q; exact Nat.not_lt.mpr q)
      refine Rch.go (X4.baloadBooleans hx (j := p1) (v := (.int (own_tab p1.toNatClampNeg))) (by rw [e4]; exact Ar.1) (State.isArrayOf_alike hZ.alike Ar.2.1) Ar.2.2 hin (hat _ hq.1) (g := (mkF m 16 #[.val (.int p1)] [(.int p1), (.ref t)])) rfl rfl (hb hby d1_16)) ?_
      show Rch p e below (T4.setTop (mkF m 17 #[.val (.int p1)] [(.int (own_tab p1.toNatClampNeg))])) _
      by_cases hc17_5 : (own_tab p1.toNatClampNeg) = (0 : Int32)
      · refine Rch.go (fun _ k => XS.ifYes X4.here hx rfl (pc0 := 17) (pc' := 24) rfl (hb hby d1_17) rfl ((if0 _ _).trans (teq hc17_5).1) (by decide) (by decide) k) ?_
        show Rch p e below (T4.setTop (mkF m 24 #[.val (.int p1)] [])) _
        refine Rch.go (fun _ k => XS.iconst X4.here hx rfl (hb hby d1_24) k) ?_
        show Rch p e below (T4.setTop (mkF m 25 #[.val (.int p1)] [(.int (0 : Int32))])) _
        have hv : own_pc p1 = (0 : Int32) := by simp only [own_pc, if_neg hc1_1, if_pos hc9_3, if_pos hc17_5]
        exact Rch.ret X4 hlk (fun h => by rw [hret] at h; cases h) (fun fs hr => retN X4 hx (t := .boolean) hret (by simp) (hb hby d1_25) hr) ⟨by rw [hv]; rfl, N0, e4⟩ (by decide) (by decide)
      · refine Rch.go (fun _ k => XS.ifNo X4.here hx rfl (hb hby d1_17) rfl ((if0 _ _).trans (feq hc17_5).1) k) ?_
        show Rch p e below (T4.setTop (mkF m 20 #[.val (.int p1)] [])) _
        refine Rch.go (fun _ k => XS.iconst X4.here hx rfl (hb hby d1_20) k) ?_
        show Rch p e below (T4.setTop (mkF m 21 #[.val (.int p1)] [(.int (1 : Int32))])) _
        refine Rch.go (fun _ k => XS.goto X4.here hx rfl (pc0 := 21) (pc' := 25) rfl (hb hby d1_21) (by decide) (by decide) k) ?_
        show Rch p e below (T4.setTop (mkF m 25 #[.val (.int p1)] [(.int (1 : Int32))])) _
        have hv : own_pc p1 = (1 : Int32) := by simp only [own_pc, if_neg hc1_1, if_pos hc9_3, if_neg hc17_5]
        exact Rch.ret X4 hlk (fun h => by rw [hret] at h; cases h) (fun fs hr => retN X4 hx (t := .boolean) hret (by simp) (hb hby d1_25) hr) ⟨by rw [hv]; rfl, N0, e4⟩ (by decide) (by decide)
    · refine Rch.go (fun _ k => XS.icmpYes X2.here hx rfl (pc0 := 9) (pc' := 24) rfl (hb hby d1_9) rfl (flt hc9_3).2.1 (by decide) (by decide) k) ?_
      show Rch p e below (T2.setTop (mkF m 24 #[.val (.int p1)] [])) _
      refine Rch.go (fun _ k => XS.iconst X2.here hx rfl (hb hby d1_24) k) ?_
      show Rch p e below (T2.setTop (mkF m 25 #[.val (.int p1)] [(.int (0 : Int32))])) _
      have hv : own_pc p1 = (0 : Int32) := by simp only [own_pc, if_neg hc1_1, if_neg hc9_3]
      exact Rch.ret X2 hlk (fun h => by rw [hret] at h; cases h) (fun fs hr => retN X2 hx (t := .boolean) hret (by simp) (hb hby d1_25) hr) ⟨by rw [hv]; rfl, N0, e2⟩ (by decide) (by decide)
theorem d2_0 : decode method_3_code 0 = .ok (.iload_n 0, 1) := by decide +kernel
theorem d2_1 : decode method_3_code 1 = .ok (.bipush 97, 2) := by decide +kernel
theorem d2_3 : decode method_3_code 3 = .ok (.if_icmp .lt 11, 3) := by decide +kernel
theorem d2_6 : decode method_3_code 6 = .ok (.iload_n 0, 1) := by decide +kernel
theorem d2_7 : decode method_3_code 7 = .ok (.bipush 122, 2) := by decide +kernel
theorem d2_9 : decode method_3_code 9 = .ok (.if_icmp .gt 5, 3) := by decide +kernel
theorem d2_12 : decode method_3_code 12 = .ok (.iconst 1, 1) := by decide +kernel
theorem d2_13 : decode method_3_code 13 = .ok (.ireturn, 1) := by decide +kernel
theorem d2_14 : decode method_3_code 14 = .ok (.iload_n 0, 1) := by decide +kernel
theorem d2_15 : decode method_3_code 15 = .ok (.bipush 64, 2) := by decide +kernel
theorem d2_17 : decode method_3_code 17 = .ok (.if_icmp .lt 11, 3) := by decide +kernel
theorem d2_20 : decode method_3_code 20 = .ok (.iload_n 0, 1) := by decide +kernel
theorem d2_21 : decode method_3_code 21 = .ok (.bipush 90, 2) := by decide +kernel
theorem d2_23 : decode method_3_code 23 = .ok (.if_icmp .gt 5, 3) := by decide +kernel
theorem d2_26 : decode method_3_code 26 = .ok (.iconst 1, 1) := by decide +kernel
theorem d2_27 : decode method_3_code 27 = .ok (.ireturn, 1) := by decide +kernel
theorem d2_28 : decode method_3_code 28 = .ok (.iload_n 0, 1) := by decide +kernel
theorem d2_29 : decode method_3_code 29 = .ok (.bipush 38, 2) := by decide +kernel
theorem d2_31 : decode method_3_code 31 = .ok (.if_icmp .lt 21, 3) := by decide +kernel
theorem d2_34 : decode method_3_code 34 = .ok (.iload_n 0, 1) := by decide +kernel
theorem d2_35 : decode method_3_code 35 = .ok (.bipush 59, 2) := by decide +kernel
theorem d2_37 : decode method_3_code 37 = .ok (.if_icmp .gt 15, 3) := by decide +kernel
theorem d2_40 : decode method_3_code 40 = .ok (.iload_n 0, 1) := by decide +kernel
theorem d2_41 : decode method_3_code 41 = .ok (.bipush 47, 2) := by decide +kernel
theorem d2_43 : decode method_3_code 43 = .ok (.if_icmp .eq 7, 3) := by decide +kernel
theorem d2_46 : decode method_3_code 46 = .ok (.iconst 1, 1) := by decide +kernel
theorem d2_47 : decode method_3_code 47 = .ok (.goto 4, 3) := by decide +kernel
theorem d2_50 : decode method_3_code 50 = .ok (.iconst 0, 1) := by decide +kernel
theorem d2_51 : decode method_3_code 51 = .ok (.ireturn, 1) := by decide +kernel
theorem d2_52 : decode method_3_code 52 = .ok (.iload_n 0, 1) := by decide +kernel
theorem d2_53 : decode method_3_code 53 = .ok (.bipush 33, 2) := by decide +kernel
theorem d2_55 : decode method_3_code 55 = .ok (.if_icmp .eq 27, 3) := by decide +kernel
theorem d2_58 : decode method_3_code 58 = .ok (.iload_n 0, 1) := by decide +kernel
theorem d2_59 : decode method_3_code 59 = .ok (.bipush 36, 2) := by decide +kernel
theorem d2_61 : decode method_3_code 61 = .ok (.if_icmp .eq 21, 3) := by decide +kernel
theorem d2_64 : decode method_3_code 64 = .ok (.iload_n 0, 1) := by decide +kernel
theorem d2_65 : decode method_3_code 65 = .ok (.bipush 61, 2) := by decide +kernel
theorem d2_67 : decode method_3_code 67 = .ok (.if_icmp .eq 15, 3) := by decide +kernel
theorem d2_70 : decode method_3_code 70 = .ok (.iload_n 0, 1) := by decide +kernel
theorem d2_71 : decode method_3_code 71 = .ok (.bipush 95, 2) := by decide +kernel
theorem d2_73 : decode method_3_code 73 = .ok (.if_icmp .eq 9, 3) := by decide +kernel
theorem d2_76 : decode method_3_code 76 = .ok (.iload_n 0, 1) := by decide +kernel
theorem d2_77 : decode method_3_code 77 = .ok (.bipush 126, 2) := by decide +kernel
theorem d2_79 : decode method_3_code 79 = .ok (.if_icmp .ne 5, 3) := by decide +kernel
theorem d2_82 : decode method_3_code 82 = .ok (.iconst 1, 1) := by decide +kernel
theorem d2_83 : decode method_3_code 83 = .ok (.ireturn, 1) := by decide +kernel
theorem d2_84 : decode method_3_code 84 = .ok (.iconst 0, 1) := by decide +kernel
theorem d2_85 : decode method_3_code 85 = .ok (.ireturn, 1) := by decide +kernel
theorem pn_2 : plainFor (⟨"com/example/remitto/remitto/internal/UriComponentsIsPcharPinLaw", "expected", "(I)Z"⟩ : MethodName) = true := plainFor_of_name (by first | (simp [plainName, overriddenIn]; done) | decide +kernel)
theorem ef_2 (m : MethodId) (x0 : Int32) : entryFrame m #[(.int x0)] 1 = mkF m 0 #[.val (.int x0)] [] := by first | (simp [entryFrame, mkF, argsToLocals, Value.category]; done) | rfl
def own_exp (p1 : Int32) : Int32 := (if p1 < (97 : Int32) then (if p1 < (64 : Int32) then (if p1 < (38 : Int32) then (if p1 = (33 : Int32) then (1 : Int32) else (if p1 = (36 : Int32) then (1 : Int32) else (if p1 = (61 : Int32) then (1 : Int32) else (if p1 = (95 : Int32) then (1 : Int32) else (if p1 = (126 : Int32) then (1 : Int32) else (0 : Int32)))))) else (if (59 : Int32) < p1 then (if p1 = (33 : Int32) then (1 : Int32) else (if p1 = (36 : Int32) then (1 : Int32) else (if p1 = (61 : Int32) then (1 : Int32) else (if p1 = (95 : Int32) then (1 : Int32) else (if p1 = (126 : Int32) then (1 : Int32) else (0 : Int32)))))) else (if p1 = (47 : Int32) then (0 : Int32) else (1 : Int32)))) else (if (90 : Int32) < p1 then (if p1 < (38 : Int32) then (if p1 = (33 : Int32) then (1 : Int32) else (if p1 = (36 : Int32) then (1 : Int32) else (if p1 = (61 : Int32) then (1 : Int32) else (if p1 = (95 : Int32) then (1 : Int32) else (if p1 = (126 : Int32) then (1 : Int32) else (0 : Int32)))))) else (if (59 : Int32) < p1 then (if p1 = (33 : Int32) then (1 : Int32) else (if p1 = (36 : Int32) then (1 : Int32) else (if p1 = (61 : Int32) then (1 : Int32) else (if p1 = (95 : Int32) then (1 : Int32) else (if p1 = (126 : Int32) then (1 : Int32) else (0 : Int32)))))) else (if p1 = (47 : Int32) then (0 : Int32) else (1 : Int32)))) else (1 : Int32))) else (if (122 : Int32) < p1 then (if p1 < (64 : Int32) then (if p1 < (38 : Int32) then (if p1 = (33 : Int32) then (1 : Int32) else (if p1 = (36 : Int32) then (1 : Int32) else (if p1 = (61 : Int32) then (1 : Int32) else (if p1 = (95 : Int32) then (1 : Int32) else (if p1 = (126 : Int32) then (1 : Int32) else (0 : Int32)))))) else (if (59 : Int32) < p1 then (if p1 = (33 : Int32) then (1 : Int32) else (if p1 = (36 : Int32) then (1 : Int32) else (if p1 = (61 : Int32) then (1 : Int32) else (if p1 = (95 : Int32) then (1 : Int32) else (if p1 = (126 : Int32) then (1 : Int32) else (0 : Int32)))))) else (if p1 = (47 : Int32) then (0 : Int32) else (1 : Int32)))) else (if (90 : Int32) < p1 then (if p1 < (38 : Int32) then (if p1 = (33 : Int32) then (1 : Int32) else (if p1 = (36 : Int32) then (1 : Int32) else (if p1 = (61 : Int32) then (1 : Int32) else (if p1 = (95 : Int32) then (1 : Int32) else (if p1 = (126 : Int32) then (1 : Int32) else (0 : Int32)))))) else (if (59 : Int32) < p1 then (if p1 = (33 : Int32) then (1 : Int32) else (if p1 = (36 : Int32) then (1 : Int32) else (if p1 = (61 : Int32) then (1 : Int32) else (if p1 = (95 : Int32) then (1 : Int32) else (if p1 = (126 : Int32) then (1 : Int32) else (0 : Int32)))))) else (if p1 = (47 : Int32) then (0 : Int32) else (1 : Int32)))) else (1 : Int32))) else (1 : Int32)))
def own_Q_rm2 (Z : State) (p1 : Int32) (h0 : Heap) (n0 : Nat) (v : Option Value) (h : Heap) (L : List Loc) : Prop := v = some (.int (own_exp p1)) ∧ Fr n0 L ∧ h = h0
set_option maxRecDepth 65536 in
set_option maxHeartbeats 40000000 in
theorem rm2 (l : Launch) (Z : State) (a0 : Array Value) (hw : ∀ d ∈ tables_1, d.before a0 Z = true) (ws : List Jvm.Cond) (p1 : Int32) (h0 : Heap) (n0 : Nat) (Z0 : n0 ≤ h0.size)  :
    MetFree l (⟨"com/example/remitto/remitto/internal/UriComponentsIsPcharPinLaw", "expected", "(I)Z"⟩ : MethodName) (head1 (Jvm.Cond.code (⟨"com/example/remitto/remitto/internal/UriComponentsIsPcharPinLaw", "expected", "(I)Z"⟩ : MethodName) method_3_code 1 (some .boolean) :: ws) ({ frames := 0, cells := 0, slots := 0, locals := 0 } : Room)) (fun a U => a = #[(.int p1)] ∧ Z.Warmed39 U.vm ∧ U.heap = h0) (fun _ _ _ _ _ => True) (fun _ U o U' => ∃ v L, o = .returned v ∧ own_Q_rm2 Z p1 h0 n0 v U'.heap L ∧ FrameEnd U o U' L ({ frames := 0, cells := 0, slots := 0, locals := 0 } : Room).cells ({ frames := 0, cells := 0, slots := 0, locals := 0 } : Room).slots) := by
  refine own_body (Q := (own_Q_rm2 Z p1 h0 n0)) pn_2 ?_
  intro p e s m below meth c s₁ X0 hx hby hml hown hnm hret hlk hZ e0
  have N0 := Fr.nil n0
  refine Rch.go (fun t k => castTop (ef_2 m p1) k) ?_
  show Rch p e below (s₁.setTop (mkF m 0 #[.val (.int p1)] [])) _
  refine Rch.go (fun _ k => XS.iloadN X0.here hx rfl (hb hby d2_0) rfl  k) ?_
  show Rch p e below (s₁.setTop (mkF m 1 #[.val (.int p1)] [(.int p1)])) _
  refine Rch.go (fun _ k => XS.bipush X0.here hx rfl (hb hby d2_1) k) ?_
  show Rch p e below (s₁.setTop (mkF m 3 #[.val (.int p1)] [(.int (97 : Int32)), (.int p1)])) _
  by_cases hc3_1 : p1 < (97 : Int32)
  · refine Rch.go (fun _ k => XS.icmpYes X0.here hx rfl (pc0 := 3) (pc' := 14) rfl (hb hby d2_3) rfl (tlt hc3_1).1 (by decide) (by decide) k) ?_
    show Rch p e below (s₁.setTop (mkF m 14 #[.val (.int p1)] [])) _
    refine Rch.go (fun _ k => XS.iloadN X0.here hx rfl (hb hby d2_14) rfl  k) ?_
    show Rch p e below (s₁.setTop (mkF m 15 #[.val (.int p1)] [(.int p1)])) _
    refine Rch.go (fun _ k => XS.bipush X0.here hx rfl (hb hby d2_15) k) ?_
    show Rch p e below (s₁.setTop (mkF m 17 #[.val (.int p1)] [(.int (64 : Int32)), (.int p1)])) _
    by_cases hc17_2 : p1 < (64 : Int32)
    · refine Rch.go (fun _ k => XS.icmpYes X0.here hx rfl (pc0 := 17) (pc' := 28) rfl (hb hby d2_17) rfl (tlt hc17_2).1 (by decide) (by decide) k) ?_
      show Rch p e below (s₁.setTop (mkF m 28 #[.val (.int p1)] [])) _
      refine Rch.go (fun _ k => XS.iloadN X0.here hx rfl (hb hby d2_28) rfl  k) ?_
      show Rch p e below (s₁.setTop (mkF m 29 #[.val (.int p1)] [(.int p1)])) _
      refine Rch.go (fun _ k => XS.bipush X0.here hx rfl (hb hby d2_29) k) ?_
      show Rch p e below (s₁.setTop (mkF m 31 #[.val (.int p1)] [(.int (38 : Int32)), (.int p1)])) _
      by_cases hc31_3 : p1 < (38 : Int32)
      · refine Rch.go (fun _ k => XS.icmpYes X0.here hx rfl (pc0 := 31) (pc' := 52) rfl (hb hby d2_31) rfl (tlt hc31_3).1 (by decide) (by decide) k) ?_
        show Rch p e below (s₁.setTop (mkF m 52 #[.val (.int p1)] [])) _
        refine Rch.go (fun _ k => XS.iloadN X0.here hx rfl (hb hby d2_52) rfl  k) ?_
        show Rch p e below (s₁.setTop (mkF m 53 #[.val (.int p1)] [(.int p1)])) _
        refine Rch.go (fun _ k => XS.bipush X0.here hx rfl (hb hby d2_53) k) ?_
        show Rch p e below (s₁.setTop (mkF m 55 #[.val (.int p1)] [(.int (33 : Int32)), (.int p1)])) _
        by_cases hc55_4 : p1 = (33 : Int32)
        · refine Rch.go (fun _ k => XS.icmpYes X0.here hx rfl (pc0 := 55) (pc' := 82) rfl (hb hby d2_55) rfl (teq hc55_4).1 (by decide) (by decide) k) ?_
          show Rch p e below (s₁.setTop (mkF m 82 #[.val (.int p1)] [])) _
          refine Rch.go (fun _ k => XS.iconst X0.here hx rfl (hb hby d2_82) k) ?_
          show Rch p e below (s₁.setTop (mkF m 83 #[.val (.int p1)] [(.int (1 : Int32))])) _
          have hv : own_exp p1 = (1 : Int32) := by simp only [own_exp, if_pos hc3_1, if_pos hc17_2, if_pos hc31_3, if_pos hc55_4]
          exact Rch.ret X0 hlk (fun h => by rw [hret] at h; cases h) (fun fs hr => retN X0 hx (t := .boolean) hret (by simp) (hb hby d2_83) hr) ⟨by rw [hv]; rfl, N0, e0⟩ (by decide) (by decide)
        · refine Rch.go (fun _ k => XS.icmpNo X0.here hx rfl (hb hby d2_55) rfl (feq hc55_4).1 k) ?_
          show Rch p e below (s₁.setTop (mkF m 58 #[.val (.int p1)] [])) _
          refine Rch.go (fun _ k => XS.iloadN X0.here hx rfl (hb hby d2_58) rfl  k) ?_
          show Rch p e below (s₁.setTop (mkF m 59 #[.val (.int p1)] [(.int p1)])) _
          refine Rch.go (fun _ k => XS.bipush X0.here hx rfl (hb hby d2_59) k) ?_
          show Rch p e below (s₁.setTop (mkF m 61 #[.val (.int p1)] [(.int (36 : Int32)), (.int p1)])) _
          by_cases hc61_5 : p1 = (36 : Int32)
          · refine Rch.go (fun _ k => XS.icmpYes X0.here hx rfl (pc0 := 61) (pc' := 82) rfl (hb hby d2_61) rfl (teq hc61_5).1 (by decide) (by decide) k) ?_
            show Rch p e below (s₁.setTop (mkF m 82 #[.val (.int p1)] [])) _
            refine Rch.go (fun _ k => XS.iconst X0.here hx rfl (hb hby d2_82) k) ?_
            show Rch p e below (s₁.setTop (mkF m 83 #[.val (.int p1)] [(.int (1 : Int32))])) _
            have hv : own_exp p1 = (1 : Int32) := by simp only [own_exp, if_pos hc3_1, if_pos hc17_2, if_pos hc31_3, if_neg hc55_4, if_pos hc61_5]
            exact Rch.ret X0 hlk (fun h => by rw [hret] at h; cases h) (fun fs hr => retN X0 hx (t := .boolean) hret (by simp) (hb hby d2_83) hr) ⟨by rw [hv]; rfl, N0, e0⟩ (by decide) (by decide)
          · refine Rch.go (fun _ k => XS.icmpNo X0.here hx rfl (hb hby d2_61) rfl (feq hc61_5).1 k) ?_
            show Rch p e below (s₁.setTop (mkF m 64 #[.val (.int p1)] [])) _
            refine Rch.go (fun _ k => XS.iloadN X0.here hx rfl (hb hby d2_64) rfl  k) ?_
            show Rch p e below (s₁.setTop (mkF m 65 #[.val (.int p1)] [(.int p1)])) _
            refine Rch.go (fun _ k => XS.bipush X0.here hx rfl (hb hby d2_65) k) ?_
            show Rch p e below (s₁.setTop (mkF m 67 #[.val (.int p1)] [(.int (61 : Int32)), (.int p1)])) _
            by_cases hc67_6 : p1 = (61 : Int32)
            · refine Rch.go (fun _ k => XS.icmpYes X0.here hx rfl (pc0 := 67) (pc' := 82) rfl (hb hby d2_67) rfl (teq hc67_6).1 (by decide) (by decide) k) ?_
              show Rch p e below (s₁.setTop (mkF m 82 #[.val (.int p1)] [])) _
              refine Rch.go (fun _ k => XS.iconst X0.here hx rfl (hb hby d2_82) k) ?_
              show Rch p e below (s₁.setTop (mkF m 83 #[.val (.int p1)] [(.int (1 : Int32))])) _
              have hv : own_exp p1 = (1 : Int32) := by simp only [own_exp, if_pos hc3_1, if_pos hc17_2, if_pos hc31_3, if_neg hc55_4, if_neg hc61_5, if_pos hc67_6]
              exact Rch.ret X0 hlk (fun h => by rw [hret] at h; cases h) (fun fs hr => retN X0 hx (t := .boolean) hret (by simp) (hb hby d2_83) hr) ⟨by rw [hv]; rfl, N0, e0⟩ (by decide) (by decide)
            · refine Rch.go (fun _ k => XS.icmpNo X0.here hx rfl (hb hby d2_67) rfl (feq hc67_6).1 k) ?_
              show Rch p e below (s₁.setTop (mkF m 70 #[.val (.int p1)] [])) _
              refine Rch.go (fun _ k => XS.iloadN X0.here hx rfl (hb hby d2_70) rfl  k) ?_
              show Rch p e below (s₁.setTop (mkF m 71 #[.val (.int p1)] [(.int p1)])) _
              refine Rch.go (fun _ k => XS.bipush X0.here hx rfl (hb hby d2_71) k) ?_
              show Rch p e below (s₁.setTop (mkF m 73 #[.val (.int p1)] [(.int (95 : Int32)), (.int p1)])) _
              by_cases hc73_7 : p1 = (95 : Int32)
              · refine Rch.go (fun _ k => XS.icmpYes X0.here hx rfl (pc0 := 73) (pc' := 82) rfl (hb hby d2_73) rfl (teq hc73_7).1 (by decide) (by decide) k) ?_
                show Rch p e below (s₁.setTop (mkF m 82 #[.val (.int p1)] [])) _
                refine Rch.go (fun _ k => XS.iconst X0.here hx rfl (hb hby d2_82) k) ?_
                show Rch p e below (s₁.setTop (mkF m 83 #[.val (.int p1)] [(.int (1 : Int32))])) _
                have hv : own_exp p1 = (1 : Int32) := by simp only [own_exp, if_pos hc3_1, if_pos hc17_2, if_pos hc31_3, if_neg hc55_4, if_neg hc61_5, if_neg hc67_6, if_pos hc73_7]
                exact Rch.ret X0 hlk (fun h => by rw [hret] at h; cases h) (fun fs hr => retN X0 hx (t := .boolean) hret (by simp) (hb hby d2_83) hr) ⟨by rw [hv]; rfl, N0, e0⟩ (by decide) (by decide)
              · refine Rch.go (fun _ k => XS.icmpNo X0.here hx rfl (hb hby d2_73) rfl (feq hc73_7).1 k) ?_
                show Rch p e below (s₁.setTop (mkF m 76 #[.val (.int p1)] [])) _
                refine Rch.go (fun _ k => XS.iloadN X0.here hx rfl (hb hby d2_76) rfl  k) ?_
                show Rch p e below (s₁.setTop (mkF m 77 #[.val (.int p1)] [(.int p1)])) _
                refine Rch.go (fun _ k => XS.bipush X0.here hx rfl (hb hby d2_77) k) ?_
                show Rch p e below (s₁.setTop (mkF m 79 #[.val (.int p1)] [(.int (126 : Int32)), (.int p1)])) _
                by_cases hc79_8 : p1 = (126 : Int32)
                · refine Rch.go (fun _ k => XS.icmpNo X0.here hx rfl (hb hby d2_79) rfl (teq hc79_8).2 k) ?_
                  show Rch p e below (s₁.setTop (mkF m 82 #[.val (.int p1)] [])) _
                  refine Rch.go (fun _ k => XS.iconst X0.here hx rfl (hb hby d2_82) k) ?_
                  show Rch p e below (s₁.setTop (mkF m 83 #[.val (.int p1)] [(.int (1 : Int32))])) _
                  have hv : own_exp p1 = (1 : Int32) := by simp only [own_exp, if_pos hc3_1, if_pos hc17_2, if_pos hc31_3, if_neg hc55_4, if_neg hc61_5, if_neg hc67_6, if_neg hc73_7, if_pos hc79_8]
                  exact Rch.ret X0 hlk (fun h => by rw [hret] at h; cases h) (fun fs hr => retN X0 hx (t := .boolean) hret (by simp) (hb hby d2_83) hr) ⟨by rw [hv]; rfl, N0, e0⟩ (by decide) (by decide)
                · refine Rch.go (fun _ k => XS.icmpYes X0.here hx rfl (pc0 := 79) (pc' := 84) rfl (hb hby d2_79) rfl (feq hc79_8).2 (by decide) (by decide) k) ?_
                  show Rch p e below (s₁.setTop (mkF m 84 #[.val (.int p1)] [])) _
                  refine Rch.go (fun _ k => XS.iconst X0.here hx rfl (hb hby d2_84) k) ?_
                  show Rch p e below (s₁.setTop (mkF m 85 #[.val (.int p1)] [(.int (0 : Int32))])) _
                  have hv : own_exp p1 = (0 : Int32) := by simp only [own_exp, if_pos hc3_1, if_pos hc17_2, if_pos hc31_3, if_neg hc55_4, if_neg hc61_5, if_neg hc67_6, if_neg hc73_7, if_neg hc79_8]
                  exact Rch.ret X0 hlk (fun h => by rw [hret] at h; cases h) (fun fs hr => retN X0 hx (t := .boolean) hret (by simp) (hb hby d2_85) hr) ⟨by rw [hv]; rfl, N0, e0⟩ (by decide) (by decide)
      · refine Rch.go (fun _ k => XS.icmpNo X0.here hx rfl (hb hby d2_31) rfl (flt hc31_3).1 k) ?_
        show Rch p e below (s₁.setTop (mkF m 34 #[.val (.int p1)] [])) _
        refine Rch.go (fun _ k => XS.iloadN X0.here hx rfl (hb hby d2_34) rfl  k) ?_
        show Rch p e below (s₁.setTop (mkF m 35 #[.val (.int p1)] [(.int p1)])) _
        refine Rch.go (fun _ k => XS.bipush X0.here hx rfl (hb hby d2_35) k) ?_
        show Rch p e below (s₁.setTop (mkF m 37 #[.val (.int p1)] [(.int (59 : Int32)), (.int p1)])) _
        by_cases hc37_9 : (59 : Int32) < p1
        · refine Rch.go (fun _ k => XS.icmpYes X0.here hx rfl (pc0 := 37) (pc' := 52) rfl (hb hby d2_37) rfl (tlt hc37_9).2.2.1 (by decide) (by decide) k) ?_
          show Rch p e below (s₁.setTop (mkF m 52 #[.val (.int p1)] [])) _
          refine Rch.go (fun _ k => XS.iloadN X0.here hx rfl (hb hby d2_52) rfl  k) ?_
          show Rch p e below (s₁.setTop (mkF m 53 #[.val (.int p1)] [(.int p1)])) _
          refine Rch.go (fun _ k => XS.bipush X0.here hx rfl (hb hby d2_53) k) ?_
          show Rch p e below (s₁.setTop (mkF m 55 #[.val (.int p1)] [(.int (33 : Int32)), (.int p1)])) _
          by_cases hc55_10 : p1 = (33 : Int32)
          · refine Rch.go (fun _ k => XS.icmpYes X0.here hx rfl (pc0 := 55) (pc' := 82) rfl (hb hby d2_55) rfl (teq hc55_10).1 (by decide) (by decide) k) ?_
            show Rch p e below (s₁.setTop (mkF m 82 #[.val (.int p1)] [])) _
            refine Rch.go (fun _ k => XS.iconst X0.here hx rfl (hb hby d2_82) k) ?_
            show Rch p e below (s₁.setTop (mkF m 83 #[.val (.int p1)] [(.int (1 : Int32))])) _
            have hv : own_exp p1 = (1 : Int32) := by simp only [own_exp, if_pos hc3_1, if_pos hc17_2, if_neg hc31_3, if_pos hc37_9, if_pos hc55_10]
            exact Rch.ret X0 hlk (fun h => by rw [hret] at h; cases h) (fun fs hr => retN X0 hx (t := .boolean) hret (by simp) (hb hby d2_83) hr) ⟨by rw [hv]; rfl, N0, e0⟩ (by decide) (by decide)
          · refine Rch.go (fun _ k => XS.icmpNo X0.here hx rfl (hb hby d2_55) rfl (feq hc55_10).1 k) ?_
            show Rch p e below (s₁.setTop (mkF m 58 #[.val (.int p1)] [])) _
            refine Rch.go (fun _ k => XS.iloadN X0.here hx rfl (hb hby d2_58) rfl  k) ?_
            show Rch p e below (s₁.setTop (mkF m 59 #[.val (.int p1)] [(.int p1)])) _
            refine Rch.go (fun _ k => XS.bipush X0.here hx rfl (hb hby d2_59) k) ?_
            show Rch p e below (s₁.setTop (mkF m 61 #[.val (.int p1)] [(.int (36 : Int32)), (.int p1)])) _
            by_cases hc61_11 : p1 = (36 : Int32)
            · refine Rch.go (fun _ k => XS.icmpYes X0.here hx rfl (pc0 := 61) (pc' := 82) rfl (hb hby d2_61) rfl (teq hc61_11).1 (by decide) (by decide) k) ?_
              show Rch p e below (s₁.setTop (mkF m 82 #[.val (.int p1)] [])) _
              refine Rch.go (fun _ k => XS.iconst X0.here hx rfl (hb hby d2_82) k) ?_
              show Rch p e below (s₁.setTop (mkF m 83 #[.val (.int p1)] [(.int (1 : Int32))])) _
              have hv : own_exp p1 = (1 : Int32) := by simp only [own_exp, if_pos hc3_1, if_pos hc17_2, if_neg hc31_3, if_pos hc37_9, if_neg hc55_10, if_pos hc61_11]
              exact Rch.ret X0 hlk (fun h => by rw [hret] at h; cases h) (fun fs hr => retN X0 hx (t := .boolean) hret (by simp) (hb hby d2_83) hr) ⟨by rw [hv]; rfl, N0, e0⟩ (by decide) (by decide)
            · refine Rch.go (fun _ k => XS.icmpNo X0.here hx rfl (hb hby d2_61) rfl (feq hc61_11).1 k) ?_
              show Rch p e below (s₁.setTop (mkF m 64 #[.val (.int p1)] [])) _
              refine Rch.go (fun _ k => XS.iloadN X0.here hx rfl (hb hby d2_64) rfl  k) ?_
              show Rch p e below (s₁.setTop (mkF m 65 #[.val (.int p1)] [(.int p1)])) _
              refine Rch.go (fun _ k => XS.bipush X0.here hx rfl (hb hby d2_65) k) ?_
              show Rch p e below (s₁.setTop (mkF m 67 #[.val (.int p1)] [(.int (61 : Int32)), (.int p1)])) _
              by_cases hc67_12 : p1 = (61 : Int32)
              · refine Rch.go (fun _ k => XS.icmpYes X0.here hx rfl (pc0 := 67) (pc' := 82) rfl (hb hby d2_67) rfl (teq hc67_12).1 (by decide) (by decide) k) ?_
                show Rch p e below (s₁.setTop (mkF m 82 #[.val (.int p1)] [])) _
                refine Rch.go (fun _ k => XS.iconst X0.here hx rfl (hb hby d2_82) k) ?_
                show Rch p e below (s₁.setTop (mkF m 83 #[.val (.int p1)] [(.int (1 : Int32))])) _
                have hv : own_exp p1 = (1 : Int32) := by simp only [own_exp, if_pos hc3_1, if_pos hc17_2, if_neg hc31_3, if_pos hc37_9, if_neg hc55_10, if_neg hc61_11, if_pos hc67_12]
                exact Rch.ret X0 hlk (fun h => by rw [hret] at h; cases h) (fun fs hr => retN X0 hx (t := .boolean) hret (by simp) (hb hby d2_83) hr) ⟨by rw [hv]; rfl, N0, e0⟩ (by decide) (by decide)
              · refine Rch.go (fun _ k => XS.icmpNo X0.here hx rfl (hb hby d2_67) rfl (feq hc67_12).1 k) ?_
                show Rch p e below (s₁.setTop (mkF m 70 #[.val (.int p1)] [])) _
                refine Rch.go (fun _ k => XS.iloadN X0.here hx rfl (hb hby d2_70) rfl  k) ?_
                show Rch p e below (s₁.setTop (mkF m 71 #[.val (.int p1)] [(.int p1)])) _
                refine Rch.go (fun _ k => XS.bipush X0.here hx rfl (hb hby d2_71) k) ?_
                show Rch p e below (s₁.setTop (mkF m 73 #[.val (.int p1)] [(.int (95 : Int32)), (.int p1)])) _
                by_cases hc73_13 : p1 = (95 : Int32)
                · refine Rch.go (fun _ k => XS.icmpYes X0.here hx rfl (pc0 := 73) (pc' := 82) rfl (hb hby d2_73) rfl (teq hc73_13).1 (by decide) (by decide) k) ?_
                  show Rch p e below (s₁.setTop (mkF m 82 #[.val (.int p1)] [])) _
                  refine Rch.go (fun _ k => XS.iconst X0.here hx rfl (hb hby d2_82) k) ?_
                  show Rch p e below (s₁.setTop (mkF m 83 #[.val (.int p1)] [(.int (1 : Int32))])) _
                  have hv : own_exp p1 = (1 : Int32) := by simp only [own_exp, if_pos hc3_1, if_pos hc17_2, if_neg hc31_3, if_pos hc37_9, if_neg hc55_10, if_neg hc61_11, if_neg hc67_12, if_pos hc73_13]
                  exact Rch.ret X0 hlk (fun h => by rw [hret] at h; cases h) (fun fs hr => retN X0 hx (t := .boolean) hret (by simp) (hb hby d2_83) hr) ⟨by rw [hv]; rfl, N0, e0⟩ (by decide) (by decide)
                · refine Rch.go (fun _ k => XS.icmpNo X0.here hx rfl (hb hby d2_73) rfl (feq hc73_13).1 k) ?_
                  show Rch p e below (s₁.setTop (mkF m 76 #[.val (.int p1)] [])) _
                  refine Rch.go (fun _ k => XS.iloadN X0.here hx rfl (hb hby d2_76) rfl  k) ?_
                  show Rch p e below (s₁.setTop (mkF m 77 #[.val (.int p1)] [(.int p1)])) _
                  refine Rch.go (fun _ k => XS.bipush X0.here hx rfl (hb hby d2_77) k) ?_
                  show Rch p e below (s₁.setTop (mkF m 79 #[.val (.int p1)] [(.int (126 : Int32)), (.int p1)])) _
                  by_cases hc79_14 : p1 = (126 : Int32)
                  · refine Rch.go (fun _ k => XS.icmpNo X0.here hx rfl (hb hby d2_79) rfl (teq hc79_14).2 k) ?_
                    show Rch p e below (s₁.setTop (mkF m 82 #[.val (.int p1)] [])) _
                    refine Rch.go (fun _ k => XS.iconst X0.here hx rfl (hb hby d2_82) k) ?_
                    show Rch p e below (s₁.setTop (mkF m 83 #[.val (.int p1)] [(.int (1 : Int32))])) _
                    have hv : own_exp p1 = (1 : Int32) := by simp only [own_exp, if_pos hc3_1, if_pos hc17_2, if_neg hc31_3, if_pos hc37_9, if_neg hc55_10, if_neg hc61_11, if_neg hc67_12, if_neg hc73_13, if_pos hc79_14]
                    exact Rch.ret X0 hlk (fun h => by rw [hret] at h; cases h) (fun fs hr => retN X0 hx (t := .boolean) hret (by simp) (hb hby d2_83) hr) ⟨by rw [hv]; rfl, N0, e0⟩ (by decide) (by decide)
                  · refine Rch.go (fun _ k => XS.icmpYes X0.here hx rfl (pc0 := 79) (pc' := 84) rfl (hb hby d2_79) rfl (feq hc79_14).2 (by decide) (by decide) k) ?_
                    show Rch p e below (s₁.setTop (mkF m 84 #[.val (.int p1)] [])) _
                    refine Rch.go (fun _ k => XS.iconst X0.here hx rfl (hb hby d2_84) k) ?_
                    show Rch p e below (s₁.setTop (mkF m 85 #[.val (.int p1)] [(.int (0 : Int32))])) _
                    have hv : own_exp p1 = (0 : Int32) := by simp only [own_exp, if_pos hc3_1, if_pos hc17_2, if_neg hc31_3, if_pos hc37_9, if_neg hc55_10, if_neg hc61_11, if_neg hc67_12, if_neg hc73_13, if_neg hc79_14]
                    exact Rch.ret X0 hlk (fun h => by rw [hret] at h; cases h) (fun fs hr => retN X0 hx (t := .boolean) hret (by simp) (hb hby d2_85) hr) ⟨by rw [hv]; rfl, N0, e0⟩ (by decide) (by decide)
        · refine Rch.go (fun _ k => XS.icmpNo X0.here hx rfl (hb hby d2_37) rfl (flt hc37_9).2.2.1 k) ?_
          show Rch p e below (s₁.setTop (mkF m 40 #[.val (.int p1)] [])) _
          refine Rch.go (fun _ k => XS.iloadN X0.here hx rfl (hb hby d2_40) rfl  k) ?_
          show Rch p e below (s₁.setTop (mkF m 41 #[.val (.int p1)] [(.int p1)])) _
          refine Rch.go (fun _ k => XS.bipush X0.here hx rfl (hb hby d2_41) k) ?_
          show Rch p e below (s₁.setTop (mkF m 43 #[.val (.int p1)] [(.int (47 : Int32)), (.int p1)])) _
          by_cases hc43_15 : p1 = (47 : Int32)
          · refine Rch.go (fun _ k => XS.icmpYes X0.here hx rfl (pc0 := 43) (pc' := 50) rfl (hb hby d2_43) rfl (teq hc43_15).1 (by decide) (by decide) k) ?_
            show Rch p e below (s₁.setTop (mkF m 50 #[.val (.int p1)] [])) _
            refine Rch.go (fun _ k => XS.iconst X0.here hx rfl (hb hby d2_50) k) ?_
            show Rch p e below (s₁.setTop (mkF m 51 #[.val (.int p1)] [(.int (0 : Int32))])) _
            have hv : own_exp p1 = (0 : Int32) := by simp only [own_exp, if_pos hc3_1, if_pos hc17_2, if_neg hc31_3, if_neg hc37_9, if_pos hc43_15]
            exact Rch.ret X0 hlk (fun h => by rw [hret] at h; cases h) (fun fs hr => retN X0 hx (t := .boolean) hret (by simp) (hb hby d2_51) hr) ⟨by rw [hv]; rfl, N0, e0⟩ (by decide) (by decide)
          · refine Rch.go (fun _ k => XS.icmpNo X0.here hx rfl (hb hby d2_43) rfl (feq hc43_15).1 k) ?_
            show Rch p e below (s₁.setTop (mkF m 46 #[.val (.int p1)] [])) _
            refine Rch.go (fun _ k => XS.iconst X0.here hx rfl (hb hby d2_46) k) ?_
            show Rch p e below (s₁.setTop (mkF m 47 #[.val (.int p1)] [(.int (1 : Int32))])) _
            refine Rch.go (fun _ k => XS.goto X0.here hx rfl (pc0 := 47) (pc' := 51) rfl (hb hby d2_47) (by decide) (by decide) k) ?_
            show Rch p e below (s₁.setTop (mkF m 51 #[.val (.int p1)] [(.int (1 : Int32))])) _
            have hv : own_exp p1 = (1 : Int32) := by simp only [own_exp, if_pos hc3_1, if_pos hc17_2, if_neg hc31_3, if_neg hc37_9, if_neg hc43_15]
            exact Rch.ret X0 hlk (fun h => by rw [hret] at h; cases h) (fun fs hr => retN X0 hx (t := .boolean) hret (by simp) (hb hby d2_51) hr) ⟨by rw [hv]; rfl, N0, e0⟩ (by decide) (by decide)
    · refine Rch.go (fun _ k => XS.icmpNo X0.here hx rfl (hb hby d2_17) rfl (flt hc17_2).1 k) ?_
      show Rch p e below (s₁.setTop (mkF m 20 #[.val (.int p1)] [])) _
      refine Rch.go (fun _ k => XS.iloadN X0.here hx rfl (hb hby d2_20) rfl  k) ?_
      show Rch p e below (s₁.setTop (mkF m 21 #[.val (.int p1)] [(.int p1)])) _
      refine Rch.go (fun _ k => XS.bipush X0.here hx rfl (hb hby d2_21) k) ?_
      show Rch p e below (s₁.setTop (mkF m 23 #[.val (.int p1)] [(.int (90 : Int32)), (.int p1)])) _
      by_cases hc23_16 : (90 : Int32) < p1
      · refine Rch.go (fun _ k => XS.icmpYes X0.here hx rfl (pc0 := 23) (pc' := 28) rfl (hb hby d2_23) rfl (tlt hc23_16).2.2.1 (by decide) (by decide) k) ?_
        show Rch p e below (s₁.setTop (mkF m 28 #[.val (.int p1)] [])) _
        refine Rch.go (fun _ k => XS.iloadN X0.here hx rfl (hb hby d2_28) rfl  k) ?_
        show Rch p e below (s₁.setTop (mkF m 29 #[.val (.int p1)] [(.int p1)])) _
        refine Rch.go (fun _ k => XS.bipush X0.here hx rfl (hb hby d2_29) k) ?_
        show Rch p e below (s₁.setTop (mkF m 31 #[.val (.int p1)] [(.int (38 : Int32)), (.int p1)])) _
        by_cases hc31_17 : p1 < (38 : Int32)
        · refine Rch.go (fun _ k => XS.icmpYes X0.here hx rfl (pc0 := 31) (pc' := 52) rfl (hb hby d2_31) rfl (tlt hc31_17).1 (by decide) (by decide) k) ?_
          show Rch p e below (s₁.setTop (mkF m 52 #[.val (.int p1)] [])) _
          refine Rch.go (fun _ k => XS.iloadN X0.here hx rfl (hb hby d2_52) rfl  k) ?_
          show Rch p e below (s₁.setTop (mkF m 53 #[.val (.int p1)] [(.int p1)])) _
          refine Rch.go (fun _ k => XS.bipush X0.here hx rfl (hb hby d2_53) k) ?_
          show Rch p e below (s₁.setTop (mkF m 55 #[.val (.int p1)] [(.int (33 : Int32)), (.int p1)])) _
          by_cases hc55_18 : p1 = (33 : Int32)
          · refine Rch.go (fun _ k => XS.icmpYes X0.here hx rfl (pc0 := 55) (pc' := 82) rfl (hb hby d2_55) rfl (teq hc55_18).1 (by decide) (by decide) k) ?_
            show Rch p e below (s₁.setTop (mkF m 82 #[.val (.int p1)] [])) _
            refine Rch.go (fun _ k => XS.iconst X0.here hx rfl (hb hby d2_82) k) ?_
            show Rch p e below (s₁.setTop (mkF m 83 #[.val (.int p1)] [(.int (1 : Int32))])) _
            have hv : own_exp p1 = (1 : Int32) := by simp only [own_exp, if_pos hc3_1, if_neg hc17_2, if_pos hc23_16, if_pos hc31_17, if_pos hc55_18]
            exact Rch.ret X0 hlk (fun h => by rw [hret] at h; cases h) (fun fs hr => retN X0 hx (t := .boolean) hret (by simp) (hb hby d2_83) hr) ⟨by rw [hv]; rfl, N0, e0⟩ (by decide) (by decide)
          · refine Rch.go (fun _ k => XS.icmpNo X0.here hx rfl (hb hby d2_55) rfl (feq hc55_18).1 k) ?_
            show Rch p e below (s₁.setTop (mkF m 58 #[.val (.int p1)] [])) _
            refine Rch.go (fun _ k => XS.iloadN X0.here hx rfl (hb hby d2_58) rfl  k) ?_
            show Rch p e below (s₁.setTop (mkF m 59 #[.val (.int p1)] [(.int p1)])) _
            refine Rch.go (fun _ k => XS.bipush X0.here hx rfl (hb hby d2_59) k) ?_
            show Rch p e below (s₁.setTop (mkF m 61 #[.val (.int p1)] [(.int (36 : Int32)), (.int p1)])) _
            by_cases hc61_19 : p1 = (36 : Int32)
            · refine Rch.go (fun _ k => XS.icmpYes X0.here hx rfl (pc0 := 61) (pc' := 82) rfl (hb hby d2_61) rfl (teq hc61_19).1 (by decide) (by decide) k) ?_
              show Rch p e below (s₁.setTop (mkF m 82 #[.val (.int p1)] [])) _
              refine Rch.go (fun _ k => XS.iconst X0.here hx rfl (hb hby d2_82) k) ?_
              show Rch p e below (s₁.setTop (mkF m 83 #[.val (.int p1)] [(.int (1 : Int32))])) _
              have hv : own_exp p1 = (1 : Int32) := by simp only [own_exp, if_pos hc3_1, if_neg hc17_2, if_pos hc23_16, if_pos hc31_17, if_neg hc55_18, if_pos hc61_19]
              exact Rch.ret X0 hlk (fun h => by rw [hret] at h; cases h) (fun fs hr => retN X0 hx (t := .boolean) hret (by simp) (hb hby d2_83) hr) ⟨by rw [hv]; rfl, N0, e0⟩ (by decide) (by decide)
            · refine Rch.go (fun _ k => XS.icmpNo X0.here hx rfl (hb hby d2_61) rfl (feq hc61_19).1 k) ?_
              show Rch p e below (s₁.setTop (mkF m 64 #[.val (.int p1)] [])) _
              refine Rch.go (fun _ k => XS.iloadN X0.here hx rfl (hb hby d2_64) rfl  k) ?_
              show Rch p e below (s₁.setTop (mkF m 65 #[.val (.int p1)] [(.int p1)])) _
              refine Rch.go (fun _ k => XS.bipush X0.here hx rfl (hb hby d2_65) k) ?_
              show Rch p e below (s₁.setTop (mkF m 67 #[.val (.int p1)] [(.int (61 : Int32)), (.int p1)])) _
              by_cases hc67_20 : p1 = (61 : Int32)
              · refine Rch.go (fun _ k => XS.icmpYes X0.here hx rfl (pc0 := 67) (pc' := 82) rfl (hb hby d2_67) rfl (teq hc67_20).1 (by decide) (by decide) k) ?_
                show Rch p e below (s₁.setTop (mkF m 82 #[.val (.int p1)] [])) _
                refine Rch.go (fun _ k => XS.iconst X0.here hx rfl (hb hby d2_82) k) ?_
                show Rch p e below (s₁.setTop (mkF m 83 #[.val (.int p1)] [(.int (1 : Int32))])) _
                have hv : own_exp p1 = (1 : Int32) := by simp only [own_exp, if_pos hc3_1, if_neg hc17_2, if_pos hc23_16, if_pos hc31_17, if_neg hc55_18, if_neg hc61_19, if_pos hc67_20]
                exact Rch.ret X0 hlk (fun h => by rw [hret] at h; cases h) (fun fs hr => retN X0 hx (t := .boolean) hret (by simp) (hb hby d2_83) hr) ⟨by rw [hv]; rfl, N0, e0⟩ (by decide) (by decide)
              · refine Rch.go (fun _ k => XS.icmpNo X0.here hx rfl (hb hby d2_67) rfl (feq hc67_20).1 k) ?_
                show Rch p e below (s₁.setTop (mkF m 70 #[.val (.int p1)] [])) _
                refine Rch.go (fun _ k => XS.iloadN X0.here hx rfl (hb hby d2_70) rfl  k) ?_
                show Rch p e below (s₁.setTop (mkF m 71 #[.val (.int p1)] [(.int p1)])) _
                refine Rch.go (fun _ k => XS.bipush X0.here hx rfl (hb hby d2_71) k) ?_
                show Rch p e below (s₁.setTop (mkF m 73 #[.val (.int p1)] [(.int (95 : Int32)), (.int p1)])) _
                by_cases hc73_21 : p1 = (95 : Int32)
                · refine Rch.go (fun _ k => XS.icmpYes X0.here hx rfl (pc0 := 73) (pc' := 82) rfl (hb hby d2_73) rfl (teq hc73_21).1 (by decide) (by decide) k) ?_
                  show Rch p e below (s₁.setTop (mkF m 82 #[.val (.int p1)] [])) _
                  refine Rch.go (fun _ k => XS.iconst X0.here hx rfl (hb hby d2_82) k) ?_
                  show Rch p e below (s₁.setTop (mkF m 83 #[.val (.int p1)] [(.int (1 : Int32))])) _
                  have hv : own_exp p1 = (1 : Int32) := by simp only [own_exp, if_pos hc3_1, if_neg hc17_2, if_pos hc23_16, if_pos hc31_17, if_neg hc55_18, if_neg hc61_19, if_neg hc67_20, if_pos hc73_21]
                  exact Rch.ret X0 hlk (fun h => by rw [hret] at h; cases h) (fun fs hr => retN X0 hx (t := .boolean) hret (by simp) (hb hby d2_83) hr) ⟨by rw [hv]; rfl, N0, e0⟩ (by decide) (by decide)
                · refine Rch.go (fun _ k => XS.icmpNo X0.here hx rfl (hb hby d2_73) rfl (feq hc73_21).1 k) ?_
                  show Rch p e below (s₁.setTop (mkF m 76 #[.val (.int p1)] [])) _
                  refine Rch.go (fun _ k => XS.iloadN X0.here hx rfl (hb hby d2_76) rfl  k) ?_
                  show Rch p e below (s₁.setTop (mkF m 77 #[.val (.int p1)] [(.int p1)])) _
                  refine Rch.go (fun _ k => XS.bipush X0.here hx rfl (hb hby d2_77) k) ?_
                  show Rch p e below (s₁.setTop (mkF m 79 #[.val (.int p1)] [(.int (126 : Int32)), (.int p1)])) _
                  by_cases hc79_22 : p1 = (126 : Int32)
                  · refine Rch.go (fun _ k => XS.icmpNo X0.here hx rfl (hb hby d2_79) rfl (teq hc79_22).2 k) ?_
                    show Rch p e below (s₁.setTop (mkF m 82 #[.val (.int p1)] [])) _
                    refine Rch.go (fun _ k => XS.iconst X0.here hx rfl (hb hby d2_82) k) ?_
                    show Rch p e below (s₁.setTop (mkF m 83 #[.val (.int p1)] [(.int (1 : Int32))])) _
                    have hv : own_exp p1 = (1 : Int32) := by simp only [own_exp, if_pos hc3_1, if_neg hc17_2, if_pos hc23_16, if_pos hc31_17, if_neg hc55_18, if_neg hc61_19, if_neg hc67_20, if_neg hc73_21, if_pos hc79_22]
                    exact Rch.ret X0 hlk (fun h => by rw [hret] at h; cases h) (fun fs hr => retN X0 hx (t := .boolean) hret (by simp) (hb hby d2_83) hr) ⟨by rw [hv]; rfl, N0, e0⟩ (by decide) (by decide)
                  · refine Rch.go (fun _ k => XS.icmpYes X0.here hx rfl (pc0 := 79) (pc' := 84) rfl (hb hby d2_79) rfl (feq hc79_22).2 (by decide) (by decide) k) ?_
                    show Rch p e below (s₁.setTop (mkF m 84 #[.val (.int p1)] [])) _
                    refine Rch.go (fun _ k => XS.iconst X0.here hx rfl (hb hby d2_84) k) ?_
                    show Rch p e below (s₁.setTop (mkF m 85 #[.val (.int p1)] [(.int (0 : Int32))])) _
                    have hv : own_exp p1 = (0 : Int32) := by simp only [own_exp, if_pos hc3_1, if_neg hc17_2, if_pos hc23_16, if_pos hc31_17, if_neg hc55_18, if_neg hc61_19, if_neg hc67_20, if_neg hc73_21, if_neg hc79_22]
                    exact Rch.ret X0 hlk (fun h => by rw [hret] at h; cases h) (fun fs hr => retN X0 hx (t := .boolean) hret (by simp) (hb hby d2_85) hr) ⟨by rw [hv]; rfl, N0, e0⟩ (by decide) (by decide)
        · refine Rch.go (fun _ k => XS.icmpNo X0.here hx rfl (hb hby d2_31) rfl (flt hc31_17).1 k) ?_
          show Rch p e below (s₁.setTop (mkF m 34 #[.val (.int p1)] [])) _
          refine Rch.go (fun _ k => XS.iloadN X0.here hx rfl (hb hby d2_34) rfl  k) ?_
          show Rch p e below (s₁.setTop (mkF m 35 #[.val (.int p1)] [(.int p1)])) _
          refine Rch.go (fun _ k => XS.bipush X0.here hx rfl (hb hby d2_35) k) ?_
          show Rch p e below (s₁.setTop (mkF m 37 #[.val (.int p1)] [(.int (59 : Int32)), (.int p1)])) _
          by_cases hc37_23 : (59 : Int32) < p1
          · refine Rch.go (fun _ k => XS.icmpYes X0.here hx rfl (pc0 := 37) (pc' := 52) rfl (hb hby d2_37) rfl (tlt hc37_23).2.2.1 (by decide) (by decide) k) ?_
            show Rch p e below (s₁.setTop (mkF m 52 #[.val (.int p1)] [])) _
            refine Rch.go (fun _ k => XS.iloadN X0.here hx rfl (hb hby d2_52) rfl  k) ?_
            show Rch p e below (s₁.setTop (mkF m 53 #[.val (.int p1)] [(.int p1)])) _
            refine Rch.go (fun _ k => XS.bipush X0.here hx rfl (hb hby d2_53) k) ?_
            show Rch p e below (s₁.setTop (mkF m 55 #[.val (.int p1)] [(.int (33 : Int32)), (.int p1)])) _
            by_cases hc55_24 : p1 = (33 : Int32)
            · refine Rch.go (fun _ k => XS.icmpYes X0.here hx rfl (pc0 := 55) (pc' := 82) rfl (hb hby d2_55) rfl (teq hc55_24).1 (by decide) (by decide) k) ?_
              show Rch p e below (s₁.setTop (mkF m 82 #[.val (.int p1)] [])) _
              refine Rch.go (fun _ k => XS.iconst X0.here hx rfl (hb hby d2_82) k) ?_
              show Rch p e below (s₁.setTop (mkF m 83 #[.val (.int p1)] [(.int (1 : Int32))])) _
              have hv : own_exp p1 = (1 : Int32) := by simp only [own_exp, if_pos hc3_1, if_neg hc17_2, if_pos hc23_16, if_neg hc31_17, if_pos hc37_23, if_pos hc55_24]
              exact Rch.ret X0 hlk (fun h => by rw [hret] at h; cases h) (fun fs hr => retN X0 hx (t := .boolean) hret (by simp) (hb hby d2_83) hr) ⟨by rw [hv]; rfl, N0, e0⟩ (by decide) (by decide)
            · refine Rch.go (fun _ k => XS.icmpNo X0.here hx rfl (hb hby d2_55) rfl (feq hc55_24).1 k) ?_
              show Rch p e below (s₁.setTop (mkF m 58 #[.val (.int p1)] [])) _
              refine Rch.go (fun _ k => XS.iloadN X0.here hx rfl (hb hby d2_58) rfl  k) ?_
              show Rch p e below (s₁.setTop (mkF m 59 #[.val (.int p1)] [(.int p1)])) _
              refine Rch.go (fun _ k => XS.bipush X0.here hx rfl (hb hby d2_59) k) ?_
              show Rch p e below (s₁.setTop (mkF m 61 #[.val (.int p1)] [(.int (36 : Int32)), (.int p1)])) _
              by_cases hc61_25 : p1 = (36 : Int32)
              · refine Rch.go (fun _ k => XS.icmpYes X0.here hx rfl (pc0 := 61) (pc' := 82) rfl (hb hby d2_61) rfl (teq hc61_25).1 (by decide) (by decide) k) ?_
                show Rch p e below (s₁.setTop (mkF m 82 #[.val (.int p1)] [])) _
                refine Rch.go (fun _ k => XS.iconst X0.here hx rfl (hb hby d2_82) k) ?_
                show Rch p e below (s₁.setTop (mkF m 83 #[.val (.int p1)] [(.int (1 : Int32))])) _
                have hv : own_exp p1 = (1 : Int32) := by simp only [own_exp, if_pos hc3_1, if_neg hc17_2, if_pos hc23_16, if_neg hc31_17, if_pos hc37_23, if_neg hc55_24, if_pos hc61_25]
                exact Rch.ret X0 hlk (fun h => by rw [hret] at h; cases h) (fun fs hr => retN X0 hx (t := .boolean) hret (by simp) (hb hby d2_83) hr) ⟨by rw [hv]; rfl, N0, e0⟩ (by decide) (by decide)
              · refine Rch.go (fun _ k => XS.icmpNo X0.here hx rfl (hb hby d2_61) rfl (feq hc61_25).1 k) ?_
                show Rch p e below (s₁.setTop (mkF m 64 #[.val (.int p1)] [])) _
                refine Rch.go (fun _ k => XS.iloadN X0.here hx rfl (hb hby d2_64) rfl  k) ?_
                show Rch p e below (s₁.setTop (mkF m 65 #[.val (.int p1)] [(.int p1)])) _
                refine Rch.go (fun _ k => XS.bipush X0.here hx rfl (hb hby d2_65) k) ?_
                show Rch p e below (s₁.setTop (mkF m 67 #[.val (.int p1)] [(.int (61 : Int32)), (.int p1)])) _
                by_cases hc67_26 : p1 = (61 : Int32)
                · refine Rch.go (fun _ k => XS.icmpYes X0.here hx rfl (pc0 := 67) (pc' := 82) rfl (hb hby d2_67) rfl (teq hc67_26).1 (by decide) (by decide) k) ?_
                  show Rch p e below (s₁.setTop (mkF m 82 #[.val (.int p1)] [])) _
                  refine Rch.go (fun _ k => XS.iconst X0.here hx rfl (hb hby d2_82) k) ?_
                  show Rch p e below (s₁.setTop (mkF m 83 #[.val (.int p1)] [(.int (1 : Int32))])) _
                  have hv : own_exp p1 = (1 : Int32) := by simp only [own_exp, if_pos hc3_1, if_neg hc17_2, if_pos hc23_16, if_neg hc31_17, if_pos hc37_23, if_neg hc55_24, if_neg hc61_25, if_pos hc67_26]
                  exact Rch.ret X0 hlk (fun h => by rw [hret] at h; cases h) (fun fs hr => retN X0 hx (t := .boolean) hret (by simp) (hb hby d2_83) hr) ⟨by rw [hv]; rfl, N0, e0⟩ (by decide) (by decide)
                · refine Rch.go (fun _ k => XS.icmpNo X0.here hx rfl (hb hby d2_67) rfl (feq hc67_26).1 k) ?_
                  show Rch p e below (s₁.setTop (mkF m 70 #[.val (.int p1)] [])) _
                  refine Rch.go (fun _ k => XS.iloadN X0.here hx rfl (hb hby d2_70) rfl  k) ?_
                  show Rch p e below (s₁.setTop (mkF m 71 #[.val (.int p1)] [(.int p1)])) _
                  refine Rch.go (fun _ k => XS.bipush X0.here hx rfl (hb hby d2_71) k) ?_
                  show Rch p e below (s₁.setTop (mkF m 73 #[.val (.int p1)] [(.int (95 : Int32)), (.int p1)])) _
                  by_cases hc73_27 : p1 = (95 : Int32)
                  · refine Rch.go (fun _ k => XS.icmpYes X0.here hx rfl (pc0 := 73) (pc' := 82) rfl (hb hby d2_73) rfl (teq hc73_27).1 (by decide) (by decide) k) ?_
                    show Rch p e below (s₁.setTop (mkF m 82 #[.val (.int p1)] [])) _
                    refine Rch.go (fun _ k => XS.iconst X0.here hx rfl (hb hby d2_82) k) ?_
                    show Rch p e below (s₁.setTop (mkF m 83 #[.val (.int p1)] [(.int (1 : Int32))])) _
                    have hv : own_exp p1 = (1 : Int32) := by simp only [own_exp, if_pos hc3_1, if_neg hc17_2, if_pos hc23_16, if_neg hc31_17, if_pos hc37_23, if_neg hc55_24, if_neg hc61_25, if_neg hc67_26, if_pos hc73_27]
                    exact Rch.ret X0 hlk (fun h => by rw [hret] at h; cases h) (fun fs hr => retN X0 hx (t := .boolean) hret (by simp) (hb hby d2_83) hr) ⟨by rw [hv]; rfl, N0, e0⟩ (by decide) (by decide)
                  · refine Rch.go (fun _ k => XS.icmpNo X0.here hx rfl (hb hby d2_73) rfl (feq hc73_27).1 k) ?_
                    show Rch p e below (s₁.setTop (mkF m 76 #[.val (.int p1)] [])) _
                    refine Rch.go (fun _ k => XS.iloadN X0.here hx rfl (hb hby d2_76) rfl  k) ?_
                    show Rch p e below (s₁.setTop (mkF m 77 #[.val (.int p1)] [(.int p1)])) _
                    refine Rch.go (fun _ k => XS.bipush X0.here hx rfl (hb hby d2_77) k) ?_
                    show Rch p e below (s₁.setTop (mkF m 79 #[.val (.int p1)] [(.int (126 : Int32)), (.int p1)])) _
                    by_cases hc79_28 : p1 = (126 : Int32)
                    · refine Rch.go (fun _ k => XS.icmpNo X0.here hx rfl (hb hby d2_79) rfl (teq hc79_28).2 k) ?_
                      show Rch p e below (s₁.setTop (mkF m 82 #[.val (.int p1)] [])) _
                      refine Rch.go (fun _ k => XS.iconst X0.here hx rfl (hb hby d2_82) k) ?_
                      show Rch p e below (s₁.setTop (mkF m 83 #[.val (.int p1)] [(.int (1 : Int32))])) _
                      have hv : own_exp p1 = (1 : Int32) := by simp only [own_exp, if_pos hc3_1, if_neg hc17_2, if_pos hc23_16, if_neg hc31_17, if_pos hc37_23, if_neg hc55_24, if_neg hc61_25, if_neg hc67_26, if_neg hc73_27, if_pos hc79_28]
                      exact Rch.ret X0 hlk (fun h => by rw [hret] at h; cases h) (fun fs hr => retN X0 hx (t := .boolean) hret (by simp) (hb hby d2_83) hr) ⟨by rw [hv]; rfl, N0, e0⟩ (by decide) (by decide)
                    · refine Rch.go (fun _ k => XS.icmpYes X0.here hx rfl (pc0 := 79) (pc' := 84) rfl (hb hby d2_79) rfl (feq hc79_28).2 (by decide) (by decide) k) ?_
                      show Rch p e below (s₁.setTop (mkF m 84 #[.val (.int p1)] [])) _
                      refine Rch.go (fun _ k => XS.iconst X0.here hx rfl (hb hby d2_84) k) ?_
                      show Rch p e below (s₁.setTop (mkF m 85 #[.val (.int p1)] [(.int (0 : Int32))])) _
                      have hv : own_exp p1 = (0 : Int32) := by simp only [own_exp, if_pos hc3_1, if_neg hc17_2, if_pos hc23_16, if_neg hc31_17, if_pos hc37_23, if_neg hc55_24, if_neg hc61_25, if_neg hc67_26, if_neg hc73_27, if_neg hc79_28]
                      exact Rch.ret X0 hlk (fun h => by rw [hret] at h; cases h) (fun fs hr => retN X0 hx (t := .boolean) hret (by simp) (hb hby d2_85) hr) ⟨by rw [hv]; rfl, N0, e0⟩ (by decide) (by decide)
          · refine Rch.go (fun _ k => XS.icmpNo X0.here hx rfl (hb hby d2_37) rfl (flt hc37_23).2.2.1 k) ?_
            show Rch p e below (s₁.setTop (mkF m 40 #[.val (.int p1)] [])) _
            refine Rch.go (fun _ k => XS.iloadN X0.here hx rfl (hb hby d2_40) rfl  k) ?_
            show Rch p e below (s₁.setTop (mkF m 41 #[.val (.int p1)] [(.int p1)])) _
            refine Rch.go (fun _ k => XS.bipush X0.here hx rfl (hb hby d2_41) k) ?_
            show Rch p e below (s₁.setTop (mkF m 43 #[.val (.int p1)] [(.int (47 : Int32)), (.int p1)])) _
            by_cases hc43_29 : p1 = (47 : Int32)
            · refine Rch.go (fun _ k => XS.icmpYes X0.here hx rfl (pc0 := 43) (pc' := 50) rfl (hb hby d2_43) rfl (teq hc43_29).1 (by decide) (by decide) k) ?_
              show Rch p e below (s₁.setTop (mkF m 50 #[.val (.int p1)] [])) _
              refine Rch.go (fun _ k => XS.iconst X0.here hx rfl (hb hby d2_50) k) ?_
              show Rch p e below (s₁.setTop (mkF m 51 #[.val (.int p1)] [(.int (0 : Int32))])) _
              have hv : own_exp p1 = (0 : Int32) := by simp only [own_exp, if_pos hc3_1, if_neg hc17_2, if_pos hc23_16, if_neg hc31_17, if_neg hc37_23, if_pos hc43_29]
              exact Rch.ret X0 hlk (fun h => by rw [hret] at h; cases h) (fun fs hr => retN X0 hx (t := .boolean) hret (by simp) (hb hby d2_51) hr) ⟨by rw [hv]; rfl, N0, e0⟩ (by decide) (by decide)
            · refine Rch.go (fun _ k => XS.icmpNo X0.here hx rfl (hb hby d2_43) rfl (feq hc43_29).1 k) ?_
              show Rch p e below (s₁.setTop (mkF m 46 #[.val (.int p1)] [])) _
              refine Rch.go (fun _ k => XS.iconst X0.here hx rfl (hb hby d2_46) k) ?_
              show Rch p e below (s₁.setTop (mkF m 47 #[.val (.int p1)] [(.int (1 : Int32))])) _
              refine Rch.go (fun _ k => XS.goto X0.here hx rfl (pc0 := 47) (pc' := 51) rfl (hb hby d2_47) (by decide) (by decide) k) ?_
              show Rch p e below (s₁.setTop (mkF m 51 #[.val (.int p1)] [(.int (1 : Int32))])) _
              have hv : own_exp p1 = (1 : Int32) := by simp only [own_exp, if_pos hc3_1, if_neg hc17_2, if_pos hc23_16, if_neg hc31_17, if_neg hc37_23, if_neg hc43_29]
              exact Rch.ret X0 hlk (fun h => by rw [hret] at h; cases h) (fun fs hr => retN X0 hx (t := .boolean) hret (by simp) (hb hby d2_51) hr) ⟨by rw [hv]; rfl, N0, e0⟩ (by decide) (by decide)
      · refine Rch.go (fun _ k => XS.icmpNo X0.here hx rfl (hb hby d2_23) rfl (flt hc23_16).2.2.1 k) ?_
        show Rch p e below (s₁.setTop (mkF m 26 #[.val (.int p1)] [])) _
        refine Rch.go (fun _ k => XS.iconst X0.here hx rfl (hb hby d2_26) k) ?_
        show Rch p e below (s₁.setTop (mkF m 27 #[.val (.int p1)] [(.int (1 : Int32))])) _
        have hv : own_exp p1 = (1 : Int32) := by simp only [own_exp, if_pos hc3_1, if_neg hc17_2, if_neg hc23_16]
        exact Rch.ret X0 hlk (fun h => by rw [hret] at h; cases h) (fun fs hr => retN X0 hx (t := .boolean) hret (by simp) (hb hby d2_27) hr) ⟨by rw [hv]; rfl, N0, e0⟩ (by decide) (by decide)
  · refine Rch.go (fun _ k => XS.icmpNo X0.here hx rfl (hb hby d2_3) rfl (flt hc3_1).1 k) ?_
    show Rch p e below (s₁.setTop (mkF m 6 #[.val (.int p1)] [])) _
    refine Rch.go (fun _ k => XS.iloadN X0.here hx rfl (hb hby d2_6) rfl  k) ?_
    show Rch p e below (s₁.setTop (mkF m 7 #[.val (.int p1)] [(.int p1)])) _
    refine Rch.go (fun _ k => XS.bipush X0.here hx rfl (hb hby d2_7) k) ?_
    show Rch p e below (s₁.setTop (mkF m 9 #[.val (.int p1)] [(.int (122 : Int32)), (.int p1)])) _
    by_cases hc9_30 : (122 : Int32) < p1
    · refine Rch.go (fun _ k => XS.icmpYes X0.here hx rfl (pc0 := 9) (pc' := 14) rfl (hb hby d2_9) rfl (tlt hc9_30).2.2.1 (by decide) (by decide) k) ?_
      show Rch p e below (s₁.setTop (mkF m 14 #[.val (.int p1)] [])) _
      refine Rch.go (fun _ k => XS.iloadN X0.here hx rfl (hb hby d2_14) rfl  k) ?_
      show Rch p e below (s₁.setTop (mkF m 15 #[.val (.int p1)] [(.int p1)])) _
      refine Rch.go (fun _ k => XS.bipush X0.here hx rfl (hb hby d2_15) k) ?_
      show Rch p e below (s₁.setTop (mkF m 17 #[.val (.int p1)] [(.int (64 : Int32)), (.int p1)])) _
      by_cases hc17_31 : p1 < (64 : Int32)
      · refine Rch.go (fun _ k => XS.icmpYes X0.here hx rfl (pc0 := 17) (pc' := 28) rfl (hb hby d2_17) rfl (tlt hc17_31).1 (by decide) (by decide) k) ?_
        show Rch p e below (s₁.setTop (mkF m 28 #[.val (.int p1)] [])) _
        refine Rch.go (fun _ k => XS.iloadN X0.here hx rfl (hb hby d2_28) rfl  k) ?_
        show Rch p e below (s₁.setTop (mkF m 29 #[.val (.int p1)] [(.int p1)])) _
        refine Rch.go (fun _ k => XS.bipush X0.here hx rfl (hb hby d2_29) k) ?_
        show Rch p e below (s₁.setTop (mkF m 31 #[.val (.int p1)] [(.int (38 : Int32)), (.int p1)])) _
        by_cases hc31_32 : p1 < (38 : Int32)
        · refine Rch.go (fun _ k => XS.icmpYes X0.here hx rfl (pc0 := 31) (pc' := 52) rfl (hb hby d2_31) rfl (tlt hc31_32).1 (by decide) (by decide) k) ?_
          show Rch p e below (s₁.setTop (mkF m 52 #[.val (.int p1)] [])) _
          refine Rch.go (fun _ k => XS.iloadN X0.here hx rfl (hb hby d2_52) rfl  k) ?_
          show Rch p e below (s₁.setTop (mkF m 53 #[.val (.int p1)] [(.int p1)])) _
          refine Rch.go (fun _ k => XS.bipush X0.here hx rfl (hb hby d2_53) k) ?_
          show Rch p e below (s₁.setTop (mkF m 55 #[.val (.int p1)] [(.int (33 : Int32)), (.int p1)])) _
          by_cases hc55_33 : p1 = (33 : Int32)
          · refine Rch.go (fun _ k => XS.icmpYes X0.here hx rfl (pc0 := 55) (pc' := 82) rfl (hb hby d2_55) rfl (teq hc55_33).1 (by decide) (by decide) k) ?_
            show Rch p e below (s₁.setTop (mkF m 82 #[.val (.int p1)] [])) _
            refine Rch.go (fun _ k => XS.iconst X0.here hx rfl (hb hby d2_82) k) ?_
            show Rch p e below (s₁.setTop (mkF m 83 #[.val (.int p1)] [(.int (1 : Int32))])) _
            have hv : own_exp p1 = (1 : Int32) := by simp only [own_exp, if_neg hc3_1, if_pos hc9_30, if_pos hc17_31, if_pos hc31_32, if_pos hc55_33]
            exact Rch.ret X0 hlk (fun h => by rw [hret] at h; cases h) (fun fs hr => retN X0 hx (t := .boolean) hret (by simp) (hb hby d2_83) hr) ⟨by rw [hv]; rfl, N0, e0⟩ (by decide) (by decide)
          · refine Rch.go (fun _ k => XS.icmpNo X0.here hx rfl (hb hby d2_55) rfl (feq hc55_33).1 k) ?_
            show Rch p e below (s₁.setTop (mkF m 58 #[.val (.int p1)] [])) _
            refine Rch.go (fun _ k => XS.iloadN X0.here hx rfl (hb hby d2_58) rfl  k) ?_
            show Rch p e below (s₁.setTop (mkF m 59 #[.val (.int p1)] [(.int p1)])) _
            refine Rch.go (fun _ k => XS.bipush X0.here hx rfl (hb hby d2_59) k) ?_
            show Rch p e below (s₁.setTop (mkF m 61 #[.val (.int p1)] [(.int (36 : Int32)), (.int p1)])) _
            by_cases hc61_34 : p1 = (36 : Int32)
            · refine Rch.go (fun _ k => XS.icmpYes X0.here hx rfl (pc0 := 61) (pc' := 82) rfl (hb hby d2_61) rfl (teq hc61_34).1 (by decide) (by decide) k) ?_
              show Rch p e below (s₁.setTop (mkF m 82 #[.val (.int p1)] [])) _
              refine Rch.go (fun _ k => XS.iconst X0.here hx rfl (hb hby d2_82) k) ?_
              show Rch p e below (s₁.setTop (mkF m 83 #[.val (.int p1)] [(.int (1 : Int32))])) _
              have hv : own_exp p1 = (1 : Int32) := by simp only [own_exp, if_neg hc3_1, if_pos hc9_30, if_pos hc17_31, if_pos hc31_32, if_neg hc55_33, if_pos hc61_34]
              exact Rch.ret X0 hlk (fun h => by rw [hret] at h; cases h) (fun fs hr => retN X0 hx (t := .boolean) hret (by simp) (hb hby d2_83) hr) ⟨by rw [hv]; rfl, N0, e0⟩ (by decide) (by decide)
            · refine Rch.go (fun _ k => XS.icmpNo X0.here hx rfl (hb hby d2_61) rfl (feq hc61_34).1 k) ?_
              show Rch p e below (s₁.setTop (mkF m 64 #[.val (.int p1)] [])) _
              refine Rch.go (fun _ k => XS.iloadN X0.here hx rfl (hb hby d2_64) rfl  k) ?_
              show Rch p e below (s₁.setTop (mkF m 65 #[.val (.int p1)] [(.int p1)])) _
              refine Rch.go (fun _ k => XS.bipush X0.here hx rfl (hb hby d2_65) k) ?_
              show Rch p e below (s₁.setTop (mkF m 67 #[.val (.int p1)] [(.int (61 : Int32)), (.int p1)])) _
              by_cases hc67_35 : p1 = (61 : Int32)
              · refine Rch.go (fun _ k => XS.icmpYes X0.here hx rfl (pc0 := 67) (pc' := 82) rfl (hb hby d2_67) rfl (teq hc67_35).1 (by decide) (by decide) k) ?_
                show Rch p e below (s₁.setTop (mkF m 82 #[.val (.int p1)] [])) _
                refine Rch.go (fun _ k => XS.iconst X0.here hx rfl (hb hby d2_82) k) ?_
                show Rch p e below (s₁.setTop (mkF m 83 #[.val (.int p1)] [(.int (1 : Int32))])) _
                have hv : own_exp p1 = (1 : Int32) := by simp only [own_exp, if_neg hc3_1, if_pos hc9_30, if_pos hc17_31, if_pos hc31_32, if_neg hc55_33, if_neg hc61_34, if_pos hc67_35]
                exact Rch.ret X0 hlk (fun h => by rw [hret] at h; cases h) (fun fs hr => retN X0 hx (t := .boolean) hret (by simp) (hb hby d2_83) hr) ⟨by rw [hv]; rfl, N0, e0⟩ (by decide) (by decide)
              · refine Rch.go (fun _ k => XS.icmpNo X0.here hx rfl (hb hby d2_67) rfl (feq hc67_35).1 k) ?_
                show Rch p e below (s₁.setTop (mkF m 70 #[.val (.int p1)] [])) _
                refine Rch.go (fun _ k => XS.iloadN X0.here hx rfl (hb hby d2_70) rfl  k) ?_
                show Rch p e below (s₁.setTop (mkF m 71 #[.val (.int p1)] [(.int p1)])) _
                refine Rch.go (fun _ k => XS.bipush X0.here hx rfl (hb hby d2_71) k) ?_
                show Rch p e below (s₁.setTop (mkF m 73 #[.val (.int p1)] [(.int (95 : Int32)), (.int p1)])) _
                by_cases hc73_36 : p1 = (95 : Int32)
                · refine Rch.go (fun _ k => XS.icmpYes X0.here hx rfl (pc0 := 73) (pc' := 82) rfl (hb hby d2_73) rfl (teq hc73_36).1 (by decide) (by decide) k) ?_
                  show Rch p e below (s₁.setTop (mkF m 82 #[.val (.int p1)] [])) _
                  refine Rch.go (fun _ k => XS.iconst X0.here hx rfl (hb hby d2_82) k) ?_
                  show Rch p e below (s₁.setTop (mkF m 83 #[.val (.int p1)] [(.int (1 : Int32))])) _
                  have hv : own_exp p1 = (1 : Int32) := by simp only [own_exp, if_neg hc3_1, if_pos hc9_30, if_pos hc17_31, if_pos hc31_32, if_neg hc55_33, if_neg hc61_34, if_neg hc67_35, if_pos hc73_36]
                  exact Rch.ret X0 hlk (fun h => by rw [hret] at h; cases h) (fun fs hr => retN X0 hx (t := .boolean) hret (by simp) (hb hby d2_83) hr) ⟨by rw [hv]; rfl, N0, e0⟩ (by decide) (by decide)
                · refine Rch.go (fun _ k => XS.icmpNo X0.here hx rfl (hb hby d2_73) rfl (feq hc73_36).1 k) ?_
                  show Rch p e below (s₁.setTop (mkF m 76 #[.val (.int p1)] [])) _
                  refine Rch.go (fun _ k => XS.iloadN X0.here hx rfl (hb hby d2_76) rfl  k) ?_
                  show Rch p e below (s₁.setTop (mkF m 77 #[.val (.int p1)] [(.int p1)])) _
                  refine Rch.go (fun _ k => XS.bipush X0.here hx rfl (hb hby d2_77) k) ?_
                  show Rch p e below (s₁.setTop (mkF m 79 #[.val (.int p1)] [(.int (126 : Int32)), (.int p1)])) _
                  by_cases hc79_37 : p1 = (126 : Int32)
                  · refine Rch.go (fun _ k => XS.icmpNo X0.here hx rfl (hb hby d2_79) rfl (teq hc79_37).2 k) ?_
                    show Rch p e below (s₁.setTop (mkF m 82 #[.val (.int p1)] [])) _
                    refine Rch.go (fun _ k => XS.iconst X0.here hx rfl (hb hby d2_82) k) ?_
                    show Rch p e below (s₁.setTop (mkF m 83 #[.val (.int p1)] [(.int (1 : Int32))])) _
                    have hv : own_exp p1 = (1 : Int32) := by simp only [own_exp, if_neg hc3_1, if_pos hc9_30, if_pos hc17_31, if_pos hc31_32, if_neg hc55_33, if_neg hc61_34, if_neg hc67_35, if_neg hc73_36, if_pos hc79_37]
                    exact Rch.ret X0 hlk (fun h => by rw [hret] at h; cases h) (fun fs hr => retN X0 hx (t := .boolean) hret (by simp) (hb hby d2_83) hr) ⟨by rw [hv]; rfl, N0, e0⟩ (by decide) (by decide)
                  · refine Rch.go (fun _ k => XS.icmpYes X0.here hx rfl (pc0 := 79) (pc' := 84) rfl (hb hby d2_79) rfl (feq hc79_37).2 (by decide) (by decide) k) ?_
                    show Rch p e below (s₁.setTop (mkF m 84 #[.val (.int p1)] [])) _
                    refine Rch.go (fun _ k => XS.iconst X0.here hx rfl (hb hby d2_84) k) ?_
                    show Rch p e below (s₁.setTop (mkF m 85 #[.val (.int p1)] [(.int (0 : Int32))])) _
                    have hv : own_exp p1 = (0 : Int32) := by simp only [own_exp, if_neg hc3_1, if_pos hc9_30, if_pos hc17_31, if_pos hc31_32, if_neg hc55_33, if_neg hc61_34, if_neg hc67_35, if_neg hc73_36, if_neg hc79_37]
                    exact Rch.ret X0 hlk (fun h => by rw [hret] at h; cases h) (fun fs hr => retN X0 hx (t := .boolean) hret (by simp) (hb hby d2_85) hr) ⟨by rw [hv]; rfl, N0, e0⟩ (by decide) (by decide)
        · refine Rch.go (fun _ k => XS.icmpNo X0.here hx rfl (hb hby d2_31) rfl (flt hc31_32).1 k) ?_
          show Rch p e below (s₁.setTop (mkF m 34 #[.val (.int p1)] [])) _
          refine Rch.go (fun _ k => XS.iloadN X0.here hx rfl (hb hby d2_34) rfl  k) ?_
          show Rch p e below (s₁.setTop (mkF m 35 #[.val (.int p1)] [(.int p1)])) _
          refine Rch.go (fun _ k => XS.bipush X0.here hx rfl (hb hby d2_35) k) ?_
          show Rch p e below (s₁.setTop (mkF m 37 #[.val (.int p1)] [(.int (59 : Int32)), (.int p1)])) _
          by_cases hc37_38 : (59 : Int32) < p1
          · refine Rch.go (fun _ k => XS.icmpYes X0.here hx rfl (pc0 := 37) (pc' := 52) rfl (hb hby d2_37) rfl (tlt hc37_38).2.2.1 (by decide) (by decide) k) ?_
            show Rch p e below (s₁.setTop (mkF m 52 #[.val (.int p1)] [])) _
            refine Rch.go (fun _ k => XS.iloadN X0.here hx rfl (hb hby d2_52) rfl  k) ?_
            show Rch p e below (s₁.setTop (mkF m 53 #[.val (.int p1)] [(.int p1)])) _
            refine Rch.go (fun _ k => XS.bipush X0.here hx rfl (hb hby d2_53) k) ?_
            show Rch p e below (s₁.setTop (mkF m 55 #[.val (.int p1)] [(.int (33 : Int32)), (.int p1)])) _
            by_cases hc55_39 : p1 = (33 : Int32)
            · refine Rch.go (fun _ k => XS.icmpYes X0.here hx rfl (pc0 := 55) (pc' := 82) rfl (hb hby d2_55) rfl (teq hc55_39).1 (by decide) (by decide) k) ?_
              show Rch p e below (s₁.setTop (mkF m 82 #[.val (.int p1)] [])) _
              refine Rch.go (fun _ k => XS.iconst X0.here hx rfl (hb hby d2_82) k) ?_
              show Rch p e below (s₁.setTop (mkF m 83 #[.val (.int p1)] [(.int (1 : Int32))])) _
              have hv : own_exp p1 = (1 : Int32) := by simp only [own_exp, if_neg hc3_1, if_pos hc9_30, if_pos hc17_31, if_neg hc31_32, if_pos hc37_38, if_pos hc55_39]
              exact Rch.ret X0 hlk (fun h => by rw [hret] at h; cases h) (fun fs hr => retN X0 hx (t := .boolean) hret (by simp) (hb hby d2_83) hr) ⟨by rw [hv]; rfl, N0, e0⟩ (by decide) (by decide)
            · refine Rch.go (fun _ k => XS.icmpNo X0.here hx rfl (hb hby d2_55) rfl (feq hc55_39).1 k) ?_
              show Rch p e below (s₁.setTop (mkF m 58 #[.val (.int p1)] [])) _
              refine Rch.go (fun _ k => XS.iloadN X0.here hx rfl (hb hby d2_58) rfl  k) ?_
              show Rch p e below (s₁.setTop (mkF m 59 #[.val (.int p1)] [(.int p1)])) _
              refine Rch.go (fun _ k => XS.bipush X0.here hx rfl (hb hby d2_59) k) ?_
              show Rch p e below (s₁.setTop (mkF m 61 #[.val (.int p1)] [(.int (36 : Int32)), (.int p1)])) _
              by_cases hc61_40 : p1 = (36 : Int32)
              · refine Rch.go (fun _ k => XS.icmpYes X0.here hx rfl (pc0 := 61) (pc' := 82) rfl (hb hby d2_61) rfl (teq hc61_40).1 (by decide) (by decide) k) ?_
                show Rch p e below (s₁.setTop (mkF m 82 #[.val (.int p1)] [])) _
                refine Rch.go (fun _ k => XS.iconst X0.here hx rfl (hb hby d2_82) k) ?_
                show Rch p e below (s₁.setTop (mkF m 83 #[.val (.int p1)] [(.int (1 : Int32))])) _
                have hv : own_exp p1 = (1 : Int32) := by simp only [own_exp, if_neg hc3_1, if_pos hc9_30, if_pos hc17_31, if_neg hc31_32, if_pos hc37_38, if_neg hc55_39, if_pos hc61_40]
                exact Rch.ret X0 hlk (fun h => by rw [hret] at h; cases h) (fun fs hr => retN X0 hx (t := .boolean) hret (by simp) (hb hby d2_83) hr) ⟨by rw [hv]; rfl, N0, e0⟩ (by decide) (by decide)
              · refine Rch.go (fun _ k => XS.icmpNo X0.here hx rfl (hb hby d2_61) rfl (feq hc61_40).1 k) ?_
                show Rch p e below (s₁.setTop (mkF m 64 #[.val (.int p1)] [])) _
                refine Rch.go (fun _ k => XS.iloadN X0.here hx rfl (hb hby d2_64) rfl  k) ?_
                show Rch p e below (s₁.setTop (mkF m 65 #[.val (.int p1)] [(.int p1)])) _
                refine Rch.go (fun _ k => XS.bipush X0.here hx rfl (hb hby d2_65) k) ?_
                show Rch p e below (s₁.setTop (mkF m 67 #[.val (.int p1)] [(.int (61 : Int32)), (.int p1)])) _
                by_cases hc67_41 : p1 = (61 : Int32)
                · refine Rch.go (fun _ k => XS.icmpYes X0.here hx rfl (pc0 := 67) (pc' := 82) rfl (hb hby d2_67) rfl (teq hc67_41).1 (by decide) (by decide) k) ?_
                  show Rch p e below (s₁.setTop (mkF m 82 #[.val (.int p1)] [])) _
                  refine Rch.go (fun _ k => XS.iconst X0.here hx rfl (hb hby d2_82) k) ?_
                  show Rch p e below (s₁.setTop (mkF m 83 #[.val (.int p1)] [(.int (1 : Int32))])) _
                  have hv : own_exp p1 = (1 : Int32) := by simp only [own_exp, if_neg hc3_1, if_pos hc9_30, if_pos hc17_31, if_neg hc31_32, if_pos hc37_38, if_neg hc55_39, if_neg hc61_40, if_pos hc67_41]
                  exact Rch.ret X0 hlk (fun h => by rw [hret] at h; cases h) (fun fs hr => retN X0 hx (t := .boolean) hret (by simp) (hb hby d2_83) hr) ⟨by rw [hv]; rfl, N0, e0⟩ (by decide) (by decide)
                · refine Rch.go (fun _ k => XS.icmpNo X0.here hx rfl (hb hby d2_67) rfl (feq hc67_41).1 k) ?_
                  show Rch p e below (s₁.setTop (mkF m 70 #[.val (.int p1)] [])) _
                  refine Rch.go (fun _ k => XS.iloadN X0.here hx rfl (hb hby d2_70) rfl  k) ?_
                  show Rch p e below (s₁.setTop (mkF m 71 #[.val (.int p1)] [(.int p1)])) _
                  refine Rch.go (fun _ k => XS.bipush X0.here hx rfl (hb hby d2_71) k) ?_
                  show Rch p e below (s₁.setTop (mkF m 73 #[.val (.int p1)] [(.int (95 : Int32)), (.int p1)])) _
                  by_cases hc73_42 : p1 = (95 : Int32)
                  · refine Rch.go (fun _ k => XS.icmpYes X0.here hx rfl (pc0 := 73) (pc' := 82) rfl (hb hby d2_73) rfl (teq hc73_42).1 (by decide) (by decide) k) ?_
                    show Rch p e below (s₁.setTop (mkF m 82 #[.val (.int p1)] [])) _
                    refine Rch.go (fun _ k => XS.iconst X0.here hx rfl (hb hby d2_82) k) ?_
                    show Rch p e below (s₁.setTop (mkF m 83 #[.val (.int p1)] [(.int (1 : Int32))])) _
                    have hv : own_exp p1 = (1 : Int32) := by simp only [own_exp, if_neg hc3_1, if_pos hc9_30, if_pos hc17_31, if_neg hc31_32, if_pos hc37_38, if_neg hc55_39, if_neg hc61_40, if_neg hc67_41, if_pos hc73_42]
                    exact Rch.ret X0 hlk (fun h => by rw [hret] at h; cases h) (fun fs hr => retN X0 hx (t := .boolean) hret (by simp) (hb hby d2_83) hr) ⟨by rw [hv]; rfl, N0, e0⟩ (by decide) (by decide)
                  · refine Rch.go (fun _ k => XS.icmpNo X0.here hx rfl (hb hby d2_73) rfl (feq hc73_42).1 k) ?_
                    show Rch p e below (s₁.setTop (mkF m 76 #[.val (.int p1)] [])) _
                    refine Rch.go (fun _ k => XS.iloadN X0.here hx rfl (hb hby d2_76) rfl  k) ?_
                    show Rch p e below (s₁.setTop (mkF m 77 #[.val (.int p1)] [(.int p1)])) _
                    refine Rch.go (fun _ k => XS.bipush X0.here hx rfl (hb hby d2_77) k) ?_
                    show Rch p e below (s₁.setTop (mkF m 79 #[.val (.int p1)] [(.int (126 : Int32)), (.int p1)])) _
                    by_cases hc79_43 : p1 = (126 : Int32)
                    · refine Rch.go (fun _ k => XS.icmpNo X0.here hx rfl (hb hby d2_79) rfl (teq hc79_43).2 k) ?_
                      show Rch p e below (s₁.setTop (mkF m 82 #[.val (.int p1)] [])) _
                      refine Rch.go (fun _ k => XS.iconst X0.here hx rfl (hb hby d2_82) k) ?_
                      show Rch p e below (s₁.setTop (mkF m 83 #[.val (.int p1)] [(.int (1 : Int32))])) _
                      have hv : own_exp p1 = (1 : Int32) := by simp only [own_exp, if_neg hc3_1, if_pos hc9_30, if_pos hc17_31, if_neg hc31_32, if_pos hc37_38, if_neg hc55_39, if_neg hc61_40, if_neg hc67_41, if_neg hc73_42, if_pos hc79_43]
                      exact Rch.ret X0 hlk (fun h => by rw [hret] at h; cases h) (fun fs hr => retN X0 hx (t := .boolean) hret (by simp) (hb hby d2_83) hr) ⟨by rw [hv]; rfl, N0, e0⟩ (by decide) (by decide)
                    · refine Rch.go (fun _ k => XS.icmpYes X0.here hx rfl (pc0 := 79) (pc' := 84) rfl (hb hby d2_79) rfl (feq hc79_43).2 (by decide) (by decide) k) ?_
                      show Rch p e below (s₁.setTop (mkF m 84 #[.val (.int p1)] [])) _
                      refine Rch.go (fun _ k => XS.iconst X0.here hx rfl (hb hby d2_84) k) ?_
                      show Rch p e below (s₁.setTop (mkF m 85 #[.val (.int p1)] [(.int (0 : Int32))])) _
                      have hv : own_exp p1 = (0 : Int32) := by simp only [own_exp, if_neg hc3_1, if_pos hc9_30, if_pos hc17_31, if_neg hc31_32, if_pos hc37_38, if_neg hc55_39, if_neg hc61_40, if_neg hc67_41, if_neg hc73_42, if_neg hc79_43]
                      exact Rch.ret X0 hlk (fun h => by rw [hret] at h; cases h) (fun fs hr => retN X0 hx (t := .boolean) hret (by simp) (hb hby d2_85) hr) ⟨by rw [hv]; rfl, N0, e0⟩ (by decide) (by decide)
          · refine Rch.go (fun _ k => XS.icmpNo X0.here hx rfl (hb hby d2_37) rfl (flt hc37_38).2.2.1 k) ?_
            show Rch p e below (s₁.setTop (mkF m 40 #[.val (.int p1)] [])) _
            refine Rch.go (fun _ k => XS.iloadN X0.here hx rfl (hb hby d2_40) rfl  k) ?_
            show Rch p e below (s₁.setTop (mkF m 41 #[.val (.int p1)] [(.int p1)])) _
            refine Rch.go (fun _ k => XS.bipush X0.here hx rfl (hb hby d2_41) k) ?_
            show Rch p e below (s₁.setTop (mkF m 43 #[.val (.int p1)] [(.int (47 : Int32)), (.int p1)])) _
            by_cases hc43_44 : p1 = (47 : Int32)
            · refine Rch.go (fun _ k => XS.icmpYes X0.here hx rfl (pc0 := 43) (pc' := 50) rfl (hb hby d2_43) rfl (teq hc43_44).1 (by decide) (by decide) k) ?_
              show Rch p e below (s₁.setTop (mkF m 50 #[.val (.int p1)] [])) _
              refine Rch.go (fun _ k => XS.iconst X0.here hx rfl (hb hby d2_50) k) ?_
              show Rch p e below (s₁.setTop (mkF m 51 #[.val (.int p1)] [(.int (0 : Int32))])) _
              have hv : own_exp p1 = (0 : Int32) := by simp only [own_exp, if_neg hc3_1, if_pos hc9_30, if_pos hc17_31, if_neg hc31_32, if_neg hc37_38, if_pos hc43_44]
              exact Rch.ret X0 hlk (fun h => by rw [hret] at h; cases h) (fun fs hr => retN X0 hx (t := .boolean) hret (by simp) (hb hby d2_51) hr) ⟨by rw [hv]; rfl, N0, e0⟩ (by decide) (by decide)
            · refine Rch.go (fun _ k => XS.icmpNo X0.here hx rfl (hb hby d2_43) rfl (feq hc43_44).1 k) ?_
              show Rch p e below (s₁.setTop (mkF m 46 #[.val (.int p1)] [])) _
              refine Rch.go (fun _ k => XS.iconst X0.here hx rfl (hb hby d2_46) k) ?_
              show Rch p e below (s₁.setTop (mkF m 47 #[.val (.int p1)] [(.int (1 : Int32))])) _
              refine Rch.go (fun _ k => XS.goto X0.here hx rfl (pc0 := 47) (pc' := 51) rfl (hb hby d2_47) (by decide) (by decide) k) ?_
              show Rch p e below (s₁.setTop (mkF m 51 #[.val (.int p1)] [(.int (1 : Int32))])) _
              have hv : own_exp p1 = (1 : Int32) := by simp only [own_exp, if_neg hc3_1, if_pos hc9_30, if_pos hc17_31, if_neg hc31_32, if_neg hc37_38, if_neg hc43_44]
              exact Rch.ret X0 hlk (fun h => by rw [hret] at h; cases h) (fun fs hr => retN X0 hx (t := .boolean) hret (by simp) (hb hby d2_51) hr) ⟨by rw [hv]; rfl, N0, e0⟩ (by decide) (by decide)
      · refine Rch.go (fun _ k => XS.icmpNo X0.here hx rfl (hb hby d2_17) rfl (flt hc17_31).1 k) ?_
        show Rch p e below (s₁.setTop (mkF m 20 #[.val (.int p1)] [])) _
        refine Rch.go (fun _ k => XS.iloadN X0.here hx rfl (hb hby d2_20) rfl  k) ?_
        show Rch p e below (s₁.setTop (mkF m 21 #[.val (.int p1)] [(.int p1)])) _
        refine Rch.go (fun _ k => XS.bipush X0.here hx rfl (hb hby d2_21) k) ?_
        show Rch p e below (s₁.setTop (mkF m 23 #[.val (.int p1)] [(.int (90 : Int32)), (.int p1)])) _
        by_cases hc23_45 : (90 : Int32) < p1
        · refine Rch.go (fun _ k => XS.icmpYes X0.here hx rfl (pc0 := 23) (pc' := 28) rfl (hb hby d2_23) rfl (tlt hc23_45).2.2.1 (by decide) (by decide) k) ?_
          show Rch p e below (s₁.setTop (mkF m 28 #[.val (.int p1)] [])) _
          refine Rch.go (fun _ k => XS.iloadN X0.here hx rfl (hb hby d2_28) rfl  k) ?_
          show Rch p e below (s₁.setTop (mkF m 29 #[.val (.int p1)] [(.int p1)])) _
          refine Rch.go (fun _ k => XS.bipush X0.here hx rfl (hb hby d2_29) k) ?_
          show Rch p e below (s₁.setTop (mkF m 31 #[.val (.int p1)] [(.int (38 : Int32)), (.int p1)])) _
          by_cases hc31_46 : p1 < (38 : Int32)
          · refine Rch.go (fun _ k => XS.icmpYes X0.here hx rfl (pc0 := 31) (pc' := 52) rfl (hb hby d2_31) rfl (tlt hc31_46).1 (by decide) (by decide) k) ?_
            show Rch p e below (s₁.setTop (mkF m 52 #[.val (.int p1)] [])) _
            refine Rch.go (fun _ k => XS.iloadN X0.here hx rfl (hb hby d2_52) rfl  k) ?_
            show Rch p e below (s₁.setTop (mkF m 53 #[.val (.int p1)] [(.int p1)])) _
            refine Rch.go (fun _ k => XS.bipush X0.here hx rfl (hb hby d2_53) k) ?_
            show Rch p e below (s₁.setTop (mkF m 55 #[.val (.int p1)] [(.int (33 : Int32)), (.int p1)])) _
            by_cases hc55_47 : p1 = (33 : Int32)
            · refine Rch.go (fun _ k => XS.icmpYes X0.here hx rfl (pc0 := 55) (pc' := 82) rfl (hb hby d2_55) rfl (teq hc55_47).1 (by decide) (by decide) k) ?_
              show Rch p e below (s₁.setTop (mkF m 82 #[.val (.int p1)] [])) _
              refine Rch.go (fun _ k => XS.iconst X0.here hx rfl (hb hby d2_82) k) ?_
              show Rch p e below (s₁.setTop (mkF m 83 #[.val (.int p1)] [(.int (1 : Int32))])) _
              have hv : own_exp p1 = (1 : Int32) := by simp only [own_exp, if_neg hc3_1, if_pos hc9_30, if_neg hc17_31, if_pos hc23_45, if_pos hc31_46, if_pos hc55_47]
              exact Rch.ret X0 hlk (fun h => by rw [hret] at h; cases h) (fun fs hr => retN X0 hx (t := .boolean) hret (by simp) (hb hby d2_83) hr) ⟨by rw [hv]; rfl, N0, e0⟩ (by decide) (by decide)
            · refine Rch.go (fun _ k => XS.icmpNo X0.here hx rfl (hb hby d2_55) rfl (feq hc55_47).1 k) ?_
              show Rch p e below (s₁.setTop (mkF m 58 #[.val (.int p1)] [])) _
              refine Rch.go (fun _ k => XS.iloadN X0.here hx rfl (hb hby d2_58) rfl  k) ?_
              show Rch p e below (s₁.setTop (mkF m 59 #[.val (.int p1)] [(.int p1)])) _
              refine Rch.go (fun _ k => XS.bipush X0.here hx rfl (hb hby d2_59) k) ?_
              show Rch p e below (s₁.setTop (mkF m 61 #[.val (.int p1)] [(.int (36 : Int32)), (.int p1)])) _
              by_cases hc61_48 : p1 = (36 : Int32)
              · refine Rch.go (fun _ k => XS.icmpYes X0.here hx rfl (pc0 := 61) (pc' := 82) rfl (hb hby d2_61) rfl (teq hc61_48).1 (by decide) (by decide) k) ?_
                show Rch p e below (s₁.setTop (mkF m 82 #[.val (.int p1)] [])) _
                refine Rch.go (fun _ k => XS.iconst X0.here hx rfl (hb hby d2_82) k) ?_
                show Rch p e below (s₁.setTop (mkF m 83 #[.val (.int p1)] [(.int (1 : Int32))])) _
                have hv : own_exp p1 = (1 : Int32) := by simp only [own_exp, if_neg hc3_1, if_pos hc9_30, if_neg hc17_31, if_pos hc23_45, if_pos hc31_46, if_neg hc55_47, if_pos hc61_48]
                exact Rch.ret X0 hlk (fun h => by rw [hret] at h; cases h) (fun fs hr => retN X0 hx (t := .boolean) hret (by simp) (hb hby d2_83) hr) ⟨by rw [hv]; rfl, N0, e0⟩ (by decide) (by decide)
              · refine Rch.go (fun _ k => XS.icmpNo X0.here hx rfl (hb hby d2_61) rfl (feq hc61_48).1 k) ?_
                show Rch p e below (s₁.setTop (mkF m 64 #[.val (.int p1)] [])) _
                refine Rch.go (fun _ k => XS.iloadN X0.here hx rfl (hb hby d2_64) rfl  k) ?_
                show Rch p e below (s₁.setTop (mkF m 65 #[.val (.int p1)] [(.int p1)])) _
                refine Rch.go (fun _ k => XS.bipush X0.here hx rfl (hb hby d2_65) k) ?_
                show Rch p e below (s₁.setTop (mkF m 67 #[.val (.int p1)] [(.int (61 : Int32)), (.int p1)])) _
                by_cases hc67_49 : p1 = (61 : Int32)
                · refine Rch.go (fun _ k => XS.icmpYes X0.here hx rfl (pc0 := 67) (pc' := 82) rfl (hb hby d2_67) rfl (teq hc67_49).1 (by decide) (by decide) k) ?_
                  show Rch p e below (s₁.setTop (mkF m 82 #[.val (.int p1)] [])) _
                  refine Rch.go (fun _ k => XS.iconst X0.here hx rfl (hb hby d2_82) k) ?_
                  show Rch p e below (s₁.setTop (mkF m 83 #[.val (.int p1)] [(.int (1 : Int32))])) _
                  have hv : own_exp p1 = (1 : Int32) := by simp only [own_exp, if_neg hc3_1, if_pos hc9_30, if_neg hc17_31, if_pos hc23_45, if_pos hc31_46, if_neg hc55_47, if_neg hc61_48, if_pos hc67_49]
                  exact Rch.ret X0 hlk (fun h => by rw [hret] at h; cases h) (fun fs hr => retN X0 hx (t := .boolean) hret (by simp) (hb hby d2_83) hr) ⟨by rw [hv]; rfl, N0, e0⟩ (by decide) (by decide)
                · refine Rch.go (fun _ k => XS.icmpNo X0.here hx rfl (hb hby d2_67) rfl (feq hc67_49).1 k) ?_
                  show Rch p e below (s₁.setTop (mkF m 70 #[.val (.int p1)] [])) _
                  refine Rch.go (fun _ k => XS.iloadN X0.here hx rfl (hb hby d2_70) rfl  k) ?_
                  show Rch p e below (s₁.setTop (mkF m 71 #[.val (.int p1)] [(.int p1)])) _
                  refine Rch.go (fun _ k => XS.bipush X0.here hx rfl (hb hby d2_71) k) ?_
                  show Rch p e below (s₁.setTop (mkF m 73 #[.val (.int p1)] [(.int (95 : Int32)), (.int p1)])) _
                  by_cases hc73_50 : p1 = (95 : Int32)
                  · refine Rch.go (fun _ k => XS.icmpYes X0.here hx rfl (pc0 := 73) (pc' := 82) rfl (hb hby d2_73) rfl (teq hc73_50).1 (by decide) (by decide) k) ?_
                    show Rch p e below (s₁.setTop (mkF m 82 #[.val (.int p1)] [])) _
                    refine Rch.go (fun _ k => XS.iconst X0.here hx rfl (hb hby d2_82) k) ?_
                    show Rch p e below (s₁.setTop (mkF m 83 #[.val (.int p1)] [(.int (1 : Int32))])) _
                    have hv : own_exp p1 = (1 : Int32) := by simp only [own_exp, if_neg hc3_1, if_pos hc9_30, if_neg hc17_31, if_pos hc23_45, if_pos hc31_46, if_neg hc55_47, if_neg hc61_48, if_neg hc67_49, if_pos hc73_50]
                    exact Rch.ret X0 hlk (fun h => by rw [hret] at h; cases h) (fun fs hr => retN X0 hx (t := .boolean) hret (by simp) (hb hby d2_83) hr) ⟨by rw [hv]; rfl, N0, e0⟩ (by decide) (by decide)
                  · refine Rch.go (fun _ k => XS.icmpNo X0.here hx rfl (hb hby d2_73) rfl (feq hc73_50).1 k) ?_
                    show Rch p e below (s₁.setTop (mkF m 76 #[.val (.int p1)] [])) _
                    refine Rch.go (fun _ k => XS.iloadN X0.here hx rfl (hb hby d2_76) rfl  k) ?_
                    show Rch p e below (s₁.setTop (mkF m 77 #[.val (.int p1)] [(.int p1)])) _
                    refine Rch.go (fun _ k => XS.bipush X0.here hx rfl (hb hby d2_77) k) ?_
                    show Rch p e below (s₁.setTop (mkF m 79 #[.val (.int p1)] [(.int (126 : Int32)), (.int p1)])) _
                    by_cases hc79_51 : p1 = (126 : Int32)
                    · refine Rch.go (fun _ k => XS.icmpNo X0.here hx rfl (hb hby d2_79) rfl (teq hc79_51).2 k) ?_
                      show Rch p e below (s₁.setTop (mkF m 82 #[.val (.int p1)] [])) _
                      refine Rch.go (fun _ k => XS.iconst X0.here hx rfl (hb hby d2_82) k) ?_
                      show Rch p e below (s₁.setTop (mkF m 83 #[.val (.int p1)] [(.int (1 : Int32))])) _
                      have hv : own_exp p1 = (1 : Int32) := by simp only [own_exp, if_neg hc3_1, if_pos hc9_30, if_neg hc17_31, if_pos hc23_45, if_pos hc31_46, if_neg hc55_47, if_neg hc61_48, if_neg hc67_49, if_neg hc73_50, if_pos hc79_51]
                      exact Rch.ret X0 hlk (fun h => by rw [hret] at h; cases h) (fun fs hr => retN X0 hx (t := .boolean) hret (by simp) (hb hby d2_83) hr) ⟨by rw [hv]; rfl, N0, e0⟩ (by decide) (by decide)
                    · refine Rch.go (fun _ k => XS.icmpYes X0.here hx rfl (pc0 := 79) (pc' := 84) rfl (hb hby d2_79) rfl (feq hc79_51).2 (by decide) (by decide) k) ?_
                      show Rch p e below (s₁.setTop (mkF m 84 #[.val (.int p1)] [])) _
                      refine Rch.go (fun _ k => XS.iconst X0.here hx rfl (hb hby d2_84) k) ?_
                      show Rch p e below (s₁.setTop (mkF m 85 #[.val (.int p1)] [(.int (0 : Int32))])) _
                      have hv : own_exp p1 = (0 : Int32) := by simp only [own_exp, if_neg hc3_1, if_pos hc9_30, if_neg hc17_31, if_pos hc23_45, if_pos hc31_46, if_neg hc55_47, if_neg hc61_48, if_neg hc67_49, if_neg hc73_50, if_neg hc79_51]
                      exact Rch.ret X0 hlk (fun h => by rw [hret] at h; cases h) (fun fs hr => retN X0 hx (t := .boolean) hret (by simp) (hb hby d2_85) hr) ⟨by rw [hv]; rfl, N0, e0⟩ (by decide) (by decide)
          · refine Rch.go (fun _ k => XS.icmpNo X0.here hx rfl (hb hby d2_31) rfl (flt hc31_46).1 k) ?_
            show Rch p e below (s₁.setTop (mkF m 34 #[.val (.int p1)] [])) _
            refine Rch.go (fun _ k => XS.iloadN X0.here hx rfl (hb hby d2_34) rfl  k) ?_
            show Rch p e below (s₁.setTop (mkF m 35 #[.val (.int p1)] [(.int p1)])) _
            refine Rch.go (fun _ k => XS.bipush X0.here hx rfl (hb hby d2_35) k) ?_
            show Rch p e below (s₁.setTop (mkF m 37 #[.val (.int p1)] [(.int (59 : Int32)), (.int p1)])) _
            by_cases hc37_52 : (59 : Int32) < p1
            · refine Rch.go (fun _ k => XS.icmpYes X0.here hx rfl (pc0 := 37) (pc' := 52) rfl (hb hby d2_37) rfl (tlt hc37_52).2.2.1 (by decide) (by decide) k) ?_
              show Rch p e below (s₁.setTop (mkF m 52 #[.val (.int p1)] [])) _
              refine Rch.go (fun _ k => XS.iloadN X0.here hx rfl (hb hby d2_52) rfl  k) ?_
              show Rch p e below (s₁.setTop (mkF m 53 #[.val (.int p1)] [(.int p1)])) _
              refine Rch.go (fun _ k => XS.bipush X0.here hx rfl (hb hby d2_53) k) ?_
              show Rch p e below (s₁.setTop (mkF m 55 #[.val (.int p1)] [(.int (33 : Int32)), (.int p1)])) _
              by_cases hc55_53 : p1 = (33 : Int32)
              · refine Rch.go (fun _ k => XS.icmpYes X0.here hx rfl (pc0 := 55) (pc' := 82) rfl (hb hby d2_55) rfl (teq hc55_53).1 (by decide) (by decide) k) ?_
                show Rch p e below (s₁.setTop (mkF m 82 #[.val (.int p1)] [])) _
                refine Rch.go (fun _ k => XS.iconst X0.here hx rfl (hb hby d2_82) k) ?_
                show Rch p e below (s₁.setTop (mkF m 83 #[.val (.int p1)] [(.int (1 : Int32))])) _
                have hv : own_exp p1 = (1 : Int32) := by simp only [own_exp, if_neg hc3_1, if_pos hc9_30, if_neg hc17_31, if_pos hc23_45, if_neg hc31_46, if_pos hc37_52, if_pos hc55_53]
                exact Rch.ret X0 hlk (fun h => by rw [hret] at h; cases h) (fun fs hr => retN X0 hx (t := .boolean) hret (by simp) (hb hby d2_83) hr) ⟨by rw [hv]; rfl, N0, e0⟩ (by decide) (by decide)
              · refine Rch.go (fun _ k => XS.icmpNo X0.here hx rfl (hb hby d2_55) rfl (feq hc55_53).1 k) ?_
                show Rch p e below (s₁.setTop (mkF m 58 #[.val (.int p1)] [])) _
                refine Rch.go (fun _ k => XS.iloadN X0.here hx rfl (hb hby d2_58) rfl  k) ?_
                show Rch p e below (s₁.setTop (mkF m 59 #[.val (.int p1)] [(.int p1)])) _
                refine Rch.go (fun _ k => XS.bipush X0.here hx rfl (hb hby d2_59) k) ?_
                show Rch p e below (s₁.setTop (mkF m 61 #[.val (.int p1)] [(.int (36 : Int32)), (.int p1)])) _
                by_cases hc61_54 : p1 = (36 : Int32)
                · refine Rch.go (fun _ k => XS.icmpYes X0.here hx rfl (pc0 := 61) (pc' := 82) rfl (hb hby d2_61) rfl (teq hc61_54).1 (by decide) (by decide) k) ?_
                  show Rch p e below (s₁.setTop (mkF m 82 #[.val (.int p1)] [])) _
                  refine Rch.go (fun _ k => XS.iconst X0.here hx rfl (hb hby d2_82) k) ?_
                  show Rch p e below (s₁.setTop (mkF m 83 #[.val (.int p1)] [(.int (1 : Int32))])) _
                  have hv : own_exp p1 = (1 : Int32) := by simp only [own_exp, if_neg hc3_1, if_pos hc9_30, if_neg hc17_31, if_pos hc23_45, if_neg hc31_46, if_pos hc37_52, if_neg hc55_53, if_pos hc61_54]
                  exact Rch.ret X0 hlk (fun h => by rw [hret] at h; cases h) (fun fs hr => retN X0 hx (t := .boolean) hret (by simp) (hb hby d2_83) hr) ⟨by rw [hv]; rfl, N0, e0⟩ (by decide) (by decide)
                · refine Rch.go (fun _ k => XS.icmpNo X0.here hx rfl (hb hby d2_61) rfl (feq hc61_54).1 k) ?_
                  show Rch p e below (s₁.setTop (mkF m 64 #[.val (.int p1)] [])) _
                  refine Rch.go (fun _ k => XS.iloadN X0.here hx rfl (hb hby d2_64) rfl  k) ?_
                  show Rch p e below (s₁.setTop (mkF m 65 #[.val (.int p1)] [(.int p1)])) _
                  refine Rch.go (fun _ k => XS.bipush X0.here hx rfl (hb hby d2_65) k) ?_
                  show Rch p e below (s₁.setTop (mkF m 67 #[.val (.int p1)] [(.int (61 : Int32)), (.int p1)])) _
                  by_cases hc67_55 : p1 = (61 : Int32)
                  · refine Rch.go (fun _ k => XS.icmpYes X0.here hx rfl (pc0 := 67) (pc' := 82) rfl (hb hby d2_67) rfl (teq hc67_55).1 (by decide) (by decide) k) ?_
                    show Rch p e below (s₁.setTop (mkF m 82 #[.val (.int p1)] [])) _
                    refine Rch.go (fun _ k => XS.iconst X0.here hx rfl (hb hby d2_82) k) ?_
                    show Rch p e below (s₁.setTop (mkF m 83 #[.val (.int p1)] [(.int (1 : Int32))])) _
                    have hv : own_exp p1 = (1 : Int32) := by simp only [own_exp, if_neg hc3_1, if_pos hc9_30, if_neg hc17_31, if_pos hc23_45, if_neg hc31_46, if_pos hc37_52, if_neg hc55_53, if_neg hc61_54, if_pos hc67_55]
                    exact Rch.ret X0 hlk (fun h => by rw [hret] at h; cases h) (fun fs hr => retN X0 hx (t := .boolean) hret (by simp) (hb hby d2_83) hr) ⟨by rw [hv]; rfl, N0, e0⟩ (by decide) (by decide)
                  · refine Rch.go (fun _ k => XS.icmpNo X0.here hx rfl (hb hby d2_67) rfl (feq hc67_55).1 k) ?_
                    show Rch p e below (s₁.setTop (mkF m 70 #[.val (.int p1)] [])) _
                    refine Rch.go (fun _ k => XS.iloadN X0.here hx rfl (hb hby d2_70) rfl  k) ?_
                    show Rch p e below (s₁.setTop (mkF m 71 #[.val (.int p1)] [(.int p1)])) _
                    refine Rch.go (fun _ k => XS.bipush X0.here hx rfl (hb hby d2_71) k) ?_
                    show Rch p e below (s₁.setTop (mkF m 73 #[.val (.int p1)] [(.int (95 : Int32)), (.int p1)])) _
                    by_cases hc73_56 : p1 = (95 : Int32)
                    · refine Rch.go (fun _ k => XS.icmpYes X0.here hx rfl (pc0 := 73) (pc' := 82) rfl (hb hby d2_73) rfl (teq hc73_56).1 (by decide) (by decide) k) ?_
                      show Rch p e below (s₁.setTop (mkF m 82 #[.val (.int p1)] [])) _
                      refine Rch.go (fun _ k => XS.iconst X0.here hx rfl (hb hby d2_82) k) ?_
                      show Rch p e below (s₁.setTop (mkF m 83 #[.val (.int p1)] [(.int (1 : Int32))])) _
                      have hv : own_exp p1 = (1 : Int32) := by simp only [own_exp, if_neg hc3_1, if_pos hc9_30, if_neg hc17_31, if_pos hc23_45, if_neg hc31_46, if_pos hc37_52, if_neg hc55_53, if_neg hc61_54, if_neg hc67_55, if_pos hc73_56]
                      exact Rch.ret X0 hlk (fun h => by rw [hret] at h; cases h) (fun fs hr => retN X0 hx (t := .boolean) hret (by simp) (hb hby d2_83) hr) ⟨by rw [hv]; rfl, N0, e0⟩ (by decide) (by decide)
                    · refine Rch.go (fun _ k => XS.icmpNo X0.here hx rfl (hb hby d2_73) rfl (feq hc73_56).1 k) ?_
                      show Rch p e below (s₁.setTop (mkF m 76 #[.val (.int p1)] [])) _
                      refine Rch.go (fun _ k => XS.iloadN X0.here hx rfl (hb hby d2_76) rfl  k) ?_
                      show Rch p e below (s₁.setTop (mkF m 77 #[.val (.int p1)] [(.int p1)])) _
                      refine Rch.go (fun _ k => XS.bipush X0.here hx rfl (hb hby d2_77) k) ?_
                      show Rch p e below (s₁.setTop (mkF m 79 #[.val (.int p1)] [(.int (126 : Int32)), (.int p1)])) _
                      by_cases hc79_57 : p1 = (126 : Int32)
                      · refine Rch.go (fun _ k => XS.icmpNo X0.here hx rfl (hb hby d2_79) rfl (teq hc79_57).2 k) ?_
                        show Rch p e below (s₁.setTop (mkF m 82 #[.val (.int p1)] [])) _
                        refine Rch.go (fun _ k => XS.iconst X0.here hx rfl (hb hby d2_82) k) ?_
                        show Rch p e below (s₁.setTop (mkF m 83 #[.val (.int p1)] [(.int (1 : Int32))])) _
                        have hv : own_exp p1 = (1 : Int32) := by simp only [own_exp, if_neg hc3_1, if_pos hc9_30, if_neg hc17_31, if_pos hc23_45, if_neg hc31_46, if_pos hc37_52, if_neg hc55_53, if_neg hc61_54, if_neg hc67_55, if_neg hc73_56, if_pos hc79_57]
                        exact Rch.ret X0 hlk (fun h => by rw [hret] at h; cases h) (fun fs hr => retN X0 hx (t := .boolean) hret (by simp) (hb hby d2_83) hr) ⟨by rw [hv]; rfl, N0, e0⟩ (by decide) (by decide)
                      · refine Rch.go (fun _ k => XS.icmpYes X0.here hx rfl (pc0 := 79) (pc' := 84) rfl (hb hby d2_79) rfl (feq hc79_57).2 (by decide) (by decide) k) ?_
                        show Rch p e below (s₁.setTop (mkF m 84 #[.val (.int p1)] [])) _
                        refine Rch.go (fun _ k => XS.iconst X0.here hx rfl (hb hby d2_84) k) ?_
                        show Rch p e below (s₁.setTop (mkF m 85 #[.val (.int p1)] [(.int (0 : Int32))])) _
                        have hv : own_exp p1 = (0 : Int32) := by simp only [own_exp, if_neg hc3_1, if_pos hc9_30, if_neg hc17_31, if_pos hc23_45, if_neg hc31_46, if_pos hc37_52, if_neg hc55_53, if_neg hc61_54, if_neg hc67_55, if_neg hc73_56, if_neg hc79_57]
                        exact Rch.ret X0 hlk (fun h => by rw [hret] at h; cases h) (fun fs hr => retN X0 hx (t := .boolean) hret (by simp) (hb hby d2_85) hr) ⟨by rw [hv]; rfl, N0, e0⟩ (by decide) (by decide)
            · refine Rch.go (fun _ k => XS.icmpNo X0.here hx rfl (hb hby d2_37) rfl (flt hc37_52).2.2.1 k) ?_
              show Rch p e below (s₁.setTop (mkF m 40 #[.val (.int p1)] [])) _
              refine Rch.go (fun _ k => XS.iloadN X0.here hx rfl (hb hby d2_40) rfl  k) ?_
              show Rch p e below (s₁.setTop (mkF m 41 #[.val (.int p1)] [(.int p1)])) _
              refine Rch.go (fun _ k => XS.bipush X0.here hx rfl (hb hby d2_41) k) ?_
              show Rch p e below (s₁.setTop (mkF m 43 #[.val (.int p1)] [(.int (47 : Int32)), (.int p1)])) _
              by_cases hc43_58 : p1 = (47 : Int32)
              · refine Rch.go (fun _ k => XS.icmpYes X0.here hx rfl (pc0 := 43) (pc' := 50) rfl (hb hby d2_43) rfl (teq hc43_58).1 (by decide) (by decide) k) ?_
                show Rch p e below (s₁.setTop (mkF m 50 #[.val (.int p1)] [])) _
                refine Rch.go (fun _ k => XS.iconst X0.here hx rfl (hb hby d2_50) k) ?_
                show Rch p e below (s₁.setTop (mkF m 51 #[.val (.int p1)] [(.int (0 : Int32))])) _
                have hv : own_exp p1 = (0 : Int32) := by simp only [own_exp, if_neg hc3_1, if_pos hc9_30, if_neg hc17_31, if_pos hc23_45, if_neg hc31_46, if_neg hc37_52, if_pos hc43_58]
                exact Rch.ret X0 hlk (fun h => by rw [hret] at h; cases h) (fun fs hr => retN X0 hx (t := .boolean) hret (by simp) (hb hby d2_51) hr) ⟨by rw [hv]; rfl, N0, e0⟩ (by decide) (by decide)
              · refine Rch.go (fun _ k => XS.icmpNo X0.here hx rfl (hb hby d2_43) rfl (feq hc43_58).1 k) ?_
                show Rch p e below (s₁.setTop (mkF m 46 #[.val (.int p1)] [])) _
                refine Rch.go (fun _ k => XS.iconst X0.here hx rfl (hb hby d2_46) k) ?_
                show Rch p e below (s₁.setTop (mkF m 47 #[.val (.int p1)] [(.int (1 : Int32))])) _
                refine Rch.go (fun _ k => XS.goto X0.here hx rfl (pc0 := 47) (pc' := 51) rfl (hb hby d2_47) (by decide) (by decide) k) ?_
                show Rch p e below (s₁.setTop (mkF m 51 #[.val (.int p1)] [(.int (1 : Int32))])) _
                have hv : own_exp p1 = (1 : Int32) := by simp only [own_exp, if_neg hc3_1, if_pos hc9_30, if_neg hc17_31, if_pos hc23_45, if_neg hc31_46, if_neg hc37_52, if_neg hc43_58]
                exact Rch.ret X0 hlk (fun h => by rw [hret] at h; cases h) (fun fs hr => retN X0 hx (t := .boolean) hret (by simp) (hb hby d2_51) hr) ⟨by rw [hv]; rfl, N0, e0⟩ (by decide) (by decide)
        · refine Rch.go (fun _ k => XS.icmpNo X0.here hx rfl (hb hby d2_23) rfl (flt hc23_45).2.2.1 k) ?_
          show Rch p e below (s₁.setTop (mkF m 26 #[.val (.int p1)] [])) _
          refine Rch.go (fun _ k => XS.iconst X0.here hx rfl (hb hby d2_26) k) ?_
          show Rch p e below (s₁.setTop (mkF m 27 #[.val (.int p1)] [(.int (1 : Int32))])) _
          have hv : own_exp p1 = (1 : Int32) := by simp only [own_exp, if_neg hc3_1, if_pos hc9_30, if_neg hc17_31, if_neg hc23_45]
          exact Rch.ret X0 hlk (fun h => by rw [hret] at h; cases h) (fun fs hr => retN X0 hx (t := .boolean) hret (by simp) (hb hby d2_27) hr) ⟨by rw [hv]; rfl, N0, e0⟩ (by decide) (by decide)
    · refine Rch.go (fun _ k => XS.icmpNo X0.here hx rfl (hb hby d2_9) rfl (flt hc9_30).2.2.1 k) ?_
      show Rch p e below (s₁.setTop (mkF m 12 #[.val (.int p1)] [])) _
      refine Rch.go (fun _ k => XS.iconst X0.here hx rfl (hb hby d2_12) k) ?_
      show Rch p e below (s₁.setTop (mkF m 13 #[.val (.int p1)] [(.int (1 : Int32))])) _
      have hv : own_exp p1 = (1 : Int32) := by simp only [own_exp, if_neg hc3_1, if_neg hc9_30]
      exact Rch.ret X0 hlk (fun h => by rw [hret] at h; cases h) (fun fs hr => retN X0 hx (t := .boolean) hret (by simp) (hb hby d2_13) hr) ⟨by rw [hv]; rfl, N0, e0⟩ (by decide) (by decide)
def own_c_L3 (p0 : Int32) (p1 : Int32) : Int32 := (if (p1 &&& (3 : Int32)) = (0 : Int32) then (p0 &&& (127 : Int32)) else (if (p1 &&& (3 : Int32)) = (1 : Int32) then ((p0 &&& (511 : Int32)) - (256 : Int32)) else p0))
theorem own_small : ∀ n : Fin 128, (if own_tab n.val = (0 : Int32) then (0 : Int32) else (1 : Int32)) = own_exp (Int32.ofNat n.val) := by decide +kernel
theorem own_out {c : Int32} (h : c < 0 ∨ ¬ c < (128 : Int32)) : own_exp c = 0 := by
  have ne : ∀ k : Int32, 0 ≤ k.toInt → k.toInt < 128 → ¬ c = k := fun k q1 q2 q => by
    subst q
    rcases h with h | h
    · rw [Int32.lt_iff_toInt_lt] at h; have : (0 : Int32).toInt = 0 := rfl; omega
    · rw [Int32.lt_iff_toInt_lt] at h; have : (128 : Int32).toInt = 128 := rfl; omega
  have e1 := ne 33 (by decide) (by decide)
  have e2 := ne 36 (by decide) (by decide)
  have e3 := ne 61 (by decide) (by decide)
  have e4 := ne 95 (by decide) (by decide)
  have e5 := ne 126 (by decide) (by decide)
  have k0 : (0 : Int32).toInt = 0 := rfl
  have k128 : (128 : Int32).toInt = 128 := rfl
  have k97 : (97 : Int32).toInt = 97 := rfl
  have k122 : (122 : Int32).toInt = 122 := rfl
  have k64 : (64 : Int32).toInt = 64 := rfl
  have k90 : (90 : Int32).toInt = 90 := rfl
  have k38 : (38 : Int32).toInt = 38 := rfl
  have k59 : (59 : Int32).toInt = 59 := rfl
  simp only [own_exp, if_neg e1, if_neg e2, if_neg e3, if_neg e4, if_neg e5]
  simp only [Int32.lt_iff_toInt_lt, k0, k128, k97, k122, k64, k90, k38, k59] at h ⊢
  generalize c.toInt = ci at *
  repeat' split
  all_goals first | rfl | omega
theorem own_same (c : Int32) : own_pc c = own_exp c := by
  unfold own_pc
  by_cases h0 : c < 0
  · rw [if_pos h0, own_out (Or.inl h0)]
  · by_cases h1 : c < (128 : Int32)
    · rw [if_neg h0, if_pos h1]
      obtain ⟨-, n, e1, e2⟩ := own_idx h0 h1
      rw [e2, e1]; exact own_small n
    · rw [if_neg h0, if_neg h1, own_out (Or.inr h1)]
abbrev own_T : Term := Jvm.Term.static "com/example/remitto/remitto/internal/UriComponents" "ASCII_PCHARS" "[Z"
theorem own_ref {args : Array Value} {s : State} {ty : FieldType} {t : Term} (h : (Jvm.Cond.arrayOf t ty).value args s none s [] = some true) : ∃ a, t.eval args s none [] s = some (.ref a) := by
  simp only [Cond.value] at h
  split at h
  · cases h
  · split at h
    · rename_i a e; exact ⟨a, e⟩
    · cases h
    · cases h
theorem own_eqI {args : Array Value} {s : State} {t : Term} {n : Int32} {idx : List Nat} (h : (Jvm.Cond.eq t (.int n)).value args s none s idx = some true) : t.eval args s none idx s = some (.int n) := by
  simp only [Cond.value, Term.eval] at h
  cases ht : t.eval args s none idx s with
  | none => simp [ht] at h
  | some x => cases x <;> simp [ht] at h ⊢; exact h
theorem own_len {args : Array Value} {s : State} {a : Addr} {cl : Cell} {n : Int32} {t : Term} (ht : t.eval args s none [] s = some (.ref a)) (hc : s.arrayAt? a = some cl) (h : (Jvm.Term.length t).eval args s none [] s = some (.int n)) : cl.slots.size < 2 ^ 31 ∧ cl.slots.size.toInt32 = n := by
  simp only [Term.eval, ht, hc, Option.bind_eq_bind, Option.bind_some] at h
  split at h
  · rename_i q; simp only [Option.pure_def, Option.some.injEq, Value.int.injEq] at h; exact ⟨q, h⟩
  · cases h
theorem own_el {args : Array Value} {s : State} {a : Addr} {cl : Cell} {j : Int32} {v : Value} {idx : List Nat} {t ti : Term} (ht : t.eval args s none idx s = some (.ref a)) (hc : s.arrayAt? a = some cl) (hj : ti.eval args s none idx s = some (.int j)) (h : (Jvm.Term.elem t ti).eval args s none idx s = some v) : cl.slots[j.toNatClampNeg]? = some v := by
  simp only [Term.eval, ht, hj, hc, Option.bind_eq_bind, Option.bind_some] at h
  split at h
  · cases h
  · exact h
theorem own_at {args : Array Value} {s : State} {a : Addr} {cl : Cell} {v : Int32} (k : Nat) {j : Int32} (hk : j.toNatClampNeg = k) (ht : own_T.eval args s none [] s = some (.ref a)) (hc : s.arrayAt? a = some cl) (h : (Jvm.Cond.eq (Jvm.Term.elem own_T (.int j)) (.int v)).value args s none s [] = some true) : cl.slots[k]? = some (.int v) := by
  rw [← hk]; exact own_el ht hc rfl (own_eqI h)
theorem own_pt {cl : Cell} {j k : Nat} {v : Value} (_h : j < 128) (h1 : j < k + 1) (h2 : k ≤ j) (h : cl.slots[k]? = some v) : cl.slots[j]? = some v := by
  obtain rfl : j = k := by omega
  exact h
theorem own_i32 {i : Nat} (h : i < 128) : i.toInt32.toInt = i ∧ i.toInt32.toNatClampNeg = i := by
  have e : i.toInt32.toInt = i := Int32.toInt_ofNat_of_lt (by omega)
  refine ⟨e, ?_⟩
  rw [Int32.toNatClampNeg, e]; rfl
theorem own_or {args : Array Value} {s : State} {idx : List Nat} {c d : Jvm.Cond} (h : (Jvm.Cond.or c d).value args s none s idx = some true) (hc : c.value args s none s idx = some false) : d.value args s none s idx = some true := by
  simpa only [Cond.value, hc] using h
theorem own_rng {args : Array Value} {s : State} {a : Addr} {cl : Cell} {A B v : Int32} {i : Nat} (ht : own_T.eval args s none [] s = some (.ref a)) (hc : s.arrayAt? a = some cl) (hi : i < 128) (hA : ¬ (i : Int) < A.toInt) (hB : ¬ B.toInt ≤ (i : Int))
    (h : (Jvm.Cond.or (.lt (.index 0) (.int A)) (.or (.le (.int B) (.index 0)) (.eq (.elem own_T (.index 0)) (.int v)))).value args s none s [i] = some true) : cl.slots[i]? = some (.int v) := by
  obtain ⟨e1, e2⟩ := own_i32 hi
  have hx : (Jvm.Term.index 0).eval args s none [i] s = some (.int i.toInt32) := rfl
  have g1 : ¬ i.toInt32 < A := by rw [Int32.lt_iff_toInt_lt, e1]; exact hA
  have g2 : ¬ B ≤ i.toInt32 := by rw [Int32.le_iff_toInt_le, e1]; exact hB
  have h1 := own_or h (by simp only [Cond.value, hx, Term.eval]; simp [g1])
  have h2 := own_or h1 (by simp only [Cond.value, hx, Term.eval]; simp [g2])
  have ht' : own_T.eval args s none [i] s = some (.ref a) := ht
  have := own_el ht' hc hx (own_eqI h2)
  rwa [e2] at this
theorem own_rng0 {args : Array Value} {s : State} {a : Addr} {cl : Cell} {B v : Int32} {i : Nat} (ht : own_T.eval args s none [] s = some (.ref a)) (hc : s.arrayAt? a = some cl) (hi : i < 128) (hB : ¬ B.toInt ≤ (i : Int))
    (h : (Jvm.Cond.or (.le (.int B) (.index 0)) (.eq (.elem own_T (.index 0)) (.int v))).value args s none s [i] = some true) : cl.slots[i]? = some (.int v) := by
  obtain ⟨e1, e2⟩ := own_i32 hi
  have hx : (Jvm.Term.index 0).eval args s none [i] s = some (.int i.toInt32) := rfl
  have g2 : ¬ B ≤ i.toInt32 := by rw [Int32.le_iff_toInt_le, e1]; exact hB
  have h2 := own_or h (by simp only [Cond.value, hx, Term.eval]; simp [g2])
  have ht' : own_T.eval args s none [i] s = some (.ref a) := ht
  have := own_el ht' hc hx (own_eqI h2)
  rwa [e2] at this
theorem pd0_0 : parseMethodDescriptor "(I)Z" = some ⟨[.int], some .boolean⟩ := by decide +kernel
theorem pn_0 : plainFor x = true := plainFor_of_name (by first | (simp [plainName, overriddenIn]; done) | decide +kernel)
theorem ef_0 (m : MethodId) (x0 : Int32) (x1 : Int32) : entryFrame m #[(.int x0), (.int x1)] maxLocals = mkF m 0 #[.val (.int x0), .val (.int x1), .unset, .unset] [] := by first | (simp [entryFrame, mkF, argsToLocals, Value.category, maxLocals]; done) | rfl
def own_Q_rm0 (Z : State) (p0 p1 : Int32) (h0 : Heap) (n0 : Nat) (v : Option Value) (h : Heap) (L : List Loc) : Prop := v = some (.int 1) ∧ Fr n0 L
set_option maxRecDepth 65536 in
set_option maxHeartbeats 40000000 in
theorem rm0 (l : Launch) (Z : State) (a0 : Array Value) (hw : ∀ d ∈ tables_1, d.before a0 Z = true) (ws : List Jvm.Cond) (p0 p1 : Int32) (h0 : Heap) (n0 : Nat) (Z0 : n0 ≤ h0.size) (t : Addr) (cl : Cell) (S0 : Sta Z h0 "com/example/remitto/remitto/internal/UriComponents" "ASCII_PCHARS" "[Z" (.ref t)) (Ar : Arr Z h0 t cl .boolean) (S : cl.slots.size = (128 : Int32).toNatClampNeg) (hat : ∀ j, j < 128 → cl.slots[j]? = some (.int (own_tab j))) :
    MetFree l x (head1 (Jvm.Cond.code x code maxLocals ret :: ws) room_1) (fun a U => a = #[(.int p0), (.int p1)] ∧ Z.Warmed39 U.vm ∧ U.heap = h0) (fun _ _ _ _ _ => True) (fun _ U o U' => ∃ v L, o = .returned v ∧ own_Q_rm0 Z p0 p1 h0 n0 v U'.heap L ∧ FrameEnd U o U' L 0 0) := by
  refine own_body (Q := (own_Q_rm0 Z p0 p1 h0 n0)) pn_0 ?_
  intro p e s m below meth c s₁ X0 hx hby hml hown hnm hret hlk hZ e0
  have N0 := Fr.nil n0
  refine Rch.go (fun t k => castTop (ef_0 m p0 p1) k) ?_
  show Rch p e below (s₁.setTop (mkF m 0 #[.val (.int p0), .val (.int p1), .unset, .unset] [])) _
  have hj3 : ∀ P', Rch p e below (s₁.setTop (mkF m 36 #[.val (.int p0), .val (.int p1), .val (.int (p1 &&& (3 : Int32))), .val (.int (own_c_L3 p0 p1))] [])) P' → Rch p e below (s₁.setTop (mkF m 0 #[.val (.int p0), .val (.int p1), .unset, .unset] [])) P' := by
    intro P' kt
    refine Rch.go (fun _ k => XS.iloadN X0.here hx rfl (hb hby at_0) rfl  k) ?_
    show Rch p e below (s₁.setTop (mkF m 1 #[.val (.int p0), .val (.int p1), .unset, .unset] [(.int p1)])) _
    refine Rch.go (fun _ k => XS.iconst X0.here hx rfl (hb hby at_1) k) ?_
    show Rch p e below (s₁.setTop (mkF m 2 #[.val (.int p0), .val (.int p1), .unset, .unset] [(.int (3 : Int32)), (.int p1)])) _
    refine Rch.go (fun _ k => XS.iand X0.here hx rfl (hb hby at_2) rfl k) ?_
    show Rch p e below (s₁.setTop (mkF m 3 #[.val (.int p0), .val (.int p1), .unset, .unset] [(.int (p1 &&& (3 : Int32)))])) _
    refine Rch.go (fun _ k => XS.istoreN X0.here hx rfl (hb hby at_3) rfl (l' := #[.val (.int p0), .val (.int p1), .val (.int (p1 &&& (3 : Int32))), .unset]) rfl k) ?_
    show Rch p e below (s₁.setTop (mkF m 4 #[.val (.int p0), .val (.int p1), .val (.int (p1 &&& (3 : Int32))), .unset] [])) _
    refine Rch.go (fun _ k => XS.iloadN X0.here hx rfl (hb hby at_4) rfl  k) ?_
    show Rch p e below (s₁.setTop (mkF m 5 #[.val (.int p0), .val (.int p1), .val (.int (p1 &&& (3 : Int32))), .unset] [(.int (p1 &&& (3 : Int32)))])) _
    by_cases hc5_1 : (p1 &&& (3 : Int32)) = (0 : Int32)
    · refine Rch.go (fun _ k => XS.ifNo X0.here hx rfl (hb hby at_5) rfl ((if0 _ _).trans (teq hc5_1).2) k) ?_
      show Rch p e below (s₁.setTop (mkF m 8 #[.val (.int p0), .val (.int p1), .val (.int (p1 &&& (3 : Int32))), .unset] [])) _
      refine Rch.go (fun _ k => XS.iloadN X0.here hx rfl (hb hby at_8) rfl  k) ?_
      show Rch p e below (s₁.setTop (mkF m 9 #[.val (.int p0), .val (.int p1), .val (.int (p1 &&& (3 : Int32))), .unset] [(.int p0)])) _
      refine Rch.go (fun _ k => XS.bipush X0.here hx rfl (hb hby at_9) k) ?_
      show Rch p e below (s₁.setTop (mkF m 11 #[.val (.int p0), .val (.int p1), .val (.int (p1 &&& (3 : Int32))), .unset] [(.int (127 : Int32)), (.int p0)])) _
      refine Rch.go (fun _ k => XS.iand X0.here hx rfl (hb hby at_11) rfl k) ?_
      show Rch p e below (s₁.setTop (mkF m 12 #[.val (.int p0), .val (.int p1), .val (.int (p1 &&& (3 : Int32))), .unset] [(.int (p0 &&& (127 : Int32)))])) _
      refine Rch.go (fun _ k => XS.istoreN X0.here hx rfl (hb hby at_12) rfl (l' := #[.val (.int p0), .val (.int p1), .val (.int (p1 &&& (3 : Int32))), .val (.int (p0 &&& (127 : Int32)))]) rfl k) ?_
      show Rch p e below (s₁.setTop (mkF m 13 #[.val (.int p0), .val (.int p1), .val (.int (p1 &&& (3 : Int32))), .val (.int (p0 &&& (127 : Int32)))] [])) _
      refine Rch.go (fun _ k => XS.goto X0.here hx rfl (pc0 := 13) (pc' := 36) rfl (hb hby at_13) (by decide) (by decide) k) ?_
      show Rch p e below (s₁.setTop (mkF m 36 #[.val (.int p0), .val (.int p1), .val (.int (p1 &&& (3 : Int32))), .val (.int (p0 &&& (127 : Int32)))] [])) _
      rw [show own_c_L3 p0 p1 = (p0 &&& (127 : Int32)) from by simp only [own_c_L3, if_pos hc5_1]] at kt
      exact kt
    · refine Rch.go (fun _ k => XS.ifYes X0.here hx rfl (pc0 := 5) (pc' := 16) rfl (hb hby at_5) rfl ((if0 _ _).trans (feq hc5_1).2) (by decide) (by decide) k) ?_
      show Rch p e below (s₁.setTop (mkF m 16 #[.val (.int p0), .val (.int p1), .val (.int (p1 &&& (3 : Int32))), .unset] [])) _
      refine Rch.go (fun _ k => XS.iloadN X0.here hx rfl (hb hby at_16) rfl  k) ?_
      show Rch p e below (s₁.setTop (mkF m 17 #[.val (.int p0), .val (.int p1), .val (.int (p1 &&& (3 : Int32))), .unset] [(.int (p1 &&& (3 : Int32)))])) _
      refine Rch.go (fun _ k => XS.iconst X0.here hx rfl (hb hby at_17) k) ?_
      show Rch p e below (s₁.setTop (mkF m 18 #[.val (.int p0), .val (.int p1), .val (.int (p1 &&& (3 : Int32))), .unset] [(.int (1 : Int32)), (.int (p1 &&& (3 : Int32)))])) _
      by_cases hc18_2 : (p1 &&& (3 : Int32)) = (1 : Int32)
      · refine Rch.go (fun _ k => XS.icmpNo X0.here hx rfl (hb hby at_18) rfl (teq hc18_2).2 k) ?_
        show Rch p e below (s₁.setTop (mkF m 21 #[.val (.int p0), .val (.int p1), .val (.int (p1 &&& (3 : Int32))), .unset] [])) _
        refine Rch.go (fun _ k => XS.iloadN X0.here hx rfl (hb hby at_21) rfl  k) ?_
        show Rch p e below (s₁.setTop (mkF m 22 #[.val (.int p0), .val (.int p1), .val (.int (p1 &&& (3 : Int32))), .unset] [(.int p0)])) _
        refine Rch.go (fun _ k => XS.sipush X0.here hx rfl (hb hby at_22) k) ?_
        show Rch p e below (s₁.setTop (mkF m 25 #[.val (.int p0), .val (.int p1), .val (.int (p1 &&& (3 : Int32))), .unset] [(.int (511 : Int32)), (.int p0)])) _
        refine Rch.go (fun _ k => XS.iand X0.here hx rfl (hb hby at_25) rfl k) ?_
        show Rch p e below (s₁.setTop (mkF m 26 #[.val (.int p0), .val (.int p1), .val (.int (p1 &&& (3 : Int32))), .unset] [(.int (p0 &&& (511 : Int32)))])) _
        refine Rch.go (fun _ k => XS.sipush X0.here hx rfl (hb hby at_26) k) ?_
        show Rch p e below (s₁.setTop (mkF m 29 #[.val (.int p0), .val (.int p1), .val (.int (p1 &&& (3 : Int32))), .unset] [(.int (256 : Int32)), (.int (p0 &&& (511 : Int32)))])) _
        refine Rch.go (fun _ k => XS.isub X0.here hx rfl (hb hby at_29) rfl k) ?_
        show Rch p e below (s₁.setTop (mkF m 30 #[.val (.int p0), .val (.int p1), .val (.int (p1 &&& (3 : Int32))), .unset] [(.int ((p0 &&& (511 : Int32)) - (256 : Int32)))])) _
        refine Rch.go (fun _ k => XS.istoreN X0.here hx rfl (hb hby at_30) rfl (l' := #[.val (.int p0), .val (.int p1), .val (.int (p1 &&& (3 : Int32))), .val (.int ((p0 &&& (511 : Int32)) - (256 : Int32)))]) rfl k) ?_
        show Rch p e below (s₁.setTop (mkF m 31 #[.val (.int p0), .val (.int p1), .val (.int (p1 &&& (3 : Int32))), .val (.int ((p0 &&& (511 : Int32)) - (256 : Int32)))] [])) _
        refine Rch.go (fun _ k => XS.goto X0.here hx rfl (pc0 := 31) (pc' := 36) rfl (hb hby at_31) (by decide) (by decide) k) ?_
        show Rch p e below (s₁.setTop (mkF m 36 #[.val (.int p0), .val (.int p1), .val (.int (p1 &&& (3 : Int32))), .val (.int ((p0 &&& (511 : Int32)) - (256 : Int32)))] [])) _
        rw [show own_c_L3 p0 p1 = ((p0 &&& (511 : Int32)) - (256 : Int32)) from by simp only [own_c_L3, if_neg hc5_1, if_pos hc18_2]] at kt
        exact kt
      · refine Rch.go (fun _ k => XS.icmpYes X0.here hx rfl (pc0 := 18) (pc' := 34) rfl (hb hby at_18) rfl (feq hc18_2).2 (by decide) (by decide) k) ?_
        show Rch p e below (s₁.setTop (mkF m 34 #[.val (.int p0), .val (.int p1), .val (.int (p1 &&& (3 : Int32))), .unset] [])) _
        refine Rch.go (fun _ k => XS.iloadN X0.here hx rfl (hb hby at_34) rfl  k) ?_
        show Rch p e below (s₁.setTop (mkF m 35 #[.val (.int p0), .val (.int p1), .val (.int (p1 &&& (3 : Int32))), .unset] [(.int p0)])) _
        refine Rch.go (fun _ k => XS.istoreN X0.here hx rfl (hb hby at_35) rfl (l' := #[.val (.int p0), .val (.int p1), .val (.int (p1 &&& (3 : Int32))), .val (.int p0)]) rfl k) ?_
        show Rch p e below (s₁.setTop (mkF m 36 #[.val (.int p0), .val (.int p1), .val (.int (p1 &&& (3 : Int32))), .val (.int p0)] [])) _
        rw [show own_c_L3 p0 p1 = p0 from by simp only [own_c_L3, if_neg hc5_1, if_neg hc18_2]] at kt
        exact kt
  refine hj3 _ ?_
  show Rch p e below (s₁.setTop (mkF m 36 #[.val (.int p0), .val (.int p1), .val (.int (p1 &&& (3 : Int32))), .val (.int (own_c_L3 p0 p1))] [])) _
  generalize hcv : (own_c_L3 p0 p1) = cv
  refine Rch.go (fun _ k => XS.iloadN X0.here hx rfl (hb hby at_36) rfl  k) ?_
  show Rch p e below (s₁.setTop (mkF m 37 #[.val (.int p0), .val (.int p1), .val (.int (p1 &&& (3 : Int32))), .val (.int cv)] [(.int cv)])) _
  refine Rch.callS X0 hx hZ hown (hw _ (List.mem_of_getElem? (i := 0) rfl)) (hw _ (List.mem_of_getElem? (i := 1) rfl)) (hw _ (List.mem_of_getElem? (i := 2) rfl)) (hw _ (List.mem_of_getElem? (i := 3) rfl)) (by decide) (rm1 l Z a0 hw [] cv h0 n0 Z0 t cl S0 Ar S hat) 0 (by decide) (by decide) (by decide) (by decide) e0 (g := (mkF m 37 #[.val (.int p0), .val (.int p1), .val (.int (p1 &&& (3 : Int32))), .val (.int cv)] [(.int cv)])) rfl (by rw [hml]; rfl) [(.int cv)] [] rfl (lenOf pd0_0 rfl) rfl (by show 2 * 0 + _ ≤ _; exact Nat.le_of_eq rfl) (hb hby at_37) ?_
  intro v4 T4 L4 X4 hQ4
  obtain ⟨rfl, N4q, e4⟩ := hQ4
  have N4 := Fr.app N0 N4q
  show Rch p e below (T4.setTop (mkF m 40 #[.val (.int p0), .val (.int p1), .val (.int (p1 &&& (3 : Int32))), .val (.int cv)] [(.int (own_pc cv))])) _
  refine Rch.go (fun _ k => XS.iloadN X4.here hx rfl (hb hby at_40) rfl  k) ?_
  show Rch p e below (T4.setTop (mkF m 41 #[.val (.int p0), .val (.int p1), .val (.int (p1 &&& (3 : Int32))), .val (.int cv)] [(.int cv), (.int (own_pc cv))])) _
  refine Rch.callS X4 hx hZ hown (hw _ (List.mem_of_getElem? (i := 6) rfl)) (hw _ (List.mem_of_getElem? (i := 7) rfl)) (hw _ (List.mem_of_getElem? (i := 8) rfl)) (hw _ (List.mem_of_getElem? (i := 9) rfl)) (by decide) (rm2 l Z a0 hw [] cv h0 n0 Z0) 1 (by decide) (by decide) (by decide) (by decide) e4 (g := (mkF m 41 #[.val (.int p0), .val (.int p1), .val (.int (p1 &&& (3 : Int32))), .val (.int cv)] [(.int cv), (.int (own_pc cv))])) rfl (by rw [hml]; rfl) [(.int cv)] [(.int (own_pc cv))] rfl (lenOf pd0_0 rfl) rfl (by show 2 * 0 + _ ≤ _; exact Nat.le_of_eq rfl) (hb hby at_41) ?_
  intro v5 T5 L5 X5 hQ5
  obtain ⟨rfl, N5q, e5⟩ := hQ5
  have N5 := Fr.app N4 N5q
  show Rch p e below (T5.setTop (mkF m 44 #[.val (.int p0), .val (.int p1), .val (.int (p1 &&& (3 : Int32))), .val (.int cv)] [(.int (own_exp cv)), (.int (own_pc cv))])) _
  refine Rch.go (fun _ k => XS.icmpNo X5.here hx rfl (hb hby at_44) rfl (teq (own_same cv)).2 k) ?_
  show Rch p e below (T5.setTop (mkF m 47 #[.val (.int p0), .val (.int p1), .val (.int (p1 &&& (3 : Int32))), .val (.int cv)] [])) _
  refine Rch.go (fun _ k => XS.iconst X5.here hx rfl (hb hby at_47) k) ?_
  show Rch p e below (T5.setTop (mkF m 48 #[.val (.int p0), .val (.int p1), .val (.int (p1 &&& (3 : Int32))), .val (.int cv)] [(.int (1 : Int32))])) _
  refine Rch.go (fun _ k => XS.goto X5.here hx rfl (pc0 := 48) (pc' := 52) rfl (hb hby at_48) (by decide) (by decide) k) ?_
  show Rch p e below (T5.setTop (mkF m 52 #[.val (.int p0), .val (.int p1), .val (.int (p1 &&& (3 : Int32))), .val (.int cv)] [(.int (1 : Int32))])) _
  exact Rch.ret X5 hlk (fun h => by rw [hret] at h; cases h) (fun fs hr => retN X5 hx (t := .boolean) hret (by simp) (hb hby at_52) hr) ⟨rfl, N5⟩ (by decide) (by decide)
set_option maxRecDepth 65536 in
set_option maxHeartbeats 40000000 in
theorem comes_1 {Post : Tables → Env → Array Value → State → Outcome → State → Prop} (hpost : ∀ tb e args s v u, (limb_1_1.after args s (.returned v) u = true ∧ limb_1_2.after args s (.returned v) u = true ∧ True) → FrameEnd s (.returned v) u (Jvm.fieldLocs frame_1_writes args s ++ Jvm.arrayLocs frame_1_arrays args s ++ Jvm.staticLocs frame_1_statics s) 0 0 → Post tb e args s (.returned v) u) :
    ArmFor flags0 classFile x code maxLocals ret World_1 tables_1 room_1 Calls_1 rest_1 Pre_1 Post := by
  intro l hfl _ _ p e ha hc hk s m args below hf hA hF happ hP
  obtain ⟨hcalls, hrest, hpre⟩ := hP
  obtain ⟨-, -, -, hnamed, -, -, -, hat⟩ := (Spec.applies_iff hf).mp happ
  obtain ⟨hg, hn⟩ := and_e (Cond.before_iff.mp (show (Jvm.Cond.and given_1 narrow_1).before args s = true from hpre))
  obtain ⟨hcount, q0⟩ := and_e hg
  obtain ⟨b0, q1⟩ := and_e q0
  obtain ⟨w0, w1, rfl⟩ : ∃ w0 w1 : Value, args = #[w0, w1] := by
    have hs : args.size = 2 := by simpa [Cond.value, given_1] using hcount
    obtain ⟨L⟩ := args
    match L, hs with
    | [w0, w1], _ => exact ⟨w0, w1, rfl⟩
  have hw := fun d (hd : d ∈ tables_1) => atoms_spec (ws := Jvm.Cond.code x code maxLocals ret :: tables_1) hat d (List.mem_cons_of_mem _ hd)
  have hfit : Fit s := fun {y c} hc i hi => by
    obtain ⟨ha, rfl⟩ := Array.getElem?_eq_some_iff.mp hc
    have q := List.all_eq_true.mp ((Array.all_eq_true_iff_forall_mem.mp hF) _ (Array.getElem_mem ha)) i (List.mem_range.mpr hi)
    simpa [Array.getElem?_eq_getElem hi] using q
  obtain ⟨i0, ei0⟩ := is_v b0
  obtain rfl : w0 = (.int i0) := Option.some.inj ei0
  obtain ⟨i1, ei1⟩ := is_v q1
  obtain rfl : w1 = (.int i1) := Option.some.inj ei1
  obtain ⟨c0, r0⟩ := and_e hn
  obtain ⟨c1, r1⟩ := and_e r0
  obtain ⟨c2, r2⟩ := and_e r1
  obtain ⟨c3, r3⟩ := and_e r2
  obtain ⟨c4, r4⟩ := and_e r3
  obtain ⟨c5, r5⟩ := and_e r4
  obtain ⟨c6, r6⟩ := and_e r5
  obtain ⟨c7, r7⟩ := and_e r6
  obtain ⟨c8, r8⟩ := and_e r7
  obtain ⟨c9, r9⟩ := and_e r8
  obtain ⟨c10, r10⟩ := and_e r9
  obtain ⟨c11, r11⟩ := and_e r10
  obtain ⟨c12, r12⟩ := and_e r11
  obtain ⟨c13, r13⟩ := and_e r12
  obtain ⟨c14, r14⟩ := and_e r13
  obtain ⟨c15, r15⟩ := and_e r14
  obtain ⟨c16, r16⟩ := and_e r15
  obtain ⟨c17, r17⟩ := and_e r16
  obtain ⟨c18, r18⟩ := and_e r17
  obtain ⟨c19, r19⟩ := and_e r18
  obtain ⟨c20, r20⟩ := and_e r19
  obtain ⟨c21, r21⟩ := and_e r20
  obtain ⟨c22, r22⟩ := and_e r21
  obtain ⟨c23, r23⟩ := and_e r22
  obtain ⟨t, ev⟩ := own_ref c0
  obtain ⟨cl, Ar⟩ := Arr.start ev c0
  have hca := Ar.fin (Vm.Alike.refl _)
  obtain ⟨hsz, hln⟩ := own_len ev hca (own_eqI c1)
  have S : cl.slots.size = (128 : Int32).toNatClampNeg := by rw [← hln, Int32.toNatClampNeg, show cl.slots.size.toInt32.toInt = (cl.slots.size : Int) from Int32.toInt_ofNat_of_lt (by omega)]; rfl
  have S' : cl.slots.size = 128 := S
  have S0 := Sta.start ev (Or.inr ⟨(hw _ (List.mem_of_getElem? (i := 2) rfl)), (hw _ (List.mem_of_getElem? (i := 5) rfl))⟩)
  have hat' : ∀ j, j < 128 → cl.slots[j]? = some (.int (own_tab j)) := by
    intro j hj
    unfold own_tab
    by_cases q0 : j < 33
    · rw [if_pos q0]
      exact own_rng0 ev hca hj (by show ¬ (33 : Int) ≤ (j : Int); omega) (Cond.all_elim ev hca c2 j (by omega))
    rw [if_neg q0]
    by_cases q1 : j < 34
    · rw [if_pos q1]
      exact own_pt hj q1 (by omega) (own_at 33 rfl ev hca c3)
    rw [if_neg q1]
    by_cases q2 : j < 35
    · rw [if_pos q2]
      exact own_pt hj q2 (by omega) (own_at 34 rfl ev hca c4)
    rw [if_neg q2]
    by_cases q3 : j < 36
    · rw [if_pos q3]
      exact own_pt hj q3 (by omega) (own_at 35 rfl ev hca c5)
    rw [if_neg q3]
    by_cases q4 : j < 37
    · rw [if_pos q4]
      exact own_pt hj q4 (by omega) (own_at 36 rfl ev hca c6)
    rw [if_neg q4]
    by_cases q5 : j < 38
    · rw [if_pos q5]
      exact own_pt hj q5 (by omega) (own_at 37 rfl ev hca c7)
    rw [if_neg q5]
    by_cases q6 : j < 47
    · rw [if_pos q6]
      exact own_rng ev hca hj (by show ¬ (j : Int) < (38 : Int); omega) (by show ¬ (47 : Int) ≤ (j : Int); omega) (Cond.all_elim ev hca c8 j (by omega))
    rw [if_neg q6]
    by_cases q7 : j < 48
    · rw [if_pos q7]
      exact own_pt hj q7 (by omega) (own_at 47 rfl ev hca c9)
    rw [if_neg q7]
    by_cases q8 : j < 60
    · rw [if_pos q8]
      exact own_rng ev hca hj (by show ¬ (j : Int) < (48 : Int); omega) (by show ¬ (60 : Int) ≤ (j : Int); omega) (Cond.all_elim ev hca c10 j (by omega))
    rw [if_neg q8]
    by_cases q9 : j < 61
    · rw [if_pos q9]
      exact own_pt hj q9 (by omega) (own_at 60 rfl ev hca c11)
    rw [if_neg q9]
    by_cases q10 : j < 62
    · rw [if_pos q10]
      exact own_pt hj q10 (by omega) (own_at 61 rfl ev hca c12)
    rw [if_neg q10]
    by_cases q11 : j < 63
    · rw [if_pos q11]
      exact own_pt hj q11 (by omega) (own_at 62 rfl ev hca c13)
    rw [if_neg q11]
    by_cases q12 : j < 64
    · rw [if_pos q12]
      exact own_pt hj q12 (by omega) (own_at 63 rfl ev hca c14)
    rw [if_neg q12]
    by_cases q13 : j < 91
    · rw [if_pos q13]
      exact own_rng ev hca hj (by show ¬ (j : Int) < (64 : Int); omega) (by show ¬ (91 : Int) ≤ (j : Int); omega) (Cond.all_elim ev hca c15 j (by omega))
    rw [if_neg q13]
    by_cases q14 : j < 95
    · rw [if_pos q14]
      exact own_rng ev hca hj (by show ¬ (j : Int) < (91 : Int); omega) (by show ¬ (95 : Int) ≤ (j : Int); omega) (Cond.all_elim ev hca c16 j (by omega))
    rw [if_neg q14]
    by_cases q15 : j < 96
    · rw [if_pos q15]
      exact own_pt hj q15 (by omega) (own_at 95 rfl ev hca c17)
    rw [if_neg q15]
    by_cases q16 : j < 97
    · rw [if_pos q16]
      exact own_pt hj q16 (by omega) (own_at 96 rfl ev hca c18)
    rw [if_neg q16]
    by_cases q17 : j < 123
    · rw [if_pos q17]
      exact own_rng ev hca hj (by show ¬ (j : Int) < (97 : Int); omega) (by show ¬ (123 : Int) ≤ (j : Int); omega) (Cond.all_elim ev hca c19 j (by omega))
    rw [if_neg q17]
    by_cases q18 : j < 124
    · rw [if_pos q18]
      exact own_pt hj q18 (by omega) (own_at 123 rfl ev hca c20)
    rw [if_neg q18]
    by_cases q19 : j < 125
    · rw [if_pos q19]
      exact own_pt hj q19 (by omega) (own_at 124 rfl ev hca c21)
    rw [if_neg q19]
    by_cases q20 : j < 126
    · rw [if_pos q20]
      exact own_pt hj q20 (by omega) (own_at 125 rfl ev hca c22)
    rw [if_neg q20]
    by_cases q21 : j < 127
    · rw [if_pos q21]
      exact own_pt hj q21 (by omega) (own_at 126 rfl ev hca c23)
    rw [if_neg q21]
    obtain rfl : j = 127 := by omega
    exact own_at 127 rfl ev hca r23
  obtain ⟨n, o, h1, h2, h3, _, L, rfl, ⟨rfl, N⟩, hq⟩ := rm0 l s _ hw tables_1 i0 i1 s.heap s.heap.size (Nat.le_refl _) t cl S0 Ar S hat' p e ha hc hk s m _ below hf ((Spec.applies_iff_loose hf).mp happ).1 ⟨rfl, State.Warmed39.refl s, rfl⟩ trivial
  refine ⟨n, _, h1, h2, h3, hpost _ _ _ _ _ _ ⟨Cond.after_iff.mpr rfl, Cond.after_iff.mpr (eq_i res_at (Term.int_eval (1)) rfl), trivial⟩ ⟨hq.1, hq.2.1, (hq.2.2.sift fun y hy => Or.inr (N y hy)).mono (by decide) (by decide)⟩⟩
theorem main_1_1 : Claimed_1_1 := comes_1 fun _ _ _ _ _ _ h hF => ⟨h.1, hF⟩
theorem main_1_2 : Claimed_1_2 := comes_1 fun _ _ _ _ _ _ h hF => ⟨h.2.1, hF⟩
end Jvm.Pilot.@@N@@
namespace Jvm.Pilot.@@N@@
open Jvm Jvm.ClassFile Sem Op Lib Jvm.Free Jvm.Stand Jvm.Pilot.@@N@@.Jvm.D
/-! MADE BY PROGRAM (witnessworld.py) out of the Statement's table words and the real class files: 11 classes; the members and pool entries that the words name. The judged class is class 1, her method 1. -/
namespace start1
open Jvm.ClassFile
def u (s : String) : CpInfo := .utf8 (stringToUtf16 s)
/-- a pool by its gaps: so many unusable entries, then the entry; so many at the end -/
def gap : Nat → List CpInfo → List CpInfo
  | 0, r => r
  | n + 1, r => .unusable :: gap n r
def poolList (es : List (Nat × CpInfo)) (last : Nat) : List CpInfo := es.foldr (fun e r => gap e.1 (e.2 :: r)) (gap last [])
def pool (es : List (Nat × CpInfo)) (last : Nat) : Array CpInfo := ⟨poolList es last⟩
def fileOf (pool : Array CpInfo) (this : Nat) (attrs : Array Attribute := #[]) (ms : Array MethodInfo := #[]) (fl : Nat := 33) (sup : Nat := 0) (ifs : Array Nat := #[]) (fds : Array FieldInfo := #[]) : ClassFile where
  minorVersion := 0
  majorVersion := 65
  constantPool := pool
  accessFlags := fl
  thisClass := this
  superClass := sup
  interfaces := ifs
  fields := fds
  methods := ms
  attributes := attrs
def plain (name : String) (sup : Option ClassId) : Class where
  name := name
  kind := .ordinary
  loader := none
  accessFlags := 33
  super := sup
  interfaces := #[]
  cf := none
  fields := #[]
  methods := #[]
  instanceTypes := #[]
  staticTypes := #[]
  resolved := #[]
  callSites := []
  init := .initialized
  statics := none
  mirror := none

def pool0 : Array CpInfo := pool [(5, u "<init>"), (0, u "()V"), (1, .class_ 10), (1, u "java/lang/Object")] 113

def k0m0 : Method := { name := "<init>", desc := "()V", sig := { parameters := [], returnType := none }, accessFlags := 1, code := none }
/-- java/lang/Object -/
def k0 : Class := { plain "java/lang/Object" none with
  accessFlags := 33
  interfaces := #[]
  cf := some (fileOf pool0 8 #[] #[{ accessFlags := 1, nameIndex := 5, descriptorIndex := 6, attributes := #[] }] 33 0 #[] #[])
  fields := #[]
  methods := #[k0m0]
  instanceTypes := #[]
  staticTypes := #[]
  resolved := Array.replicate 124 none
  statics := none }

def pool1 : Array CpInfo := pool [(2, .class_ 4), (1, u "java/lang/Object"), (0, u "<init>"), (0, u "()V"), (0, .methodref 8 9), (0, .class_ 10), (0, .nameAndType 11 12), (0, u "com/example/remitto/remitto/internal/UriComponents"), (0, u "isPchar"), (0, u "(I)Z"), (0, .methodref 14 15), (0, .class_ 16), (0, .nameAndType 17 12), (0, u "com/example/remitto/remitto/internal/UriComponentsIsPcharPinLaw"), (0, u "expected"), (2, u "law"), (0, u "(II)Z")] 3

def k1m0 : Method := { name := "<init>", desc := "()V", sig := { parameters := [], returnType := none }, accessFlags := 2, code := none }
def k1c1 : Code := { maxStack := 2, maxLocals := 4, code := code, exceptionTable := #[], attributes := #[] }
def k1m1 : Method := { name := "law", desc := "(II)Z", sig := { parameters := [.int, .int], returnType := some .boolean }, accessFlags := 9, code := some k1c1 }
def k1c2 : Code := { maxStack := 2, maxLocals := 1, code := method_3_code, exceptionTable := #[], attributes := #[] }
def k1m2 : Method := { name := "expected", desc := "(I)Z", sig := { parameters := [.int], returnType := some .boolean }, accessFlags := 10, code := some k1c2 }
/-- com/example/remitto/remitto/internal/UriComponentsIsPcharPinLaw -/
def k1 : Class := { plain "com/example/remitto/remitto/internal/UriComponentsIsPcharPinLaw" (some 0) with
  accessFlags := 49
  interfaces := #[]
  cf := some (fileOf pool1 14 #[] #[{ accessFlags := 2, nameIndex := 5, descriptorIndex := 6, attributes := #[] }, { accessFlags := 9, nameIndex := 20, descriptorIndex := 21, attributes := #[] }, { accessFlags := 10, nameIndex := 17, descriptorIndex := 12, attributes := #[] }] 49 2 #[] #[])
  fields := #[]
  methods := #[k1m0, k1m1, k1m2]
  instanceTypes := #[]
  staticTypes := #[]
  resolved := Array.replicate 25 none
  statics := none }

def pool2 : Array CpInfo := pool [(2, .class_ 4), (1, u "java/lang/Object"), (0, u "<init>"), (0, u "()V"), (7, .class_ 16), (1, u "com/example/remitto/remitto/internal/UriComponents"), (24, u "(I)Z"), (8, .fieldref 14 51), (0, .nameAndType 52 53), (0, u "ASCII_PCHARS"), (0, u "[Z"), (10, u "isPchar"), (141, u "HEX_DIGITS"), (0, u "Ljava/lang/String;"), (1, u "REPLACEMENT_CHARACTER"), (0, u "C")] 45

def k2m0 : Method := { name := "<init>", desc := "()V", sig := { parameters := [], returnType := none }, accessFlags := 2, code := none }
def k2c1 : Code := { maxStack := 2, maxLocals := 1, code := prog_25_method_5_code, exceptionTable := #[], attributes := #[] }
def k2m1 : Method := { name := "isPchar", desc := "(I)Z", sig := { parameters := [.int], returnType := some .boolean }, accessFlags := 9, code := some k2c1 }
/-- com/example/remitto/remitto/internal/UriComponents -/
def k2 : Class := { plain "com/example/remitto/remitto/internal/UriComponents" (some 0) with
  accessFlags := 49
  interfaces := #[]
  cf := some (fileOf pool2 14 #[] #[{ accessFlags := 2, nameIndex := 5, descriptorIndex := 6, attributes := #[] }, { accessFlags := 9, nameIndex := 64, descriptorIndex := 41, attributes := #[] }] 49 2 #[] #[{ accessFlags := 26, nameIndex := 206, descriptorIndex := 207, attributes := #[] }, { accessFlags := 26, nameIndex := 209, descriptorIndex := 210, attributes := #[] }, { accessFlags := 26, nameIndex := 52, descriptorIndex := 53, attributes := #[] }])
  fields := #[{ name := "HEX_DIGITS", type := (.object "java/lang/String"), accessFlags := 26, slot := 0, constantValue := 0 }, { name := "REPLACEMENT_CHARACTER", type := .char, accessFlags := 26, slot := 1, constantValue := 0 }, { name := "ASCII_PCHARS", type := (.array .boolean), accessFlags := 26, slot := 2, constantValue := 0 }]
  methods := #[k2m0, k2m1]
  instanceTypes := #[]
  staticTypes := #[(.object "java/lang/String"), .char, (.array .boolean)]
  resolved := Array.replicate 256 none
  statics := some 0 }

def pool3 : Array CpInfo := pool [(1, u "java/lang/Cloneable"), (0, .class_ 1), (0, u "java/lang/Object"), (0, .class_ 3)] 3

/-- java/lang/Cloneable -/
def k3 : Class := { plain "java/lang/Cloneable" (some 0) with
  accessFlags := 1537
  interfaces := #[]
  cf := some (fileOf pool3 2 #[] #[] 1537 4 #[] #[])
  fields := #[]
  methods := #[]
  instanceTypes := #[]
  staticTypes := #[]
  resolved := Array.replicate 8 none
  statics := none }

def pool4 : Array CpInfo := pool [(1, u "java/io/Serializable"), (0, .class_ 1), (0, u "java/lang/Object"), (0, .class_ 3)] 3

/-- java/io/Serializable -/
def k4 : Class := { plain "java/io/Serializable" (some 0) with
  accessFlags := 1537
  interfaces := #[]
  cf := some (fileOf pool4 2 #[] #[] 1537 4 #[] #[])
  fields := #[]
  methods := #[]
  instanceTypes := #[]
  staticTypes := #[]
  resolved := Array.replicate 8 none
  statics := none }

/-- the primitive boolean -/
def k5 : Class := { plain "boolean" none with kind := .primitive 'Z', accessFlags := 0x411 }
/-- [Z -/
def k6 : Class := { plain "[Z" (some 0) with kind := .array 5 .boolean, interfaces := #[3, 4], accessFlags := 1041 }

/-- the primitive byte -/
def k7 : Class := { plain "byte" none with kind := .primitive 'B', accessFlags := 0x411 }
/-- [B -/
def k8 : Class := { plain "[B" (some 0) with kind := .array 7 .byte, interfaces := #[3, 4], accessFlags := 1041 }

/-- the primitive int -/
def k9 : Class := { plain "int" none with kind := .primitive 'I', accessFlags := 0x411 }
/-- [I -/
def k10 : Class := { plain "[I" (some 0) with kind := .array 9 .int, interfaces := #[3, 4], accessFlags := 1041 }

def heap : Heap := #[{ cls := 2, slots := #[.null, .int 0, .ref 1], vm := .statics 2 },
  { cls := 6, slots := #[.int 0, .int 0, .int 0, .int 0, .int 0, .int 0, .int 0, .int 0, .int 0, .int 0, .int 0, .int 0, .int 0, .int 0, .int 0, .int 0, .int 0, .int 0, .int 0, .int 0, .int 0, .int 0, .int 0, .int 0, .int 0, .int 0, .int 0, .int 0, .int 0, .int 0, .int 0, .int 0, .int 0, .int 1, .int 0, .int 0, .int 1, .int 0, .int 1, .int 1, .int 1, .int 1, .int 1, .int 1, .int 1, .int 1, .int 1, .int 0, .int 1, .int 1, .int 1, .int 1, .int 1, .int 1, .int 1, .int 1, .int 1, .int 1, .int 1, .int 1, .int 0, .int 1, .int 0, .int 0, .int 1, .int 1, .int 1, .int 1, .int 1, .int 1, .int 1, .int 1, .int 1, .int 1, .int 1, .int 1, .int 1, .int 1, .int 1, .int 1, .int 1, .int 1, .int 1, .int 1, .int 1, .int 1, .int 1, .int 1, .int 1, .int 1, .int 1, .int 0, .int 0, .int 0, .int 0, .int 1, .int 0, .int 1, .int 1, .int 1, .int 1, .int 1, .int 1, .int 1, .int 1, .int 1, .int 1, .int 1, .int 1, .int 1, .int 1, .int 1, .int 1, .int 1, .int 1, .int 1, .int 1, .int 1, .int 1, .int 1, .int 1, .int 1, .int 1, .int 0, .int 0, .int 0, .int 1, .int 0], vm := .none }]
def classes : Array Class := #[k0, k1, k2, k3, k4, k5, k6, k7, k8, k9, k10]
def interned : List (Array UInt16 × Addr) := []
def slotsUsed : Nat := 131
def theMethod : MethodId := ⟨1, 1⟩
def args0 : Array Value := #[.int 5, .int 7]
def aboutOver (below : List Frame) : State where
  vm := { classes := classes, interned := interned.toArray }
  heap := heap
  slotsUsed := slotsUsed
  threads := #[{ frames := .invoking theMethod args0 :: below }]
def below0 : List Frame := [.native { method := ⟨0, 0⟩, args := #[] }]
def about1 : State := aboutOver below0
def p0 : Program := .bare "" "" ""
def e0 : Env := launch0.env 0 0 0
theorem w_frames : about1.frames = Frame.invoking theMethod args0 :: below0 := rfl
set_option maxRecDepth 65536 in
theorem w_args : argsFit about1.vm theMethod args0 = true := by decide +kernel
set_option maxRecDepth 65536 in
theorem w_heap : heapFits about1 = true := by decide +kernel
set_option maxRecDepth 65536 in
theorem w_runnable : about1.curStatus? = some .runnable := by decide +kernel
set_option maxRecDepth 65536 in
theorem w_alone : about1.alone = true := by decide +kernel
set_option maxRecDepth 65536 in
theorem w_named : about1.methodNamed? x = some theMethod := by decide +kernel
set_option maxRecDepth 65536 in
theorem w_hears : about1.hears theMethod below0 = true := by decide +kernel
set_option maxRecDepth 65536 in
theorem w_ripe : about1.ripe theMethod args0 below0 = true := by decide +kernel
theorem w_running : about1.status = .running := rfl
set_option maxRecDepth 65536 in
theorem w_room : about1.hasRoom e0.platform room_1 = true :=
  launch0.hasRoom_least _ room_1 (by decide +kernel) (by decide +kernel) (by decide +kernel) (by decide +kernel) (by decide +kernel) (by decide +kernel)
theorem allAtoms_all (ts : List Jvm.Cond) (a : Array Jvm.Value) (st : Jvm.State) : (allAtoms ts).before a st = ts.all (fun c => c.before a st) := by
  induction ts with
  | nil => rfl
  | cons c t ih =>
    show (Jvm.Cond.and c (allAtoms t)).before a st = _
    rw [Jvm.Cond.before_and, ih, List.all_cons]
def words1 : List Jvm.Cond := Jvm.Cond.code x code maxLocals ret :: tables_1
/-- a 'code' word, met by the world's own term for the bytes: nothing is compared byte by byte -/
theorem code_word {y : MethodName} {bytes : ByteArray} {mx : Nat} {rt : Option FieldType} {a : Array Value} {s : State} {m : MethodId} {meth : Method} {c : Code} (h1 : s.methodNamed? y = some m) (h2 : s.vm.method? m = some meth) (h3 : meth.code = some c) (h4 : c.code = bytes)
    (h5 : (c.maxLocals == mx && c.exceptionTable.isEmpty && decide (c.maxStack ≤ mostOperands) && decide (meth.sig.returnType = rt) && !meth.locks && decide (parseMethodDescriptor y.desc = some meth.sig)) = true) : (Jvm.Cond.code y bytes mx rt).before a s = true := by
  simp only [Bool.and_eq_true, beq_iff_eq, Bool.not_eq_true', decide_eq_true_eq] at h5
  obtain ⟨⟨⟨⟨⟨g1, g2⟩, g3⟩, g4⟩, g5⟩, g6⟩ := h5
  simp [Cond.before, Cond.holds, Cond.value, h1, h2, h3, h4, g1, g2, g3, g4, g5, g6]
def isCode : Jvm.Cond → Bool
  | .code _ _ _ _ => true
  | _ => false
theorem all_split {L : List Jvm.Cond} {P : Jvm.Cond → Bool} (h1 : L.all (fun c => isCode c || P c) = true) (h2 : ∀ c ∈ L.filter isCode, P c = true) : L.all P = true := by
  refine List.all_eq_true.mpr fun c hc => ?_
  have h := List.all_eq_true.mp h1 c hc
  rcases Bool.eq_false_or_eq_true (isCode c) with hi | hi
  · exact h2 c (List.mem_filter.mpr ⟨hc, hi⟩)
  · simpa [hi] using h
set_option maxRecDepth 65536 in
theorem w_c0 : (Jvm.Cond.code x code maxLocals ret).before args0 about1 = true := code_word (m := ⟨1, 1⟩) (meth := k1m1) (c := k1c1) (by decide +kernel) rfl rfl rfl (by decide +kernel)
set_option maxRecDepth 65536 in
theorem w_c1 : (Jvm.Cond.code ({ cls := "com/example/remitto/remitto/internal/UriComponents", name := "isPchar", desc := "(I)Z" } : Jvm.MethodName) prog_25_method_5_code (1 : Nat) (Option.some Jvm.ClassFile.FieldType.boolean)).before args0 about1 = true := code_word (m := ⟨2, 1⟩) (meth := k2m1) (c := k2c1) (by decide +kernel) rfl rfl rfl (by decide +kernel)
set_option maxRecDepth 65536 in
theorem w_c2 : (Jvm.Cond.code ({ cls := "com/example/remitto/remitto/internal/UriComponentsIsPcharPinLaw", name := "expected", desc := "(I)Z" } : Jvm.MethodName) method_3_code (1 : Nat) (Option.some Jvm.ClassFile.FieldType.boolean)).before args0 about1 = true := code_word (m := ⟨1, 2⟩) (meth := k1m2) (c := k1c2) (by decide +kernel) rfl rfl rfl (by decide +kernel)
def codes1 : List Jvm.Cond := [Jvm.Cond.code x code maxLocals ret, Jvm.Cond.code ({ cls := "com/example/remitto/remitto/internal/UriComponents", name := "isPchar", desc := "(I)Z" } : Jvm.MethodName) prog_25_method_5_code (1 : Nat) (Option.some Jvm.ClassFile.FieldType.boolean), Jvm.Cond.code ({ cls := "com/example/remitto/remitto/internal/UriComponentsIsPcharPinLaw", name := "expected", desc := "(I)Z" } : Jvm.MethodName) method_3_code (1 : Nat) (Option.some Jvm.ClassFile.FieldType.boolean)]
set_option maxRecDepth 65536 in
theorem codes_eq : words1.filter isCode = codes1 := rfl
theorem w_codes : ∀ c ∈ words1.filter isCode, c.before args0 about1 = true := by
  rw [codes_eq]
  intro c hc
  simp only [codes1, List.mem_cons, List.not_mem_nil, or_false] at hc
  rcases hc with rfl | rfl | rfl
  · exact w_c0
  · exact w_c1
  · exact w_c2
set_option maxRecDepth 65536 in
theorem w_t1 : words1.all (fun c => isCode c || c.before args0 about1) = true := by decide +kernel
theorem w_tables : (allAtoms (Jvm.Cond.code x code maxLocals ret :: tables_1)).before args0 about1 = true := by
  rw [allAtoms_all]
  show words1.all (fun c => c.before args0 about1) = true
  refine all_split ?_ w_codes
  rw [w_t1]
set_option maxRecDepth 65536 in
theorem w_case : (Jvm.Cond.and given_1 narrow_1).before args0 about1 = true := by decide +kernel
theorem w_applies : (headSpec (Jvm.Cond.code x code maxLocals ret :: tables_1) room_1).applies x e0.platform about1 = true :=
  (Spec.applies_iff w_frames).mpr ⟨w_running, w_runnable, w_alone, w_named, w_hears, w_ripe, w_room, w_tables⟩
theorem atStart : AtStart classFile x code maxLocals ret World_1 tables_1 room_1 Calls_1 rest_1 Pre_1 launch0 p0 e0 about1 theMethod args0 below0 :=
  ⟨lists_1, trivial, launch0.admits_env _ _ _, launch0.least_env, fairChoices_fair.cas, fairChoices_fair.clock, w_frames, w_args, w_heap, w_applies, trivial, trivial, w_case⟩
end start1
theorem witness_1 : WitnessClaimed_1 := ⟨start1.p0, start1.e0, start1.about1, start1.theMethod, start1.args0, start1.below0, start1.atStart⟩
end Jvm.Pilot.@@N@@
