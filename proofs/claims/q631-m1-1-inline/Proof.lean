import JvmDerived
import JvmDerived.Pilot.@@N@@Statement
import JvmDerived.Pilot.@@N@@Code
set_option linter.unusedVariables false
set_option linter.unusedSimpArgs false
@@BLOCK:NumsL.lean.txt@@
namespace Jvm.RoadKit
open Sem ClassFile Op Lib Jvm.Stand Jvm.Free Jvm.LawKit
section Own
variable {p : Program} {l : Launch} {e : Env} {R : Room} {s : State} {m : MethodId} {args : Array Value} {below : List Frame} {meth : Method} {c : Code} {T T' : State} {locs : List Loc} {cells slots : Nat} {Z : State} {h0 h : Heap} {a0 : Array Value} {Q Q' : Option Value → Heap → List Loc → Prop} {rm rm0 : Room}
/-- from here on the walk returns, and what it leaves is Q -/
def own_Ends (p : Program) (e : Env) (below : List Frame) (s : State) (Q : Option Value → Heap → List Loc → Prop) (rm : Room) (T : State) (g : JFrame) : Prop :=
  ∃ s₂ o, Steps p.tables e below (T.setTop g) s₂ ∧ s₂.status = .running ∧ Ended s₂ below o ∧ ∃ v L, o = .returned v ∧ Q v s₂.heap L ∧ FrameEnd s o s₂ L rm.cells rm.slots
theorem own_go {g g' : JFrame} (h : ∀ t, Steps p.tables e below (T'.setTop g') t → Steps p.tables e below (T.setTop g) t) (H : own_Ends p e below s Q rm T' g') : own_Ends p e below s Q rm T g := by
  obtain ⟨s₂, o, h1, r⟩ := H
  exact ⟨s₂, o, h _ h1, r⟩
/-- a goal that may be stepped back -/
def own_Closed (p : Program) (e : Env) (below : List Frame) (G : State → JFrame → Prop) : Prop := ∀ (T T' : State) (g g' : JFrame), (∀ t, Steps p.tables e below (T'.setTop g') t → Steps p.tables e below (T.setTop g) t) → G T' g' → G T g
theorem own_closed : own_Closed p e below (own_Ends p e below s Q rm) := fun _ _ _ _ h H => own_go h H
theorem own_cast {g g' : JFrame} (q : g = g') (H : own_Ends p e below s Q rm T g') : own_Ends p e below s Q rm T g := q ▸ H
/-- it gives r back, and the heap as it was -/
def own_QP (h0 : Heap) (r : Option Value) (v : Option Value) (h : Heap) (L : List Loc) : Prop := v = r ∧ L = [] ∧ h = h0
theorem own_lrem (x y : Int64) : x - (x / y) * y = x % y := by
  apply Int64.toInt_inj.mp
  have h1 := Int64.le_toInt (x % y)
  have h2 := Int64.toInt_lt (x % y)
  rw [Int64.toInt_sub, Int64.toInt_mul, Int64.toInt_div, Int.bmod_mul_bmod, Int.sub_bmod_bmod, Int.mul_comm (x.toInt.tdiv y.toInt), ← Int.tmod_def, ← Int64.toInt_mod]
  exact Int.bmod_eq_of_le_mul_two (by omega) (by omega)
theorem own_lremM {g : JFrame} {target : State} (X : Stand p l e R s m args below meth c T locs cells slots) (hx : p.tables.exec = Jvm.exec) (hg : g.method = m) {x y : Int64} {rest : List Value} (hd : decode c.code g.pc = .ok (.lrem, 1)) (hs : g.stack = .long y :: .long x :: rest) (hy : y ≠ 0)
    (hr : Steps p.tables e below (T.setTop { g with pc := g.pc + 1, stack := .long (x % y) :: rest }) target) : Steps p.tables e below (T.setTop g) target := by
  have q : x - x / y * y = x % y := own_lrem x y
  exact XS.lrem X.here hx hg hd hs hy (by rw [q]; exact hr)
/-- a body's contract -/
def own_Met (l : Launch) (Z : State) (y : MethodName) (bytes : ByteArray) (maxL : Nat) (ret : Option FieldType) (ws : List Cond) (rm : Room) (as' : Array Value) (h0 : Heap) (Q : Option Value → Heap → List Loc → Prop) : Prop :=
  MetFree l y (head1 (Cond.code y bytes maxL ret :: ws) rm) (fun a U => a = as' ∧ Z.Warmed39 U.vm ∧ U.heap = h0) (fun _ _ _ _ _ => True) (fun _ U o U' => ∃ v L, o = .returned v ∧ Q v U'.heap L ∧ FrameEnd U o U' L rm.cells rm.slots)
theorem own_met {y : MethodName} {bytes : ByteArray} {maxL : Nat} {ret : Option FieldType} {ws : List Cond} {as' : Array Value} (hy : plainFor y = true)
    (H : ∀ (p : Program) (e : Env) (s : State) (m : MethodId) (below : List Frame) (meth : Method) (c : Code) (s₁ : State), p.tables.exec = Jvm.exec → c.code = bytes → c.maxLocals = maxL → s.vm.findClass y.cls = some m.cls → meth.name = y.name → meth.sig.returnType = ret → meth.locks = false → Z.Warmed39 s.vm →
      Stand p l e rm s m as' below meth c s₁ [] 0 0 → s₁.heap = h0 → own_Ends p e below s Q rm s₁ (entryFrame m as' maxL)) : own_Met l Z y bytes maxL ret ws rm as' h0 Q := by
  refine MetFree.of_bodySF hy hisR ?_
  intro p e s m args below meth c s₁ Bd hml0 hP hK
  obtain ⟨rfl, hZ, hh⟩ := hP
  exact H p e s m below meth c s₁ Bd.exec Bd.bytes hml0 (findClass_of_methodNamed Bd.named) (name_of_methodNamed Bd.named Bd.method).1 Bd.returns Bd.notSynchronized hZ (Stand.of_body Bd) (by rw [← hh, Bd.state]; rfl)
theorem own_retI (X : Stand p l e R s m args below meth c T locs cells slots) (hx : p.tables.exec = Jvm.exec) (hlk : meth.locks = false) {pc : Nat} {Ls : Array Slot} {z : Int32} {rest : List Value} (hret : meth.sig.returnType = some .int) (hd : decode c.code pc = .ok (.ireturn, 1))
    (hk : cells ≤ rm.cells) (hn : slots ≤ rm.slots) (hq : Q (some (.int z)) T.heap locs) : own_Ends p e below s Q rm T (mkF m pc Ls (.int z :: rest)) := by
  obtain ⟨fs, hr, hrun, hended, hW, hsame⟩ := X.leave (v := some (.int z)) (fun h => by rw [hret] at h; cases h) hlk
  exact ⟨_, _, retOut X hx hret rfl (Or.inl ⟨rfl, Or.inl rfl, z, rfl⟩) hd hr, hrun, hended, _, _, rfl, hq, ⟨_, rfl⟩, hW, hsame.mono hk hn⟩
theorem own_retN (X : Stand p l e R s m args below meth c T locs cells slots) (hx : p.tables.exec = Jvm.exec) (hlk : meth.locks = false) {pc : Nat} {Ls : Array Slot} {z z' : Int32} {t : FieldType} {rest : List Value} (hret : meth.sig.returnType = some t) (ht : t = .boolean ∨ t = .byte ∨ t = .char ∨ t = .short) (hd : decode c.code pc = .ok (.ireturn, 1)) (hz : nar t z = z')
    (hk : cells ≤ rm.cells) (hn : slots ≤ rm.slots) (hq : Q (some (.int z')) T.heap locs) : own_Ends p e below s Q rm T (mkF m pc Ls (.int z :: rest)) := by
  subst hz
  obtain ⟨fs, hr, hrun, hended, hW, hsame⟩ := X.leave (v := some (.int (nar t z))) (fun h => by rw [hret] at h; cases h) hlk
  exact ⟨_, _, retN X hx hret ht hd hr, hrun, hended, _, _, rfl, hq, ⟨_, rfl⟩, hW, hsame.mono hk hn⟩
theorem own_retA (X : Stand p l e R s m args below meth c T locs cells slots) (hx : p.tables.exec = Jvm.exec) (hlk : meth.locks = false) {pc : Nat} {Ls : Array Slot} {w : Value} {t : FieldType} {rest : List Value} (hret : meth.sig.returnType = some t) (ht : t.isReference = true) (hw : w.isRef = true) (hd : decode c.code pc = .ok (.areturn, 1))
    (hk : cells ≤ rm.cells) (hn : slots ≤ rm.slots) (hq : Q (some w) T.heap locs) : own_Ends p e below s Q rm T (mkF m pc Ls (w :: rest)) := by
  obtain ⟨fs, hr, hrun, hended, hW, hsame⟩ := X.leave (v := some w) (fun h => by rw [hret] at h; cases h) hlk
  have hnw : narrow t w = w := by cases w <;> cases t <;> first | rfl | cases ht | cases hw
  exact ⟨_, _, retOut X hx hret hnw (Or.inr (Or.inr (Or.inr (Or.inr ⟨rfl, ht, hw⟩)))) hd hr, hrun, hended, _, _, rfl, hq, ⟨_, rfl⟩, hW, hsame.mono hk hn⟩
theorem own_retJ (X : Stand p l e R s m args below meth c T locs cells slots) (hx : p.tables.exec = Jvm.exec) (hlk : meth.locks = false) {pc : Nat} {Ls : Array Slot} {z : Int64} {rest : List Value} (hret : meth.sig.returnType = some .long) (hd : decode c.code pc = .ok (.lreturn, 1))
    (hk : cells ≤ rm.cells) (hn : slots ≤ rm.slots) (hq : Q (some (.long z)) T.heap locs) : own_Ends p e below s Q rm T (mkF m pc Ls (.long z :: rest)) := by
  obtain ⟨fs, hr, hrun, hended, hW, hsame⟩ := X.leave (v := some (.long z)) (fun h => by rw [hret] at h; cases h) hlk
  exact ⟨_, _, retOut X hx hret rfl (Or.inr (Or.inl ⟨rfl, rfl, z, rfl⟩)) hd hr, hrun, hended, _, _, rfl, hq, ⟨_, rfl⟩, hW, hsame.mono hk hn⟩
theorem own_retV (X : Stand p l e R s m args below meth c T locs cells slots) (hx : p.tables.exec = Jvm.exec) (hlk : meth.locks = false) {pc : Nat} {Ls : Array Slot} (hret : meth.sig.returnType = none) (hd : decode c.code pc = .ok (.return_, 1))
    (hk : cells ≤ rm.cells) (hn : slots ≤ rm.slots) (hq : Q none T.heap locs) : own_Ends p e below s Q rm T (mkF m pc Ls []) := by
  obtain ⟨fs, hr, hrun, hended, hW, hsame⟩ := X.leave (v := none) (fun _ => rfl) hlk
  exact ⟨_, _, X.returnOut hx hret hd hr, hrun, hended, _, _, rfl, hq, ⟨_, rfl⟩, hW, hsame.mono hk hn⟩
/-- what an instance method's words say besides: its own class declares it; that class is no interface; the look-up from there finds it -/
theorem own_decl {y : MethodName} {bytes : ByteArray} {maxL : Nat} {ret : Option FieldType} (w : (Cond.instanceMethod y).before a0 Z = true) (wc : (Cond.code y bytes maxL ret).before a0 Z = true) : (Cond.declares y).before a0 Z = true := by
  obtain ⟨mk, methM, hn, hm, hs, -⟩ := Cond.instanceMethod_spec w
  obtain ⟨m2, c, h1, -, -, -, -, -, -, hsig⟩ := Cond.code_spec hn wc
  cases hm.symm.trans h1
  simp [Cond.before, Cond.holds, Cond.value, hn, hm, hs, hsig]
theorem own_nf {C6 : String} {y y6 : MethodName} (w6 : (Cond.selects C6 y6 y6).before a0 Z = true) (h6 : y6.cls = y.cls) : NotFace Z y := fun r0 h0 => by
  obtain ⟨c2, r2, m2, q1, q2, q3, q4, kP, hkP, hkPi⟩ := Cond.selects_spec w6
  have e1 := findClass_of_methodNamed q3
  have e2 := findClass_of_methodNamed h0
  rw [h6] at e1
  have q := Option.some.inj (e1.symm.trans e2)
  exact ⟨kP, by rw [← q]; exact hkP, hkPi⟩
theorem own_same {C6 : String} {y y6 : MethodName} (w : (Cond.instanceMethod y).before a0 Z = true) (w6 : (Cond.selects C6 y6 y6).before a0 Z = true) (h6 : y6.cls = y.cls) (hy : y.cls ≠ "java/lang/invoke/MethodHandle" ∧ y.cls ≠ "java/lang/invoke/VarHandle") : (Cond.sameMethod y.cls y.cls y.name y.desc).before a0 Z = true := by
  obtain ⟨mk, methM, hn, hm, hs, -⟩ := Cond.instanceMethod_spec w
  obtain ⟨kr, hk, hi⟩ := own_nf w6 h6 _ hn
  have e1 := findClass_of_methodNamed hn
  have e2 := State.methodFound?_of_named hn hy
  simp [Cond.before, Cond.holds, Cond.value, e1, e2, hn, hk, hi]
/-- invokevirtual by the contract of the body that the receiver's class selects -/
theorem own_callV {G : State → JFrame → Prop} (hG : own_Closed p e below G) (X : Stand p l e R s m args below meth c T locs cells slots) (hx : p.tables.exec = Jvm.exec) (hZ : Z.Warmed39 s.vm) {own C : String} {index : Nat} {y z : MethodName} (hown : s.vm.findClass own = some m.cls)
    (w1 : (Cond.methodLink own index y).before a0 Z = true) (w2 : (Cond.declares y).before a0 Z = true) (w3 : (Cond.selects C y z).before a0 Z = true) (w4 : (Cond.instanceMethod z).before a0 Z = true) {C6 : String} {y6 : MethodName} (w6 : (Cond.selects C6 y6 y6).before a0 Z = true) (h6 : y6.cls = y.cls) (hy : y.cls ≠ "java/lang/invoke/MethodHandle" ∧ y.cls ≠ "java/lang/invoke/VarHandle")
    {bytes : ByteArray} {maxL : Nat} {ret : Option FieldType} {as' : Array Value} (hM : own_Met l Z z bytes maxL ret [] rm as' h Q') (wc : (Cond.code z bytes maxL ret).before a0 Z = true) (wz : (Cond.initialized z.cls).before a0 Z = true)
    {b : Addr} (eT : T.heap = h) (E : Exa Z h b C) {pc W : Nat} {Ls : Array Slot} {argsL rest : List Value} (hsize : Ls.size = c.maxLocals) (hlen : ∀ sig, parseMethodDescriptor y.desc = some sig → argsL.length = sig.parameters.length)
    (hW : (rest.map fun v => v.category).sum ≤ W) (hf : rm.frames + 1 ≤ R.frames) (hl : W + (maxL + 11) + rm.locals ≤ R.locals) (hc : cells + rm.cells ≤ R.cells) (hn : slots + rm.slots ≤ R.slots)
    (hdg : decode c.code pc = .ok (.invokevirtual index, 3)) (has : (Value.ref b :: argsL).toArray = as') {st : List Value} (hst : st = argsL.reverse ++ .ref b :: rest)
    (k : ∀ (T' : State) (L : List Loc) (v : Option Value), Stand p l e R s m args below meth c T' (locs ++ L) (cells + rm.cells) (slots + rm.slots) → Q' v T'.heap L → G T' (mkF m (pc + 3) Ls (v.toList ++ rest))) :
    G T (mkF m pc Ls st) := by
  subst hst
  obtain ⟨cq, kq, qa, qb, qc⟩ := isOf hZ eT E
  obtain ⟨v, _, ⟨T4, L4, k4, n4⟩, -, X4, ⟨Lc, hQ, l4, y4, z4⟩, st4⟩ := X.virtualBack hx (y := y) (z := z) hown (mvT hZ w1) (mvT hZ w2) (own_nf (a0 := #[]) (mvT hZ w6) h6) (mvT hZ w3) (mvT hZ w4) hy (backOf (W := W) hM hZ wc wz hf hl) qa qc (g := mkF m pc Ls (argsL.reverse ++ .ref b :: rest)) rfl hsize (Steps.refl _) (argsL := argsL) (rest := rest) hlen rfl (by simpa [JFrame.monitorRoom] using hW) hdg (fun _ _ => ⟨has, eT, hc, hn⟩)
  dsimp only [Pt.U, Pt.locs, Pt.cells, Pt.slots] at X4 l4 y4 z4 st4 hQ
  subst l4 y4 z4
  exact hG _ _ _ _ (fun t kt => st4.trans kt) (k _ _ _ X4 hQ)
/-- the same through a class that inherits the method -/
theorem own_callU {G : State → JFrame → Prop} (hG : own_Closed p e below G) (X : Stand p l e R s m args below meth c T locs cells slots) (hx : p.tables.exec = Jvm.exec) (hZ : Z.Warmed39 s.vm) {own C owner : String} {index : Nat} {y z : MethodName} (hown : s.vm.findClass own = some m.cls)
    (w1 : (Cond.methodLink own index y).before a0 Z = true) (w0 : (Cond.sameMethod y.cls owner y.name y.desc).before a0 Z = true) (w2 : (Cond.declares ⟨owner, y.name, y.desc⟩).before a0 Z = true) (w3 : (Cond.selects C y z).before a0 Z = true) (w4 : (Cond.instanceMethod z).before a0 Z = true) (hy : owner ≠ "java/lang/invoke/MethodHandle" ∧ owner ≠ "java/lang/invoke/VarHandle")
    {bytes : ByteArray} {maxL : Nat} {ret : Option FieldType} {as' : Array Value} (hM : own_Met l Z z bytes maxL ret [] rm as' h Q') (wc : (Cond.code z bytes maxL ret).before a0 Z = true) (wz : (Cond.initialized z.cls).before a0 Z = true)
    {b : Addr} (eT : T.heap = h) (E : Exa Z h b C) {pc W : Nat} {Ls : Array Slot} {argsL rest : List Value} (hsize : Ls.size = c.maxLocals) (hlen : ∀ sig, parseMethodDescriptor y.desc = some sig → argsL.length = sig.parameters.length)
    (hW : (rest.map fun v => v.category).sum ≤ W) (hf : rm.frames + 1 ≤ R.frames) (hl : W + (maxL + 11) + rm.locals ≤ R.locals) (hc : cells + rm.cells ≤ R.cells) (hn : slots + rm.slots ≤ R.slots)
    (hdg : decode c.code pc = .ok (.invokevirtual index, 3)) (has : (Value.ref b :: argsL).toArray = as') {st : List Value} (hst : st = argsL.reverse ++ .ref b :: rest)
    (k : ∀ (T' : State) (L : List Loc) (v : Option Value), Stand p l e R s m args below meth c T' (locs ++ L) (cells + rm.cells) (slots + rm.slots) → Q' v T'.heap L → G T' (mkF m (pc + 3) Ls (v.toList ++ rest))) :
    G T (mkF m pc Ls st) := by
  subst hst
  obtain ⟨cq, kq, qa, qb, qc⟩ := isOf hZ eT E
  obtain ⟨v, _, ⟨T4, L4, k4, n4⟩, -, X4, ⟨Lc, hQ, l4, y4, z4⟩, st4⟩ := X.virtualBackUp hx (x := y) (y := z) hown (mvT hZ w1) (mvT hZ w0) (mvT hZ w2) hy (mvT hZ w3) (mvT hZ w4) (backOf (W := W) hM hZ wc wz hf hl) qa qc (g := mkF m pc Ls (argsL.reverse ++ .ref b :: rest)) rfl hsize (Steps.refl _) (argsL := argsL) (rest := rest) hlen rfl (by simpa [JFrame.monitorRoom] using hW) hdg (fun _ _ => ⟨has, eT, hc, hn⟩)
  dsimp only [Pt.U, Pt.locs, Pt.cells, Pt.slots] at X4 l4 y4 z4 st4 hQ
  subst l4 y4 z4
  exact hG _ _ _ _ (fun t kt => st4.trans kt) (k _ _ _ X4 hQ)
/-- a constructor by its contract -/
theorem own_callI {G : State → JFrame → Prop} (hG : own_Closed p e below G) (X : Stand p l e R s m args below meth c T locs cells slots) (hx : p.tables.exec = Jvm.exec) (hZ : Z.Warmed39 s.vm) {own : String} {index : Nat} {y : MethodName} (hy1 : y.name = "<init>") (hown : s.vm.findClass own = some m.cls)
    (w1 : (Cond.methodLink own index y).before a0 Z = true) (w4 : (Cond.instanceMethod y).before a0 Z = true) (hy : y.cls ≠ "java/lang/invoke/MethodHandle" ∧ y.cls ≠ "java/lang/invoke/VarHandle")
    {bytes : ByteArray} {maxL : Nat} {as' : Array Value} (hM : own_Met l Z y bytes maxL none [] rm as' h Q') (wc : (Cond.code y bytes maxL none).before a0 Z = true) (wz : (Cond.initialized y.cls).before a0 Z = true)
    {b : Addr} (eT : T.heap = h) {pc W : Nat} {Ls : Array Slot} {argsL rest : List Value} (hsize : Ls.size = c.maxLocals) (hlen : ∀ sig, parseMethodDescriptor y.desc = some sig → argsL.length = sig.parameters.length)
    (hW : (rest.map fun v => v.category).sum ≤ W) (hf : rm.frames + 1 ≤ R.frames) (hl : W + (maxL + 11) + rm.locals ≤ R.locals) (hc : cells + rm.cells ≤ R.cells) (hn : slots + rm.slots ≤ R.slots)
    (hdg : decode c.code pc = .ok (.invokespecial index, 3)) (has : (Value.ref b :: argsL).toArray = as') {st : List Value} (hst : st = argsL.reverse ++ .ref b :: rest)
    (k : ∀ (T' : State) (L : List Loc) (v : Option Value), Stand p l e R s m args below meth c T' (locs ++ L) (cells + rm.cells) (slots + rm.slots) → Q' v T'.heap L → G T' (mkF m (pc + 3) Ls (v.toList ++ rest))) :
    G T (mkF m pc Ls st) := by
  subst hst
  obtain ⟨v, _, ⟨T4, L4, k4, n4⟩, -, X4, ⟨Lc, hQ, l4, y4, z4⟩, st4⟩ := X.specialBack hx (y := y) hy1 hown (mvT hZ w1) (mvT hZ w4) (mvT hZ wc) hy (backOf (W := W) hM hZ wc wz hf hl) (g := mkF m pc Ls (argsL.reverse ++ .ref b :: rest)) rfl hsize (Steps.refl _) (a := b) (argsL := argsL) (rest := rest) hlen rfl (by simpa [JFrame.monitorRoom] using hW) hdg (fun _ _ => ⟨has, eT, hc, hn⟩)
  dsimp only [Pt.U, Pt.locs, Pt.cells, Pt.slots] at X4 l4 y4 z4 st4 hQ
  subst l4 y4 z4
  exact hG _ _ _ _ (fun t kt => st4.trans kt) (k _ _ _ X4 hQ)
/-- super.m(..) by its contract -/
theorem own_callX {G : State → JFrame → Prop} (hG : own_Closed p e below G) (X : Stand p l e R s m args below meth c T locs cells slots) (hx : p.tables.exec = Jvm.exec) (hZ : Z.Warmed39 s.vm) {own C : String} {index : Nat} {y : MethodName} (hown : s.vm.findClass own = some m.cls)
    (w1 : (Cond.methodLink own index y).before a0 Z = true) (w4 : (Cond.instanceMethod y).before a0 Z = true) (w5 : (Cond.superclass own y.cls).before a0 Z = true) {C6 : String} {y6 : MethodName} (w6 : (Cond.selects C6 y6 y6).before a0 Z = true) (h6 : y6.cls = y.cls) (hy : y.cls ≠ "java/lang/invoke/MethodHandle" ∧ y.cls ≠ "java/lang/invoke/VarHandle") (hni : y.name ≠ "<init>")
    {bytes : ByteArray} {maxL : Nat} {ret : Option FieldType} {as' : Array Value} (hM : own_Met l Z y bytes maxL ret [] rm as' h Q') (wc : (Cond.code y bytes maxL ret).before a0 Z = true) (wz : (Cond.initialized y.cls).before a0 Z = true)
    {b : Addr} (eT : T.heap = h) (E : Exa Z h b C) {pc W : Nat} {Ls : Array Slot} {argsL rest : List Value} (hsize : Ls.size = c.maxLocals) (hlen : ∀ sig, parseMethodDescriptor y.desc = some sig → argsL.length = sig.parameters.length)
    (hW : (rest.map fun v => v.category).sum ≤ W) (hf : rm.frames + 1 ≤ R.frames) (hl : W + (maxL + 11) + rm.locals ≤ R.locals) (hc : cells + rm.cells ≤ R.cells) (hn : slots + rm.slots ≤ R.slots)
    (hdg : decode c.code pc = .ok (.invokespecial index, 3)) (has : (Value.ref b :: argsL).toArray = as') {st : List Value} (hst : st = argsL.reverse ++ .ref b :: rest)
    (k : ∀ (T' : State) (L : List Loc) (v : Option Value), Stand p l e R s m args below meth c T' (locs ++ L) (cells + rm.cells) (slots + rm.slots) → Q' v T'.heap L → G T' (mkF m (pc + 3) Ls (v.toList ++ rest))) :
    G T (mkF m pc Ls st) := by
  subst hst
  obtain ⟨v, _, ⟨T4, L4, k4, n4⟩, -, X4, ⟨Lc, hQ, l4, y4, z4⟩, st4⟩ := superBack X hx hZ (y := y) hown w1 (own_same w4 w6 h6 hy) w4 w5 hni (backOf (W := W) hM hZ wc wz hf hl) eT (Ins.self E) (g := mkF m pc Ls (argsL.reverse ++ .ref b :: rest)) rfl hsize wc (argsL := argsL) (rest := rest) hlen rfl (by simpa [JFrame.monitorRoom] using hW) hdg (fun _ _ => ⟨has, eT, hc, hn⟩)
  dsimp only [Pt.U, Pt.locs, Pt.cells, Pt.slots] at X4 l4 y4 z4 st4 hQ
  subst l4 y4 z4
  exact hG _ _ _ _ (fun t kt => st4.trans kt) (k _ _ _ X4 hQ)
/-- invokestatic by the callee's contract -/
theorem own_callS {G : State → JFrame → Prop} (hG : own_Closed p e below G) (X : Stand p l e R s m args below meth c T locs cells slots) (hx : p.tables.exec = Jvm.exec) (hZ : Z.Warmed39 s.vm) {own : String} {index : Nat} {y : MethodName} (hown : s.vm.findClass own = some m.cls)
    (w1 : (Cond.methodLink own index y).before a0 Z = true) (w2 : (Cond.static y).before a0 Z = true) (hy : y.cls ≠ "java/lang/invoke/MethodHandle" ∧ y.cls ≠ "java/lang/invoke/VarHandle")
    {bytes : ByteArray} {maxL : Nat} {ret : Option FieldType} {as' : Array Value} (hM : own_Met l Z y bytes maxL ret [] rm as' h Q') (wc : (Cond.code y bytes maxL ret).before a0 Z = true) (wz : (Cond.initialized y.cls).before a0 Z = true)
    (eT : T.heap = h) {pc W : Nat} {Ls : Array Slot} {argsL rest : List Value} (hsize : Ls.size = c.maxLocals) (hlen : ∀ sig, parseMethodDescriptor y.desc = some sig → argsL.length = sig.parameters.length)
    (hW : (rest.map fun v => v.category).sum ≤ W) (hf : rm.frames + 1 ≤ R.frames) (hl : W + (maxL + 11) + rm.locals ≤ R.locals) (hc : cells + rm.cells ≤ R.cells) (hn : slots + rm.slots ≤ R.slots)
    (hdg : decode c.code pc = .ok (.invokestatic index, 3)) (has : argsL.toArray = as') {st : List Value} (hst : st = argsL.reverse ++ rest)
    (k : ∀ (T' : State) (L : List Loc) (v : Option Value), Stand p l e R s m args below meth c T' (locs ++ L) (cells + rm.cells) (slots + rm.slots) → Q' v T'.heap L → G T' (mkF m (pc + 3) Ls (v.toList ++ rest))) :
    G T (mkF m pc Ls st) := by
  subst hst
  obtain ⟨v, _, ⟨T4, L4, k4, n4⟩, -, X4, ⟨Lc, hQ, l4, y4, z4⟩, st4⟩ := Jvm.LawKit.callS X hx (y := y) hown (mvT hZ w1) (mvT hZ w2) (mvT hZ wz) (mvT hZ wc) hy (backOf (W := W) hM hZ wc wz hf hl) (g := mkF m pc Ls (argsL.reverse ++ rest)) rfl hsize (argsL := argsL) (rest := rest) hlen rfl (by simpa [JFrame.monitorRoom] using hW) hdg (fun _ _ => ⟨has, eT, hc, hn⟩)
  dsimp only [Pt.U, Pt.locs, Pt.cells, Pt.slots] at X4 l4 y4 z4 st4 hQ
  subst l4 y4 z4
  exact hG _ _ _ _ (fun t kt => st4 t kt) (k _ _ _ X4 hQ)
/-- it gives r back; the heap has grown at the most -/
def own_QE (h0 : Heap) (r : Option Value) (v : Option Value) (h : Heap) (L : List Loc) : Prop := v = r ∧ L = [] ∧ Ext h0 h
theorem own_ext0 {h : Heap} : Ext h h := ⟨Nat.le_refl _, fun _ _ q => q⟩
theorem own_extT {h1 h2 h3 : Heap} (A : Ext h1 h2) (B : Ext h2 h3) : Ext h1 h3 := ⟨Nat.le_trans A.1 B.1, fun a c q => B.2 a c (A.2 a c q)⟩
theorem own_len (X : Stand p l e R s m args below meth c T locs cells slots) (hx : p.tables.exec = Jvm.exec) (hZ : Z.Warmed39 s.vm) (eT : T.heap = h) {a : Addr} {cl : Cell} {ty : FieldType} (A : Arr Z h a cl ty) {z : Int32} (hz : cl.slots.size.toInt32 = z) {g : JFrame} (hg : g.method = m) {rest : List Value} (hs : g.stack = .ref a :: rest) (hd : decode c.code g.pc = .ok (.arraylength, 1)) (t : State)
    (hr : Steps p.tables e below (T.setTop { g with pc := g.pc + 1, stack := .int z :: rest }) t) : Steps p.tables e below (T.setTop g) t := by
  subst hz
  exact X.arraylength hx (by rw [eT]; exact A.1) (State.isArrayOf_alike hZ.alike A.2.1) hg hs hd t hr
theorem own_aald (X : Stand p l e R s m args below meth c T locs cells slots) (hx : p.tables.exec = Jvm.exec) (hZ : Z.Warmed39 s.vm) (eT : T.heap = h) {a : Addr} {cl : Cell} {ty : FieldType} (A : Arr Z h a cl ty) (ht : ty.isReference = true) {j : Int32} {v : Value} (hin : ¬ (j < 0 ∨ cl.slots.size ≤ j.toNatClampNeg)) (hv : cl.slots[j.toNatClampNeg]? = some v) {g : JFrame} (hg : g.method = m) {rest : List Value} (hs : g.stack = .int j :: .ref a :: rest) (hd : decode c.code g.pc = .ok (.aaload, 1)) (t : State)
    (hr : Steps p.tables e below (T.setTop { g with pc := g.pc + 1, stack := v :: rest }) t) : Steps p.tables e below (T.setTop g) t :=
  X.aaload hx (by rw [eT]; exact A.1) (State.isArrayOf_alike hZ.alike A.2.1) ht A.2.2 hin hv hg hs hd t hr
theorem own_lald (X : Stand p l e R s m args below meth c T locs cells slots) (hx : p.tables.exec = Jvm.exec) (hZ : Z.Warmed39 s.vm) (eT : T.heap = h) {a : Addr} {cl : Cell} (A : Arr Z h a cl .long) {j : Int32} {v : Value} (hin : ¬ (j < 0 ∨ cl.slots.size ≤ j.toNatClampNeg)) (hv : cl.slots[j.toNatClampNeg]? = some v) {g : JFrame} (hg : g.method = m) {rest : List Value} (hs : g.stack = .int j :: .ref a :: rest) (hd : decode c.code g.pc = .ok (.laload, 1)) (t : State)
    (hr : Steps p.tables e below (T.setTop { g with pc := g.pc + 1, stack := v :: rest }) t) : Steps p.tables e below (T.setTop g) t :=
  X.laload hx (by rw [eT]; exact A.1) (State.isArrayOf_alike hZ.alike A.2.1) A.2.2 hin hv hg hs hd t hr
theorem own_bald (X : Stand p l e R s m args below meth c T locs cells slots) (hx : p.tables.exec = Jvm.exec) (hZ : Z.Warmed39 s.vm) (eT : T.heap = h) {a : Addr} {cl : Cell} (A : Arr Z h a cl .byte) {j : Int32} {v : Value} (hin : ¬ (j < 0 ∨ cl.slots.size ≤ j.toNatClampNeg)) (hv : cl.slots[j.toNatClampNeg]? = some v) {g : JFrame} (hg : g.method = m) {rest : List Value} (hs : g.stack = .int j :: .ref a :: rest) (hd : decode c.code g.pc = .ok (.baload, 1)) (t : State)
    (hr : Steps p.tables e below (T.setTop { g with pc := g.pc + 1, stack := v :: rest }) t) : Steps p.tables e below (T.setTop g) t :=
  X.baloadBytes hx (by rw [eT]; exact A.1) (State.isArrayOf_alike hZ.alike A.2.1) A.2.2 hin hv hg hs hd t hr
/-- a field that the case says holds what the other term holds -/
theorem own_fldR {t u : Term} {C n d : String} {a b : Addr} (ev : t.eval args s none [] s = some (.ref a)) (ev2 : u.eval args s none [] s = some (.ref b)) (hq : (Cond.eq (Term.field t C n d) u).value args s none s [] = some true) : Fld s s.heap a C n d (.ref b) := by
  obtain ⟨x, y, h1, h2, k1, k2⟩ := cmp_v (Or.inl hq)
  cases ev2.symm.trans h2
  have hx : x = .ref b := by
    cases x <;> simp [Kin, Value.isRef] at k1 k2
    · simp [Cond.value, h1, h2] at hq
    · simpa [Cond.value, h1, h2] using hq
  subst hx
  exact Fld.start ((fld_at ev).symm.trans h1)
/-- an element that the case says is what the other term is -/
theorem own_elemR {t u : Term} {k : Int32} {a b : Addr} {cl : Cell} (ev : t.eval args s none [] s = some (.ref a)) (hc : s.heap[a]? = some cl) (ev2 : u.eval args s none [] s = some (.ref b)) (hq : (Cond.eq (Term.elem t (Term.int k)) u).value args s none s [] = some true) : cl.slots[k.toNatClampNeg]? = some (.ref b) := by
  obtain ⟨x, y, h1, h2, k1, k2⟩ := cmp_v (Or.inl hq)
  cases ev2.symm.trans h2
  have hx : x = .ref b := by
    cases x <;> simp [Kin, Value.isRef] at k1 k2
    · simp [Cond.value, h1, h2] at hq
    · simpa [Cond.value, h1, h2] using hq
  subst hx
  exact (elem_in h1 ev rfl hc).2
/-- an element that the case says is this int -/
theorem own_elemI {t : Term} {k w : Int32} {a : Addr} {cl : Cell} (ev : t.eval args s none [] s = some (.ref a)) (hc : s.heap[a]? = some cl) (hq : (Cond.eq (Term.elem t (Term.int k)) (Term.int w)).value args s none s [] = some true) : cl.slots[k.toNatClampNeg]? = some (.int w) := by
  obtain ⟨x, y, h1, h2, k1, k2⟩ := cmp_v (Or.inl hq)
  have e2 : y = .int w := (Option.some.inj h2).symm
  subst e2
  obtain ⟨z, rfl⟩ : ∃ z, x = .int z := k2
  have e3 : z = w := by simpa [Cond.value, h1, h2] using hq
  subst e3
  exact (elem_in h1 ev rfl hc).2
/-- a length that the case says -/
theorem own_lenI {t : Term} {k : Int32} {a : Addr} {cl : Cell} {ty : FieldType} (ev : t.eval args s none [] s = some (.ref a)) (A : Arr s s.heap a cl ty) (hq : (Cond.eq (Term.length t) (Term.int k)).value args s none s [] = some true) (hk : ¬ k < 0) : cl.slots.size = k.toNatClampNeg := by
  obtain ⟨x, y, h1, h2, k1, k2⟩ := cmp_v (Or.inl hq)
  have e2 : y = .int k := (Option.some.inj h2).symm
  subst e2
  obtain ⟨z, rfl⟩ : ∃ z, x = .int z := k2
  have e3 : z = k := by simpa [Cond.value, h1, h2] using hq
  subst e3
  have ha : s.arrayAt? a = some cl := A.fin (Vm.Alike.refl _)
  by_cases hlt : cl.slots.size < 2 ^ 31
  · have q : cl.slots.size.toInt32 = z := by
      have h3 := len_f ev ha hlt
      rw [h1] at h3
      exact (Value.int.inj (Option.some.inj h3)).symm
    rw [← q]; simp only [Int32.toNatClampNeg, len_toInt hlt]; rfl
  · simp [Term.eval, ev, ha, hlt] at h1
/-- a field that the case says holds this int -/
theorem own_fldI {t : Term} {C n d : String} {k : Int32} {a : Addr} (ev : t.eval args s none [] s = some (.ref a)) (hq : (Cond.eq (Term.field t C n d) (Term.int k)).value args s none s [] = some true) : Fld s s.heap a C n d (.int k) := by
  obtain ⟨x, y, h1, h2, k1, k2⟩ := cmp_v (Or.inl hq)
  have e2 : y = .int k := (Option.some.inj h2).symm
  subst e2
  obtain ⟨z, rfl⟩ : ∃ z, x = .int z := k2
  have e3 : z = k := by simpa [Cond.value, h1, h2] using hq
  subst e3
  exact Fld.start ((fld_at ev).symm.trans h1)
end Own
end Jvm.RoadKit
namespace Jvm.RoadKit
open Sem ClassFile Op Lib Bundle Jvm.Stand Jvm.Free Jvm.LawKit
section OwnS
variable {p : Program} {l : Launch} {e : Env} {R : Room} {s : State} {m : MethodId} {args : Array Value} {below : List Frame} {meth : Method} {c : Code} {T T' : State} {locs : List Loc} {cells slots : Nat} {Z : State} {h0 h : Heap} {a0 : Array Value} {Q Q' : Option Value → Heap → List Loc → Prop} {rm rm0 : Room} {vm0 : Vm} {EL : List (String × Nat)}
/-- as own_Ends, where String constants may have been loaded on the way -/
def own_EndsS (Z : State) (EL : List (String × Nat)) (p : Program) (e : Env) (below : List Frame) (s : State) (Q : Option Value → Heap → List Loc → Prop) (rm : Room) (T : State) (g : JFrame) : Prop :=
  ∃ s₂ o, Steps p.tables e below (T.setTop g) s₂ ∧ s₂.status = .running ∧ Ended s₂ below o ∧ ∃ v L, o = .returned v ∧ Q v s₂.heap L ∧ CHr Z EL s.vm s.heap s₂.vm s₂.heap ∧ ReturnedEndW s o s₂ L rm.cells rm.slots
theorem own_goS {g g' : JFrame} (h : ∀ t, Steps p.tables e below (T'.setTop g') t → Steps p.tables e below (T.setTop g) t) (H : own_EndsS Z EL p e below s Q rm T' g') : own_EndsS Z EL p e below s Q rm T g := by
  obtain ⟨s₂, o, h1, r⟩ := H
  exact ⟨s₂, o, h _ h1, r⟩
theorem own_closedS : own_Closed p e below (own_EndsS Z EL p e below s Q rm) := fun _ _ _ _ h H => own_goS h H
theorem own_castS {g g' : JFrame} (q : g = g') (H : own_EndsS Z EL p e below s Q rm T g') : own_EndsS Z EL p e below s Q rm T g := q ▸ H
def own_MetS (l : Launch) (Z : State) (EL : List (String × Nat)) (y : MethodName) (bytes : ByteArray) (maxL : Nat) (ret : Option FieldType) (ws : List Cond) (rm : Room) (as' : Array Value) (h0 : Heap) (Q : Option Value → Heap → List Loc → Prop) : Prop :=
  MetFree l y (head1 (Cond.code y bytes maxL ret :: ws) rm) (fun a U => a = as' ∧ Z.Warmed39 U.vm ∧ U.heap = h0 ∧ CHv Z EL U.vm h0) (fun _ _ _ _ _ => True) (fun _ U o U' => ∃ v L, o = .returned v ∧ Q v U'.heap L ∧ CHr Z EL U.vm U.heap U'.vm U'.heap ∧ ReturnedEndW U o U' L rm.cells rm.slots)
theorem own_metS {y : MethodName} {bytes : ByteArray} {maxL : Nat} {ret : Option FieldType} {ws : List Cond} {as' : Array Value} (hy : plainFor y = true)
    (H : ∀ (p : Program) (e : Env) (s : State) (m : MethodId) (below : List Frame) (meth : Method) (c : Code) (s₁ : State), p.tables.exec = Jvm.exec → c.code = bytes → c.maxLocals = maxL → (s.setVm s.vm).vm.findClass y.cls = some m.cls → meth.name = y.name → meth.sig.returnType = ret → meth.locks = false → Z.Warmed39 (s.setVm s.vm).vm →
      Stand p l e rm (s.setVm s.vm) m as' below meth c s₁ [] 0 0 → s₁.heap = h0 → s.Since s.vm 0 → 0 ≤ h0.size → CHr Z EL s.vm s.heap s.vm h0 → s.heap = h0 → own_EndsS Z EL p e below s Q rm s₁ (entryFrame m as' maxL)) : own_MetS l Z EL y bytes maxL ret ws rm as' h0 Q := by
  refine MetFree.of_bodySF hy hisR ?_
  intro p e s m args below meth c s₁ Bd hml0 hP hK
  obtain ⟨rfl, hZ, hh, hC⟩ := hP
  have X : Stand p l e rm s m args below meth c s₁ [] 0 0 := Stand.of_body Bd
  have hC' : CHr Z EL s.vm s.heap s.vm h0 := by rw [hh]; exact CHr.refl hC
  exact H p e s m below meth c s₁ Bd.exec Bd.bytes hml0 (findClass_of_methodNamed Bd.named) (name_of_methodNamed Bd.named Bd.method).1 Bd.returns Bd.notSynchronized hZ X (by rw [← hh, Bd.state]; rfl) ((State.WarmedH.refl s).since 0) (Nat.zero_le _) hC' hh
theorem own_leaveS (X : Stand p l e R (s.setVm vm0) m args below meth c T locs cells slots) (hlk : meth.locks = false) (v : Option Value) (hv : meth.sig.returnType = none → v = none) {k0 : Nat} (hS : s.Since vm0 k0) (eT : T.heap = h) (hk : k0 ≤ h.size) (hZ : Z.Warmed39 (s.setVm vm0).vm) (hEL : EW Z a0 EL) (C : CHr Z EL s.vm s.heap vm0 h)
    (hkk : cells ≤ rm.cells) (hn : slots ≤ rm.slots) (hq : Q v h locs) {g : JFrame} (hst : ∀ fs, (∀ (f : JFrame) (acts : List Action), f.method = m → f.locked = none → f.entered = [] → (doReturn e (T.setTop f) acts v).1 = T.setFrames fs) → Steps p.tables e below (T.setTop g) (T.setFrames fs)) : own_EndsS Z EL p e below s Q rm T g := by
  subst eT
  obtain ⟨fs, hr, hrun, hended, h1, h2, h3, h4⟩ := X.leaveW hS hk hv hlk
  have hC := CHv.at X hZ hEL C.1
  exact ⟨_, _, hst fs hr, hrun, hended, _, _, rfl, hq, C.trans hC, h1, h2, h3, h4.mono hkk hn⟩
/-- a callee that loads no constant, in a walk that may have: Stand is over the re-based start; nothing else to say -/
theorem own_ldc (X : Stand p l e R (s.setVm vm0) m args below meth c T locs cells slots) (hx : p.tables.exec = Jvm.exec) (hZ : Z.Warmed39 (s.setVm vm0).vm) {own text : String} {index : Nat} (hown : (s.setVm vm0).vm.findClass own = some m.cls) (w : (Cond.stringLink own index text).before a0 Z = true) (wS : ∀ a ∈ Bundle.stringAtoms, a.before a0 Z = true)
    (eT : T.heap = h) {k0 : Nat} (hS : s.Since vm0 k0) (hk : k0 ≤ h.size) (hEL : EW Z a0 EL) (hmem : (own, index) ∈ EL) (C : CHr Z EL s.vm s.heap vm0 h)
    {vs : List Value} {z : Int32} (ht : (∀ c ∈ text.toList, c.toNat < 256) ∧ text.toList.map (fun c => Value.int (Jvm.Lit.byteI c.toNat.toUInt16)) = vs) (hz : ¬ z < 0) (hl : z.toNatClampNeg = vs.length)
    {g : JFrame} (hg : g.method = m) (hd : decode c.code g.pc = .ok (.ldc index, 2)) {n : Nat} (hn : 4 * text.toList.length ≤ n) (hbig : n ≤ 536870912) (hc : cells + 2 ≤ R.cells) (hl' : slots + (n + 4) ≤ R.slots) :
    ∃ (a : Addr) (T' : State) (h' : Heap) (vm1 : Vm) (k1 : Nat) (b : Addr) (k : ClassId), Stand p l e R (s.setVm vm1) m args below meth c T' locs (cells + 2) (slots + (n + 4)) ∧ T'.heap = h' ∧ Ext h h' ∧ s.Since vm1 k1 ∧ k1 ≤ h'.size ∧ Z.Warmed39 (s.setVm vm1).vm ∧ (s.setVm vm1).vm.findClass own = some m.cls ∧
      Exa Z h' a "java/lang/String" ∧ Fld Z h' a "java/lang/String" "coder" "B" (.int 0) ∧ Fld Z h' a "java/lang/String" "value" "[B" (.ref b) ∧ Arv Z h' b k .byte z vs (.int 0) ∧ CHr Z EL s.vm s.heap vm1 h' ∧ CHr Z EL vm0 h vm1 h' ∧ (∀ x, Safe Z EL vm1 h' x → x ≠ a ∧ x ≠ b) ∧
      ∀ target, Steps p.tables e below (T'.setTop { g with pc := g.pc + 2, stack := .ref a :: g.stack }) target → Steps p.tables e below (T.setTop g) target := by
  obtain ⟨a, T', h', k1, b, k, r1, r2, r3, r4, r5, r6, r7, r8, r9, r10, r11, -, -, r14, -, r16, r17⟩ := ldcCH X hx hZ hown w wS eT hS hk hEL hmem C.1 ht hz hl hg hd hn hbig hc hl'
  exact ⟨a, T', h', T'.vm, k1, b, k, r1, r2, r3, r4, r5, r6, r7, r8, r9, r10, r11, C.trans r14, r14, r16, r17⟩
/-- invokestatic of a callee that may load constants -/
theorem own_callSS (X : Stand p l e R (s.setVm vm0) m args below meth c T locs cells slots) (hx : p.tables.exec = Jvm.exec) (hZ : Z.Warmed39 (s.setVm vm0).vm) {own : String} {index : Nat} {y : MethodName} (hown : (s.setVm vm0).vm.findClass own = some m.cls)
    (w1 : (Cond.methodLink own index y).before a0 Z = true) (w2 : (Cond.static y).before a0 Z = true) (hy : y.cls ≠ "java/lang/invoke/MethodHandle" ∧ y.cls ≠ "java/lang/invoke/VarHandle")
    {bytes : ByteArray} {maxL : Nat} {ret : Option FieldType} {as' : Array Value} (hM : own_MetS l Z EL y bytes maxL ret [] rm0 as' h Q') (wc : (Cond.code y bytes maxL ret).before a0 Z = true) (wz : (Cond.initialized y.cls).before a0 Z = true)
    (eT : T.heap = h) {k0 : Nat} (hS : s.Since vm0 k0) (hk : k0 ≤ h.size) (hEL : EW Z a0 EL) (C : CHr Z EL s.vm s.heap vm0 h) {pc W : Nat} {Ls : Array Slot} {argsL rest : List Value} (hsize : Ls.size = c.maxLocals) (hlen : ∀ sig, parseMethodDescriptor y.desc = some sig → argsL.length = sig.parameters.length)
    (hW : (rest.map fun v => v.category).sum ≤ W) (hf : rm0.frames + 1 ≤ R.frames) (hl : W + (maxL + 11) + rm0.locals ≤ R.locals) (hc : cells + rm0.cells ≤ R.cells) (hn : slots + rm0.slots ≤ R.slots)
    (hdg : decode c.code pc = .ok (.invokestatic index, 3)) (has : argsL.toArray = as') {st : List Value} (hst : st = argsL.reverse ++ rest)
    (k : ∀ (T' : State) (L : List Loc) (v : Option Value) (vm1 : Vm) (k1 : Nat), Stand p l e R (s.setVm vm1) m args below meth c T' (locs ++ L) (cells + rm0.cells) (slots + rm0.slots) → Q' v T'.heap L → s.Since vm1 k1 → k1 ≤ T'.heap.size → Z.Warmed39 (s.setVm vm1).vm → (s.setVm vm1).vm.findClass own = some m.cls → CHr Z EL s.vm s.heap vm1 T'.heap → own_EndsS Z EL p e below s Q rm T' (mkF m (pc + 3) Ls (v.toList ++ rest))) :
    own_EndsS Z EL p e below s Q rm T (mkF m pc Ls st) := by
  subst hst
  obtain ⟨v, vm₁, ⟨T4, L4, k4, n4⟩, -, X4, hS4, hsz, ⟨Lc, hQ, l4, y4, z4, hC⟩, st4⟩ := callSS X hx (y := y) hown (mvT hZ w1) (mvT hZ w2) (mvT hZ wz) (mvT hZ wc) hy (backOfSH (W := W) hM hZ wc wz hf hl hEL C.1) (g := mkF m pc Ls (argsL.reverse ++ rest)) rfl hsize (argsL := argsL) (rest := rest) hlen rfl (by simpa [JFrame.monitorRoom] using hW) hdg (fun _ _ => ⟨has, eT, hc, hn⟩)
  dsimp only [Pt.U, Pt.locs, Pt.cells, Pt.slots] at X4 hS4 hsz l4 y4 z4 st4 hQ hC
  subst l4 y4 z4
  obtain ⟨X5, S5, Z5, o5⟩ := rebS hS hk X4 hS4 (by rw [← eT]; exact hsz) hZ hown
  exact own_goS (fun t kt => st4.trans kt) (k _ _ _ _ _ X5 hQ S5 (Nat.le_refl _) Z5 o5 (C.trans hC))
end OwnS
section OwnS2
variable {Z : State} {EL : List (String × Nat)} {vm vm1 : Vm} {h h1 h2 : Heap} {ws : List Addr} {x b da da' : Addr}
theorem own_ck (C : CHr Z EL vm h vm1 h1) (K : Keep h1 h2 ws) (hs : ∀ x ∈ ws, Safe Z EL vm1 h1 x) : CHr Z EL vm h vm1 h2 := C.trans (CHr.keep K hs C.1)
theorem own_ce (C : CHr Z EL vm h vm1 h1) (E : Ext h1 h2) : CHr Z EL vm h vm1 h2 := C.trans (CHr.ext E C.1)
theorem own_sk (C : CHr Z EL vm h vm1 h1) (K : Keep h1 h2 ws) (hs : ∀ x ∈ ws, Safe Z EL vm1 h1 x) (S : Safe Z EL vm1 h1 x) : Safe Z EL vm1 h2 x := Safe.keep K hs C.1 S
theorem own_sn (C : CHr Z EL vm h vm1 h1) (K : Keep h1 h2 ws) (hs : ∀ x ∈ ws, Safe Z EL vm1 h1 x) (S : Safe Z EL vm1 h1 da) (q : da' = da ∨ h1.size ≤ da') : Safe Z EL vm1 h2 da' := q.elim (fun e => by rw [e]; exact own_sk C K hs S) (fun e => own_sk C K hs (Safe.new e))
theorem own_sb (hal : Z.vm.Alike vm1) (E : Exa Z h1 b "java/lang/StringBuilder") : Safe Z EL vm1 h1 b := Safe.exa hal E (by decide) (by decide)
end OwnS2
end Jvm.RoadKit
namespace Jvm.RoadKit
open Sem ClassFile Op Lib Bundle Jvm.Stand Jvm.Free Jvm.LawKit
section OwnJ
theorem own_shr0 (z : Int32) : z >>> ((0 : Int32) &&& 31) = z := by
  have e : ((0 : Int32) &&& 31) = 0 := by decide
  rw [e]; simp
theorem own_sub0 (z : Int32) : z - (0 : Int32) = z := by simp
theorem own_shl0 (z : Int32) : z <<< ((0 : Int32) &&& 31) = z := by
  have e : ((0 : Int32) &&& 31) = 0 := by decide
  rw [e]; simp
def own_max (x y : Int32) : Int32 := if x < y then y else x
def own_min (x y : Int32) : Int32 := if y < x then y else x
theorem own_minL {x y : Int32} (h : x < y) : own_min x y = x := by
  unfold own_min
  have : ¬ y < x := by rw [Int32.lt_iff_toInt_lt] at h ⊢; omega
  simp [this]
theorem own_char (w : Int32) (hw : w &&& 255 = w) : w.toUInt32.toUInt16.toUInt32.toInt32 = w := by
  have q := i2c_mask w
  rw [hw] at q; exact q
/-- the list that a copy into fresh zeros leaves says what the elder says -/
theorem own_copyList {vs vd us : List Value} {dv : Value} {n : Nat} (hvd : vd = List.replicate n dv) (hus : us = (List.range n).map fun i => vs.getD (0 + i) dv) (hl : vs.length ≤ n) : ∀ i, vs.getD i dv = (vd.take 0 ++ us ++ vd.drop (0 + n)).getD i dv := by
  intro i
  subst hvd hus
  simp only [List.take_zero, List.nil_append, Nat.zero_add, List.drop_replicate, Nat.sub_self, List.replicate_zero, List.append_nil, List.getD_eq_getElem?_getD, List.getElem?_map]
  by_cases h : i < n
  · rw [List.getElem?_range h]; rfl
  · rw [List.getElem?_eq_none (show (List.range n).length ≤ i by simpa using Nat.le_of_not_lt h), List.getElem?_eq_none (Nat.le_trans hl (Nat.le_of_not_lt h))]; rfl
theorem own_toN {x : Int32} (h : 0 ≤ x.toInt) : (x.toNatClampNeg : Int) = x.toInt := by
  simp only [Int32.toNatClampNeg]; omega
theorem own_nn {x : Int32} (h : 0 ≤ x.toInt) : ¬ x < 0 := by
  rw [Int32.lt_iff_toInt_lt]; have : (0 : Int32).toInt = 0 := by decide
  omega
theorem own_clamp {x : Int32} {k : Nat} (h : x.toInt ≤ k) : x.toNatClampNeg ≤ k := by
  simp only [Int32.toNatClampNeg]; omega
theorem own_lt {x y : Int32} (h : x.toInt < y.toInt) : x < y := by rw [Int32.lt_iff_toInt_lt]; exact h
theorem own_nlt {x y : Int32} (h : y.toInt ≤ x.toInt) : ¬ x < y := by rw [Int32.lt_iff_toInt_lt]; omega
theorem own_ltN {z r : Int32} (h : z.toInt < r.toInt) (h0 : ¬ z < 0) : z.toNatClampNeg < r.toNatClampNeg := by
  rw [Int32.lt_iff_toInt_lt, show (0 : Int32).toInt = 0 from by decide] at h0
  simp only [Int32.toNatClampNeg]; omega
theorem own_neI {x y : Int32} (h : x.toInt < y.toInt) : ¬ x = y := fun q => by rw [q] at h; omega
theorem own_fit {n zs m z' : Int32} (hn0 : ¬ n < 0) (hs0 : ¬ zs < 0) (hmn : m.toInt = n.toInt + zs.toInt) (hzb : m.toInt ≤ z'.toInt) : n.toNatClampNeg + zs.toNatClampNeg ≤ z'.toNatClampNeg := by
  rw [Int32.lt_iff_toInt_lt, show (0 : Int32).toInt = 0 from by decide] at hn0 hs0
  simp only [Int32.toNatClampNeg]; omega
/-- how a builder's array grows -/
theorem own_capB (z mc : Int32) (h0 : 0 ≤ z.toInt) (h1 : z.toInt < mc.toInt) (h2 : mc.toInt ≤ 140) : z.toInt < (z + own_max (mc - z) (z + 2)).toInt ∧ mc.toInt ≤ (z + own_max (mc - z) (z + 2)).toInt ∧ (z + own_max (mc - z) (z + 2)).toInt ≤ 300 := by
  have c2 : (2 : Int32).toInt = 2 := by decide
  have e1 : (mc - z).toInt = mc.toInt - z.toInt := by rw [Int32.toInt_sub]; exact Int.bmod_eq_of_le (by omega) (by omega)
  have e2 : (z + 2).toInt = z.toInt + 2 := by rw [Int32.toInt_add, c2]; exact Int.bmod_eq_of_le (by omega) (by omega)
  unfold own_max
  split
  · rename_i h
    have e3 : (z + (z + 2)).toInt = z.toInt + (z.toInt + 2) := by rw [Int32.toInt_add, e2]; exact Int.bmod_eq_of_le (by omega) (by omega)
    rw [Int32.lt_iff_toInt_lt] at h
    omega
  · rename_i h
    have e3 : (z + (mc - z)).toInt = z.toInt + (mc.toInt - z.toInt) := by rw [Int32.toInt_add, e1]; exact Int.bmod_eq_of_le (by omega) (by omega)
    rw [Int32.lt_iff_toInt_lt] at h
    omega
/-- what lies in a byte[] behind a copy of us to the end of vs -/
theorem own_putList {vs us us' pad : List Value} {dv : Value} {p n : Nat} (hp : vs.length = p) (hn : us.length = n) (hpad : pad = List.replicate pad.length dv) (hus : us' = (List.range n).map fun i => us.getD (0 + i) dv) : ∀ i, (vs ++ us).getD i dv = ((vs ++ pad).take p ++ us' ++ (vs ++ pad).drop (p + n)).getD i dv := by
  intro i
  have e1 : us' = us := by
    subst hus
    apply List.ext_getElem?
    intro j
    rw [List.getElem?_map]
    by_cases h : j < n
    · rw [List.getElem?_range h]
      simp only [Option.map_some, Nat.zero_add, List.getD_eq_getElem?_getD]
      rw [List.getElem?_eq_getElem (by omega)]; rfl
    · rw [List.getElem?_eq_none (by simpa using Nat.le_of_not_lt h), List.getElem?_eq_none (by omega)]; rfl
  have e2 : (vs ++ pad).take p = vs := by rw [← hp, List.take_left']; rfl
  rw [e1, e2]
  simp only [List.getD_eq_getElem?_getD]
  by_cases h : i < (vs ++ us).length
  · rw [List.getElem?_append_left h]
  · rw [List.getElem?_eq_none (Nat.le_of_not_lt h), List.getElem?_append_right (Nat.le_of_not_lt h), List.getElem?_drop, List.getElem?_append_right (by simp at h ⊢; omega), hpad, List.getElem?_replicate]
    split <;> rfl
section
variable {Z : State} {h h' h0 : Heap} {ws ws' : List Addr}
theorem own_keepSub (K : Keep h h' ws) (q : ∀ x ∈ ws, x ∈ ws') : Keep h h' ws' := ⟨K.1, fun x c hx r => K.2.1 x c hx fun z => r (q x z), K.2.2⟩
/-- a StringBuilder b, its array da of z bytes that begin with vs, its count n -/
def own_SB (Z : State) (h : Heap) (b da : Addr) (k : ClassId) (z n : Int32) (vs : List Value) : Prop :=
  Exa Z h b "java/lang/StringBuilder" ∧ Fld Z h b "java/lang/AbstractStringBuilder" "value" "[B" (.ref da) ∧ Fld Z h b "java/lang/AbstractStringBuilder" "coder" "B" (.int 0) ∧ Fld Z h b "java/lang/AbstractStringBuilder" "count" "I" (.int n) ∧ Arv Z h da k .byte z vs (.int 0) ∧ Exa Z h da "[B"
/-- a String a, its array d of z bytes vs -/
def own_St (Z : State) (h : Heap) (a d : Addr) (k : ClassId) (z : Int32) (vs : List Value) : Prop :=
  Exa Z h a "java/lang/String" ∧ Fld Z h a "java/lang/String" "coder" "B" (.int 0) ∧ Fld Z h a "java/lang/String" "value" "[B" (.ref d) ∧ Arv Z h d k .byte z vs (.int 0)
theorem own_St.ext {a d : Addr} {k : ClassId} {z : Int32} {vs : List Value} (F : own_St Z h a d k z vs) (E : Ext h h') : own_St Z h' a d k z vs := ⟨F.1.ext E, F.2.1.ext E, F.2.2.1.ext E, F.2.2.2.ext E⟩
theorem own_St.keep {a d : Addr} {k : ClassId} {z : Int32} {vs : List Value} (F : own_St Z h a d k z vs) (K : Keep h h' ws) (q1 : a ∉ ws) (q2 : d ∉ ws) : own_St Z h' a d k z vs := ⟨F.1.keep K, F.2.1.keep K q1, F.2.2.1.keep K q1, F.2.2.2.keep K q2⟩
theorem own_SB.ext {b da : Addr} {k : ClassId} {z n : Int32} {vs : List Value} (F : own_SB Z h b da k z n vs) (E : Ext h h') : own_SB Z h' b da k z n vs := ⟨F.1.ext E, F.2.1.ext E, F.2.2.1.ext E, F.2.2.2.1.ext E, F.2.2.2.2.1.ext E, F.2.2.2.2.2.ext E⟩
theorem own_SB.keep {b da : Addr} {k : ClassId} {z n : Int32} {vs : List Value} (F : own_SB Z h b da k z n vs) (K : Keep h h' ws) (q1 : b ∉ ws) (q2 : da ∉ ws) : own_SB Z h' b da k z n vs := ⟨F.1.keep K, F.2.1.keep K q1, F.2.2.1.keep K q1, F.2.2.2.1.keep K q1, F.2.2.2.2.1.keep K q2, F.2.2.2.2.2.keep K⟩
end
end OwnJ
end Jvm.RoadKit
namespace Jvm.RoadKit
open Sem ClassFile Op Lib Jvm.Stand Jvm.Free Jvm.LawKit Jvm.Free.SBG
section OwnD
variable {p : Program} {l : Launch} {e : Env} {R : Room} {s : State} {m : MethodId} {args : Array Value} {below : List Frame} {meth : Method} {c : Code} {T T' : State} {locs : List Loc} {cells slots : Nat} {Z : State} {h0 h : Heap} {a0 : Array Value} {n0 : Nat} {k : ClassId} {z x : Int32} {vs : List Value} {st d1 d2 da : Addr} {D1 D2 : Cell}
theorem own_bytesW {a : Array Value} {s : State} {name : String} {rhs : Term} {F : Nat → Nat} (w3 : (Cond.eq (.length (Tof name)) (.int 100)).before a s = true) (w4 : (Cond.all (Tof name) (.eq (.elem (Tof name) (.index 0)) rhs)).before a s = true)
    (hrhs : ∀ r, r < 100 → rhs.eval a s none [r] s = some (.int (Int32.ofNat (F r)))) (hF : ∀ r, r < 100 → F r < 128) : (bytesC (Tof name)).before a s = true := by
  have hl := Cond.eq_int w3 rfl
  obtain ⟨d, D, hev, hat, hlen⟩ := Term.length_spec hl
  have h31 := length_lt hev hat hl
  have hsz : D.slots.size = 100 := by
    have e : (Term.length (Tof name)).eval a s none [] s = some (.int (Int32.ofNat D.slots.size)) := by simp [Term.eval, hev, hat, h31]
    have := congrArg Int32.toInt (Value.int.inj (Option.some.inj (e.symm.trans hl)))
    rw [Int32.toInt_ofNat_small h31, show (100 : Int32).toInt = 100 from by decide] at this; omega
  refine holds_of_value (Cond.all_intro (a := d) (cell := D) hev hat fun i hi => ?_)
  have h1 := Cond.eq_int (holds_of_value (Cond.all_elim hev hat (Jvm.Free.AList.val_of_holds w4) i hi)) (hrhs i (by omega))
  have hf := hF i (by omega)
  have q1 : (-128 : Int32) ≤ Int32.ofNat (F i) := by rw [Int32.le_iff_toInt_le, Int32.toInt_ofNat_small (by omega), show (-128 : Int32).toInt = -128 from by decide]; omega
  have q2 : Int32.ofNat (F i) ≤ 127 := by rw [Int32.le_iff_toInt_le, Int32.toInt_ofNat_small (by omega), show (127 : Int32).toInt = 127 from by decide]; omega
  have e1 : (Term.int (-128)).eval a s none [i] s = some (.int (-128)) := rfl
  have e2 : (Term.int 127).eval a s none [i] s = some (.int 127) := rfl
  simp [Cond.value, h1, e1, e2, q1, q2]
/-- Integer's two tables -/
def own_Tb (Z : State) (st d1 d2 : Addr) (D1 D2 : Cell) : Prop := Tbl Z "DigitOnes" st d1 D1 ∧ Tbl Z "DigitTens" st d2 D2 ∧ Ones D1 ∧ Tens D2
theorem own_tb {a : Array Value} {s : State} (hini : (Cond.initialized INT).before a s = true) (harr : (Cond.arrayClass .byte).before a s = true)
    (p1 : (Cond.laysStatic INT "DigitOnes" "[B").before a s = true) (p2 : (Cond.exactly (Tof "DigitOnes") "[B").before a s = true) (p3 : (Cond.eq (.length (Tof "DigitOnes")) (.int 100)).before a s = true) (p4 : onesW.before a s = true)
    (q1 : (Cond.laysStatic INT "DigitTens" "[B").before a s = true) (q2 : (Cond.exactly (Tof "DigitTens") "[B").before a s = true) (q3 : (Cond.eq (.length (Tof "DigitTens")) (.int 100)).before a s = true) (q4 : tensW.before a s = true) :
    ∃ (st d1 d2 : Addr) (D1 D2 : Cell), own_Tb s st d1 d2 D1 D2 := by
  have p5 : (bytesC (Tof "DigitOnes")).before a s = true := own_bytesW (F := fun r => 48 + r % 10) p3 p4 (fun r hr => by rw [← ones_num r hr]; rfl) (fun r hr => by omega)
  have q5 : (bytesC (Tof "DigitTens")).before a s = true := own_bytesW (F := fun r => 48 + r / 10) q3 q4 (fun r hr => by rw [← tens_num r hr]; rfl) (fun r hr => by omega)
  obtain ⟨c1, k1, st1, d1, D1, g1, g2, g3, T1, O1⟩ := ones_of_words (a := a) (s := s) (fun w hw => by simp [tblW] at hw; rcases hw with rfl | rfl | rfl | rfl <;> assumption) p4 hini harr
  obtain ⟨c2, k2, st2, d2, D2, f1, f2, f3, T2, O2⟩ := tens_of_words (a := a) (s := s) (fun w hw => by simp [tblW] at hw; rcases hw with rfl | rfl | rfl | rfl <;> assumption) q4 hini harr
  cases g1.symm.trans f1
  cases g2.symm.trans f2
  cases g3.symm.trans f3
  exact ⟨st1, d1, d2, D1, D2, T1, T2, O1, O2⟩
theorem own_tblLt {U : State} {name : String} {st d : Addr} {D : Cell} (h : Tbl U name st d D) : st < U.heap.size ∧ d < U.heap.size := by
  obtain ⟨cf, i, k, f, cellS, h1, h2, h3, h4, h5, h6, h7, h8, -⟩ := h
  exact ⟨(Array.getElem?_eq_some_iff.mp h5).1, (Array.getElem?_eq_some_iff.mp h8).1⟩
theorem own_tblMv {U : State} {name : String} {st d : Addr} {D : Cell} (hal : Z.vm.Alike U.vm) (E : Ext Z.heap U.heap) (h : Tbl Z name st d D) : Tbl U name st d D := by
  have h' := h
  obtain ⟨cf, i, k, f, cellS, h1, h2, h3, h4, h5, h6, h7, h8, -⟩ := h'
  exact Tbl.move hal (fun c q => E.2 _ _ q) (E.2 _ _ h8) h
def own_mag (x : Int32) : Nat := x.toInt.natAbs
theorem own_magLe (x : Int32) : own_mag x ≤ 2 ^ 31 := by
  have h1 := x.le_toInt; have h2 := x.toInt_lt
  unfold own_mag; omega
theorem own_magE (x : Int32) : (if x < 0 then x else -x) = negI (own_mag x) := by
  unfold negI own_mag
  split
  · rename_i h
    rw [Int32.lt_iff_toInt_lt, show (0 : Int32).toInt = 0 from by decide] at h
    rw [show (-((x.toInt.natAbs : Nat) : Int)) = x.toInt by omega, Int32.ofInt_toInt]
  · rename_i h
    rw [Int32.lt_iff_toInt_lt, show (0 : Int32).toInt = 0 from by decide] at h
    rw [show (-((x.toInt.natAbs : Nat) : Int)) = -x.toInt by omega, Int32.ofInt_neg, Int32.ofInt_toInt]
/-- what is written of a number -/
def own_dec (x : Int32) : List Value := (if x < 0 then [.int 45] else []) ++ (List.range (SBG.digits (own_mag x))).map fun i => .int (Int32.ofNat (48 + own_mag x / 10 ^ (SBG.digits (own_mag x) - 1 - i) % 10))
theorem own_decLen (x : Int32) : (own_dec x).length = SBG.digits (own_mag x) + GetChars.sgn x := by
  unfold own_dec GetChars.sgn
  split <;> simp <;> omega
theorem own_decHd {x : Int32} (h : x < 0) : (own_dec x)[0]? = some (.int 45) := by simp [own_dec, h]
theorem own_decAt (x : Int32) {i : Nat} (hi : i < SBG.digits (own_mag x)) : (own_dec x)[(own_dec x).length - 1 - i]? = some (.int (Int32.ofNat (48 + own_mag x / 10 ^ i % 10))) := by
  rw [own_decLen]
  have e3 : SBG.digits (own_mag x) - 1 - (SBG.digits (own_mag x) - 1 - i) = i := by omega
  unfold own_dec GetChars.sgn
  by_cases hx : x < 0
  · rw [if_pos hx, if_pos hx, show SBG.digits (own_mag x) + 1 - 1 - i = (SBG.digits (own_mag x) - 1 - i) + 1 by omega, List.singleton_append, List.getElem?_cons_succ, List.getElem?_map, List.getElem?_range (by omega), Option.map_some, e3]
  · rw [if_neg hx, if_neg hx, Nat.add_zero, List.nil_append, List.getElem?_map, List.getElem?_range (by omega), Option.map_some, e3]
theorem own_decSize (x : Int32) : strSizeOf x = Int32.ofNat (own_dec x).length := by
  rw [own_decLen]; exact strSizeOf_eq (own_magLe x) (own_magE x)
theorem own_digLe (n : Nat) : SBG.digits n ≤ 10 := by unfold SBG.digits; (repeat' split) <;> omega
theorem own_decLe (x : Int32) : (own_dec x).length ≤ 11 := by
  rw [own_decLen]; have := own_digLe (own_mag x); unfold GetChars.sgn; split <;> omega
theorem own_decFits (x : Int32) : ∀ v ∈ own_dec x, fits .byte v = true := by
  intro v hv
  unfold own_dec at hv
  rcases List.mem_append.mp hv with h | h
  · split at h
    · cases List.mem_singleton.mp h; decide
    · cases h
  · obtain ⟨i, -, rfl⟩ := List.mem_map.mp h
    have : ∀ d, d < 10 → fits .byte (.int (Int32.ofNat (48 + d))) = true := by decide
    exact this _ (Nat.mod_lt _ (by decide))
theorem own_decLe20 (x : Int32) : (own_dec x).length ≤ 30 := Nat.le_trans (own_decLe x) (by decide)
theorem own_zsN {zs : Int32} {L2 : Nat} (h2 : Int32.ofNat L2 = zs) (hL : L2 ≤ 30) : zs.toNatClampNeg = L2 ∧ zs.toInt = L2 := by
  subst h2
  have e := Int32.toInt_ofNat_small (show L2 < 2 ^ 31 by omega)
  simp only [Int32.toNatClampNeg]; omega
theorem own_appI {n zs m : Int32} {L1 L2 : Nat} (h1 : L1 = n.toNatClampNeg) (h0 : ¬ n < 0) (h2 : Int32.ofNat L2 = zs) (hL : L2 ≤ 30) (hm : m.toInt = n.toInt + zs.toInt) : m = Int32.ofNat (L1 + L2) ∧ m.toInt = L1 + L2 := by
  obtain ⟨-, e⟩ := own_zsN h2 hL
  rw [Int32.lt_iff_toInt_lt, show (0 : Int32).toInt = 0 from by decide] at h0
  have b := n.toInt_lt
  have b2 := m.toInt_lt
  simp only [Int32.toNatClampNeg] at h1
  refine ⟨?_, by omega⟩
  apply Int32.toInt_inj.mp
  rw [Int32.toInt_ofNat_small (by omega)]; omega
theorem own_nnL {L : Nat} (h : L ≤ 30) : ¬ Int32.ofNat L < 0 := by
  rw [Int32.lt_iff_toInt_lt, Int32.toInt_ofNat_small (by omega), show (0 : Int32).toInt = 0 from by decide]; omega
theorem own_side {n z : Int32} {vs us : List Value} (h1 : n.toInt = vs.length) (h2 : n.toInt ≤ z.toInt) (h3 : vs.length + us.length ≤ 140) :
    ¬ z < 0 ∧ 0 ≤ z.toInt ∧ vs.length ≤ z.toNatClampNeg ∧ ¬ n < 0 ∧ vs.length = n.toNatClampNeg ∧ n + Int32.ofNat us.length = Int32.ofNat (vs.length + us.length) ∧ 0 ≤ (Int32.ofNat (vs.length + us.length)).toInt ∧ (Int32.ofNat (vs.length + us.length)).toInt ≤ 140 ∧
      (Int32.ofNat (vs.length + us.length)).toInt = n.toInt + (Int32.ofNat us.length).toInt ∧ (Int32.ofNat (vs.length + us.length)).toInt = (vs ++ us).length := by
  have e1 : (Int32.ofNat (vs.length + us.length)).toInt = (vs.length + us.length : Nat) := Int32.toInt_ofNat_small (by omega)
  have e2 : (Int32.ofNat us.length).toInt = (us.length : Nat) := Int32.toInt_ofNat_small (by omega)
  have z3 : (0 : Int32).toInt = 0 := by decide
  refine ⟨by rw [Int32.lt_iff_toInt_lt, z3]; omega, by omega, by simp only [Int32.toNatClampNeg]; omega, by rw [Int32.lt_iff_toInt_lt, z3]; omega, by simp only [Int32.toNatClampNeg]; omega, ?_, by omega, by omega, by omega, by rw [List.length_append]; omega⟩
  apply Int32.toInt_inj.mp
  rw [e1, Int32.toInt_add, e2, h1, Int.bmod_eq_of_le (by omega) (by omega)]; omega
theorem own_side2 {n z : Int32} {vs : List Value} (h1 : n.toInt = vs.length) (h2 : n.toInt ≤ z.toInt) (h3 : vs.length ≤ 140) : vs.length = n.toNatClampNeg ∧ ¬ n < 0 ∧ n.toNatClampNeg ≤ 300 ∧ ¬ z < n := by
  rw [Int32.lt_iff_toInt_lt, Int32.lt_iff_toInt_lt, show (0 : Int32).toInt = 0 from by decide]
  simp only [Int32.toNatClampNeg]
  omega
/-- Integer.stringSize -/
theorem own_strSize {G : State → JFrame → Prop} (hG : own_Closed p e below G) (X : Stand p l e R s m args below meth c T locs cells slots) (hx : p.tables.exec = Jvm.exec) (hZ : Z.Warmed39 s.vm) {own : String} {index : Nat} (hown : s.vm.findClass own = some m.cls)
    (w1 : (Cond.methodLink own index StrSize.ssN).before a0 Z = true) (w2 : (Cond.static StrSize.ssN).before a0 Z = true) (wc : (Cond.code StrSize.ssN StrSize.ssB 4 (some .int)).before a0 Z = true) (wz : (Cond.initialized INT).before a0 Z = true)
    (eT : T.heap = h) {pc W : Nat} {Ls : Array Slot} {rest : List Value} (hsize : Ls.size = c.maxLocals) (hW : (rest.map fun v => v.category).sum ≤ W) (hf : 2 ≤ R.frames) (hl : W + 55 ≤ R.locals) (hc : cells ≤ R.cells) (hn : slots ≤ R.slots)
    (hdg : decode c.code pc = .ok (.invokestatic index, 3)) {y : Int32} (hy : strSizeOf x = y)
    (k : ∀ (T' : State), Stand p l e R s m args below meth c T' locs cells slots → T'.heap = h → G T' (mkF m (pc + 3) Ls (.int y :: rest))) : G T (mkF m pc Ls (.int x :: rest)) := by
  subst hy
  obtain ⟨v, vm₁, ⟨T4, L4, k4, n4⟩, hW1, X4, ⟨⟨u1, u2, u3, u4⟩, hv⟩, st4⟩ := Jvm.LawKit.callS X hx (own := own) (index := index) (y := StrSize.ssN) (bytes := StrSize.ssB) (maxL := 4) (ret := some .int) hown (mvT hZ w1) (mvT hZ w2) (mvT hZ wz) (mvT hZ wc) (by decide) (StrSize.pays (W := W) hf hl (mvT hZ wc) (mvT hZ wz))
    (g := mkF m pc Ls (.int x :: rest)) rfl hsize (argsL := [.int x]) (rest := rest) (fun sig h => by rw [show parseMethodDescriptor StrSize.ssN.desc = some ⟨[.int], some .int⟩ from by decide +kernel] at h; cases h; rfl) rfl (by simpa [JFrame.monitorRoom] using hW) hdg (fun vm₁ _ => ⟨hc, hn, x, rfl⟩)
  dsimp only [Pt.U, Pt.locs, Pt.cells, Pt.slots] at X4 u1 u2 u3 u4 st4 hv
  subst u2 u3 u4
  cases hv x rfl
  exact hG _ _ _ _ (fun t kt => st4 t kt) (k _ X4 (u1.trans eT))
/-- Integer.getChars -/
theorem own_getChars {G : State → JFrame → Prop} (hG : own_Closed p e below G) (X : Stand p l e R s m args below meth c T locs cells slots) (hx : p.tables.exec = Jvm.exec) (hZ : Z.Warmed39 s.vm) {own : String} {index : Nat} (hown : s.vm.findClass own = some m.cls)
    (w1 : (Cond.methodLink own index GetChars.gcN).before a0 Z = true) (w2 : (Cond.static GetChars.gcN).before a0 Z = true) (wc : (Cond.code GetChars.gcN GetChars.gcB 7 (some .int)).before a0 Z = true) (wf1 : (Cond.fieldLink INT 83 INT "DigitOnes" "[B").before a0 Z = true) (wf2 : (Cond.fieldLink INT 87 INT "DigitTens" "[B").before a0 Z = true) (wz : (Cond.initialized INT).before a0 Z = true)
    (eT : T.heap = h) (O : Old Z n0 h) (TB : own_Tb Z st d1 d2 D1 D2) (F : Arv Z h da k .byte z vs (.int 0)) (hda : n0 ≤ da) (hz : vs.length + (own_dec x).length ≤ z.toNatClampNeg)
    {pc W : Nat} {Ls : Array Slot} {rest : List Value} (hsize : Ls.size = c.maxLocals) (hW : (rest.map fun v => v.category).sum ≤ W) (hf : 2 ≤ R.frames) (hl : W + 78 ≤ R.locals) (hc : cells ≤ R.cells) (hn : slots ≤ R.slots)
    (hdg : decode c.code pc = .ok (.invokestatic index, 3)) {i : Int32} (hi : i = Int32.ofNat (vs.length + (own_dec x).length))
    (kk : ∀ (T' : State) (L : List Loc), Stand p l e R s m args below meth c T' (locs ++ L) cells slots → Arv Z T'.heap da k .byte z (vs ++ own_dec x) (.int 0) → Keep h T'.heap [da] → Fr n0 L → G T' (mkF m (pc + 3) Ls (.int (Int32.ofNat vs.length) :: rest))) : G T (mkF m pc Ls (.ref da :: .int i :: .int x :: rest)) := by
  subst hi
  obtain ⟨A, Ar, ek, es, hneg, hH, hfit⟩ := F
  obtain ⟨t1, t2, o1, o2⟩ := TB
  obtain ⟨l1, l2⟩ := own_tblLt t1
  obtain ⟨_, l3⟩ := own_tblLt t2
  have hlen := own_decLen x
  have hz31 : z.toNatClampNeg < 2 ^ 31 := by have := z.toInt_lt; simp only [Int32.toNatClampNeg]; omega
  have ne : ∀ q, q < Z.heap.size → da ≠ q := fun q hq => Nat.ne_of_gt (Nat.lt_of_lt_of_le (O.1 ▸ hq) hda)
  let g : GetChars.G := ⟨x, own_mag x, vs.length + (own_dec x).length, da, A, st, d1, D1, d2, D2⟩
  obtain ⟨v, vm₁, ⟨T4, L4, k4, n4⟩, hW1, X4, ⟨hv, h2, h3, h4, h5, h6, L, h7, h8⟩, st4⟩ := Jvm.LawKit.callS X hx (own := own) (index := index) (y := GetChars.gcN) (bytes := GetChars.gcB) (maxL := 7) (ret := some .int) hown (mvT hZ w1) (mvT hZ w2) (mvT hZ wz) (mvT hZ wc) (by decide) (GetChars.pays g W (by
      show (Cond.and _ (Cond.and _ _)).before _ _ = true
      rw [Cond.before_and, Cond.before_and, mvT hZ wc, mvT hZ wf1, mvT hZ wf2]; rfl) (mvT hZ wz) hf hl)
    (g := mkF m pc Ls (.ref da :: .int (Int32.ofNat (vs.length + (own_dec x).length)) :: .int x :: rest)) rfl hsize (argsL := [.int x, .int (Int32.ofNat (vs.length + (own_dec x).length)), .ref da]) (rest := rest) (fun sig h => by rw [show parseMethodDescriptor GetChars.gcN.desc = some ⟨[.int, .int, .array .byte], some .int⟩ from by decide +kernel] at h; cases h; rfl) rfl (by simpa [JFrame.monitorRoom] using hW) hdg (fun vm₁ hv1 => by
      have hal : Z.vm.Alike (T.setVm vm₁).vm := hZ.alike.trans hv1.alike
      have hE : Ext Z.heap (T.setVm vm₁).heap := by show Ext Z.heap T.heap; rw [eT]; exact O.2
      refine ⟨rfl, hc, hn, rfl, ?_, State.isArrayOf_alike hal Ar.2.1, Ar.2.2, by rw [es]; exact hz31, by rw [es]; exact hz, by show SBG.digits (own_mag x) + GetChars.sgn x ≤ vs.length + (own_dec x).length; omega, own_magLe x, own_magE x, own_tblMv hal hE t1, own_tblMv hal hE t2, ne _ l1, ne _ l2, ne _ l3⟩
      show T.heap[da]? = some A
      rw [eT]; exact Ar.1)
  dsimp only [Pt.U, Pt.locs, Pt.cells, Pt.slots] at X4 hv h2 h3 h4 h5 h6 h7 st4
  subst h7 h3 h4
  have hAs : ∀ j, j < A.slots.size → fits .byte (A.slots.getD j .null) = true := fun j hj => by
    have q := hH j hj
    rw [Array.getD_eq_getD_getElem?, q]; exact hfit j hj
  obtain ⟨f1, f2, f3, f4, f5⟩ := GetChars.outCell_facts g (own_magLe x) (by show SBG.digits (own_mag x) + GetChars.sgn x ≤ vs.length + (own_dec x).length; omega) hAs
  obtain ⟨b1, b2, b3⟩ := outCell_at g o1 o2 (own_magLe x) (by show SBG.digits (own_mag x) + GetChars.sgn x ≤ vs.length + (own_dec x).length; omega) (by show vs.length + (own_dec x).length ≤ A.slots.size; rw [es]; exact hz)
  have eT4 : (T.setVm vm₁).heap = h := eT
  rw [eT4] at h5 h6
  have hget : ∀ j, j < A.slots.size → (GetChars.outCell g).slots[j]? = some ((vs ++ own_dec x).getD j (.int 0)) := by
    intro j hj
    by_cases c1 : j < vs.length
    · rw [b3 j (Or.inl (by show j < vs.length + (own_dec x).length - (SBG.digits (own_mag x) + GetChars.sgn x); omega))]
      show A.slots[j]? = _
      rw [hH j hj, List.getD_eq_getElem?_getD, List.getD_eq_getElem?_getD, List.getElem?_append_left c1]
    · by_cases c2 : j < vs.length + (own_dec x).length
      · rw [List.getD_eq_getElem?_getD, List.getElem?_append_right (by omega)]
        by_cases c3 : j < vs.length + GetChars.sgn x
        · have hx0 : x < 0 := by
            by_cases hx0 : x < 0
            · exact hx0
            · rw [show GetChars.sgn x = 0 by simp [GetChars.sgn, hx0]] at c3; omega
          have hs : GetChars.sgn x = 1 := by simp [GetChars.sgn, hx0]
          have q := b2 hx0
          have ej : g.idx - SBG.digits g.n - 1 = j := by show vs.length + (own_dec x).length - SBG.digits (own_mag x) - 1 = j; omega
          rw [ej] at q
          rw [q, show j - vs.length = 0 by omega, own_decHd hx0]; rfl
        · have q := b1 (vs.length + (own_dec x).length - 1 - j) (by show _ < SBG.digits (own_mag x); omega)
          have ej : g.idx - 1 - (vs.length + (own_dec x).length - 1 - j) = j := by show vs.length + (own_dec x).length - 1 - (vs.length + (own_dec x).length - 1 - j) = j; omega
          rw [ej] at q
          have q2 := own_decAt x (i := vs.length + (own_dec x).length - 1 - j) (by omega)
          rw [show (own_dec x).length - 1 - (vs.length + (own_dec x).length - 1 - j) = j - vs.length by omega] at q2
          rw [q, q2]; rfl
      · rw [b3 j (Or.inr (by show vs.length + (own_dec x).length ≤ j; omega))]
        show A.slots[j]? = _
        rw [hH j hj, List.getD_eq_getElem?_getD, List.getD_eq_getElem?_getD, List.getElem?_eq_none (by omega), List.getElem?_eq_none (by rw [List.length_append]; omega)]
  have f1' : (GetChars.outCell g).cls = A.cls := f1
  have f2' : (GetChars.outCell g).vm = A.vm := f2
  have f3' : (GetChars.outCell g).slots.size = A.slots.size := f3
  obtain ⟨a1, kA, a2, comp, a3⟩ := Ar.2.1
  have er : g.idx - (SBG.digits g.n + GetChars.sgn g.x) = vs.length := by show vs.length + (own_dec x).length - (SBG.digits (own_mag x) + GetChars.sgn x) = vs.length; omega
  rw [er] at hv
  cases hv
  refine hG _ _ _ _ (fun t kt => st4 t kt) (kk _ _ X4 ⟨GetChars.outCell g, ⟨h2, ⟨by rw [f2']; exact a1, kA, by rw [f1']; exact a2, comp, a3⟩, by rw [f2']; exact Ar.2.2⟩, f1'.trans ek, f3'.trans es, hneg, fun j hj => hget j (f3' ▸ hj), fun j hj => ?_⟩ ⟨Nat.le_of_eq h5.symm, fun y cy hy hn => h6 y cy (fun q => hn (by rw [q]; exact List.mem_singleton.mpr rfl)) hy, fun y cy hy => ?_⟩ (fun w hw => by rw [h8 w hw]; exact hda))
  · have q := f4 j hj
    rw [Array.getD_eq_getD_getElem?, hget j (f3' ▸ hj)] at q
    exact q
  · by_cases q : y = da
    · subst q
      cases hy.symm.trans Ar.1
      exact ⟨_, h2, f1', f2', f3'⟩
    · exact ⟨cy, h6 y cy q hy, rfl, rfl, rfl⟩
end OwnD
end Jvm.RoadKit
namespace Jvm.RoadKit
open Sem ClassFile Op Lib Jvm.Stand Jvm.Free Jvm.LawKit Jvm.Free.SBG
section OwnL
variable {p : Program} {l : Launch} {e : Env} {R : Room} {s : State} {m : MethodId} {args : Array Value} {below : List Frame} {meth : Method} {c : Code} {T T' : State} {locs : List Loc} {cells slots : Nat} {Z : State} {h0 h : Heap} {a0 : Array Value} {n0 : Nat} {k : ClassId} {z : Int32} {x : Int64} {vs : List Value} {st d1 d2 da : Addr} {D1 D2 : Cell}
def own_magJ (x : Int64) : Nat := x.toInt.natAbs
theorem own_magJLe (x : Int64) : own_magJ x ≤ 2 ^ 63 := by
  have h1 := x.le_toInt; have h2 := x.toInt_lt
  unfold own_magJ; omega
theorem own_magJE (x : Int64) : (if x < 0 then x else -x) = negL (own_magJ x) := by
  unfold negL own_magJ
  split
  · rename_i h
    rw [Int64.lt_iff_toInt_lt, show (0 : Int64).toInt = 0 from by decide] at h
    rw [show (-((x.toInt.natAbs : Nat) : Int)) = x.toInt by omega, Int64.ofInt_toInt]
  · rename_i h
    rw [Int64.lt_iff_toInt_lt, show (0 : Int64).toInt = 0 from by decide] at h
    rw [show (-((x.toInt.natAbs : Nat) : Int)) = -x.toInt by omega, Int64.ofInt_neg, Int64.ofInt_toInt]
def own_decJ (x : Int64) : List Value := (if x < 0 then [.int 45] else []) ++ (List.range (SBG.digitsL (own_magJ x))).map fun i => .int (Int32.ofNat (48 + own_magJ x / 10 ^ (SBG.digitsL (own_magJ x) - 1 - i) % 10))
theorem own_decJLen (x : Int64) : (own_decJ x).length = SBG.digitsL (own_magJ x) + GetCharsL.sgnL x := by
  unfold own_decJ GetCharsL.sgnL
  split <;> simp <;> omega
theorem own_decJHd {x : Int64} (h : x < 0) : (own_decJ x)[0]? = some (.int 45) := by simp [own_decJ, h]
theorem own_decJAt (x : Int64) {i : Nat} (hi : i < SBG.digitsL (own_magJ x)) : (own_decJ x)[(own_decJ x).length - 1 - i]? = some (.int (Int32.ofNat (48 + own_magJ x / 10 ^ i % 10))) := by
  rw [own_decJLen]
  have e3 : SBG.digitsL (own_magJ x) - 1 - (SBG.digitsL (own_magJ x) - 1 - i) = i := by omega
  unfold own_decJ GetCharsL.sgnL
  by_cases hx : x < 0
  · rw [if_pos hx, if_pos hx, show SBG.digitsL (own_magJ x) + 1 - 1 - i = (SBG.digitsL (own_magJ x) - 1 - i) + 1 by omega, List.singleton_append, List.getElem?_cons_succ, List.getElem?_map, List.getElem?_range (by omega), Option.map_some, e3]
  · rw [if_neg hx, if_neg hx, Nat.add_zero, List.nil_append, List.getElem?_map, List.getElem?_range (by omega), Option.map_some, e3]
theorem own_decJSize (x : Int64) : strSizeOfL x = Int32.ofNat (own_decJ x).length := by
  rw [own_decJLen]; exact strSizeOfL_eq (own_magJLe x) (own_magJE x)
theorem own_decJLe (x : Int64) : (own_decJ x).length ≤ 21 := by
  rw [own_decJLen]; have := (SBG.digitsL_pos (own_magJ x)).2; unfold GetCharsL.sgnL; split <;> omega
theorem own_decJLe20 (x : Int64) : (own_decJ x).length ≤ 30 := Nat.le_trans (own_decJLe x) (by decide)
/-- Integer.stringSize -/
theorem own_strSizeJ {G : State → JFrame → Prop} (hG : own_Closed p e below G) (X : Stand p l e R s m args below meth c T locs cells slots) (hx : p.tables.exec = Jvm.exec) (hZ : Z.Warmed39 s.vm) {own : String} {index : Nat} (hown : s.vm.findClass own = some m.cls)
    (w1 : (Cond.methodLink own index StrSizeL.ssN).before a0 Z = true) (w2 : (Cond.static StrSizeL.ssN).before a0 Z = true) (wc : (Cond.code StrSizeL.ssN StrSizeL.ssB 6 (some .int)).before a0 Z = true) (wz : (Cond.initialized LNG).before a0 Z = true) (wk1 : (Cond.constantLong LNG 140 (-10)).before a0 Z = true) (wk2 : (Cond.constantLong LNG 53 10).before a0 Z = true)
    (eT : T.heap = h) {pc W : Nat} {Ls : Array Slot} {rest : List Value} (hsize : Ls.size = c.maxLocals) (hW : (rest.map fun v => v.category).sum ≤ W) (hf : 2 ≤ R.frames) (hl : W + 57 ≤ R.locals) (hc : cells ≤ R.cells) (hn : slots ≤ R.slots)
    (hdg : decode c.code pc = .ok (.invokestatic index, 3)) {y : Int32} (hy : strSizeOfL x = y)
    (k : ∀ (T' : State), Stand p l e R s m args below meth c T' locs cells slots → T'.heap = h → G T' (mkF m (pc + 3) Ls (.int y :: rest))) : G T (mkF m pc Ls (.long x :: rest)) := by
  subst hy
  obtain ⟨v, vm₁, ⟨T4, L4, k4, n4⟩, hW1, X4, ⟨⟨u1, u2, u3, u4⟩, hv⟩, st4⟩ := Jvm.LawKit.callS X hx (own := own) (index := index) (y := StrSizeL.ssN) (bytes := StrSizeL.ssB) (maxL := 6) (ret := some .int) hown (mvT hZ w1) (mvT hZ w2) (mvT hZ wz) (mvT hZ wc) (by decide) (StrSizeL.pays (W := W) hf hl (by
      show (Cond.and _ (Cond.and _ _)).before _ _ = true
      rw [Cond.before_and, Cond.before_and, mvT hZ wc, mvT hZ wk1, mvT hZ wk2]; rfl) (mvT hZ wz))
    (g := mkF m pc Ls (.long x :: rest)) rfl hsize (argsL := [.long x]) (rest := rest) (fun sig h => by rw [show parseMethodDescriptor StrSizeL.ssN.desc = some ⟨[.long], some .int⟩ from by decide +kernel] at h; cases h; rfl) rfl (by simpa [JFrame.monitorRoom] using hW) hdg (fun vm₁ _ => ⟨hc, hn, x, rfl⟩)
  dsimp only [Pt.U, Pt.locs, Pt.cells, Pt.slots] at X4 u1 u2 u3 u4 st4 hv
  subst u2 u3 u4
  cases hv x rfl
  exact hG _ _ _ _ (fun t kt => st4 t kt) (k _ X4 (u1.trans eT))
/-- Integer.getChars -/
theorem own_getCharsJ {G : State → JFrame → Prop} (hG : own_Closed p e below G) (X : Stand p l e R s m args below meth c T locs cells slots) (hx : p.tables.exec = Jvm.exec) (hZ : Z.Warmed39 s.vm) {own : String} {index : Nat} (hown : s.vm.findClass own = some m.cls)
    (w1 : (Cond.methodLink own index GetCharsL.gcN).before a0 Z = true) (w2 : (Cond.static GetCharsL.gcN).before a0 Z = true) (wc : (Cond.code GetCharsL.gcN GetCharsL.gcB 11 (some .int)).before a0 Z = true) (wf1 : (Cond.fieldLink LNG 133 INT "DigitOnes" "[B").before a0 Z = true) (wf2 : (Cond.fieldLink LNG 137 INT "DigitTens" "[B").before a0 Z = true) (wz : (Cond.initialized LNG).before a0 Z = true) (wk1 : (Cond.constantLong LNG 129 (-2147483648)).before a0 Z = true) (wk2 : (Cond.constantLong LNG 131 100).before a0 Z = true)
    (eT : T.heap = h) (O : Old Z n0 h) (TB : own_Tb Z st d1 d2 D1 D2) (F : Arv Z h da k .byte z vs (.int 0)) (hda : n0 ≤ da) (hz : vs.length + (own_decJ x).length ≤ z.toNatClampNeg)
    {pc W : Nat} {Ls : Array Slot} {rest : List Value} (hsize : Ls.size = c.maxLocals) (hW : (rest.map fun v => v.category).sum ≤ W) (hf : 2 ≤ R.frames) (hl : W + 102 ≤ R.locals) (hc : cells ≤ R.cells) (hn : slots ≤ R.slots)
    (hdg : decode c.code pc = .ok (.invokestatic index, 3)) {i : Int32} (hi : i = Int32.ofNat (vs.length + (own_decJ x).length))
    (kk : ∀ (T' : State) (L : List Loc), Stand p l e R s m args below meth c T' (locs ++ L) cells slots → Arv Z T'.heap da k .byte z (vs ++ own_decJ x) (.int 0) → Keep h T'.heap [da] → Fr n0 L → G T' (mkF m (pc + 3) Ls (.int (Int32.ofNat vs.length) :: rest))) : G T (mkF m pc Ls (.ref da :: .int i :: .long x :: rest)) := by
  subst hi
  obtain ⟨A, Ar, ek, es, hneg, hH, hfit⟩ := F
  obtain ⟨t1, t2, o1, o2⟩ := TB
  obtain ⟨l1, l2⟩ := own_tblLt t1
  obtain ⟨_, l3⟩ := own_tblLt t2
  have hlen := own_decJLen x
  have hz31 : z.toNatClampNeg < 2 ^ 31 := by have := z.toInt_lt; simp only [Int32.toNatClampNeg]; omega
  have ne : ∀ q, q < Z.heap.size → da ≠ q := fun q hq => Nat.ne_of_gt (Nat.lt_of_lt_of_le (O.1 ▸ hq) hda)
  let g : GetCharsL.G := ⟨x, own_magJ x, vs.length + (own_decJ x).length, da, A, st, d1, D1, d2, D2⟩
  obtain ⟨v, vm₁, ⟨T4, L4, k4, n4⟩, hW1, X4, ⟨hv, h2, h3, h4, h5, h6, L, h7, h8⟩, st4⟩ := Jvm.LawKit.callS X hx (own := own) (index := index) (y := GetCharsL.gcN) (bytes := GetCharsL.gcB) (maxL := 11) (ret := some .int) hown (mvT hZ w1) (mvT hZ w2) (mvT hZ wz) (mvT hZ wc) (by decide) (GetCharsL.pays g W (by
      show (Cond.and _ (Cond.and _ (Cond.and _ (Cond.and _ _)))).before _ _ = true
      rw [Cond.before_and, Cond.before_and, Cond.before_and, Cond.before_and, mvT hZ wc, mvT hZ wf1, mvT hZ wf2, mvT hZ wk1, mvT hZ wk2]; rfl) (mvT hZ wz) hf hl)
    (g := mkF m pc Ls (.ref da :: .int (Int32.ofNat (vs.length + (own_decJ x).length)) :: .long x :: rest)) rfl hsize (argsL := [.long x, .int (Int32.ofNat (vs.length + (own_decJ x).length)), .ref da]) (rest := rest) (fun sig h => by rw [show parseMethodDescriptor GetCharsL.gcN.desc = some ⟨[.long, .int, .array .byte], some .int⟩ from by decide +kernel] at h; cases h; rfl) rfl (by simpa [JFrame.monitorRoom] using hW) hdg (fun vm₁ hv1 => by
      have hal : Z.vm.Alike (T.setVm vm₁).vm := hZ.alike.trans hv1.alike
      have hE : Ext Z.heap (T.setVm vm₁).heap := by show Ext Z.heap T.heap; rw [eT]; exact O.2
      refine ⟨rfl, hc, hn, rfl, ?_, State.isArrayOf_alike hal Ar.2.1, Ar.2.2, by rw [es]; exact hz31, by rw [es]; exact hz, by show SBG.digitsL (own_magJ x) + GetCharsL.sgnL x ≤ vs.length + (own_decJ x).length; omega, own_magJLe x, own_magJE x, own_tblMv hal hE t1, own_tblMv hal hE t2, ne _ l1, ne _ l2, ne _ l3⟩
      show T.heap[da]? = some A
      rw [eT]; exact Ar.1)
  dsimp only [Pt.U, Pt.locs, Pt.cells, Pt.slots] at X4 hv h2 h3 h4 h5 h6 h7 st4
  subst h7 h3 h4
  have hAs : ∀ j, j < A.slots.size → fits .byte (A.slots.getD j .null) = true := fun j hj => by
    have q := hH j hj
    rw [Array.getD_eq_getD_getElem?, q]; exact hfit j hj
  obtain ⟨f1, f2, f3, f4, f5⟩ := GetCharsL.outCell_facts g (own_magJLe x) (by show SBG.digitsL (own_magJ x) + GetCharsL.sgnL x ≤ vs.length + (own_decJ x).length; omega) hAs
  obtain ⟨b1, b2, b3⟩ := outCellL_at g o1 o2 (own_magJLe x) (by show SBG.digitsL (own_magJ x) + GetCharsL.sgnL x ≤ vs.length + (own_decJ x).length; omega) (by show vs.length + (own_decJ x).length ≤ A.slots.size; rw [es]; exact hz)
  have eT4 : (T.setVm vm₁).heap = h := eT
  rw [eT4] at h5 h6
  have hget : ∀ j, j < A.slots.size → (GetCharsL.outCell g).slots[j]? = some ((vs ++ own_decJ x).getD j (.int 0)) := by
    intro j hj
    by_cases c1 : j < vs.length
    · rw [b3 j (Or.inl (by show j < vs.length + (own_decJ x).length - (SBG.digitsL (own_magJ x) + GetCharsL.sgnL x); omega))]
      show A.slots[j]? = _
      rw [hH j hj, List.getD_eq_getElem?_getD, List.getD_eq_getElem?_getD, List.getElem?_append_left c1]
    · by_cases c2 : j < vs.length + (own_decJ x).length
      · rw [List.getD_eq_getElem?_getD, List.getElem?_append_right (by omega)]
        by_cases c3 : j < vs.length + GetCharsL.sgnL x
        · have hx0 : x < 0 := by
            by_cases hx0 : x < 0
            · exact hx0
            · rw [show GetCharsL.sgnL x = 0 by simp [GetCharsL.sgnL, hx0]] at c3; omega
          have hs : GetCharsL.sgnL x = 1 := by simp [GetCharsL.sgnL, hx0]
          have q := b2 hx0
          have ej : g.idx - SBG.digitsL g.n - 1 = j := by show vs.length + (own_decJ x).length - SBG.digitsL (own_magJ x) - 1 = j; omega
          rw [ej] at q
          rw [q, show j - vs.length = 0 by omega, own_decJHd hx0]; rfl
        · have q := b1 (vs.length + (own_decJ x).length - 1 - j) (by show _ < SBG.digitsL (own_magJ x); omega)
          have ej : g.idx - 1 - (vs.length + (own_decJ x).length - 1 - j) = j := by show vs.length + (own_decJ x).length - 1 - (vs.length + (own_decJ x).length - 1 - j) = j; omega
          rw [ej] at q
          have q2 := own_decJAt x (i := vs.length + (own_decJ x).length - 1 - j) (by omega)
          rw [show (own_decJ x).length - 1 - (vs.length + (own_decJ x).length - 1 - j) = j - vs.length by omega] at q2
          rw [q, q2]; rfl
      · rw [b3 j (Or.inr (by show vs.length + (own_decJ x).length ≤ j; omega))]
        show A.slots[j]? = _
        rw [hH j hj, List.getD_eq_getElem?_getD, List.getD_eq_getElem?_getD, List.getElem?_eq_none (by omega), List.getElem?_eq_none (by rw [List.length_append]; omega)]
  have f1' : (GetCharsL.outCell g).cls = A.cls := f1
  have f2' : (GetCharsL.outCell g).vm = A.vm := f2
  have f3' : (GetCharsL.outCell g).slots.size = A.slots.size := f3
  obtain ⟨a1, kA, a2, comp, a3⟩ := Ar.2.1
  have er : g.idx - (SBG.digitsL g.n + GetCharsL.sgnL g.x) = vs.length := by show vs.length + (own_decJ x).length - (SBG.digitsL (own_magJ x) + GetCharsL.sgnL x) = vs.length; omega
  rw [er] at hv
  cases hv
  refine hG _ _ _ _ (fun t kt => st4 t kt) (kk _ _ X4 ⟨GetCharsL.outCell g, ⟨h2, ⟨by rw [f2']; exact a1, kA, by rw [f1']; exact a2, comp, a3⟩, by rw [f2']; exact Ar.2.2⟩, f1'.trans ek, f3'.trans es, hneg, fun j hj => hget j (f3' ▸ hj), fun j hj => ?_⟩ ⟨Nat.le_of_eq h5.symm, fun y cy hy hn => h6 y cy (fun q => hn (by rw [q]; exact List.mem_singleton.mpr rfl)) hy, fun y cy hy => ?_⟩ (fun w hw => by rw [h8 w hw]; exact hda))
  · have q := f4 j hj
    rw [Array.getD_eq_getD_getElem?, hget j (f3' ▸ hj)] at q
    exact q
  · by_cases q : y = da
    · subst q
      cases hy.symm.trans Ar.1
      exact ⟨_, h2, f1', f2', f3'⟩
    · exact ⟨cy, h6 y cy q hy, rfl, rfl, rfl⟩
end OwnL
end Jvm.RoadKit
namespace Jvm.Pilot.@@N@@
open Jvm Jvm.ClassFile Sem Op Lib Jvm.Free Jvm.Stand Jvm.LawKit Jvm.RoadKit Bundle Jvm.Pilot.@@N@@.Jvm.D
theorem pd_0 : parseMethodDescriptor "()B" = some ⟨[], some .byte⟩ := by decide +kernel
theorem pd_1 : parseMethodDescriptor "(IILjava/util/function/BiFunction;)I" = some ⟨[.int, .int, (.object "java/util/function/BiFunction")], some .int⟩ := by decide +kernel
theorem pd_2 : parseMethodDescriptor "(II)V" = some ⟨[.int, .int], none⟩ := by decide +kernel
theorem pd_3 : parseMethodDescriptor "()Z" = some ⟨[], some .boolean⟩ := by decide +kernel
theorem pd_4 : parseMethodDescriptor "([BI)C" = some ⟨[(.array .byte), .int], some .char⟩ := by decide +kernel
theorem pd_5 : parseMethodDescriptor "(II)I" = some ⟨[.int, .int], some .int⟩ := by decide +kernel
theorem pd_6 : parseMethodDescriptor "(III)I" = some ⟨[.int, .int, .int], some .int⟩ := by decide +kernel
theorem pd_7 : parseMethodDescriptor "(I)I" = some ⟨[.int], some .int⟩ := by decide +kernel
theorem pd_8 : parseMethodDescriptor "([BI)[B" = some ⟨[(.array .byte), .int], some (.array .byte)⟩ := by decide +kernel
theorem pd_9 : parseMethodDescriptor "(Ljava/lang/String;)V" = some ⟨[(.object "java/lang/String")], none⟩ := by decide +kernel
theorem pd_10 : parseMethodDescriptor "([BIB)V" = some ⟨[(.array .byte), .int, .byte], none⟩ := by decide +kernel
theorem pd_11 : parseMethodDescriptor "()I" = some ⟨[], some .int⟩ := by decide +kernel
theorem pd_12 : parseMethodDescriptor "(I)V" = some ⟨[.int], none⟩ := by decide +kernel
theorem pd_13 : parseMethodDescriptor "(ILjava/lang/String;)V" = some ⟨[.int, (.object "java/lang/String")], none⟩ := by decide +kernel
theorem pd_14 : parseMethodDescriptor "(Ljava/lang/String;)Ljava/lang/AbstractStringBuilder;" = some ⟨[(.object "java/lang/String")], some (.object "java/lang/AbstractStringBuilder")⟩ := by decide +kernel
theorem pd_15 : parseMethodDescriptor "([BII)[B" = some ⟨[(.array .byte), .int, .int], some (.array .byte)⟩ := by decide +kernel
theorem pd_16 : parseMethodDescriptor "()[B" = some ⟨[], some (.array .byte)⟩ := by decide +kernel
theorem pd_17 : parseMethodDescriptor "(Ljava/lang/AbstractStringBuilder;Ljava/lang/Void;)V" = some ⟨[(.object "java/lang/AbstractStringBuilder"), (.object "java/lang/Void")], none⟩ := by decide +kernel
theorem pd_18 : parseMethodDescriptor "(Ljava/lang/StringBuilder;)V" = some ⟨[(.object "java/lang/StringBuilder")], none⟩ := by decide +kernel
theorem pd_19 : parseMethodDescriptor "(J)I" = some ⟨[.long], some .int⟩ := by decide +kernel
theorem pd_20 : parseMethodDescriptor "(I)Ljava/lang/AbstractStringBuilder;" = some ⟨[.int], some (.object "java/lang/AbstractStringBuilder")⟩ := by decide +kernel
theorem pd_21 : parseMethodDescriptor "([BB)V" = some ⟨[(.array .byte), .byte], none⟩ := by decide +kernel
theorem pd_22 : parseMethodDescriptor "(I)J" = some ⟨[.int], some .long⟩ := by decide +kernel
theorem pd_23 : parseMethodDescriptor "(I)Ljava/lang/String;" = some ⟨[.int], some (.object "java/lang/String")⟩ := by decide +kernel
theorem pd_24 : parseMethodDescriptor "()V" = some ⟨[], none⟩ := by decide +kernel
theorem pd_25 : parseMethodDescriptor "(I)Ljava/lang/StringBuilder;" = some ⟨[.int], some (.object "java/lang/StringBuilder")⟩ := by decide +kernel
theorem pd_26 : parseMethodDescriptor "(Ljava/lang/String;)Ljava/lang/StringBuilder;" = some ⟨[(.object "java/lang/String")], some (.object "java/lang/StringBuilder")⟩ := by decide +kernel
theorem pd_27 : parseMethodDescriptor "()Ljava/lang/String;" = some ⟨[], some (.object "java/lang/String")⟩ := by decide +kernel
theorem pd_28 : parseMethodDescriptor "(JI)C" = some ⟨[.long, .int], some .char⟩ := by decide +kernel
theorem pd_29 : parseMethodDescriptor "(I)C" = some ⟨[.int], some .char⟩ := by decide +kernel
theorem pd_30 : parseMethodDescriptor "(II)Ljava/lang/String;" = some ⟨[.int, .int], some (.object "java/lang/String")⟩ := by decide +kernel
theorem pd_31 : parseMethodDescriptor "(III)C" = some ⟨[.int, .int, .int], some .char⟩ := by decide +kernel
theorem d10_0 : decode jdk_42_method_152_code 0 = .ok (.getstatic 38, 3) := by decide +kernel
theorem d10_3 : decode jdk_42_method_152_code 3 = .ok (.ifCond .eq 10, 3) := by decide +kernel
theorem d10_6 : decode jdk_42_method_152_code 6 = .ok (.aload_n 0, 1) := by decide +kernel
theorem d10_7 : decode jdk_42_method_152_code 7 = .ok (.getfield 15, 3) := by decide +kernel
theorem d10_10 : decode jdk_42_method_152_code 10 = .ok (.goto 4, 3) := by decide +kernel
theorem d10_14 : decode jdk_42_method_152_code 14 = .ok (.ireturn, 1) := by decide +kernel
theorem rj_coder_pn : plainFor (⟨"java/lang/String", "coder", "()B"⟩ : MethodName) = true := plainFor_of_name (show plainName "java/lang/String" = true by first | (simp [plainName, overriddenIn]; done) | decide +kernel)
theorem rj_coder_ef (mI : MethodId) (a : Addr) : entryFrame mI #[(.ref a)] 1 = mkF mI 0 #[.val (.ref a)] [] := by first | (simp [entryFrame, mkF, argsToLocals, Value.category]; done) | rfl
set_option maxRecDepth 65536 in
set_option maxHeartbeats 40000000 in
theorem rj_coder (l : Launch) (Z : State) (a0 : Array Value) (hw : ∀ d ∈ tables_1, d.before a0 Z = true) (ws : List Jvm.Cond) (h0 : Heap) (n0 : Nat) (O : Old Z n0 h0) (cs : Int32) (Scs : Sta Z Z.heap "java/lang/String" "COMPACT_STRINGS" "Z" (.int cs)) (hcs : ¬ cs = 0) (a : Addr) (Fc : Fld Z h0 a "java/lang/String" "coder" "B" (.int 0)) :
    own_Met l Z (⟨"java/lang/String", "coder", "()B"⟩ : MethodName) jdk_42_method_152_code 1 (some .byte) ws ({ frames := 0, cells := 0, slots := 0, locals := 0 } : Room) #[(.ref a)] h0 (own_QP h0 (some (.int 0))) := by
  refine own_met rj_coder_pn ?_
  intro pP eE sS mI bB mT cC s₁ hx hby hml hown hnm hret hlk hZ X0 e0
  replace hown : sS.vm.findClass "java/lang/String" = some mI.cls := hown
  refine own_cast (rj_coder_ef mI a) ?_
  obtain ⟨Ta1, Xa1, ea1, sta1⟩ := getS2 X0 hx hZ hown (host := "") (Or.inl (hw _ (List.mem_of_getElem? (i := 50) rfl))) Via.refl e0 (Sta.ext O.2 Scs) (g := (mkF mI 0 #[.val (.ref a)] [])) rfl (hb hby d10_0)
  refine own_go (T' := Ta1) (g' := (mkF mI 3 #[.val (.ref a)] [(.int cs)])) (fun t_ kt_ => sta1 _ kt_) ?_
  refine own_go (T' := Ta1) (g' := (mkF mI 6 #[.val (.ref a)] [])) (fun t_ kt_ => XS.ifNo Xa1.here hx rfl (hb hby d10_3) rfl ((if0 _ _).trans (feq (hcs : ¬ (cs = (0 : Int32)))).1) kt_) ?_
  refine own_go (T' := Ta1) (g' := (mkF mI 7 #[.val (.ref a)] [(.ref a)])) (fun t_ kt_ => XS.aloadN Xa1.here hx rfl (hb hby d10_6) rfl rfl kt_) ?_
  obtain ⟨Ta2, Xa2, ea2, sta2⟩ := getF Xa1 hx hZ hown (host := "") (Or.inl (hw _ (List.mem_of_getElem? (i := 38) rfl))) Via.refl ea1 Fc (g := (mkF mI 7 #[.val (.ref a)] [(.ref a)])) rfl rfl (hb hby d10_7)
  refine own_go (T' := Ta2) (g' := (mkF mI 10 #[.val (.ref a)] [(.int (0 : Int32))])) (fun t_ kt_ => sta2 _ kt_) ?_
  refine own_go (T' := Ta2) (g' := (mkF mI 14 #[.val (.ref a)] [(.int (0 : Int32))])) (fun t_ kt_ => XS.goto Xa2.here hx rfl (pc0 := 10) (pc' := 14) rfl (hb hby d10_10) (by decide) (by decide) kt_) ?_
  refine own_retN Xa2 hx hlk (t := .byte) hret (by simp) (hb hby d10_14) (show nar .byte (0 : Int32) = (0 : Int32) from by decide) (by decide) (by decide) ?_
  exact ⟨rfl, rfl, ea2⟩
theorem d9_0 : decode jdk_42_method_54_code 0 = .ok (.aload_n 0, 1) := by decide +kernel
theorem d9_1 : decode jdk_42_method_54_code 1 = .ok (.getfield 9, 3) := by decide +kernel
theorem d9_4 : decode jdk_42_method_54_code 4 = .ok (.arraylength, 1) := by decide +kernel
theorem d9_5 : decode jdk_42_method_54_code 5 = .ok (.aload_n 0, 1) := by decide +kernel
theorem d9_6 : decode jdk_42_method_54_code 6 = .ok (.invokevirtual 335, 3) := by decide +kernel
theorem d9_9 : decode jdk_42_method_54_code 9 = .ok (.ishr, 1) := by decide +kernel
theorem d9_10 : decode jdk_42_method_54_code 10 = .ok (.ireturn, 1) := by decide +kernel
theorem rj_len_pn : plainFor (⟨"java/lang/String", "length", "()I"⟩ : MethodName) = true := plainFor_of_name (show plainName "java/lang/String" = true by first | (simp [plainName, overriddenIn]; done) | decide +kernel)
theorem rj_len_ef (mI : MethodId) (a : Addr) : entryFrame mI #[(.ref a)] 1 = mkF mI 0 #[.val (.ref a)] [] := by first | (simp [entryFrame, mkF, argsToLocals, Value.category]; done) | rfl
set_option maxRecDepth 65536 in
set_option maxHeartbeats 40000000 in
theorem rj_len (l : Launch) (Z : State) (a0 : Array Value) (hw : ∀ d ∈ tables_1, d.before a0 Z = true) (ws : List Jvm.Cond) (h0 : Heap) (n0 : Nat) (O : Old Z n0 h0) (cs : Int32) (Scs : Sta Z Z.heap "java/lang/String" "COMPACT_STRINGS" "Z" (.int cs)) (hcs : ¬ cs = 0) (a d : Addr) (k : ClassId) (z : Int32) (vs : List Value) (Ea : Exa Z h0 a "java/lang/String") (Fc : Fld Z h0 a "java/lang/String" "coder" "B" (.int 0)) (Fv : Fld Z h0 a "java/lang/String" "value" "[B" (.ref d)) (V : Arv Z h0 d k .byte z vs (.int 0)) :
    own_Met l Z (⟨"java/lang/String", "length", "()I"⟩ : MethodName) jdk_42_method_54_code 1 (some .int) ws ({ frames := 1, cells := 0, slots := 0, locals := 13 } : Room) #[(.ref a)] h0 (own_QP h0 (some (.int z))) := by
  refine own_met rj_len_pn ?_
  intro pP eE sS mI bB mT cC s₁ hx hby hml hown hnm hret hlk hZ X0 e0
  replace hown : sS.vm.findClass "java/lang/String" = some mI.cls := hown
  refine own_cast (rj_len_ef mI a) ?_
  refine own_go (T' := s₁) (g' := (mkF mI 1 #[.val (.ref a)] [(.ref a)])) (fun t_ kt_ => XS.aloadN X0.here hx rfl (hb hby d9_0) rfl rfl kt_) ?_
  obtain ⟨Tb1, Xb1, eb1, stb1⟩ := getF X0 hx hZ hown (host := "") (Or.inl (hw _ (List.mem_of_getElem? (i := 36) rfl))) Via.refl e0 Fv (g := (mkF mI 1 #[.val (.ref a)] [(.ref a)])) rfl rfl (hb hby d9_1)
  refine own_go (T' := Tb1) (g' := (mkF mI 4 #[.val (.ref a)] [(.ref d)])) (fun t_ kt_ => stb1 _ kt_) ?_
  obtain ⟨clb2, Arb2, qb2, Sb2, Ngb2, Hb2, Gb2⟩ := id V
  refine own_go (T' := Tb1) (g' := (mkF mI 5 #[.val (.ref a)] [(.int z)])) (fun t_ kt_ => own_len Xb1 hx hZ eb1 Arb2 (len_of Sb2 Ngb2) (g := (mkF mI 4 #[.val (.ref a)] [(.ref d)])) rfl rfl (hb hby d9_4) _ kt_) ?_
  refine own_go (T' := Tb1) (g' := (mkF mI 6 #[.val (.ref a)] [(.ref a), (.int z)])) (fun t_ kt_ => XS.aloadN Xb1.here hx rfl (hb hby d9_5) rfl rfl kt_) ?_
  refine own_callV own_closed Xb1 hx hZ (y := (⟨"java/lang/String", "coder", "()B"⟩ : MethodName)) (z := (⟨"java/lang/String", "coder", "()B"⟩ : MethodName)) hown (hw _ (List.mem_of_getElem? (i := 45) rfl)) (hw _ (List.mem_of_getElem? (i := 46) rfl)) (hw _ (List.mem_of_getElem? (i := 48) rfl)) (hw _ (List.mem_of_getElem? (i := 47) rfl)) (hw _ (List.mem_of_getElem? (i := 48) rfl)) rfl (by decide) (rj_coder l Z a0 hw [] h0 n0 O cs Scs hcs a Fc) (hw _ (List.mem_of_getElem? (i := 49) rfl)) (hw _ (List.mem_of_getElem? (i := 21) rfl)) eb1 Ea (pc := 6) (Ls := #[.val (.ref a)]) (argsL := []) (rest := [(.int z)]) (by rw [hml]; rfl) (lenOf pd_0 rfl) (W := 1) (Nat.le_of_eq rfl) (by decide) (by decide) (by decide) (by decide) (hb hby d9_6) rfl rfl ?_
  intro Tb3 Lb3 vb3 Xb3 hQb3
  obtain ⟨rfl, rfl, eb3⟩ := hQb3
  show own_Ends pP eE bB sS _ _ Tb3 (mkF mI 9 #[.val (.ref a)] [(.int (0 : Int32)), (.int z)])
  refine own_go (T' := Tb3) (g' := (mkF mI 10 #[.val (.ref a)] [(.int (z >>> ((0 : Int32) &&& 31)))])) (fun t_ kt_ => XS.ishr Xb3.here hx rfl (hb hby d9_9) rfl kt_) ?_
  rw [own_shr0]
  refine own_retI Xb3 hx hlk hret (hb hby d9_10) (by decide) (by decide) ?_
  exact ⟨rfl, rfl, eb3⟩
theorem d12_0 : decode jdk_42_method_154_code 0 = .ok (.getstatic 38, 3) := by decide +kernel
theorem d12_3 : decode jdk_42_method_154_code 3 = .ok (.ifCond .eq 14, 3) := by decide +kernel
theorem d12_6 : decode jdk_42_method_154_code 6 = .ok (.aload_n 0, 1) := by decide +kernel
theorem d12_7 : decode jdk_42_method_154_code 7 = .ok (.getfield 15, 3) := by decide +kernel
theorem d12_10 : decode jdk_42_method_154_code 10 = .ok (.ifCond .ne 7, 3) := by decide +kernel
theorem d12_13 : decode jdk_42_method_154_code 13 = .ok (.iconst 1, 1) := by decide +kernel
theorem d12_14 : decode jdk_42_method_154_code 14 = .ok (.goto 4, 3) := by decide +kernel
theorem d12_18 : decode jdk_42_method_154_code 18 = .ok (.ireturn, 1) := by decide +kernel
theorem rj_lat_pn : plainFor (⟨"java/lang/String", "isLatin1", "()Z"⟩ : MethodName) = true := plainFor_of_name (show plainName "java/lang/String" = true by first | (simp [plainName, overriddenIn]; done) | decide +kernel)
theorem rj_lat_ef (mI : MethodId) (a : Addr) : entryFrame mI #[(.ref a)] 1 = mkF mI 0 #[.val (.ref a)] [] := by first | (simp [entryFrame, mkF, argsToLocals, Value.category]; done) | rfl
set_option maxRecDepth 65536 in
set_option maxHeartbeats 40000000 in
theorem rj_lat (l : Launch) (Z : State) (a0 : Array Value) (hw : ∀ d ∈ tables_1, d.before a0 Z = true) (ws : List Jvm.Cond) (h0 : Heap) (n0 : Nat) (O : Old Z n0 h0) (cs : Int32) (Scs : Sta Z Z.heap "java/lang/String" "COMPACT_STRINGS" "Z" (.int cs)) (hcs : ¬ cs = 0) (a : Addr) (Fc : Fld Z h0 a "java/lang/String" "coder" "B" (.int 0)) :
    own_Met l Z (⟨"java/lang/String", "isLatin1", "()Z"⟩ : MethodName) jdk_42_method_154_code 1 (some .boolean) ws ({ frames := 0, cells := 0, slots := 0, locals := 0 } : Room) #[(.ref a)] h0 (own_QP h0 (some (.int 1))) := by
  refine own_met rj_lat_pn ?_
  intro pP eE sS mI bB mT cC s₁ hx hby hml hown hnm hret hlk hZ X0 e0
  replace hown : sS.vm.findClass "java/lang/String" = some mI.cls := hown
  refine own_cast (rj_lat_ef mI a) ?_
  obtain ⟨Tc1, Xc1, ec1, stc1⟩ := getS2 X0 hx hZ hown (host := "") (Or.inl (hw _ (List.mem_of_getElem? (i := 50) rfl))) Via.refl e0 (Sta.ext O.2 Scs) (g := (mkF mI 0 #[.val (.ref a)] [])) rfl (hb hby d12_0)
  refine own_go (T' := Tc1) (g' := (mkF mI 3 #[.val (.ref a)] [(.int cs)])) (fun t_ kt_ => stc1 _ kt_) ?_
  refine own_go (T' := Tc1) (g' := (mkF mI 6 #[.val (.ref a)] [])) (fun t_ kt_ => XS.ifNo Xc1.here hx rfl (hb hby d12_3) rfl ((if0 _ _).trans (feq (hcs : ¬ (cs = (0 : Int32)))).1) kt_) ?_
  refine own_go (T' := Tc1) (g' := (mkF mI 7 #[.val (.ref a)] [(.ref a)])) (fun t_ kt_ => XS.aloadN Xc1.here hx rfl (hb hby d12_6) rfl rfl kt_) ?_
  obtain ⟨Tc2, Xc2, ec2, stc2⟩ := getF Xc1 hx hZ hown (host := "") (Or.inl (hw _ (List.mem_of_getElem? (i := 38) rfl))) Via.refl ec1 Fc (g := (mkF mI 7 #[.val (.ref a)] [(.ref a)])) rfl rfl (hb hby d12_7)
  refine own_go (T' := Tc2) (g' := (mkF mI 10 #[.val (.ref a)] [(.int (0 : Int32))])) (fun t_ kt_ => stc2 _ kt_) ?_
  refine own_go (T' := Tc2) (g' := (mkF mI 13 #[.val (.ref a)] [])) (fun t_ kt_ => XS.ifNo Xc2.here hx rfl (hb hby d12_10) rfl ((if0 _ _).trans (teq (by decide : (0 : Int32) = (0 : Int32))).2) kt_) ?_
  refine own_go (T' := Tc2) (g' := (mkF mI 14 #[.val (.ref a)] [(.int (1 : Int32))])) (fun t_ kt_ => XS.iconst Xc2.here hx rfl (hb hby d12_13) kt_) ?_
  refine own_go (T' := Tc2) (g' := (mkF mI 18 #[.val (.ref a)] [(.int (1 : Int32))])) (fun t_ kt_ => XS.goto Xc2.here hx rfl (pc0 := 14) (pc' := 18) rfl (hb hby d12_14) (by decide) (by decide) kt_) ?_
  refine own_retN Xc2 hx hlk (t := .boolean) hret (by simp) (hb hby d12_18) (show nar .boolean (1 : Int32) = (1 : Int32) from by decide) (by decide) (by decide) ?_
  exact ⟨rfl, rfl, ec2⟩
theorem d15_0 : decode jdk_41_method_11_code 0 = .ok (.iload_n 0, 1) := by decide +kernel
theorem d15_1 : decode jdk_41_method_11_code 1 = .ok (.ifCond .lt 8, 3) := by decide +kernel
theorem d15_4 : decode jdk_41_method_11_code 4 = .ok (.iload_n 0, 1) := by decide +kernel
theorem d15_5 : decode jdk_41_method_11_code 5 = .ok (.iload_n 1, 1) := by decide +kernel
theorem d15_6 : decode jdk_41_method_11_code 6 = .ok (.if_icmp .lt 10, 3) := by decide +kernel
theorem d15_16 : decode jdk_41_method_11_code 16 = .ok (.iload_n 0, 1) := by decide +kernel
theorem d15_17 : decode jdk_41_method_11_code 17 = .ok (.ireturn, 1) := by decide +kernel
theorem rj_pci_pn : plainFor (⟨"jdk/internal/util/Preconditions", "checkIndex", "(IILjava/util/function/BiFunction;)I"⟩ : MethodName) = true := plainFor_of_name (show plainName "jdk/internal/util/Preconditions" = true by first | (simp [plainName, overriddenIn]; done) | decide +kernel)
theorem rj_pci_ef (mI : MethodId) (i : Int32) (n : Int32) (fo : Value) (hfo : fo.isRef = true) : entryFrame mI #[(.int i), (.int n), fo] 3 = mkF mI 0 #[.val (.int i), .val (.int n), .val fo] [] := by rcases ref_cases hfo with rfl | ⟨_, rfl⟩ <;> first | (simp [entryFrame, mkF, argsToLocals, Value.category]; done) | rfl
set_option maxRecDepth 65536 in
set_option maxHeartbeats 40000000 in
theorem rj_pci (l : Launch) (Z : State) (a0 : Array Value) (hw : ∀ d ∈ tables_1, d.before a0 Z = true) (ws : List Jvm.Cond) (h0 : Heap) (i n : Int32) (fo : Value) (hfo : fo.isRef = true) (h_i0 : ¬ i < 0) (h_in : i < n) :
    own_Met l Z (⟨"jdk/internal/util/Preconditions", "checkIndex", "(IILjava/util/function/BiFunction;)I"⟩ : MethodName) jdk_41_method_11_code 3 (some .int) ws ({ frames := 0, cells := 0, slots := 0, locals := 0 } : Room) #[(.int i), (.int n), fo] h0 (own_QP h0 (some (.int i))) := by
  refine own_met rj_pci_pn ?_
  intro pP eE sS mI bB mT cC s₁ hx hby hml hown hnm hret hlk hZ X0 e0
  replace hown : sS.vm.findClass "jdk/internal/util/Preconditions" = some mI.cls := hown
  refine own_cast (rj_pci_ef mI i n fo hfo) ?_
  refine own_go (T' := s₁) (g' := (mkF mI 1 #[.val (.int i), .val (.int n), .val fo] [(.int i)])) (fun t_ kt_ => XS.iloadN X0.here hx rfl (hb hby d15_0) rfl kt_) ?_
  refine own_go (T' := s₁) (g' := (mkF mI 4 #[.val (.int i), .val (.int n), .val fo] [])) (fun t_ kt_ => XS.ifNo X0.here hx rfl (hb hby d15_1) rfl ((if0 _ _).trans (flt (h_i0 : ¬ (i < (0 : Int32)))).1) kt_) ?_
  refine own_go (T' := s₁) (g' := (mkF mI 5 #[.val (.int i), .val (.int n), .val fo] [(.int i)])) (fun t_ kt_ => XS.iloadN X0.here hx rfl (hb hby d15_4) rfl kt_) ?_
  refine own_go (T' := s₁) (g' := (mkF mI 6 #[.val (.int i), .val (.int n), .val fo] [(.int n), (.int i)])) (fun t_ kt_ => XS.iloadN X0.here hx rfl (hb hby d15_5) rfl kt_) ?_
  refine own_go (T' := s₁) (g' := (mkF mI 16 #[.val (.int i), .val (.int n), .val fo] [])) (fun t_ kt_ => XS.icmpYes X0.here hx rfl (pc0 := 6) (pc' := 16) rfl (hb hby d15_6) rfl (tlt (h_in : i < n)).1 (by decide) (by decide) kt_) ?_
  refine own_go (T' := s₁) (g' := (mkF mI 17 #[.val (.int i), .val (.int n), .val fo] [(.int i)])) (fun t_ kt_ => XS.iloadN X0.here hx rfl (hb hby d15_16) rfl kt_) ?_
  refine own_retI X0 hx hlk hret (hb hby d15_17) (by decide) (by decide) ?_
  exact ⟨rfl, rfl, e0⟩
theorem d14_0 : decode jdk_42_method_155_code 0 = .ok (.iload_n 0, 1) := by decide +kernel
theorem d14_1 : decode jdk_42_method_155_code 1 = .ok (.iload_n 1, 1) := by decide +kernel
theorem d14_2 : decode jdk_42_method_155_code 2 = .ok (.getstatic 1053, 3) := by decide +kernel
theorem d14_5 : decode jdk_42_method_155_code 5 = .ok (.invokestatic 1059, 3) := by decide +kernel
theorem d14_8 : decode jdk_42_method_155_code 8 = .ok (.pop, 1) := by decide +kernel
theorem d14_9 : decode jdk_42_method_155_code 9 = .ok (.return_, 1) := by decide +kernel
theorem rj_ci_pn : plainFor (⟨"java/lang/String", "checkIndex", "(II)V"⟩ : MethodName) = true := plainFor_of_name (show plainName "java/lang/String" = true by first | (simp [plainName, overriddenIn]; done) | decide +kernel)
theorem rj_ci_ef (mI : MethodId) (i : Int32) (n : Int32) : entryFrame mI #[(.int i), (.int n)] 2 = mkF mI 0 #[.val (.int i), .val (.int n)] [] := by first | (simp [entryFrame, mkF, argsToLocals, Value.category]; done) | rfl
set_option maxRecDepth 65536 in
set_option maxHeartbeats 40000000 in
theorem rj_ci (l : Launch) (Z : State) (a0 : Array Value) (hw : ∀ d ∈ tables_1, d.before a0 Z = true) (ws : List Jvm.Cond) (h0 : Heap) (n0 : Nat) (O : Old Z n0 h0) (cs : Int32) (Scs : Sta Z Z.heap "java/lang/String" "COMPACT_STRINGS" "Z" (.int cs)) (hcs : ¬ cs = 0) (fo : Value) (hfo : fo.isRef = true) (Sfo : Sta Z Z.heap "jdk/internal/util/Preconditions" "SIOOBE_FORMATTER" "Ljava/util/function/BiFunction;" fo) (i n : Int32) (h_i0 : ¬ i < 0) (h_in : i < n) :
    own_Met l Z (⟨"java/lang/String", "checkIndex", "(II)V"⟩ : MethodName) jdk_42_method_155_code 2 none ws ({ frames := 1, cells := 0, slots := 0, locals := 14 } : Room) #[(.int i), (.int n)] h0 (own_QP h0 none) := by
  refine own_met rj_ci_pn ?_
  intro pP eE sS mI bB mT cC s₁ hx hby hml hown hnm hret hlk hZ X0 e0
  replace hown : sS.vm.findClass "java/lang/String" = some mI.cls := hown
  refine own_cast (rj_ci_ef mI i n) ?_
  refine own_go (T' := s₁) (g' := (mkF mI 1 #[.val (.int i), .val (.int n)] [(.int i)])) (fun t_ kt_ => XS.iloadN X0.here hx rfl (hb hby d14_0) rfl kt_) ?_
  refine own_go (T' := s₁) (g' := (mkF mI 2 #[.val (.int i), .val (.int n)] [(.int n), (.int i)])) (fun t_ kt_ => XS.iloadN X0.here hx rfl (hb hby d14_1) rfl kt_) ?_
  obtain ⟨Te1, Xe1, ee1, ste1⟩ := getS2 X0 hx hZ hown (host := "") (Or.inl (hw _ (List.mem_of_getElem? (i := 68) rfl))) Via.refl e0 (Sta.ext O.2 Sfo) (g := (mkF mI 2 #[.val (.int i), .val (.int n)] [(.int n), (.int i)])) rfl (hb hby d14_2)
  refine own_go (T' := Te1) (g' := (mkF mI 5 #[.val (.int i), .val (.int n)] [fo, (.int n), (.int i)])) (fun t_ kt_ => ste1 _ kt_) ?_
  refine own_callS own_closed Xe1 hx hZ (y := (⟨"jdk/internal/util/Preconditions", "checkIndex", "(IILjava/util/function/BiFunction;)I"⟩ : MethodName)) hown (hw _ (List.mem_of_getElem? (i := 70) rfl)) (hw _ (List.mem_of_getElem? (i := 71) rfl)) (by decide) (rj_pci l Z a0 hw [] h0 i n fo hfo h_i0 h_in) (hw _ (List.mem_of_getElem? (i := 72) rfl)) (hw _ (List.mem_of_getElem? (i := 69) rfl)) ee1 (pc := 5) (Ls := #[.val (.int i), .val (.int n)]) (argsL := [(.int i), (.int n), fo]) (rest := []) (by rw [hml]; rfl) (lenOf pd_1 rfl) (W := 0) (Nat.le_of_eq rfl) (by decide) (by decide) (by decide) (by decide) (hb hby d14_5) rfl rfl ?_
  intro Te2 Le2 ve2 Xe2 hQe2
  obtain ⟨rfl, rfl, ee2⟩ := hQe2
  show own_Ends pP eE bB sS _ _ Te2 (mkF mI 8 #[.val (.int i), .val (.int n)] [(.int i)])
  refine own_go (T' := Te2) (g' := (mkF mI 9 #[.val (.int i), .val (.int n)] [])) (fun t_ kt_ => XS.pop Xe2.here hx rfl (hb hby d14_8) rfl rfl kt_) ?_
  refine own_retV Xe2 hx hlk hret (hb hby d14_9) (by decide) (by decide) ?_
  exact ⟨rfl, rfl, ee2⟩
theorem d13_0 : decode jdk_43_method_2_code 0 = .ok (.iload_n 1, 1) := by decide +kernel
theorem d13_1 : decode jdk_43_method_2_code 1 = .ok (.aload_n 0, 1) := by decide +kernel
theorem d13_2 : decode jdk_43_method_2_code 2 = .ok (.arraylength, 1) := by decide +kernel
theorem d13_3 : decode jdk_43_method_2_code 3 = .ok (.invokestatic 9, 3) := by decide +kernel
theorem d13_6 : decode jdk_43_method_2_code 6 = .ok (.aload_n 0, 1) := by decide +kernel
theorem d13_7 : decode jdk_43_method_2_code 7 = .ok (.iload_n 1, 1) := by decide +kernel
theorem d13_8 : decode jdk_43_method_2_code 8 = .ok (.baload, 1) := by decide +kernel
theorem d13_9 : decode jdk_43_method_2_code 9 = .ok (.sipush 255, 3) := by decide +kernel
theorem d13_12 : decode jdk_43_method_2_code 12 = .ok (.iand, 1) := by decide +kernel
theorem d13_13 : decode jdk_43_method_2_code 13 = .ok (.i2c, 1) := by decide +kernel
theorem d13_14 : decode jdk_43_method_2_code 14 = .ok (.ireturn, 1) := by decide +kernel
theorem rj_slc_pn : plainFor (⟨"java/lang/StringLatin1", "charAt", "([BI)C"⟩ : MethodName) = true := plainFor_of_name (show plainName "java/lang/StringLatin1" = true by first | (simp [plainName, overriddenIn]; done) | decide +kernel)
theorem rj_slc_ef (mI : MethodId) (d : Addr) (i : Int32) : entryFrame mI #[(.ref d), (.int i)] 2 = mkF mI 0 #[.val (.ref d), .val (.int i)] [] := by first | (simp [entryFrame, mkF, argsToLocals, Value.category]; done) | rfl
set_option maxRecDepth 65536 in
set_option maxHeartbeats 40000000 in
theorem rj_slc (l : Launch) (Z : State) (a0 : Array Value) (hw : ∀ d ∈ tables_1, d.before a0 Z = true) (ws : List Jvm.Cond) (h0 : Heap) (n0 : Nat) (O : Old Z n0 h0) (cs : Int32) (Scs : Sta Z Z.heap "java/lang/String" "COMPACT_STRINGS" "Z" (.int cs)) (hcs : ¬ cs = 0) (fo : Value) (hfo : fo.isRef = true) (Sfo : Sta Z Z.heap "jdk/internal/util/Preconditions" "SIOOBE_FORMATTER" "Ljava/util/function/BiFunction;" fo) (d : Addr) (i : Int32) (k : ClassId) (z : Int32) (vs : List Value) (w : Int32) (V : Arv Z h0 d k .byte z vs (.int 0)) (h_i0 : ¬ i < 0) (h_in : i < z) (h_w : vs.getD i.toNatClampNeg (.int 0) = .int w) (h_m : w &&& 255 = w) :
    own_Met l Z (⟨"java/lang/StringLatin1", "charAt", "([BI)C"⟩ : MethodName) jdk_43_method_2_code 2 (some .char) ws ({ frames := 2, cells := 0, slots := 0, locals := 27 } : Room) #[(.ref d), (.int i)] h0 (own_QP h0 (some (.int w))) := by
  refine own_met rj_slc_pn ?_
  intro pP eE sS mI bB mT cC s₁ hx hby hml hown hnm hret hlk hZ X0 e0
  replace hown : sS.vm.findClass "java/lang/StringLatin1" = some mI.cls := hown
  refine own_cast (rj_slc_ef mI d i) ?_
  refine own_go (T' := s₁) (g' := (mkF mI 1 #[.val (.ref d), .val (.int i)] [(.int i)])) (fun t_ kt_ => XS.iloadN X0.here hx rfl (hb hby d13_0) rfl kt_) ?_
  refine own_go (T' := s₁) (g' := (mkF mI 2 #[.val (.ref d), .val (.int i)] [(.ref d), (.int i)])) (fun t_ kt_ => XS.aloadN X0.here hx rfl (hb hby d13_1) rfl rfl kt_) ?_
  obtain ⟨clf1, Arf1, qf1, Sf1, Ngf1, Hf1, Gf1⟩ := id V
  refine own_go (T' := s₁) (g' := (mkF mI 3 #[.val (.ref d), .val (.int i)] [(.int z), (.int i)])) (fun t_ kt_ => own_len X0 hx hZ e0 Arf1 (len_of Sf1 Ngf1) (g := (mkF mI 2 #[.val (.ref d), .val (.int i)] [(.ref d), (.int i)])) rfl rfl (hb hby d13_2) _ kt_) ?_
  refine own_callS own_closed X0 hx hZ (y := (⟨"java/lang/String", "checkIndex", "(II)V"⟩ : MethodName)) hown (hw _ (List.mem_of_getElem? (i := 65) rfl)) (hw _ (List.mem_of_getElem? (i := 66) rfl)) (by decide) (rj_ci l Z a0 hw [] h0 n0 O cs Scs hcs fo hfo Sfo i z h_i0 h_in) (hw _ (List.mem_of_getElem? (i := 67) rfl)) (hw _ (List.mem_of_getElem? (i := 21) rfl)) e0 (pc := 3) (Ls := #[.val (.ref d), .val (.int i)]) (argsL := [(.int i), (.int z)]) (rest := []) (by rw [hml]; rfl) (lenOf pd_2 rfl) (W := 0) (Nat.le_of_eq rfl) (by decide) (by decide) (by decide) (by decide) (hb hby d13_3) rfl rfl ?_
  intro Tf2 Lf2 vf2 Xf2 hQf2
  obtain ⟨rfl, rfl, ef2⟩ := hQf2
  show own_Ends pP eE bB sS _ _ Tf2 (mkF mI 6 #[.val (.ref d), .val (.int i)] [])
  refine own_go (T' := Tf2) (g' := (mkF mI 7 #[.val (.ref d), .val (.int i)] [(.ref d)])) (fun t_ kt_ => XS.aloadN Xf2.here hx rfl (hb hby d13_6) rfl rfl kt_) ?_
  refine own_go (T' := Tf2) (g' := (mkF mI 8 #[.val (.ref d), .val (.int i)] [(.int i), (.ref d)])) (fun t_ kt_ => XS.iloadN Xf2.here hx rfl (hb hby d13_7) rfl kt_) ?_
  obtain ⟨clf3, Arf3, qf3, Sf3, Ngf3, Hf3, Gf3⟩ := id V
  refine own_go (T' := Tf2) (g' := (mkF mI 9 #[.val (.ref d), .val (.int i)] [(.int w)])) (fun t_ kt_ => own_bald Xf2 hx hZ ef2 Arf3 (inb_of Sf3 ⟨h_i0, h_in⟩) (Has.at Hf3 (inb_of Sf3 ⟨h_i0, h_in⟩) h_w) (g := (mkF mI 8 #[.val (.ref d), .val (.int i)] [(.int i), (.ref d)])) rfl rfl (hb hby d13_8) _ kt_) ?_
  refine own_go (T' := Tf2) (g' := (mkF mI 12 #[.val (.ref d), .val (.int i)] [(.int (255 : Int32)), (.int w)])) (fun t_ kt_ => XS.sipush Xf2.here hx rfl (hb hby d13_9) kt_) ?_
  refine own_go (T' := Tf2) (g' := (mkF mI 13 #[.val (.ref d), .val (.int i)] [(.int (w &&& (255 : Int32)))])) (fun t_ kt_ => XS.iand Xf2.here hx rfl (hb hby d13_12) rfl kt_) ?_
  rw [h_m]
  refine own_go (T' := Tf2) (g' := (mkF mI 14 #[.val (.ref d), .val (.int i)] [(.int (w.toUInt32.toUInt16.toUInt32.toInt32))])) (fun t_ kt_ => XS.i2c Xf2.here hx rfl (hb hby d13_13) rfl kt_) ?_
  rw [own_char w h_m]
  refine own_retN Xf2 hx hlk (t := .char) hret (by simp) (hb hby d13_14) (own_char w h_m) (by decide) (by decide) ?_
  exact ⟨rfl, rfl, ef2⟩
theorem d11_0 : decode jdk_42_method_56_code 0 = .ok (.aload_n 0, 1) := by decide +kernel
theorem d11_1 : decode jdk_42_method_56_code 1 = .ok (.invokevirtual 492, 3) := by decide +kernel
theorem d11_4 : decode jdk_42_method_56_code 4 = .ok (.ifCond .eq 12, 3) := by decide +kernel
theorem d11_7 : decode jdk_42_method_56_code 7 = .ok (.aload_n 0, 1) := by decide +kernel
theorem d11_8 : decode jdk_42_method_56_code 8 = .ok (.getfield 9, 3) := by decide +kernel
theorem d11_11 : decode jdk_42_method_56_code 11 = .ok (.iload_n 1, 1) := by decide +kernel
theorem d11_12 : decode jdk_42_method_56_code 12 = .ok (.invokestatic 495, 3) := by decide +kernel
theorem d11_15 : decode jdk_42_method_56_code 15 = .ok (.ireturn, 1) := by decide +kernel
theorem rj_cha_pn : plainFor (⟨"java/lang/String", "charAt", "(I)C"⟩ : MethodName) = true := plainFor_of_name (show plainName "java/lang/String" = true by first | (simp [plainName, overriddenIn]; done) | decide +kernel)
theorem rj_cha_ef (mI : MethodId) (a : Addr) (i : Int32) : entryFrame mI #[(.ref a), (.int i)] 2 = mkF mI 0 #[.val (.ref a), .val (.int i)] [] := by first | (simp [entryFrame, mkF, argsToLocals, Value.category]; done) | rfl
set_option maxRecDepth 65536 in
set_option maxHeartbeats 40000000 in
theorem rj_cha (l : Launch) (Z : State) (a0 : Array Value) (hw : ∀ d ∈ tables_1, d.before a0 Z = true) (ws : List Jvm.Cond) (h0 : Heap) (n0 : Nat) (O : Old Z n0 h0) (cs : Int32) (Scs : Sta Z Z.heap "java/lang/String" "COMPACT_STRINGS" "Z" (.int cs)) (hcs : ¬ cs = 0) (fo : Value) (hfo : fo.isRef = true) (Sfo : Sta Z Z.heap "jdk/internal/util/Preconditions" "SIOOBE_FORMATTER" "Ljava/util/function/BiFunction;" fo) (a : Addr) (i : Int32) (d : Addr) (k : ClassId) (z : Int32) (vs : List Value) (Ea : Exa Z h0 a "java/lang/String") (Fc : Fld Z h0 a "java/lang/String" "coder" "B" (.int 0)) (Fv : Fld Z h0 a "java/lang/String" "value" "[B" (.ref d)) (w : Int32) (V : Arv Z h0 d k .byte z vs (.int 0)) (h_i0 : ¬ i < 0) (h_in : i < z) (h_w : vs.getD i.toNatClampNeg (.int 0) = .int w) (h_m : w &&& 255 = w) :
    own_Met l Z (⟨"java/lang/String", "charAt", "(I)C"⟩ : MethodName) jdk_42_method_56_code 2 (some .char) ws ({ frames := 3, cells := 0, slots := 0, locals := 40 } : Room) #[(.ref a), (.int i)] h0 (own_QP h0 (some (.int w))) := by
  refine own_met rj_cha_pn ?_
  intro pP eE sS mI bB mT cC s₁ hx hby hml hown hnm hret hlk hZ X0 e0
  replace hown : sS.vm.findClass "java/lang/String" = some mI.cls := hown
  refine own_cast (rj_cha_ef mI a i) ?_
  refine own_go (T' := s₁) (g' := (mkF mI 1 #[.val (.ref a), .val (.int i)] [(.ref a)])) (fun t_ kt_ => XS.aloadN X0.here hx rfl (hb hby d11_0) rfl rfl kt_) ?_
  refine own_callV own_closed X0 hx hZ (y := (⟨"java/lang/String", "isLatin1", "()Z"⟩ : MethodName)) (z := (⟨"java/lang/String", "isLatin1", "()Z"⟩ : MethodName)) hown (hw _ (List.mem_of_getElem? (i := 56) rfl)) (hw _ (List.mem_of_getElem? (i := 57) rfl)) (hw _ (List.mem_of_getElem? (i := 59) rfl)) (hw _ (List.mem_of_getElem? (i := 58) rfl)) (hw _ (List.mem_of_getElem? (i := 59) rfl)) rfl (by decide) (rj_lat l Z a0 hw [] h0 n0 O cs Scs hcs a Fc) (hw _ (List.mem_of_getElem? (i := 60) rfl)) (hw _ (List.mem_of_getElem? (i := 21) rfl)) e0 Ea (pc := 1) (Ls := #[.val (.ref a), .val (.int i)]) (argsL := []) (rest := []) (by rw [hml]; rfl) (lenOf pd_3 rfl) (W := 0) (Nat.le_of_eq rfl) (by decide) (by decide) (by decide) (by decide) (hb hby d11_1) rfl rfl ?_
  intro Tg1 Lg1 vg1 Xg1 hQg1
  obtain ⟨rfl, rfl, eg1⟩ := hQg1
  show own_Ends pP eE bB sS _ _ Tg1 (mkF mI 4 #[.val (.ref a), .val (.int i)] [(.int (1 : Int32))])
  refine own_go (T' := Tg1) (g' := (mkF mI 7 #[.val (.ref a), .val (.int i)] [])) (fun t_ kt_ => XS.ifNo Xg1.here hx rfl (hb hby d11_4) rfl ((if0 _ _).trans (feq (by decide : ¬ ((1 : Int32) = (0 : Int32)))).1) kt_) ?_
  refine own_go (T' := Tg1) (g' := (mkF mI 8 #[.val (.ref a), .val (.int i)] [(.ref a)])) (fun t_ kt_ => XS.aloadN Xg1.here hx rfl (hb hby d11_7) rfl rfl kt_) ?_
  obtain ⟨Tg2, Xg2, eg2, stg2⟩ := getF Xg1 hx hZ hown (host := "") (Or.inl (hw _ (List.mem_of_getElem? (i := 36) rfl))) Via.refl eg1 Fv (g := (mkF mI 8 #[.val (.ref a), .val (.int i)] [(.ref a)])) rfl rfl (hb hby d11_8)
  refine own_go (T' := Tg2) (g' := (mkF mI 11 #[.val (.ref a), .val (.int i)] [(.ref d)])) (fun t_ kt_ => stg2 _ kt_) ?_
  refine own_go (T' := Tg2) (g' := (mkF mI 12 #[.val (.ref a), .val (.int i)] [(.int i), (.ref d)])) (fun t_ kt_ => XS.iloadN Xg2.here hx rfl (hb hby d11_11) rfl kt_) ?_
  refine own_callS own_closed Xg2 hx hZ (y := (⟨"java/lang/StringLatin1", "charAt", "([BI)C"⟩ : MethodName)) hown (hw _ (List.mem_of_getElem? (i := 61) rfl)) (hw _ (List.mem_of_getElem? (i := 62) rfl)) (by decide) (rj_slc l Z a0 hw [] h0 n0 O cs Scs hcs fo hfo Sfo d i _ z _ w V h_i0 h_in h_w h_m) (hw _ (List.mem_of_getElem? (i := 64) rfl)) (hw _ (List.mem_of_getElem? (i := 63) rfl)) eg2 (pc := 12) (Ls := #[.val (.ref a), .val (.int i)]) (argsL := [(.ref d), (.int i)]) (rest := []) (by rw [hml]; rfl) (lenOf pd_4 rfl) (W := 0) (Nat.le_of_eq rfl) (by decide) (by decide) (by decide) (by decide) (hb hby d11_12) rfl rfl ?_
  intro Tg3 Lg3 vg3 Xg3 hQg3
  obtain ⟨rfl, rfl, eg3⟩ := hQg3
  show own_Ends pP eE bB sS _ _ Tg3 (mkF mI 15 #[.val (.ref a), .val (.int i)] [(.int w)])
  refine own_retN Xg3 hx hlk (t := .char) hret (by simp) (hb hby d11_15) (own_char w h_m) (by decide) (by decide) ?_
  exact ⟨rfl, rfl, eg3⟩
theorem d42_0 : decode jdk_29_method_65_code 0 = .ok (.iload_n 0, 1) := by decide +kernel
theorem d42_1 : decode jdk_29_method_65_code 1 = .ok (.iload_n 1, 1) := by decide +kernel
theorem d42_2 : decode jdk_29_method_65_code 2 = .ok (.if_icmp .lt 7, 3) := by decide +kernel
theorem d42_5 : decode jdk_29_method_65_code 5 = .ok (.iload_n 0, 1) := by decide +kernel
theorem d42_6 : decode jdk_29_method_65_code 6 = .ok (.goto 4, 3) := by decide +kernel
theorem d42_9 : decode jdk_29_method_65_code 9 = .ok (.iload_n 1, 1) := by decide +kernel
theorem d42_10 : decode jdk_29_method_65_code 10 = .ok (.ireturn, 1) := by decide +kernel
theorem rj_max_pn : plainFor (⟨"java/lang/Math", "max", "(II)I"⟩ : MethodName) = true := Jvm.Free.JP.mathPlain rfl (by decide +kernel)
theorem rj_max_ef (mI : MethodId) (x : Int32) (y : Int32) : entryFrame mI #[(.int x), (.int y)] 2 = mkF mI 0 #[.val (.int x), .val (.int y)] [] := by first | (simp [entryFrame, mkF, argsToLocals, Value.category]; done) | rfl
set_option maxRecDepth 65536 in
set_option maxHeartbeats 40000000 in
theorem rj_max (l : Launch) (Z : State) (a0 : Array Value) (hw : ∀ d ∈ tables_1, d.before a0 Z = true) (ws : List Jvm.Cond) (h0 : Heap) (x y : Int32) :
    own_Met l Z (⟨"java/lang/Math", "max", "(II)I"⟩ : MethodName) jdk_29_method_65_code 2 (some .int) ws ({ frames := 0, cells := 0, slots := 0, locals := 0 } : Room) #[(.int x), (.int y)] h0 (own_QP h0 (some (.int (own_max x y)))) := by
  refine own_met rj_max_pn ?_
  intro pP eE sS mI bB mT cC s₁ hx hby hml hown hnm hret hlk hZ X0 e0
  replace hown : sS.vm.findClass "java/lang/Math" = some mI.cls := hown
  refine own_cast (rj_max_ef mI x y) ?_
  refine own_go (T' := s₁) (g' := (mkF mI 1 #[.val (.int x), .val (.int y)] [(.int x)])) (fun t_ kt_ => XS.iloadN X0.here hx rfl (hb hby d42_0) rfl kt_) ?_
  refine own_go (T' := s₁) (g' := (mkF mI 2 #[.val (.int x), .val (.int y)] [(.int y), (.int x)])) (fun t_ kt_ => XS.iloadN X0.here hx rfl (hb hby d42_1) rfl kt_) ?_
  by_cases hc2_m1 : x < y
  · skip
    refine own_go (T' := s₁) (g' := (mkF mI 9 #[.val (.int x), .val (.int y)] [])) (fun t_ kt_ => XS.icmpYes X0.here hx rfl (pc0 := 2) (pc' := 9) rfl (hb hby d42_2) rfl (tlt hc2_m1).1 (by decide) (by decide) kt_) ?_
    refine own_go (T' := s₁) (g' := (mkF mI 10 #[.val (.int x), .val (.int y)] [(.int y)])) (fun t_ kt_ => XS.iloadN X0.here hx rfl (hb hby d42_9) rfl kt_) ?_
    refine own_retI X0 hx hlk hret (hb hby d42_10) (by decide) (by decide) ?_
    exact ⟨by simp [own_max, hc2_m1], rfl, e0⟩
  · skip
    refine own_go (T' := s₁) (g' := (mkF mI 5 #[.val (.int x), .val (.int y)] [])) (fun t_ kt_ => XS.icmpNo X0.here hx rfl (hb hby d42_2) rfl (flt hc2_m1).1 kt_) ?_
    refine own_go (T' := s₁) (g' := (mkF mI 6 #[.val (.int x), .val (.int y)] [(.int x)])) (fun t_ kt_ => XS.iloadN X0.here hx rfl (hb hby d42_5) rfl kt_) ?_
    refine own_go (T' := s₁) (g' := (mkF mI 10 #[.val (.int x), .val (.int y)] [(.int x)])) (fun t_ kt_ => XS.goto X0.here hx rfl (pc0 := 6) (pc' := 10) rfl (hb hby d42_6) (by decide) (by decide) kt_) ?_
    refine own_retI X0 hx hlk hret (hb hby d42_10) (by decide) (by decide) ?_
    exact ⟨by simp [own_max, hc2_m1], rfl, e0⟩
theorem d39_0 : decode jdk_29_method_69_code 0 = .ok (.iload_n 0, 1) := by decide +kernel
theorem d39_1 : decode jdk_29_method_69_code 1 = .ok (.iload_n 1, 1) := by decide +kernel
theorem d39_2 : decode jdk_29_method_69_code 2 = .ok (.if_icmp .gt 7, 3) := by decide +kernel
theorem d39_5 : decode jdk_29_method_69_code 5 = .ok (.iload_n 0, 1) := by decide +kernel
theorem d39_6 : decode jdk_29_method_69_code 6 = .ok (.goto 4, 3) := by decide +kernel
theorem d39_9 : decode jdk_29_method_69_code 9 = .ok (.iload_n 1, 1) := by decide +kernel
theorem d39_10 : decode jdk_29_method_69_code 10 = .ok (.ireturn, 1) := by decide +kernel
theorem rj_min_pn : plainFor (⟨"java/lang/Math", "min", "(II)I"⟩ : MethodName) = true := Jvm.Free.JP.mathPlain rfl (by decide +kernel)
theorem rj_min_ef (mI : MethodId) (x : Int32) (y : Int32) : entryFrame mI #[(.int x), (.int y)] 2 = mkF mI 0 #[.val (.int x), .val (.int y)] [] := by first | (simp [entryFrame, mkF, argsToLocals, Value.category]; done) | rfl
set_option maxRecDepth 65536 in
set_option maxHeartbeats 40000000 in
theorem rj_min (l : Launch) (Z : State) (a0 : Array Value) (hw : ∀ d ∈ tables_1, d.before a0 Z = true) (ws : List Jvm.Cond) (h0 : Heap) (x y : Int32) :
    own_Met l Z (⟨"java/lang/Math", "min", "(II)I"⟩ : MethodName) jdk_29_method_69_code 2 (some .int) ws ({ frames := 0, cells := 0, slots := 0, locals := 0 } : Room) #[(.int x), (.int y)] h0 (own_QP h0 (some (.int (own_min x y)))) := by
  refine own_met rj_min_pn ?_
  intro pP eE sS mI bB mT cC s₁ hx hby hml hown hnm hret hlk hZ X0 e0
  replace hown : sS.vm.findClass "java/lang/Math" = some mI.cls := hown
  refine own_cast (rj_min_ef mI x y) ?_
  refine own_go (T' := s₁) (g' := (mkF mI 1 #[.val (.int x), .val (.int y)] [(.int x)])) (fun t_ kt_ => XS.iloadN X0.here hx rfl (hb hby d39_0) rfl kt_) ?_
  refine own_go (T' := s₁) (g' := (mkF mI 2 #[.val (.int x), .val (.int y)] [(.int y), (.int x)])) (fun t_ kt_ => XS.iloadN X0.here hx rfl (hb hby d39_1) rfl kt_) ?_
  by_cases hc2_m1 : y < x
  · skip
    refine own_go (T' := s₁) (g' := (mkF mI 9 #[.val (.int x), .val (.int y)] [])) (fun t_ kt_ => XS.icmpYes X0.here hx rfl (pc0 := 2) (pc' := 9) rfl (hb hby d39_2) rfl (tlt hc2_m1).2.2.1 (by decide) (by decide) kt_) ?_
    refine own_go (T' := s₁) (g' := (mkF mI 10 #[.val (.int x), .val (.int y)] [(.int y)])) (fun t_ kt_ => XS.iloadN X0.here hx rfl (hb hby d39_9) rfl kt_) ?_
    refine own_retI X0 hx hlk hret (hb hby d39_10) (by decide) (by decide) ?_
    exact ⟨by simp [own_min, hc2_m1], rfl, e0⟩
  · skip
    refine own_go (T' := s₁) (g' := (mkF mI 5 #[.val (.int x), .val (.int y)] [])) (fun t_ kt_ => XS.icmpNo X0.here hx rfl (hb hby d39_2) rfl (flt hc2_m1).2.2.1 kt_) ?_
    refine own_go (T' := s₁) (g' := (mkF mI 6 #[.val (.int x), .val (.int y)] [(.int x)])) (fun t_ kt_ => XS.iloadN X0.here hx rfl (hb hby d39_5) rfl kt_) ?_
    refine own_go (T' := s₁) (g' := (mkF mI 10 #[.val (.int x), .val (.int y)] [(.int x)])) (fun t_ kt_ => XS.goto X0.here hx rfl (pc0 := 6) (pc' := 10) rfl (hb hby d39_6) (by decide) (by decide) kt_) ?_
    refine own_retI X0 hx hlk hret (hb hby d39_10) (by decide) (by decide) ?_
    exact ⟨by simp [own_min, hc2_m1], rfl, e0⟩
theorem d41_0 : decode jdk_48_method_27_code 0 = .ok (.iload_n 0, 1) := by decide +kernel
theorem d41_1 : decode jdk_48_method_27_code 1 = .ok (.iload_n 1, 1) := by decide +kernel
theorem d41_2 : decode jdk_48_method_27_code 2 = .ok (.iload_n 2, 1) := by decide +kernel
theorem d41_3 : decode jdk_48_method_27_code 3 = .ok (.invokestatic 194, 3) := by decide +kernel
theorem d41_6 : decode jdk_48_method_27_code 6 = .ok (.iadd, 1) := by decide +kernel
theorem d41_7 : decode jdk_48_method_27_code 7 = .ok (.istore_n 3, 1) := by decide +kernel
theorem d41_8 : decode jdk_48_method_27_code 8 = .ok (.iconst 0, 1) := by decide +kernel
theorem d41_9 : decode jdk_48_method_27_code 9 = .ok (.iload_n 3, 1) := by decide +kernel
theorem d41_10 : decode jdk_48_method_27_code 10 = .ok (.if_icmp .ge 11, 3) := by decide +kernel
theorem d41_13 : decode jdk_48_method_27_code 13 = .ok (.iload_n 3, 1) := by decide +kernel
theorem d41_14 : decode jdk_48_method_27_code 14 = .ok (.ldc 200, 2) := by decide +kernel
theorem d41_16 : decode jdk_48_method_27_code 16 = .ok (.if_icmp .gt 5, 3) := by decide +kernel
theorem d41_19 : decode jdk_48_method_27_code 19 = .ok (.iload_n 3, 1) := by decide +kernel
theorem d41_20 : decode jdk_48_method_27_code 20 = .ok (.ireturn, 1) := by decide +kernel
theorem rj_newlen_pn : plainFor (⟨"jdk/internal/util/ArraysSupport", "newLength", "(III)I"⟩ : MethodName) = true := plainFor_of_name (show plainName "jdk/internal/util/ArraysSupport" = true by first | (simp [plainName, overriddenIn]; done) | decide +kernel)
theorem rj_newlen_ef (mI : MethodId) (o : Int32) (a : Int32) (b : Int32) : entryFrame mI #[(.int o), (.int a), (.int b)] 4 = mkF mI 0 #[.val (.int o), .val (.int a), .val (.int b), .unset] [] := by first | (simp [entryFrame, mkF, argsToLocals, Value.category]; done) | rfl
set_option maxRecDepth 65536 in
set_option maxHeartbeats 40000000 in
theorem rj_newlen (l : Launch) (Z : State) (a0 : Array Value) (hw : ∀ d ∈ tables_1, d.before a0 Z = true) (ws : List Jvm.Cond) (h0 : Heap) (o a b : Int32) (h1 : (0 : Int32) < (o + (own_max a b))) (h2 : ¬ (2147483639 : Int32) < (o + (own_max a b))) :
    own_Met l Z (⟨"jdk/internal/util/ArraysSupport", "newLength", "(III)I"⟩ : MethodName) jdk_48_method_27_code 4 (some .int) ws ({ frames := 1, cells := 0, slots := 0, locals := 14 } : Room) #[(.int o), (.int a), (.int b)] h0 (own_QP h0 (some (.int (o + (own_max a b))))) := by
  refine own_met rj_newlen_pn ?_
  intro pP eE sS mI bB mT cC s₁ hx hby hml hown hnm hret hlk hZ X0 e0
  replace hown : sS.vm.findClass "jdk/internal/util/ArraysSupport" = some mI.cls := hown
  refine own_cast (rj_newlen_ef mI o a b) ?_
  refine own_go (T' := s₁) (g' := (mkF mI 1 #[.val (.int o), .val (.int a), .val (.int b), .unset] [(.int o)])) (fun t_ kt_ => XS.iloadN X0.here hx rfl (hb hby d41_0) rfl kt_) ?_
  refine own_go (T' := s₁) (g' := (mkF mI 2 #[.val (.int o), .val (.int a), .val (.int b), .unset] [(.int a), (.int o)])) (fun t_ kt_ => XS.iloadN X0.here hx rfl (hb hby d41_1) rfl kt_) ?_
  refine own_go (T' := s₁) (g' := (mkF mI 3 #[.val (.int o), .val (.int a), .val (.int b), .unset] [(.int b), (.int a), (.int o)])) (fun t_ kt_ => XS.iloadN X0.here hx rfl (hb hby d41_2) rfl kt_) ?_
  refine own_callS own_closed X0 hx hZ (y := (⟨"java/lang/Math", "max", "(II)I"⟩ : MethodName)) hown (hw _ (List.mem_of_getElem? (i := 218) rfl)) (hw _ (List.mem_of_getElem? (i := 219) rfl)) (by decide) (rj_max l Z a0 hw [] h0 a b) (hw _ (List.mem_of_getElem? (i := 220) rfl)) (hw _ (List.mem_of_getElem? (i := 205) rfl)) e0 (pc := 3) (Ls := #[.val (.int o), .val (.int a), .val (.int b), .unset]) (argsL := [(.int a), (.int b)]) (rest := [(.int o)]) (by rw [hml]; rfl) (lenOf pd_5 rfl) (W := 1) (Nat.le_of_eq rfl) (by decide) (by decide) (by decide) (by decide) (hb hby d41_3) rfl rfl ?_
  intro Tn1 Ln1 vn1 Xn1 hQn1
  obtain ⟨rfl, rfl, en1⟩ := hQn1
  show own_Ends pP eE bB sS _ _ Tn1 (mkF mI 6 #[.val (.int o), .val (.int a), .val (.int b), .unset] [(.int (own_max a b)), (.int o)])
  refine own_go (T' := Tn1) (g' := (mkF mI 7 #[.val (.int o), .val (.int a), .val (.int b), .unset] [(.int (o + (own_max a b)))])) (fun t_ kt_ => XS.iadd Xn1.here hx rfl (hb hby d41_6) rfl kt_) ?_
  refine own_go (T' := Tn1) (g' := (mkF mI 8 #[.val (.int o), .val (.int a), .val (.int b), .val (.int (o + (own_max a b)))] [])) (fun t_ kt_ => XS.istoreN Xn1.here hx rfl (hb hby d41_7) rfl (l' := #[.val (.int o), .val (.int a), .val (.int b), .val (.int (o + (own_max a b)))]) rfl kt_) ?_
  refine own_go (T' := Tn1) (g' := (mkF mI 9 #[.val (.int o), .val (.int a), .val (.int b), .val (.int (o + (own_max a b)))] [(.int (0 : Int32))])) (fun t_ kt_ => XS.iconst Xn1.here hx rfl (hb hby d41_8) kt_) ?_
  refine own_go (T' := Tn1) (g' := (mkF mI 10 #[.val (.int o), .val (.int a), .val (.int b), .val (.int (o + (own_max a b)))] [(.int (o + (own_max a b))), (.int (0 : Int32))])) (fun t_ kt_ => XS.iloadN Xn1.here hx rfl (hb hby d41_9) rfl kt_) ?_
  refine own_go (T' := Tn1) (g' := (mkF mI 13 #[.val (.int o), .val (.int a), .val (.int b), .val (.int (o + (own_max a b)))] [])) (fun t_ kt_ => XS.icmpNo Xn1.here hx rfl (hb hby d41_10) rfl (tlt (h1 : (0 : Int32) < (o + (own_max a b)))).2.1 kt_) ?_
  refine own_go (T' := Tn1) (g' := (mkF mI 14 #[.val (.int o), .val (.int a), .val (.int b), .val (.int (o + (own_max a b)))] [(.int (o + (own_max a b)))])) (fun t_ kt_ => XS.iloadN Xn1.here hx rfl (hb hby d41_13) rfl kt_) ?_
  refine own_go (T' := Tn1) (g' := (mkF mI 16 #[.val (.int o), .val (.int a), .val (.int b), .val (.int (o + (own_max a b)))] [(.int (2147483639 : Int32)), (.int (o + (own_max a b)))])) (fun t_ kt_ => ldcI Xn1 hx hown (mvT hZ (hw _ (List.mem_of_getElem? (i := 221) rfl))) rfl (hb hby d41_14) kt_) ?_
  refine own_go (T' := Tn1) (g' := (mkF mI 19 #[.val (.int o), .val (.int a), .val (.int b), .val (.int (o + (own_max a b)))] [])) (fun t_ kt_ => XS.icmpNo Xn1.here hx rfl (hb hby d41_16) rfl (flt (h2 : ¬ ((2147483639 : Int32) < (o + (own_max a b))))).2.2.1 kt_) ?_
  refine own_go (T' := Tn1) (g' := (mkF mI 20 #[.val (.int o), .val (.int a), .val (.int b), .val (.int (o + (own_max a b)))] [(.int (o + (own_max a b)))])) (fun t_ kt_ => XS.iloadN Xn1.here hx rfl (hb hby d41_19) rfl kt_) ?_
  refine own_retI Xn1 hx hlk hret (hb hby d41_20) (by decide) (by decide) ?_
  exact ⟨rfl, rfl, en1⟩
theorem d40_0 : decode jdk_68_method_10_code 0 = .ok (.aload_n 0, 1) := by decide +kernel
theorem d40_1 : decode jdk_68_method_10_code 1 = .ok (.getfield 15, 3) := by decide +kernel
theorem d40_4 : decode jdk_68_method_10_code 4 = .ok (.arraylength, 1) := by decide +kernel
theorem d40_5 : decode jdk_68_method_10_code 5 = .ok (.istore_n 2, 1) := by decide +kernel
theorem d40_6 : decode jdk_68_method_10_code 6 = .ok (.iload_n 1, 1) := by decide +kernel
theorem d40_7 : decode jdk_68_method_10_code 7 = .ok (.aload_n 0, 1) := by decide +kernel
theorem d40_8 : decode jdk_68_method_10_code 8 = .ok (.getfield 22, 3) := by decide +kernel
theorem d40_11 : decode jdk_68_method_10_code 11 = .ok (.ishl, 1) := by decide +kernel
theorem d40_12 : decode jdk_68_method_10_code 12 = .ok (.istore_n 3, 1) := by decide +kernel
theorem d40_13 : decode jdk_68_method_10_code 13 = .ok (.iload_n 3, 1) := by decide +kernel
theorem d40_14 : decode jdk_68_method_10_code 14 = .ok (.iload_n 2, 1) := by decide +kernel
theorem d40_15 : decode jdk_68_method_10_code 15 = .ok (.isub, 1) := by decide +kernel
theorem d40_16 : decode jdk_68_method_10_code 16 = .ok (.istore 4, 2) := by decide +kernel
theorem d40_18 : decode jdk_68_method_10_code 18 = .ok (.iload_n 2, 1) := by decide +kernel
theorem d40_19 : decode jdk_68_method_10_code 19 = .ok (.iload 4, 2) := by decide +kernel
theorem d40_21 : decode jdk_68_method_10_code 21 = .ok (.iload_n 2, 1) := by decide +kernel
theorem d40_22 : decode jdk_68_method_10_code 22 = .ok (.iconst 2, 1) := by decide +kernel
theorem d40_23 : decode jdk_68_method_10_code 23 = .ok (.aload_n 0, 1) := by decide +kernel
theorem d40_24 : decode jdk_68_method_10_code 24 = .ok (.getfield 22, 3) := by decide +kernel
theorem d40_27 : decode jdk_68_method_10_code 27 = .ok (.ishl, 1) := by decide +kernel
theorem d40_28 : decode jdk_68_method_10_code 28 = .ok (.iadd, 1) := by decide +kernel
theorem d40_29 : decode jdk_68_method_10_code 29 = .ok (.invokestatic 114, 3) := by decide +kernel
theorem d40_32 : decode jdk_68_method_10_code 32 = .ok (.istore 5, 2) := by decide +kernel
theorem d40_34 : decode jdk_68_method_10_code 34 = .ok (.iload 5, 2) := by decide +kernel
theorem d40_36 : decode jdk_68_method_10_code 36 = .ok (.ldc 39, 2) := by decide +kernel
theorem d40_38 : decode jdk_68_method_10_code 38 = .ok (.if_icmp .ne 13, 3) := by decide +kernel
theorem d40_51 : decode jdk_68_method_10_code 51 = .ok (.iload 5, 2) := by decide +kernel
theorem d40_53 : decode jdk_68_method_10_code 53 = .ok (.aload_n 0, 1) := by decide +kernel
theorem d40_54 : decode jdk_68_method_10_code 54 = .ok (.getfield 22, 3) := by decide +kernel
theorem d40_57 : decode jdk_68_method_10_code 57 = .ok (.ishr, 1) := by decide +kernel
theorem d40_58 : decode jdk_68_method_10_code 58 = .ok (.ireturn, 1) := by decide +kernel
theorem rj_newcap_pn : plainFor (⟨"java/lang/AbstractStringBuilder", "newCapacity", "(I)I"⟩ : MethodName) = true := plainFor_of_name (show plainName "java/lang/AbstractStringBuilder" = true by first | (simp [plainName, overriddenIn]; done) | decide +kernel)
theorem rj_newcap_ef (mI : MethodId) (b : Addr) (mc : Int32) : entryFrame mI #[(.ref b), (.int mc)] 6 = mkF mI 0 #[.val (.ref b), .val (.int mc), .unset, .unset, .unset, .unset] [] := by first | (simp [entryFrame, mkF, argsToLocals, Value.category]; done) | rfl
set_option maxRecDepth 65536 in
set_option maxHeartbeats 40000000 in
theorem rj_newcap (l : Launch) (Z : State) (a0 : Array Value) (hw : ∀ d ∈ tables_1, d.before a0 Z = true) (ws : List Jvm.Cond) (h0 : Heap) (b : Addr) (mc : Int32) (da : Addr) (k : ClassId) (z r : Int32) (vs : List Value) (Eb : Exa Z h0 b "java/lang/StringBuilder") (Fv : Fld Z h0 b "java/lang/AbstractStringBuilder" "value" "[B" (.ref da)) (Fc : Fld Z h0 b "java/lang/AbstractStringBuilder" "coder" "B" (.int 0)) (V : Arv Z h0 da k .byte z vs (.int 0)) (hr : (z + (own_max (mc - z) (z + (2 : Int32)))) = r) (h1 : (0 : Int32) < r) (h2 : ¬ (2147483639 : Int32) < r) (h3 : ¬ r = 2147483647) :
    own_Met l Z (⟨"java/lang/AbstractStringBuilder", "newCapacity", "(I)I"⟩ : MethodName) jdk_68_method_10_code 6 (some .int) ws ({ frames := 2, cells := 0, slots := 0, locals := 29 } : Room) #[(.ref b), (.int mc)] h0 (own_QP h0 (some (.int r))) := by
  refine own_met rj_newcap_pn ?_
  intro pP eE sS mI bB mT cC s₁ hx hby hml hown hnm hret hlk hZ X0 e0
  replace hown : sS.vm.findClass "java/lang/AbstractStringBuilder" = some mI.cls := hown
  refine own_cast (rj_newcap_ef mI b mc) ?_
  refine own_go (T' := s₁) (g' := (mkF mI 1 #[.val (.ref b), .val (.int mc), .unset, .unset, .unset, .unset] [(.ref b)])) (fun t_ kt_ => XS.aloadN X0.here hx rfl (hb hby d40_0) rfl rfl kt_) ?_
  obtain ⟨To1, Xo1, eo1, sto1⟩ := getF X0 hx hZ hown (host := "") (Or.inl (hw _ (List.mem_of_getElem? (i := 105) rfl))) Via.refl e0 Fv (g := (mkF mI 1 #[.val (.ref b), .val (.int mc), .unset, .unset, .unset, .unset] [(.ref b)])) rfl rfl (hb hby d40_1)
  refine own_go (T' := To1) (g' := (mkF mI 4 #[.val (.ref b), .val (.int mc), .unset, .unset, .unset, .unset] [(.ref da)])) (fun t_ kt_ => sto1 _ kt_) ?_
  obtain ⟨clo2, Aro2, qo2, So2, Ngo2, Ho2, Go2⟩ := id V
  refine own_go (T' := To1) (g' := (mkF mI 5 #[.val (.ref b), .val (.int mc), .unset, .unset, .unset, .unset] [(.int z)])) (fun t_ kt_ => own_len Xo1 hx hZ eo1 Aro2 (len_of So2 Ngo2) (g := (mkF mI 4 #[.val (.ref b), .val (.int mc), .unset, .unset, .unset, .unset] [(.ref da)])) rfl rfl (hb hby d40_4) _ kt_) ?_
  refine own_go (T' := To1) (g' := (mkF mI 6 #[.val (.ref b), .val (.int mc), .val (.int z), .unset, .unset, .unset] [])) (fun t_ kt_ => XS.istoreN Xo1.here hx rfl (hb hby d40_5) rfl (l' := #[.val (.ref b), .val (.int mc), .val (.int z), .unset, .unset, .unset]) rfl kt_) ?_
  refine own_go (T' := To1) (g' := (mkF mI 7 #[.val (.ref b), .val (.int mc), .val (.int z), .unset, .unset, .unset] [(.int mc)])) (fun t_ kt_ => XS.iloadN Xo1.here hx rfl (hb hby d40_6) rfl kt_) ?_
  refine own_go (T' := To1) (g' := (mkF mI 8 #[.val (.ref b), .val (.int mc), .val (.int z), .unset, .unset, .unset] [(.ref b), (.int mc)])) (fun t_ kt_ => XS.aloadN Xo1.here hx rfl (hb hby d40_7) rfl rfl kt_) ?_
  obtain ⟨To3, Xo3, eo3, sto3⟩ := getF Xo1 hx hZ hown (host := "") (Or.inl (hw _ (List.mem_of_getElem? (i := 107) rfl))) Via.refl eo1 Fc (g := (mkF mI 8 #[.val (.ref b), .val (.int mc), .val (.int z), .unset, .unset, .unset] [(.ref b), (.int mc)])) rfl rfl (hb hby d40_8)
  refine own_go (T' := To3) (g' := (mkF mI 11 #[.val (.ref b), .val (.int mc), .val (.int z), .unset, .unset, .unset] [(.int (0 : Int32)), (.int mc)])) (fun t_ kt_ => sto3 _ kt_) ?_
  refine own_go (T' := To3) (g' := (mkF mI 12 #[.val (.ref b), .val (.int mc), .val (.int z), .unset, .unset, .unset] [(.int (mc <<< ((0 : Int32) &&& 31)))])) (fun t_ kt_ => XS.ishl Xo3.here hx rfl (hb hby d40_11) rfl kt_) ?_
  rw [own_shl0]
  refine own_go (T' := To3) (g' := (mkF mI 13 #[.val (.ref b), .val (.int mc), .val (.int z), .val (.int mc), .unset, .unset] [])) (fun t_ kt_ => XS.istoreN Xo3.here hx rfl (hb hby d40_12) rfl (l' := #[.val (.ref b), .val (.int mc), .val (.int z), .val (.int mc), .unset, .unset]) rfl kt_) ?_
  refine own_go (T' := To3) (g' := (mkF mI 14 #[.val (.ref b), .val (.int mc), .val (.int z), .val (.int mc), .unset, .unset] [(.int mc)])) (fun t_ kt_ => XS.iloadN Xo3.here hx rfl (hb hby d40_13) rfl kt_) ?_
  refine own_go (T' := To3) (g' := (mkF mI 15 #[.val (.ref b), .val (.int mc), .val (.int z), .val (.int mc), .unset, .unset] [(.int z), (.int mc)])) (fun t_ kt_ => XS.iloadN Xo3.here hx rfl (hb hby d40_14) rfl kt_) ?_
  refine own_go (T' := To3) (g' := (mkF mI 16 #[.val (.ref b), .val (.int mc), .val (.int z), .val (.int mc), .unset, .unset] [(.int (mc - z))])) (fun t_ kt_ => XS.isub Xo3.here hx rfl (hb hby d40_15) rfl kt_) ?_
  refine own_go (T' := To3) (g' := (mkF mI 18 #[.val (.ref b), .val (.int mc), .val (.int z), .val (.int mc), .val (.int (mc - z)), .unset] [])) (fun t_ kt_ => XS.istore Xo3.here hx rfl (hb hby d40_16) rfl (l' := #[.val (.ref b), .val (.int mc), .val (.int z), .val (.int mc), .val (.int (mc - z)), .unset]) rfl kt_) ?_
  refine own_go (T' := To3) (g' := (mkF mI 19 #[.val (.ref b), .val (.int mc), .val (.int z), .val (.int mc), .val (.int (mc - z)), .unset] [(.int z)])) (fun t_ kt_ => XS.iloadN Xo3.here hx rfl (hb hby d40_18) rfl kt_) ?_
  refine own_go (T' := To3) (g' := (mkF mI 21 #[.val (.ref b), .val (.int mc), .val (.int z), .val (.int mc), .val (.int (mc - z)), .unset] [(.int (mc - z)), (.int z)])) (fun t_ kt_ => XS.iload Xo3.here hx rfl (hb hby d40_19) rfl kt_) ?_
  refine own_go (T' := To3) (g' := (mkF mI 22 #[.val (.ref b), .val (.int mc), .val (.int z), .val (.int mc), .val (.int (mc - z)), .unset] [(.int z), (.int (mc - z)), (.int z)])) (fun t_ kt_ => XS.iloadN Xo3.here hx rfl (hb hby d40_21) rfl kt_) ?_
  refine own_go (T' := To3) (g' := (mkF mI 23 #[.val (.ref b), .val (.int mc), .val (.int z), .val (.int mc), .val (.int (mc - z)), .unset] [(.int (2 : Int32)), (.int z), (.int (mc - z)), (.int z)])) (fun t_ kt_ => XS.iconst Xo3.here hx rfl (hb hby d40_22) kt_) ?_
  refine own_go (T' := To3) (g' := (mkF mI 24 #[.val (.ref b), .val (.int mc), .val (.int z), .val (.int mc), .val (.int (mc - z)), .unset] [(.ref b), (.int (2 : Int32)), (.int z), (.int (mc - z)), (.int z)])) (fun t_ kt_ => XS.aloadN Xo3.here hx rfl (hb hby d40_23) rfl rfl kt_) ?_
  obtain ⟨To4, Xo4, eo4, sto4⟩ := getF Xo3 hx hZ hown (host := "") (Or.inl (hw _ (List.mem_of_getElem? (i := 107) rfl))) Via.refl eo3 Fc (g := (mkF mI 24 #[.val (.ref b), .val (.int mc), .val (.int z), .val (.int mc), .val (.int (mc - z)), .unset] [(.ref b), (.int (2 : Int32)), (.int z), (.int (mc - z)), (.int z)])) rfl rfl (hb hby d40_24)
  refine own_go (T' := To4) (g' := (mkF mI 27 #[.val (.ref b), .val (.int mc), .val (.int z), .val (.int mc), .val (.int (mc - z)), .unset] [(.int (0 : Int32)), (.int (2 : Int32)), (.int z), (.int (mc - z)), (.int z)])) (fun t_ kt_ => sto4 _ kt_) ?_
  refine own_go (T' := To4) (g' := (mkF mI 28 #[.val (.ref b), .val (.int mc), .val (.int z), .val (.int mc), .val (.int (mc - z)), .unset] [(.int ((2 : Int32) <<< ((0 : Int32) &&& 31))), (.int z), (.int (mc - z)), (.int z)])) (fun t_ kt_ => XS.ishl Xo4.here hx rfl (hb hby d40_27) rfl kt_) ?_
  rw [own_shl0]
  refine own_go (T' := To4) (g' := (mkF mI 29 #[.val (.ref b), .val (.int mc), .val (.int z), .val (.int mc), .val (.int (mc - z)), .unset] [(.int (z + (2 : Int32))), (.int (mc - z)), (.int z)])) (fun t_ kt_ => XS.iadd Xo4.here hx rfl (hb hby d40_28) rfl kt_) ?_
  refine own_callS own_closed Xo4 hx hZ (y := (⟨"jdk/internal/util/ArraysSupport", "newLength", "(III)I"⟩ : MethodName)) hown (hw _ (List.mem_of_getElem? (i := 214) rfl)) (hw _ (List.mem_of_getElem? (i := 215) rfl)) (by decide) (rj_newlen l Z a0 hw [] h0 z (mc - z) (z + (2 : Int32)) (by rw [hr]; exact h1) (by rw [hr]; exact h2)) (hw _ (List.mem_of_getElem? (i := 217) rfl)) (hw _ (List.mem_of_getElem? (i := 216) rfl)) eo4 (pc := 29) (Ls := #[.val (.ref b), .val (.int mc), .val (.int z), .val (.int mc), .val (.int (mc - z)), .unset]) (argsL := [(.int z), (.int (mc - z)), (.int (z + (2 : Int32)))]) (rest := []) (by rw [hml]; rfl) (lenOf pd_6 rfl) (W := 0) (Nat.le_of_eq rfl) (by decide) (by decide) (by decide) (by decide) (hb hby d40_29) rfl rfl ?_
  intro To5 Lo5 vo5 Xo5 hQo5
  obtain ⟨rfl, rfl, eo5⟩ := hQo5
  show own_Ends pP eE bB sS _ _ To5 (mkF mI 32 #[.val (.ref b), .val (.int mc), .val (.int z), .val (.int mc), .val (.int (mc - z)), .unset] [(.int (z + (own_max (mc - z) (z + (2 : Int32)))))])
  rw [hr]
  refine own_go (T' := To5) (g' := (mkF mI 34 #[.val (.ref b), .val (.int mc), .val (.int z), .val (.int mc), .val (.int (mc - z)), .val (.int r)] [])) (fun t_ kt_ => XS.istore Xo5.here hx rfl (hb hby d40_32) rfl (l' := #[.val (.ref b), .val (.int mc), .val (.int z), .val (.int mc), .val (.int (mc - z)), .val (.int r)]) rfl kt_) ?_
  refine own_go (T' := To5) (g' := (mkF mI 36 #[.val (.ref b), .val (.int mc), .val (.int z), .val (.int mc), .val (.int (mc - z)), .val (.int r)] [(.int r)])) (fun t_ kt_ => XS.iload Xo5.here hx rfl (hb hby d40_34) rfl kt_) ?_
  refine own_go (T' := To5) (g' := (mkF mI 38 #[.val (.ref b), .val (.int mc), .val (.int z), .val (.int mc), .val (.int (mc - z)), .val (.int r)] [(.int (2147483647 : Int32)), (.int r)])) (fun t_ kt_ => ldcI Xo5 hx hown (mvT hZ (hw _ (List.mem_of_getElem? (i := 222) rfl))) rfl (hb hby d40_36) kt_) ?_
  refine own_go (T' := To5) (g' := (mkF mI 51 #[.val (.ref b), .val (.int mc), .val (.int z), .val (.int mc), .val (.int (mc - z)), .val (.int r)] [])) (fun t_ kt_ => XS.icmpYes Xo5.here hx rfl (pc0 := 38) (pc' := 51) rfl (hb hby d40_38) rfl (feq (h3 : ¬ (r = (2147483647 : Int32)))).2 (by decide) (by decide) kt_) ?_
  refine own_go (T' := To5) (g' := (mkF mI 53 #[.val (.ref b), .val (.int mc), .val (.int z), .val (.int mc), .val (.int (mc - z)), .val (.int r)] [(.int r)])) (fun t_ kt_ => XS.iload Xo5.here hx rfl (hb hby d40_51) rfl kt_) ?_
  refine own_go (T' := To5) (g' := (mkF mI 54 #[.val (.ref b), .val (.int mc), .val (.int z), .val (.int mc), .val (.int (mc - z)), .val (.int r)] [(.ref b), (.int r)])) (fun t_ kt_ => XS.aloadN Xo5.here hx rfl (hb hby d40_53) rfl rfl kt_) ?_
  obtain ⟨To6, Xo6, eo6, sto6⟩ := getF Xo5 hx hZ hown (host := "") (Or.inl (hw _ (List.mem_of_getElem? (i := 107) rfl))) Via.refl eo5 Fc (g := (mkF mI 54 #[.val (.ref b), .val (.int mc), .val (.int z), .val (.int mc), .val (.int (mc - z)), .val (.int r)] [(.ref b), (.int r)])) rfl rfl (hb hby d40_54)
  refine own_go (T' := To6) (g' := (mkF mI 57 #[.val (.ref b), .val (.int mc), .val (.int z), .val (.int mc), .val (.int (mc - z)), .val (.int r)] [(.int (0 : Int32)), (.int r)])) (fun t_ kt_ => sto6 _ kt_) ?_
  refine own_go (T' := To6) (g' := (mkF mI 58 #[.val (.ref b), .val (.int mc), .val (.int z), .val (.int mc), .val (.int (mc - z)), .val (.int r)] [(.int (r >>> ((0 : Int32) &&& 31)))])) (fun t_ kt_ => XS.ishr Xo6.here hx rfl (hb hby d40_57) rfl kt_) ?_
  rw [own_shr0]
  refine own_retI Xo6 hx hlk hret (hb hby d40_58) (by decide) (by decide) ?_
  exact ⟨rfl, rfl, eo6⟩
def own_QF (Z : State) (h0 : Heap) (n0 : Nat) (r : Int32) (vs : List Value) (v : Option Value) (h : Heap) (L : List Loc) : Prop := ∃ (b : Addr) (k : ClassId), v = some (.ref b) ∧ Fr n0 L ∧ Keep h0 h [] ∧ h0.size ≤ b ∧ Arv Z h b k .byte r vs (.int 0) ∧ Exa Z h b "[B"
theorem d43_0 : decode jdk_65_method_121_code 0 = .ok (.iload_n 1, 1) := by decide +kernel
theorem d43_1 : decode jdk_65_method_121_code 1 = .ok (.aload_n 0, 1) := by decide +kernel
theorem d43_2 : decode jdk_65_method_121_code 2 = .ok (.arraylength, 1) := by decide +kernel
theorem d43_3 : decode jdk_65_method_121_code 3 = .ok (.if_icmp .ne 11, 3) := by decide +kernel
theorem d43_14 : decode jdk_65_method_121_code 14 = .ok (.iload_n 1, 1) := by decide +kernel
theorem d43_15 : decode jdk_65_method_121_code 15 = .ok (.newarray .byte, 2) := by decide +kernel
theorem d43_17 : decode jdk_65_method_121_code 17 = .ok (.astore_n 2, 1) := by decide +kernel
theorem d43_18 : decode jdk_65_method_121_code 18 = .ok (.aload_n 0, 1) := by decide +kernel
theorem d43_19 : decode jdk_65_method_121_code 19 = .ok (.iconst 0, 1) := by decide +kernel
theorem d43_20 : decode jdk_65_method_121_code 20 = .ok (.aload_n 2, 1) := by decide +kernel
theorem d43_21 : decode jdk_65_method_121_code 21 = .ok (.iconst 0, 1) := by decide +kernel
theorem d43_22 : decode jdk_65_method_121_code 22 = .ok (.aload_n 0, 1) := by decide +kernel
theorem d43_23 : decode jdk_65_method_121_code 23 = .ok (.arraylength, 1) := by decide +kernel
theorem d43_24 : decode jdk_65_method_121_code 24 = .ok (.iload_n 1, 1) := by decide +kernel
theorem d43_25 : decode jdk_65_method_121_code 25 = .ok (.invokestatic 304, 3) := by decide +kernel
theorem d43_28 : decode jdk_65_method_121_code 28 = .ok (.invokestatic 150, 3) := by decide +kernel
theorem d43_31 : decode jdk_65_method_121_code 31 = .ok (.aload_n 2, 1) := by decide +kernel
theorem d43_32 : decode jdk_65_method_121_code 32 = .ok (.areturn, 1) := by decide +kernel
theorem rj_copyOf_pn : plainFor (⟨"java/util/Arrays", "copyOf", "([BI)[B"⟩ : MethodName) = true := plainFor_of_name (show plainName "java/util/Arrays" = true by first | (simp [plainName, overriddenIn]; done) | decide +kernel)
theorem rj_copyOf_ef (mI : MethodId) (d : Addr) (r : Int32) : entryFrame mI #[(.ref d), (.int r)] 3 = mkF mI 0 #[.val (.ref d), .val (.int r), .unset] [] := by first | (simp [entryFrame, mkF, argsToLocals, Value.category]; done) | rfl
set_option maxRecDepth 65536 in
set_option maxHeartbeats 40000000 in
theorem rj_copyOf (l : Launch) (Z : State) (a0 : Array Value) (hw : ∀ d ∈ tables_1, d.before a0 Z = true) (ws : List Jvm.Cond) (h0 : Heap) (n0 : Nat) (Z0 : n0 ≤ h0.size) (d : Addr) (r : Int32) (k : ClassId) (z : Int32) (vs : List Value) (V : Arv Z h0 d k .byte z vs (.int 0)) (hvz : vs.length ≤ z.toNatClampNeg) (hz0 : ¬ z < 0) (hzr : z < r) (hr0 : ¬ r < 0) (hr1 : r.toNatClampNeg ≤ 300) (hne : ¬ r = z) :
    own_Met l Z (⟨"java/util/Arrays", "copyOf", "([BI)[B"⟩ : MethodName) jdk_65_method_121_code 3 (some (.array .byte)) ws ({ frames := 1, cells := 1, slots := 300, locals := 18 } : Room) #[(.ref d), (.int r)] h0 (own_QF Z h0 n0 r vs) := by
  refine own_met rj_copyOf_pn ?_
  intro pP eE sS mI bB mT cC s₁ hx hby hml hown hnm hret hlk hZ X0 e0
  replace hown : sS.vm.findClass "java/util/Arrays" = some mI.cls := hown
  refine own_cast (rj_copyOf_ef mI d r) ?_
  have hzr' : z.toNatClampNeg < r.toNatClampNeg := own_ltN (Int32.lt_iff_toInt_lt.mp hzr) hz0
  refine own_go (T' := s₁) (g' := (mkF mI 1 #[.val (.ref d), .val (.int r), .unset] [(.int r)])) (fun t_ kt_ => XS.iloadN X0.here hx rfl (hb hby d43_0) rfl kt_) ?_
  refine own_go (T' := s₁) (g' := (mkF mI 2 #[.val (.ref d), .val (.int r), .unset] [(.ref d), (.int r)])) (fun t_ kt_ => XS.aloadN X0.here hx rfl (hb hby d43_1) rfl rfl kt_) ?_
  obtain ⟨clp1, Arp1, qp1, Sp1, Ngp1, Hp1, Gp1⟩ := id V
  refine own_go (T' := s₁) (g' := (mkF mI 3 #[.val (.ref d), .val (.int r), .unset] [(.int z), (.int r)])) (fun t_ kt_ => own_len X0 hx hZ e0 Arp1 (len_of Sp1 Ngp1) (g := (mkF mI 2 #[.val (.ref d), .val (.int r), .unset] [(.ref d), (.int r)])) rfl rfl (hb hby d43_2) _ kt_) ?_
  refine own_go (T' := s₁) (g' := (mkF mI 14 #[.val (.ref d), .val (.int r), .unset] [])) (fun t_ kt_ => XS.icmpYes X0.here hx rfl (pc0 := 3) (pc' := 14) rfl (hb hby d43_3) rfl (feq (hne : ¬ (r = z))).2 (by decide) (by decide) kt_) ?_
  refine own_go (T' := s₁) (g' := (mkF mI 15 #[.val (.ref d), .val (.int r), .unset] [(.int r)])) (fun t_ kt_ => XS.iloadN X0.here hx rfl (hb hby d43_14) rfl kt_) ?_
  obtain ⟨Tp2, hp2, kp2, Xp2, ep2, Exp2, Ap2, Ecp2, stp2⟩ := newPE X0 hx hZ (hw _ (List.mem_of_getElem? (i := 22) rfl)) e0 (g := (mkF mI 15 #[.val (.ref d), .val (.int r), .unset] [(.int r)])) rfl (hb hby d43_15) rfl hr0 (cap := 300) hr1 (by decide) (by decide) (by decide) (ad := "[B") (by decide)
  obtain ⟨bp2, gp2⟩ : ∃ z, z = h0.size := ⟨_, rfl⟩
  rw [← gp2] at Ap2 Ecp2 stp2
  have ne_d_bp2 : d ≠ bp2 := Nat.ne_of_lt (Nat.lt_of_lt_of_le (V.lt) (Nat.le_of_eq gp2.symm))
  have g_bp2 : n0 ≤ bp2 := Nat.le_trans Z0 (Nat.le_of_eq gp2.symm)
  have sz_bp2 : h0.size ≤ bp2 := Nat.le_trans (Keep.refl h0 []).1 (Nat.le_of_eq gp2.symm)
  have Vp3 := Arv.ext V Exp2
  have Zp4 : n0 ≤ hp2.size := Nat.le_trans Z0 Exp2.1
  have Kp5 : Keep h0 hp2 [] := (Keep.refl h0 []).ext Exp2
  have Vp2 : Arv Z hp2 bp2 kp2 .byte r [] (.int (0 : Int32)) := Arv.new Ap2 hr0
  refine own_go (T' := Tp2) (g' := (mkF mI 17 #[.val (.ref d), .val (.int r), .unset] [(.ref bp2)])) (fun t_ kt_ => stp2 _ kt_) ?_
  refine own_go (T' := Tp2) (g' := (mkF mI 18 #[.val (.ref d), .val (.int r), .val (.ref bp2)] [])) (fun t_ kt_ => XS.astoreN Xp2.here hx rfl (hb hby d43_17) rfl rfl (l' := #[.val (.ref d), .val (.int r), .val (.ref bp2)]) rfl kt_) ?_
  refine own_go (T' := Tp2) (g' := (mkF mI 19 #[.val (.ref d), .val (.int r), .val (.ref bp2)] [(.ref d)])) (fun t_ kt_ => XS.aloadN Xp2.here hx rfl (hb hby d43_18) rfl rfl kt_) ?_
  refine own_go (T' := Tp2) (g' := (mkF mI 20 #[.val (.ref d), .val (.int r), .val (.ref bp2)] [(.int (0 : Int32)), (.ref d)])) (fun t_ kt_ => XS.iconst Xp2.here hx rfl (hb hby d43_19) kt_) ?_
  refine own_go (T' := Tp2) (g' := (mkF mI 21 #[.val (.ref d), .val (.int r), .val (.ref bp2)] [(.ref bp2), (.int (0 : Int32)), (.ref d)])) (fun t_ kt_ => XS.aloadN Xp2.here hx rfl (hb hby d43_20) rfl rfl kt_) ?_
  refine own_go (T' := Tp2) (g' := (mkF mI 22 #[.val (.ref d), .val (.int r), .val (.ref bp2)] [(.int (0 : Int32)), (.ref bp2), (.int (0 : Int32)), (.ref d)])) (fun t_ kt_ => XS.iconst Xp2.here hx rfl (hb hby d43_21) kt_) ?_
  refine own_go (T' := Tp2) (g' := (mkF mI 23 #[.val (.ref d), .val (.int r), .val (.ref bp2)] [(.ref d), (.int (0 : Int32)), (.ref bp2), (.int (0 : Int32)), (.ref d)])) (fun t_ kt_ => XS.aloadN Xp2.here hx rfl (hb hby d43_22) rfl rfl kt_) ?_
  obtain ⟨clp6, Arp6, qp6, Sp6, Ngp6, Hp6, Gp6⟩ := id Vp3
  refine own_go (T' := Tp2) (g' := (mkF mI 24 #[.val (.ref d), .val (.int r), .val (.ref bp2)] [(.int z), (.int (0 : Int32)), (.ref bp2), (.int (0 : Int32)), (.ref d)])) (fun t_ kt_ => own_len Xp2 hx hZ ep2 Arp6 (len_of Sp6 Ngp6) (g := (mkF mI 23 #[.val (.ref d), .val (.int r), .val (.ref bp2)] [(.ref d), (.int (0 : Int32)), (.ref bp2), (.int (0 : Int32)), (.ref d)])) rfl rfl (hb hby d43_23) _ kt_) ?_
  refine own_go (T' := Tp2) (g' := (mkF mI 25 #[.val (.ref d), .val (.int r), .val (.ref bp2)] [(.int r), (.int z), (.int (0 : Int32)), (.ref bp2), (.int (0 : Int32)), (.ref d)])) (fun t_ kt_ => XS.iloadN Xp2.here hx rfl (hb hby d43_24) rfl kt_) ?_
  refine own_callS own_closed Xp2 hx hZ (y := (⟨"java/lang/Math", "min", "(II)I"⟩ : MethodName)) hown (hw _ (List.mem_of_getElem? (i := 203) rfl)) (hw _ (List.mem_of_getElem? (i := 204) rfl)) (by decide) (rj_min l Z a0 hw [] hp2 z r) (hw _ (List.mem_of_getElem? (i := 206) rfl)) (hw _ (List.mem_of_getElem? (i := 205) rfl)) ep2 (pc := 25) (Ls := #[.val (.ref d), .val (.int r), .val (.ref bp2)]) (argsL := [(.int z), (.int r)]) (rest := [(.int (0 : Int32)), (.ref bp2), (.int (0 : Int32)), (.ref d)]) (by rw [hml]; rfl) (lenOf pd_5 rfl) (W := 4) (Nat.le_of_eq rfl) (by decide) (by decide) (by decide) (by decide) (hb hby d43_25) rfl rfl ?_
  intro Tp7 Lp7 vp7 Xp7 hQp7
  obtain ⟨qp7, rfl, ep7⟩ := hQp7
  rw [own_minL hzr] at qp7; subst qp7
  show own_Ends pP eE bB sS _ _ Tp7 (mkF mI 28 #[.val (.ref d), .val (.int r), .val (.ref bp2)] [(.int z), (.int (0 : Int32)), (.ref bp2), (.int (0 : Int32)), (.ref d)])
  have Vpp8 : Arv Z hp2 bp2 kp2 .byte r (List.replicate z.toNatClampNeg (.int 0)) (.int 0) := Arv.pad Vp2 (pad_rep [] _ _)
  obtain ⟨Tp10, hp10, Lp10, Xp10, ep10, Np10, Kcp10, Vcp10, stp10⟩ := cpA Xp7 hx hZ hown (hw _ (List.mem_of_getElem? (i := 207) rfl)) (hw _ (List.mem_of_getElem? (i := 166) rfl)) (hw _ (List.mem_of_getElem? (i := 164) rfl)) (hw _ (List.mem_of_getElem? (i := 165) rfl)) ep7 Vp3 Vpp8 (Or.inl ⟨rfl, rfl⟩) (by decide) (by decide) hz0 (by show 0 + _ ≤ _; omega) (by show 0 + _ ≤ _; omega) rfl (by rw [List.length_replicate]; show 0 + _ ≤ _; omega) (Fr.nil n0) g_bp2 (g := (mkF mI 28 #[.val (.ref d), .val (.int r), .val (.ref bp2)] [(.int z), (.int (0 : Int32)), (.ref bp2), (.int (0 : Int32)), (.ref d)])) rfl (by rw [hml]; rfl) rfl (hb hby d43_28) (by decide) (W := 0) (by show 2 * 0 + _ ≤ _; exact Nat.le_of_eq rfl) (by decide)
  have Vp10 : Arv Z hp10 bp2 kp2 .byte r vs (.int 0) := Arv.pad Vcp10 (own_copyList rfl rfl hvz)
  have Ep11 := Exa.keep Ecp2 Kcp10
  have Vp12 := Arv.keep Vp3 Kcp10 (ninS ne_d_bp2 nin0)
  have Zp13 : n0 ≤ hp10.size := Nat.le_trans Zp4 Kcp10.1
  have Kp14 : Keep h0 hp10 [] := Kp5.trans Kcp10 (allS (Or.inr sz_bp2) all0)
  refine own_go (T' := Tp10) (g' := (mkF mI 31 #[.val (.ref d), .val (.int r), .val (.ref bp2)] [])) (fun t_ kt_ => stp10 _ kt_) ?_
  refine own_go (T' := Tp10) (g' := (mkF mI 32 #[.val (.ref d), .val (.int r), .val (.ref bp2)] [(.ref bp2)])) (fun t_ kt_ => XS.aloadN Xp10.here hx rfl (hb hby d43_31) rfl rfl kt_) ?_
  refine own_retA Xp10 hx hlk hret rfl rfl (hb hby d43_32) (by decide) (by decide) ?_
  exact ⟨bp2, _, rfl, Np10, by rw [ep10]; exact Kp14, sz_bp2, by rw [ep10]; exact ⟨Vp10, Ep11⟩⟩
def own_QEC (Z : State) (h0 : Heap) (n0 : Nat) (b da : Addr) (z n mc : Int32) (vs : List Value) (v : Option Value) (h : Heap) (L : List Loc) : Prop := v = none ∧ Fr n0 L ∧ Keep h0 h [b] ∧ ∃ (da' : Addr) (k' : ClassId) (z' : Int32), own_SB Z h b da' k' z' n vs ∧ ((da' = da ∧ z' = z) ∨ h0.size ≤ da') ∧ z.toInt ≤ z'.toInt ∧ mc.toInt ≤ z'.toInt ∧ z'.toInt ≤ 300
theorem d23_0 : decode jdk_68_method_9_code 0 = .ok (.aload_n 0, 1) := by decide +kernel
theorem d23_1 : decode jdk_68_method_9_code 1 = .ok (.getfield 15, 3) := by decide +kernel
theorem d23_4 : decode jdk_68_method_9_code 4 = .ok (.arraylength, 1) := by decide +kernel
theorem d23_5 : decode jdk_68_method_9_code 5 = .ok (.aload_n 0, 1) := by decide +kernel
theorem d23_6 : decode jdk_68_method_9_code 6 = .ok (.getfield 22, 3) := by decide +kernel
theorem d23_9 : decode jdk_68_method_9_code 9 = .ok (.ishr, 1) := by decide +kernel
theorem d23_10 : decode jdk_68_method_9_code 10 = .ok (.istore_n 2, 1) := by decide +kernel
theorem d23_11 : decode jdk_68_method_9_code 11 = .ok (.iload_n 1, 1) := by decide +kernel
theorem d23_12 : decode jdk_68_method_9_code 12 = .ok (.iload_n 2, 1) := by decide +kernel
theorem d23_13 : decode jdk_68_method_9_code 13 = .ok (.isub, 1) := by decide +kernel
theorem d23_14 : decode jdk_68_method_9_code 14 = .ok (.ifCond .le 24, 3) := by decide +kernel
theorem d23_17 : decode jdk_68_method_9_code 17 = .ok (.aload_n 0, 1) := by decide +kernel
theorem d23_18 : decode jdk_68_method_9_code 18 = .ok (.aload_n 0, 1) := by decide +kernel
theorem d23_19 : decode jdk_68_method_9_code 19 = .ok (.getfield 15, 3) := by decide +kernel
theorem d23_22 : decode jdk_68_method_9_code 22 = .ok (.aload_n 0, 1) := by decide +kernel
theorem d23_23 : decode jdk_68_method_9_code 23 = .ok (.iload_n 1, 1) := by decide +kernel
theorem d23_24 : decode jdk_68_method_9_code 24 = .ok (.invokevirtual 104, 3) := by decide +kernel
theorem d23_27 : decode jdk_68_method_9_code 27 = .ok (.aload_n 0, 1) := by decide +kernel
theorem d23_28 : decode jdk_68_method_9_code 28 = .ok (.getfield 22, 3) := by decide +kernel
theorem d23_31 : decode jdk_68_method_9_code 31 = .ok (.ishl, 1) := by decide +kernel
theorem d23_32 : decode jdk_68_method_9_code 32 = .ok (.invokestatic 108, 3) := by decide +kernel
theorem d23_35 : decode jdk_68_method_9_code 35 = .ok (.putfield 15, 3) := by decide +kernel
theorem d23_38 : decode jdk_68_method_9_code 38 = .ok (.return_, 1) := by decide +kernel
theorem rj_ensure_pn : plainFor (⟨"java/lang/AbstractStringBuilder", "ensureCapacityInternal", "(I)V"⟩ : MethodName) = true := plainFor_of_name (show plainName "java/lang/AbstractStringBuilder" = true by first | (simp [plainName, overriddenIn]; done) | decide +kernel)
theorem rj_ensure_ef (mI : MethodId) (b : Addr) (mc : Int32) : entryFrame mI #[(.ref b), (.int mc)] 3 = mkF mI 0 #[.val (.ref b), .val (.int mc), .unset] [] := by first | (simp [entryFrame, mkF, argsToLocals, Value.category]; done) | rfl
set_option maxRecDepth 65536 in
set_option maxHeartbeats 40000000 in
theorem rj_ensure (l : Launch) (Z : State) (a0 : Array Value) (hw : ∀ d ∈ tables_1, d.before a0 Z = true) (ws : List Jvm.Cond) (h0 : Heap) (n0 : Nat) (Z0 : n0 ≤ h0.size) (b : Addr) (mc : Int32) (da : Addr) (k : ClassId) (z n : Int32) (vs : List Value) (Eb : Exa Z h0 b "java/lang/StringBuilder") (Fv : Fld Z h0 b "java/lang/AbstractStringBuilder" "value" "[B" (.ref da)) (Fc : Fld Z h0 b "java/lang/AbstractStringBuilder" "coder" "B" (.int 0)) (Fn : Fld Z h0 b "java/lang/AbstractStringBuilder" "count" "I" (.int n)) (V : Arv Z h0 da k .byte z vs (.int 0)) (Ed : Exa Z h0 da "[B") (g_b : n0 ≤ b) (hvz : vs.length ≤ z.toNatClampNeg) (hz0 : ¬ z < 0) (hzi : 0 ≤ z.toInt) (hz3 : z.toInt ≤ 300) (hmc : 0 ≤ mc.toInt) (hmc2 : mc.toInt ≤ 140) :
    own_Met l Z (⟨"java/lang/AbstractStringBuilder", "ensureCapacityInternal", "(I)V"⟩ : MethodName) jdk_68_method_9_code 3 none ws ({ frames := 3, cells := 1, slots := 300, locals := 48 } : Room) #[(.ref b), (.int mc)] h0 (own_QEC Z h0 n0 b da z n mc vs) := by
  refine own_met rj_ensure_pn ?_
  intro pP eE sS mI bB mT cC s₁ hx hby hml hown hnm hret hlk hZ X0 e0
  replace hown : sS.vm.findClass "java/lang/AbstractStringBuilder" = some mI.cls := hown
  refine own_cast (rj_ensure_ef mI b mc) ?_
  refine own_go (T' := s₁) (g' := (mkF mI 1 #[.val (.ref b), .val (.int mc), .unset] [(.ref b)])) (fun t_ kt_ => XS.aloadN X0.here hx rfl (hb hby d23_0) rfl rfl kt_) ?_
  obtain ⟨Tq1, Xq1, eq1, stq1⟩ := getF X0 hx hZ hown (host := "") (Or.inl (hw _ (List.mem_of_getElem? (i := 105) rfl))) Via.refl e0 Fv (g := (mkF mI 1 #[.val (.ref b), .val (.int mc), .unset] [(.ref b)])) rfl rfl (hb hby d23_1)
  refine own_go (T' := Tq1) (g' := (mkF mI 4 #[.val (.ref b), .val (.int mc), .unset] [(.ref da)])) (fun t_ kt_ => stq1 _ kt_) ?_
  obtain ⟨clq2, Arq2, qq2, Sq2, Ngq2, Hq2, Gq2⟩ := id V
  refine own_go (T' := Tq1) (g' := (mkF mI 5 #[.val (.ref b), .val (.int mc), .unset] [(.int z)])) (fun t_ kt_ => own_len Xq1 hx hZ eq1 Arq2 (len_of Sq2 Ngq2) (g := (mkF mI 4 #[.val (.ref b), .val (.int mc), .unset] [(.ref da)])) rfl rfl (hb hby d23_4) _ kt_) ?_
  refine own_go (T' := Tq1) (g' := (mkF mI 6 #[.val (.ref b), .val (.int mc), .unset] [(.ref b), (.int z)])) (fun t_ kt_ => XS.aloadN Xq1.here hx rfl (hb hby d23_5) rfl rfl kt_) ?_
  obtain ⟨Tq3, Xq3, eq3, stq3⟩ := getF Xq1 hx hZ hown (host := "") (Or.inl (hw _ (List.mem_of_getElem? (i := 107) rfl))) Via.refl eq1 Fc (g := (mkF mI 6 #[.val (.ref b), .val (.int mc), .unset] [(.ref b), (.int z)])) rfl rfl (hb hby d23_6)
  refine own_go (T' := Tq3) (g' := (mkF mI 9 #[.val (.ref b), .val (.int mc), .unset] [(.int (0 : Int32)), (.int z)])) (fun t_ kt_ => stq3 _ kt_) ?_
  refine own_go (T' := Tq3) (g' := (mkF mI 10 #[.val (.ref b), .val (.int mc), .unset] [(.int (z >>> ((0 : Int32) &&& 31)))])) (fun t_ kt_ => XS.ishr Xq3.here hx rfl (hb hby d23_9) rfl kt_) ?_
  rw [own_shr0]
  refine own_go (T' := Tq3) (g' := (mkF mI 11 #[.val (.ref b), .val (.int mc), .val (.int z)] [])) (fun t_ kt_ => XS.istoreN Xq3.here hx rfl (hb hby d23_10) rfl (l' := #[.val (.ref b), .val (.int mc), .val (.int z)]) rfl kt_) ?_
  refine own_go (T' := Tq3) (g' := (mkF mI 12 #[.val (.ref b), .val (.int mc), .val (.int z)] [(.int mc)])) (fun t_ kt_ => XS.iloadN Xq3.here hx rfl (hb hby d23_11) rfl kt_) ?_
  refine own_go (T' := Tq3) (g' := (mkF mI 13 #[.val (.ref b), .val (.int mc), .val (.int z)] [(.int z), (.int mc)])) (fun t_ kt_ => XS.iloadN Xq3.here hx rfl (hb hby d23_12) rfl kt_) ?_
  refine own_go (T' := Tq3) (g' := (mkF mI 14 #[.val (.ref b), .val (.int mc), .val (.int z)] [(.int (mc - z))])) (fun t_ kt_ => XS.isub Xq3.here hx rfl (hb hby d23_13) rfl kt_) ?_
  by_cases hc14_q4 : (0 : Int32) < (mc - z)
  · skip
    refine own_go (T' := Tq3) (g' := (mkF mI 17 #[.val (.ref b), .val (.int mc), .val (.int z)] [])) (fun t_ kt_ => XS.ifNo Xq3.here hx rfl (hb hby d23_14) rfl ((if0 _ _).trans (tlt hc14_q4).2.2.2) kt_) ?_
    have hlt : z.toInt < mc.toInt := by
      have c0 : (0 : Int32).toInt = 0 := by decide
      have e1 : (mc - z).toInt = mc.toInt - z.toInt := by rw [Int32.toInt_sub]; exact Int.bmod_eq_of_le (by omega) (by omega)
      have q := hc14_q4
      rw [Int32.lt_iff_toInt_lt, e1] at q
      omega
    obtain ⟨r, hr'⟩ : ∃ r, r = (z + (own_max (mc - z) (z + (2 : Int32)))) := ⟨_, rfl⟩
    have hr := hr'.symm
    have bR := own_capB z mc hzi hlt hmc2
    rw [← hr'] at bR
    have h1 : (0 : Int32) < r := own_lt (by rw [show (0 : Int32).toInt = 0 from by decide]; omega)
    have h2 : ¬ (2147483639 : Int32) < r := own_nlt (by rw [show (2147483639 : Int32).toInt = 2147483639 from by decide]; omega)
    have h3 : ¬ r = 2147483647 := own_neI (by rw [show (2147483647 : Int32).toInt = 2147483647 from by decide]; omega)
    have hzr : z < r := own_lt bR.1
    have hr0 : ¬ r < 0 := own_nn (by omega)
    have hr1 : r.toNatClampNeg ≤ 300 := own_clamp (by omega)
    have hne : ¬ r = z := fun q => by rw [q] at bR; omega
    refine own_go (T' := Tq3) (g' := (mkF mI 18 #[.val (.ref b), .val (.int mc), .val (.int z)] [(.ref b)])) (fun t_ kt_ => XS.aloadN Xq3.here hx rfl (hb hby d23_17) rfl rfl kt_) ?_
    refine own_go (T' := Tq3) (g' := (mkF mI 19 #[.val (.ref b), .val (.int mc), .val (.int z)] [(.ref b), (.ref b)])) (fun t_ kt_ => XS.aloadN Xq3.here hx rfl (hb hby d23_18) rfl rfl kt_) ?_
    obtain ⟨Tq5, Xq5, eq5, stq5⟩ := getF Xq3 hx hZ hown (host := "") (Or.inl (hw _ (List.mem_of_getElem? (i := 105) rfl))) Via.refl eq3 Fv (g := (mkF mI 19 #[.val (.ref b), .val (.int mc), .val (.int z)] [(.ref b), (.ref b)])) rfl rfl (hb hby d23_19)
    refine own_go (T' := Tq5) (g' := (mkF mI 22 #[.val (.ref b), .val (.int mc), .val (.int z)] [(.ref da), (.ref b)])) (fun t_ kt_ => stq5 _ kt_) ?_
    refine own_go (T' := Tq5) (g' := (mkF mI 23 #[.val (.ref b), .val (.int mc), .val (.int z)] [(.ref b), (.ref da), (.ref b)])) (fun t_ kt_ => XS.aloadN Xq5.here hx rfl (hb hby d23_22) rfl rfl kt_) ?_
    refine own_go (T' := Tq5) (g' := (mkF mI 24 #[.val (.ref b), .val (.int mc), .val (.int z)] [(.int mc), (.ref b), (.ref da), (.ref b)])) (fun t_ kt_ => XS.iloadN Xq5.here hx rfl (hb hby d23_23) rfl kt_) ?_
    refine own_callV own_closed Xq5 hx hZ (y := (⟨"java/lang/AbstractStringBuilder", "newCapacity", "(I)I"⟩ : MethodName)) (z := (⟨"java/lang/AbstractStringBuilder", "newCapacity", "(I)I"⟩ : MethodName)) hown (hw _ (List.mem_of_getElem? (i := 209) rfl)) (own_decl (hw _ (List.mem_of_getElem? (i := 210) rfl)) (hw _ (List.mem_of_getElem? (i := 213) rfl))) (hw _ (List.mem_of_getElem? (i := 212) rfl)) (hw _ (List.mem_of_getElem? (i := 210) rfl)) (hw _ (List.mem_of_getElem? (i := 212) rfl)) rfl (by decide) (rj_newcap l Z a0 hw [] h0 b mc da _ z r _ Eb Fv Fc V hr h1 h2 h3) (hw _ (List.mem_of_getElem? (i := 213) rfl)) (hw _ (List.mem_of_getElem? (i := 101) rfl)) eq5 Eb (pc := 24) (Ls := #[.val (.ref b), .val (.int mc), .val (.int z)]) (argsL := [(.int mc)]) (rest := [(.ref da), (.ref b)]) (by rw [hml]; rfl) (lenOf pd_7 rfl) (W := 2) (Nat.le_of_eq rfl) (by decide) (by decide) (by decide) (by decide) (hb hby d23_24) rfl rfl ?_
    intro Tq6 Lq6 vq6 Xq6 hQq6
    obtain ⟨rfl, rfl, eq6⟩ := hQq6
    show own_Ends pP eE bB sS _ _ Tq6 (mkF mI 27 #[.val (.ref b), .val (.int mc), .val (.int z)] [(.int r), (.ref da), (.ref b)])
    refine own_go (T' := Tq6) (g' := (mkF mI 28 #[.val (.ref b), .val (.int mc), .val (.int z)] [(.ref b), (.int r), (.ref da), (.ref b)])) (fun t_ kt_ => XS.aloadN Xq6.here hx rfl (hb hby d23_27) rfl rfl kt_) ?_
    obtain ⟨Tq7, Xq7, eq7, stq7⟩ := getF Xq6 hx hZ hown (host := "") (Or.inl (hw _ (List.mem_of_getElem? (i := 107) rfl))) Via.refl eq6 Fc (g := (mkF mI 28 #[.val (.ref b), .val (.int mc), .val (.int z)] [(.ref b), (.int r), (.ref da), (.ref b)])) rfl rfl (hb hby d23_28)
    refine own_go (T' := Tq7) (g' := (mkF mI 31 #[.val (.ref b), .val (.int mc), .val (.int z)] [(.int (0 : Int32)), (.int r), (.ref da), (.ref b)])) (fun t_ kt_ => stq7 _ kt_) ?_
    refine own_go (T' := Tq7) (g' := (mkF mI 32 #[.val (.ref b), .val (.int mc), .val (.int z)] [(.int (r <<< ((0 : Int32) &&& 31))), (.ref da), (.ref b)])) (fun t_ kt_ => XS.ishl Xq7.here hx rfl (hb hby d23_31) rfl kt_) ?_
    rw [own_shl0]
    refine own_callS own_closed Xq7 hx hZ (y := (⟨"java/util/Arrays", "copyOf", "([BI)[B"⟩ : MethodName)) hown (hw _ (List.mem_of_getElem? (i := 223) rfl)) (hw _ (List.mem_of_getElem? (i := 224) rfl)) (by decide) (rj_copyOf l Z a0 hw [] h0 n0 Z0 da r _ z _ V hvz hz0 hzr hr0 hr1 hne) (hw _ (List.mem_of_getElem? (i := 225) rfl)) (hw _ (List.mem_of_getElem? (i := 195) rfl)) eq7 (pc := 32) (Ls := #[.val (.ref b), .val (.int mc), .val (.int z)]) (argsL := [(.ref da), (.int r)]) (rest := [(.ref b)]) (by rw [hml]; rfl) (lenOf pd_8 rfl) (W := 1) (Nat.le_of_eq rfl) (by decide) (by decide) (by decide) (by decide) (hb hby d23_32) rfl rfl ?_
    intro Tq8 Lq8 vq8 Xq8 hQq8
    obtain ⟨bq8, kq8, rfl, Nq8, Kq8, hzq8, Vq8, Edq8⟩ := hQq8
    have ne_b_bq8 : b ≠ bq8 := Nat.ne_of_lt (Nat.lt_of_lt_of_le Eb.lt hzq8)
    have ne_da_bq8 : da ≠ bq8 := Nat.ne_of_lt (Nat.lt_of_lt_of_le V.lt hzq8)
    have Fq9 := Fld.keep Fv Kq8 nin0
    have Fq10 := Fld.keep Fc Kq8 nin0
    have Fq11 := Fld.keep Fn Kq8 nin0
    have Eq12 := Exa.keep Eb Kq8
    have Eq13 := Exa.keep Ed Kq8
    have Vq14 := Arv.keep V Kq8 nin0
    have Zq15 : n0 ≤ Tq8.heap.size := Nat.le_trans Z0 Kq8.1
    have Kq16 : Keep h0 Tq8.heap [b] := (Keep.refl h0 [b]).trans Kq8 all0
    have Nq8a := Fr.app (Fr.nil n0) Nq8
    show own_Ends pP eE bB sS _ _ Tq8 (mkF mI 35 #[.val (.ref b), .val (.int mc), .val (.int z)] [(.ref bq8), (.ref b)])
    obtain ⟨Tq17, hq17, Xq17, eq17, Wq17, stq17⟩ := putF Xq8 hx hZ hown (host := "") (Or.inl (hw _ (List.mem_of_getElem? (i := 105) rfl))) Via.refl rfl Fq9 Eq12 (Or.inl (hw _ (List.mem_of_getElem? (i := 106) rfl))) (hw _ (List.mem_of_getElem? (i := 92) rfl)) (ty := (.array .byte)) (by decide) rfl rfl (g := (mkF mI 35 #[.val (.ref b), .val (.int mc), .val (.int z)] [(.ref bq8), (.ref b)])) rfl rfl (hb hby d23_35)
    have Fwq17 : Fld Z hq17 b "java/lang/AbstractStringBuilder" "value" "[B" (.ref bq8) := Fld.same Wq17 Fq9
    have Fq18 := Fld.other Wq17 Fq10 (Or.inr (slot_ne (Or.inl (hw _ (List.mem_of_getElem? (i := 108) rfl))) (Or.inl (hw _ (List.mem_of_getElem? (i := 106) rfl))) (by decide) (t := .byte) (t' := (.array .byte)) (by decide) (by decide)))
    have Fq19 := Fld.other Wq17 Fq11 (Or.inr (slot_ne (Or.inl (hw _ (List.mem_of_getElem? (i := 120) rfl))) (Or.inl (hw _ (List.mem_of_getElem? (i := 106) rfl))) (by decide) (t := .int) (t' := (.array .byte)) (by decide) (by decide)))
    have Eq20 := Exa.wr Wq17 Eq12
    have Eq21 := Exa.wr Wq17 Eq13
    have Eq22 := Exa.wr Wq17 Edq8
    have Vq23 := Arv.other Vq14 Wq17 (Ne.symm (Exa.neArv Eb V (hw _ (List.mem_of_getElem? (i := 92) rfl))))
    have Vq24 := Arv.other Vq8 Wq17 (Ne.symm ne_b_bq8)
    have Zq25 : n0 ≤ hq17.size := Nat.le_trans Zq15 (Nat.le_of_eq (Wr.size Wq17).symm)
    have Kq26 : Keep h0 hq17 [b] := Kq16.wr Wq17 (Or.inl (List.mem_of_getElem? (i := 0) rfl))
    have Nq17 := Fr.snoc Xq17 Nq8a g_b
    refine own_go (T' := Tq17) (g' := (mkF mI 38 #[.val (.ref b), .val (.int mc), .val (.int z)] [])) (fun t_ kt_ => stq17 _ kt_) ?_
    refine own_retV Xq17 hx hlk hret (hb hby d23_38) (by decide) (by decide) ?_
    exact by rw [eq17]; exact ⟨rfl, Nq17, Kq26, bq8, _, r, ⟨Eq20, Fwq17, Fq18, Fq19, Vq24, Eq22⟩, Or.inr hzq8, by omega, bR.2.1, bR.2.2⟩
  · skip
    refine own_go (T' := Tq3) (g' := (mkF mI 38 #[.val (.ref b), .val (.int mc), .val (.int z)] [])) (fun t_ kt_ => XS.ifYes Xq3.here hx rfl (pc0 := 14) (pc' := 38) rfl (hb hby d23_14) rfl ((if0 _ _).trans (flt hc14_q4).2.2.2) (by decide) (by decide) kt_) ?_
    refine own_retV Xq3 hx hlk hret (hb hby d23_38) (by decide) (by decide) ?_
    exact by
      have c0 : (0 : Int32).toInt = 0 := by decide
      have e1 : (mc - z).toInt = mc.toInt - z.toInt := by rw [Int32.toInt_sub]; exact Int.bmod_eq_of_le (by omega) (by omega)
      have q := hc14_q4
      rw [Int32.lt_iff_toInt_lt, e1] at q
      rw [eq3]; exact ⟨rfl, (Fr.nil n0), (Keep.refl h0 [b]), da, _, z, ⟨Eb, Fv, Fc, Fn, V, Ed⟩, Or.inl ⟨rfl, rfl⟩, by omega, by omega, by omega⟩
def own_QGB (Z : State) (h0 : Heap) (n0 : Nat) (da : Addr) (k : ClassId) (z : Int32) (vs : List Value) (v : Option Value) (h : Heap) (L : List Loc) : Prop := v = none ∧ Fr n0 L ∧ Keep h0 h [da] ∧ Arv Z h da k .byte z vs (.int 0)
theorem d29_0 : decode jdk_42_method_147_code 0 = .ok (.aload_n 0, 1) := by decide +kernel
theorem d29_1 : decode jdk_42_method_147_code 1 = .ok (.invokevirtual 335, 3) := by decide +kernel
theorem d29_4 : decode jdk_42_method_147_code 4 = .ok (.iload_n 3, 1) := by decide +kernel
theorem d29_5 : decode jdk_42_method_147_code 5 = .ok (.if_icmp .ne 23, 3) := by decide +kernel
theorem d29_8 : decode jdk_42_method_147_code 8 = .ok (.aload_n 0, 1) := by decide +kernel
theorem d29_9 : decode jdk_42_method_147_code 9 = .ok (.getfield 9, 3) := by decide +kernel
theorem d29_12 : decode jdk_42_method_147_code 12 = .ok (.iconst 0, 1) := by decide +kernel
theorem d29_13 : decode jdk_42_method_147_code 13 = .ok (.aload_n 1, 1) := by decide +kernel
theorem d29_14 : decode jdk_42_method_147_code 14 = .ok (.iload_n 2, 1) := by decide +kernel
theorem d29_15 : decode jdk_42_method_147_code 15 = .ok (.iload_n 3, 1) := by decide +kernel
theorem d29_16 : decode jdk_42_method_147_code 16 = .ok (.ishl, 1) := by decide +kernel
theorem d29_17 : decode jdk_42_method_147_code 17 = .ok (.aload_n 0, 1) := by decide +kernel
theorem d29_18 : decode jdk_42_method_147_code 18 = .ok (.getfield 9, 3) := by decide +kernel
theorem d29_21 : decode jdk_42_method_147_code 21 = .ok (.arraylength, 1) := by decide +kernel
theorem d29_22 : decode jdk_42_method_147_code 22 = .ok (.invokestatic 212, 3) := by decide +kernel
theorem d29_25 : decode jdk_42_method_147_code 25 = .ok (.goto 18, 3) := by decide +kernel
theorem d29_43 : decode jdk_42_method_147_code 43 = .ok (.return_, 1) := by decide +kernel
theorem rj_getBytes_pn : plainFor (⟨"java/lang/String", "getBytes", "([BIB)V"⟩ : MethodName) = true := plainFor_of_name (show plainName "java/lang/String" = true by first | (simp [plainName, overriddenIn]; done) | decide +kernel)
theorem rj_getBytes_ef (mI : MethodId) (a : Addr) (da : Addr) (p : Int32) : entryFrame mI #[(.ref a), (.ref da), (.int p), (.int (0 : Int32))] 4 = mkF mI 0 #[.val (.ref a), .val (.ref da), .val (.int p), .val (.int (0 : Int32))] [] := by first | (simp [entryFrame, mkF, argsToLocals, Value.category]; done) | rfl
set_option maxRecDepth 65536 in
set_option maxHeartbeats 40000000 in
theorem rj_getBytes (l : Launch) (Z : State) (a0 : Array Value) (hw : ∀ d ∈ tables_1, d.before a0 Z = true) (ws : List Jvm.Cond) (h0 : Heap) (n0 : Nat) (O : Old Z n0 h0) (cs : Int32) (Scs : Sta Z Z.heap "java/lang/String" "COMPACT_STRINGS" "Z" (.int cs)) (hcs : ¬ cs = 0) (a da : Addr) (p : Int32) (d : Addr) (k ks : ClassId) (z zs : Int32) (vs us : List Value) (S : own_St Z h0 a d ks zs us) (V : Arv Z h0 da k .byte z vs (.int 0)) (g_da : n0 ≤ da) (ne_a_da : a ≠ da) (ne_d_da : d ≠ da) (h_dp : ¬ p < 0) (hs0 : ¬ zs < 0) (hpv : vs.length = p.toNatClampNeg) (hsu : us.length = zs.toNatClampNeg) (hfit : p.toNatClampNeg + zs.toNatClampNeg ≤ z.toNatClampNeg) :
    own_Met l Z (⟨"java/lang/String", "getBytes", "([BIB)V"⟩ : MethodName) jdk_42_method_147_code 4 none ws ({ frames := 1, cells := 0, slots := 0, locals := 18 } : Room) #[(.ref a), (.ref da), (.int p), (.int (0 : Int32))] h0 (own_QGB Z h0 n0 da k z (vs ++ us)) := by
  refine own_met rj_getBytes_pn ?_
  intro pP eE sS mI bB mT cC s₁ hx hby hml hown hnm hret hlk hZ X0 e0
  replace hown : sS.vm.findClass "java/lang/String" = some mI.cls := hown
  refine own_cast (rj_getBytes_ef mI a da p) ?_
  refine own_go (T' := s₁) (g' := (mkF mI 1 #[.val (.ref a), .val (.ref da), .val (.int p), .val (.int (0 : Int32))] [(.ref a)])) (fun t_ kt_ => XS.aloadN X0.here hx rfl (hb hby d29_0) rfl rfl kt_) ?_
  refine own_callV own_closed X0 hx hZ (y := (⟨"java/lang/String", "coder", "()B"⟩ : MethodName)) (z := (⟨"java/lang/String", "coder", "()B"⟩ : MethodName)) hown (hw _ (List.mem_of_getElem? (i := 45) rfl)) (hw _ (List.mem_of_getElem? (i := 46) rfl)) (hw _ (List.mem_of_getElem? (i := 48) rfl)) (hw _ (List.mem_of_getElem? (i := 47) rfl)) (hw _ (List.mem_of_getElem? (i := 48) rfl)) rfl (by decide) (rj_coder l Z a0 hw [] h0 n0 O cs Scs hcs a S.2.1) (hw _ (List.mem_of_getElem? (i := 49) rfl)) (hw _ (List.mem_of_getElem? (i := 21) rfl)) e0 S.1 (pc := 1) (Ls := #[.val (.ref a), .val (.ref da), .val (.int p), .val (.int (0 : Int32))]) (argsL := []) (rest := []) (by rw [hml]; rfl) (lenOf pd_0 rfl) (W := 0) (Nat.le_of_eq rfl) (by decide) (by decide) (by decide) (by decide) (hb hby d29_1) rfl rfl ?_
  intro Tr1 Lr1 vr1 Xr1 hQr1
  obtain ⟨rfl, rfl, er1⟩ := hQr1
  show own_Ends pP eE bB sS _ _ Tr1 (mkF mI 4 #[.val (.ref a), .val (.ref da), .val (.int p), .val (.int (0 : Int32))] [(.int (0 : Int32))])
  refine own_go (T' := Tr1) (g' := (mkF mI 5 #[.val (.ref a), .val (.ref da), .val (.int p), .val (.int (0 : Int32))] [(.int (0 : Int32)), (.int (0 : Int32))])) (fun t_ kt_ => XS.iloadN Xr1.here hx rfl (hb hby d29_4) rfl kt_) ?_
  refine own_go (T' := Tr1) (g' := (mkF mI 8 #[.val (.ref a), .val (.ref da), .val (.int p), .val (.int (0 : Int32))] [])) (fun t_ kt_ => XS.icmpNo Xr1.here hx rfl (hb hby d29_5) rfl (teq (by decide : (0 : Int32) = (0 : Int32))).2 kt_) ?_
  refine own_go (T' := Tr1) (g' := (mkF mI 9 #[.val (.ref a), .val (.ref da), .val (.int p), .val (.int (0 : Int32))] [(.ref a)])) (fun t_ kt_ => XS.aloadN Xr1.here hx rfl (hb hby d29_8) rfl rfl kt_) ?_
  obtain ⟨Tr2, Xr2, er2, str2⟩ := getF Xr1 hx hZ hown (host := "") (Or.inl (hw _ (List.mem_of_getElem? (i := 36) rfl))) Via.refl er1 S.2.2.1 (g := (mkF mI 9 #[.val (.ref a), .val (.ref da), .val (.int p), .val (.int (0 : Int32))] [(.ref a)])) rfl rfl (hb hby d29_9)
  refine own_go (T' := Tr2) (g' := (mkF mI 12 #[.val (.ref a), .val (.ref da), .val (.int p), .val (.int (0 : Int32))] [(.ref d)])) (fun t_ kt_ => str2 _ kt_) ?_
  refine own_go (T' := Tr2) (g' := (mkF mI 13 #[.val (.ref a), .val (.ref da), .val (.int p), .val (.int (0 : Int32))] [(.int (0 : Int32)), (.ref d)])) (fun t_ kt_ => XS.iconst Xr2.here hx rfl (hb hby d29_12) kt_) ?_
  refine own_go (T' := Tr2) (g' := (mkF mI 14 #[.val (.ref a), .val (.ref da), .val (.int p), .val (.int (0 : Int32))] [(.ref da), (.int (0 : Int32)), (.ref d)])) (fun t_ kt_ => XS.aloadN Xr2.here hx rfl (hb hby d29_13) rfl rfl kt_) ?_
  refine own_go (T' := Tr2) (g' := (mkF mI 15 #[.val (.ref a), .val (.ref da), .val (.int p), .val (.int (0 : Int32))] [(.int p), (.ref da), (.int (0 : Int32)), (.ref d)])) (fun t_ kt_ => XS.iloadN Xr2.here hx rfl (hb hby d29_14) rfl kt_) ?_
  refine own_go (T' := Tr2) (g' := (mkF mI 16 #[.val (.ref a), .val (.ref da), .val (.int p), .val (.int (0 : Int32))] [(.int (0 : Int32)), (.int p), (.ref da), (.int (0 : Int32)), (.ref d)])) (fun t_ kt_ => XS.iloadN Xr2.here hx rfl (hb hby d29_15) rfl kt_) ?_
  refine own_go (T' := Tr2) (g' := (mkF mI 17 #[.val (.ref a), .val (.ref da), .val (.int p), .val (.int (0 : Int32))] [(.int (p <<< ((0 : Int32) &&& 31))), (.ref da), (.int (0 : Int32)), (.ref d)])) (fun t_ kt_ => XS.ishl Xr2.here hx rfl (hb hby d29_16) rfl kt_) ?_
  rw [own_shl0]
  refine own_go (T' := Tr2) (g' := (mkF mI 18 #[.val (.ref a), .val (.ref da), .val (.int p), .val (.int (0 : Int32))] [(.ref a), (.int p), (.ref da), (.int (0 : Int32)), (.ref d)])) (fun t_ kt_ => XS.aloadN Xr2.here hx rfl (hb hby d29_17) rfl rfl kt_) ?_
  obtain ⟨Tr3, Xr3, er3, str3⟩ := getF Xr2 hx hZ hown (host := "") (Or.inl (hw _ (List.mem_of_getElem? (i := 36) rfl))) Via.refl er2 S.2.2.1 (g := (mkF mI 18 #[.val (.ref a), .val (.ref da), .val (.int p), .val (.int (0 : Int32))] [(.ref a), (.int p), (.ref da), (.int (0 : Int32)), (.ref d)])) rfl rfl (hb hby d29_18)
  refine own_go (T' := Tr3) (g' := (mkF mI 21 #[.val (.ref a), .val (.ref da), .val (.int p), .val (.int (0 : Int32))] [(.ref d), (.int p), (.ref da), (.int (0 : Int32)), (.ref d)])) (fun t_ kt_ => str3 _ kt_) ?_
  obtain ⟨clr4, Arr4, qr4, Sr4, Ngr4, Hr4, Gr4⟩ := id S.2.2.2
  refine own_go (T' := Tr3) (g' := (mkF mI 22 #[.val (.ref a), .val (.ref da), .val (.int p), .val (.int (0 : Int32))] [(.int zs), (.int p), (.ref da), (.int (0 : Int32)), (.ref d)])) (fun t_ kt_ => own_len Xr3 hx hZ er3 Arr4 (len_of Sr4 Ngr4) (g := (mkF mI 21 #[.val (.ref a), .val (.ref da), .val (.int p), .val (.int (0 : Int32))] [(.ref d), (.int p), (.ref da), (.int (0 : Int32)), (.ref d)])) rfl rfl (hb hby d29_21) _ kt_) ?_
  have Vpr5 : Arv Z h0 da k .byte z (vs ++ List.replicate (z.toNatClampNeg - vs.length) (.int 0)) (.int 0) := Arv.pad V (pad_rep vs _ _)
  obtain ⟨Tr6, hr6, Lr6, Xr6, er6, Nr6, Kcr6, Vcr6, str6⟩ := cpA Xr3 hx hZ hown (hw _ (List.mem_of_getElem? (i := 163) rfl)) (hw _ (List.mem_of_getElem? (i := 166) rfl)) (hw _ (List.mem_of_getElem? (i := 164) rfl)) (hw _ (List.mem_of_getElem? (i := 165) rfl)) er3 S.2.2.2 Vpr5 (Or.inl ⟨rfl, rfl⟩) (by decide) h_dp hs0 (by show 0 + _ ≤ _; omega) hfit rfl (by rw [List.length_append, List.length_replicate]; omega) (Fr.nil n0) g_da (g := (mkF mI 22 #[.val (.ref a), .val (.ref da), .val (.int p), .val (.int (0 : Int32))] [(.int zs), (.int p), (.ref da), (.int (0 : Int32)), (.ref d)])) rfl (by rw [hml]; rfl) rfl (hb hby d29_22) (by decide) (W := 0) (by show 2 * 0 + _ ≤ _; exact Nat.le_of_eq rfl) (by decide)
  have Vr6 : Arv Z hr6 da k .byte z (vs ++ us) (.int 0) := Arv.pad Vcr6 (own_putList hpv hsu (by simp) rfl)
  have Fr7 := Fld.keep S.2.1 Kcr6 (ninS ne_a_da nin0)
  have Fr8 := Fld.keep S.2.2.1 Kcr6 (ninS ne_a_da nin0)
  have Er9 := Exa.keep S.1 Kcr6
  have Vr12 := Arv.keep S.2.2.2 Kcr6 (ninS ne_d_da nin0)
  have Kr13 : Keep h0 hr6 [da] := (Keep.refl h0 [da]).trans Kcr6 (allS (Or.inl (List.mem_of_getElem? (i := 0) rfl)) all0)
  refine own_go (T' := Tr6) (g' := (mkF mI 25 #[.val (.ref a), .val (.ref da), .val (.int p), .val (.int (0 : Int32))] [])) (fun t_ kt_ => str6 _ kt_) ?_
  refine own_go (T' := Tr6) (g' := (mkF mI 43 #[.val (.ref a), .val (.ref da), .val (.int p), .val (.int (0 : Int32))] [])) (fun t_ kt_ => XS.goto Xr6.here hx rfl (pc0 := 25) (pc' := 43) rfl (hb hby d29_25) (by decide) (by decide) kt_) ?_
  refine own_retV Xr6 hx hlk hret (hb hby d29_43) (by decide) (by decide) ?_
  exact by rw [er6]; exact ⟨rfl, Nr6, Kr13, Vr6⟩
theorem d28_0 : decode jdk_68_method_71_code 0 = .ok (.getstatic 18, 3) := by decide +kernel
theorem d28_3 : decode jdk_68_method_71_code 3 = .ok (.ifCond .eq 18, 3) := by decide +kernel
theorem d28_6 : decode jdk_68_method_71_code 6 = .ok (.aload_n 0, 1) := by decide +kernel
theorem d28_7 : decode jdk_68_method_71_code 7 = .ok (.getfield 22, 3) := by decide +kernel
theorem d28_10 : decode jdk_68_method_71_code 10 = .ok (.aload_n 1, 1) := by decide +kernel
theorem d28_11 : decode jdk_68_method_71_code 11 = .ok (.invokevirtual 40, 3) := by decide +kernel
theorem d28_14 : decode jdk_68_method_71_code 14 = .ok (.if_icmp .eq 7, 3) := by decide +kernel
theorem d28_21 : decode jdk_68_method_71_code 21 = .ok (.return_, 1) := by decide +kernel
theorem rj_infl_pn : plainFor (⟨"java/lang/AbstractStringBuilder", "inflateIfNeededFor", "(Ljava/lang/String;)V"⟩ : MethodName) = true := plainFor_of_name (show plainName "java/lang/AbstractStringBuilder" = true by first | (simp [plainName, overriddenIn]; done) | decide +kernel)
theorem rj_infl_ef (mI : MethodId) (b : Addr) (a : Addr) : entryFrame mI #[(.ref b), (.ref a)] 2 = mkF mI 0 #[.val (.ref b), .val (.ref a)] [] := by first | (simp [entryFrame, mkF, argsToLocals, Value.category]; done) | rfl
set_option maxRecDepth 65536 in
set_option maxHeartbeats 40000000 in
theorem rj_infl (l : Launch) (Z : State) (a0 : Array Value) (hw : ∀ d ∈ tables_1, d.before a0 Z = true) (ws : List Jvm.Cond) (h0 : Heap) (n0 : Nat) (O : Old Z n0 h0) (cs : Int32) (Scs : Sta Z Z.heap "java/lang/String" "COMPACT_STRINGS" "Z" (.int cs)) (hcs : ¬ cs = 0) (b a : Addr) (Fb : Fld Z h0 b "java/lang/AbstractStringBuilder" "coder" "B" (.int 0)) (Ea : Exa Z h0 a "java/lang/String") (Fc : Fld Z h0 a "java/lang/String" "coder" "B" (.int 0)) :
    own_Met l Z (⟨"java/lang/AbstractStringBuilder", "inflateIfNeededFor", "(Ljava/lang/String;)V"⟩ : MethodName) jdk_68_method_71_code 2 none ws ({ frames := 1, cells := 0, slots := 0, locals := 13 } : Room) #[(.ref b), (.ref a)] h0 (own_QP h0 none) := by
  refine own_met rj_infl_pn ?_
  intro pP eE sS mI bB mT cC s₁ hx hby hml hown hnm hret hlk hZ X0 e0
  replace hown : sS.vm.findClass "java/lang/AbstractStringBuilder" = some mI.cls := hown
  refine own_cast (rj_infl_ef mI b a) ?_
  obtain ⟨Tt1, Xt1, et1, stt1⟩ := getS2 X0 hx hZ hown (host := "") (Or.inl (hw _ (List.mem_of_getElem? (i := 104) rfl))) Via.refl e0 (Sta.ext O.2 Scs) (g := (mkF mI 0 #[.val (.ref b), .val (.ref a)] [])) rfl (hb hby d28_0)
  refine own_go (T' := Tt1) (g' := (mkF mI 3 #[.val (.ref b), .val (.ref a)] [(.int cs)])) (fun t_ kt_ => stt1 _ kt_) ?_
  refine own_go (T' := Tt1) (g' := (mkF mI 6 #[.val (.ref b), .val (.ref a)] [])) (fun t_ kt_ => XS.ifNo Xt1.here hx rfl (hb hby d28_3) rfl ((if0 _ _).trans (feq (hcs : ¬ (cs = (0 : Int32)))).1) kt_) ?_
  refine own_go (T' := Tt1) (g' := (mkF mI 7 #[.val (.ref b), .val (.ref a)] [(.ref b)])) (fun t_ kt_ => XS.aloadN Xt1.here hx rfl (hb hby d28_6) rfl rfl kt_) ?_
  obtain ⟨Tt2, Xt2, et2, stt2⟩ := getF Xt1 hx hZ hown (host := "") (Or.inl (hw _ (List.mem_of_getElem? (i := 107) rfl))) Via.refl et1 Fb (g := (mkF mI 7 #[.val (.ref b), .val (.ref a)] [(.ref b)])) rfl rfl (hb hby d28_7)
  refine own_go (T' := Tt2) (g' := (mkF mI 10 #[.val (.ref b), .val (.ref a)] [(.int (0 : Int32))])) (fun t_ kt_ => stt2 _ kt_) ?_
  refine own_go (T' := Tt2) (g' := (mkF mI 11 #[.val (.ref b), .val (.ref a)] [(.ref a), (.int (0 : Int32))])) (fun t_ kt_ => XS.aloadN Xt2.here hx rfl (hb hby d28_10) rfl rfl kt_) ?_
  refine own_callV own_closed Xt2 hx hZ (y := (⟨"java/lang/String", "coder", "()B"⟩ : MethodName)) (z := (⟨"java/lang/String", "coder", "()B"⟩ : MethodName)) hown (hw _ (List.mem_of_getElem? (i := 157) rfl)) (hw _ (List.mem_of_getElem? (i := 46) rfl)) (hw _ (List.mem_of_getElem? (i := 48) rfl)) (hw _ (List.mem_of_getElem? (i := 47) rfl)) (hw _ (List.mem_of_getElem? (i := 48) rfl)) rfl (by decide) (rj_coder l Z a0 hw [] h0 n0 O cs Scs hcs a Fc) (hw _ (List.mem_of_getElem? (i := 49) rfl)) (hw _ (List.mem_of_getElem? (i := 21) rfl)) et2 Ea (pc := 11) (Ls := #[.val (.ref b), .val (.ref a)]) (argsL := []) (rest := [(.int (0 : Int32))]) (by rw [hml]; rfl) (lenOf pd_0 rfl) (W := 1) (Nat.le_of_eq rfl) (by decide) (by decide) (by decide) (by decide) (hb hby d28_11) rfl rfl ?_
  intro Tt3 Lt3 vt3 Xt3 hQt3
  obtain ⟨rfl, rfl, et3⟩ := hQt3
  show own_Ends pP eE bB sS _ _ Tt3 (mkF mI 14 #[.val (.ref b), .val (.ref a)] [(.int (0 : Int32)), (.int (0 : Int32))])
  refine own_go (T' := Tt3) (g' := (mkF mI 21 #[.val (.ref b), .val (.ref a)] [])) (fun t_ kt_ => XS.icmpYes Xt3.here hx rfl (pc0 := 14) (pc' := 21) rfl (hb hby d28_14) rfl (teq (by decide : (0 : Int32) = (0 : Int32))).1 (by decide) (by decide) kt_) ?_
  refine own_retV Xt3 hx hlk hret (hb hby d28_21) (by decide) (by decide) ?_
  exact ⟨rfl, rfl, et3⟩
theorem d27_0 : decode jdk_68_method_73_code 0 = .ok (.aload_n 0, 1) := by decide +kernel
theorem d27_1 : decode jdk_68_method_73_code 1 = .ok (.aload_n 2, 1) := by decide +kernel
theorem d27_2 : decode jdk_68_method_73_code 2 = .ok (.invokevirtual 397, 3) := by decide +kernel
theorem d27_5 : decode jdk_68_method_73_code 5 = .ok (.aload_n 2, 1) := by decide +kernel
theorem d27_6 : decode jdk_68_method_73_code 6 = .ok (.aload_n 0, 1) := by decide +kernel
theorem d27_7 : decode jdk_68_method_73_code 7 = .ok (.getfield 15, 3) := by decide +kernel
theorem d27_10 : decode jdk_68_method_73_code 10 = .ok (.iload_n 1, 1) := by decide +kernel
theorem d27_11 : decode jdk_68_method_73_code 11 = .ok (.aload_n 0, 1) := by decide +kernel
theorem d27_12 : decode jdk_68_method_73_code 12 = .ok (.getfield 22, 3) := by decide +kernel
theorem d27_15 : decode jdk_68_method_73_code 15 = .ok (.invokevirtual 399, 3) := by decide +kernel
theorem d27_18 : decode jdk_68_method_73_code 18 = .ok (.return_, 1) := by decide +kernel
theorem rj_putStr_pn : plainFor (⟨"java/lang/AbstractStringBuilder", "putStringAt", "(ILjava/lang/String;)V"⟩ : MethodName) = true := plainFor_of_name (show plainName "java/lang/AbstractStringBuilder" = true by first | (simp [plainName, overriddenIn]; done) | decide +kernel)
theorem rj_putStr_ef (mI : MethodId) (b : Addr) (p : Int32) (a : Addr) : entryFrame mI #[(.ref b), (.int p), (.ref a)] 3 = mkF mI 0 #[.val (.ref b), .val (.int p), .val (.ref a)] [] := by first | (simp [entryFrame, mkF, argsToLocals, Value.category]; done) | rfl
set_option maxRecDepth 65536 in
set_option maxHeartbeats 40000000 in
theorem rj_putStr (l : Launch) (Z : State) (a0 : Array Value) (hw : ∀ d ∈ tables_1, d.before a0 Z = true) (ws : List Jvm.Cond) (h0 : Heap) (da : Addr) (k : ClassId) (z : Int32) (vs : List Value) (n0 : Nat) (O : Old Z n0 h0) (cs : Int32) (Scs : Sta Z Z.heap "java/lang/String" "COMPACT_STRINGS" "Z" (.int cs)) (hcs : ¬ cs = 0) (b : Addr) (n : Int32) (B : own_SB Z h0 b da k z n vs) (a : Addr) (p : Int32) (d : Addr) (ks : ClassId) (zs : Int32) (us : List Value) (S : own_St Z h0 a d ks zs us) (g_da : n0 ≤ da) (ne_a_da : a ≠ da) (ne_d_da : d ≠ da) (h_dp : ¬ p < 0) (hs0 : ¬ zs < 0) (hpv : vs.length = p.toNatClampNeg) (hsu : us.length = zs.toNatClampNeg) (hfit : p.toNatClampNeg + zs.toNatClampNeg ≤ z.toNatClampNeg) :
    own_Met l Z (⟨"java/lang/AbstractStringBuilder", "putStringAt", "(ILjava/lang/String;)V"⟩ : MethodName) jdk_68_method_73_code 3 none ws ({ frames := 2, cells := 0, slots := 0, locals := 33 } : Room) #[(.ref b), (.int p), (.ref a)] h0 (own_QGB Z h0 n0 da k z (vs ++ us)) := by
  refine own_met rj_putStr_pn ?_
  intro pP eE sS mI bB mT cC s₁ hx hby hml hown hnm hret hlk hZ X0 e0
  replace hown : sS.vm.findClass "java/lang/AbstractStringBuilder" = some mI.cls := hown
  refine own_cast (rj_putStr_ef mI b p a) ?_
  refine own_go (T' := s₁) (g' := (mkF mI 1 #[.val (.ref b), .val (.int p), .val (.ref a)] [(.ref b)])) (fun t_ kt_ => XS.aloadN X0.here hx rfl (hb hby d27_0) rfl rfl kt_) ?_
  refine own_go (T' := s₁) (g' := (mkF mI 2 #[.val (.ref b), .val (.int p), .val (.ref a)] [(.ref a), (.ref b)])) (fun t_ kt_ => XS.aloadN X0.here hx rfl (hb hby d27_1) rfl rfl kt_) ?_
  refine own_callV own_closed X0 hx hZ (y := (⟨"java/lang/AbstractStringBuilder", "inflateIfNeededFor", "(Ljava/lang/String;)V"⟩ : MethodName)) (z := (⟨"java/lang/AbstractStringBuilder", "inflateIfNeededFor", "(Ljava/lang/String;)V"⟩ : MethodName)) hown (hw _ (List.mem_of_getElem? (i := 152) rfl)) (own_decl (hw _ (List.mem_of_getElem? (i := 153) rfl)) (hw _ (List.mem_of_getElem? (i := 156) rfl))) (hw _ (List.mem_of_getElem? (i := 155) rfl)) (hw _ (List.mem_of_getElem? (i := 153) rfl)) (hw _ (List.mem_of_getElem? (i := 155) rfl)) rfl (by decide) (rj_infl l Z a0 hw [] h0 n0 O cs Scs hcs b a B.2.2.1 S.1 S.2.1) (hw _ (List.mem_of_getElem? (i := 156) rfl)) (hw _ (List.mem_of_getElem? (i := 101) rfl)) e0 B.1 (pc := 2) (Ls := #[.val (.ref b), .val (.int p), .val (.ref a)]) (argsL := [(.ref a)]) (rest := []) (by rw [hml]; rfl) (lenOf pd_9 rfl) (W := 0) (Nat.le_of_eq rfl) (by decide) (by decide) (by decide) (by decide) (hb hby d27_2) rfl rfl ?_
  intro Tu1 Lu1 vu1 Xu1 hQu1
  obtain ⟨rfl, rfl, eu1⟩ := hQu1
  show own_Ends pP eE bB sS _ _ Tu1 (mkF mI 5 #[.val (.ref b), .val (.int p), .val (.ref a)] [])
  refine own_go (T' := Tu1) (g' := (mkF mI 6 #[.val (.ref b), .val (.int p), .val (.ref a)] [(.ref a)])) (fun t_ kt_ => XS.aloadN Xu1.here hx rfl (hb hby d27_5) rfl rfl kt_) ?_
  refine own_go (T' := Tu1) (g' := (mkF mI 7 #[.val (.ref b), .val (.int p), .val (.ref a)] [(.ref b), (.ref a)])) (fun t_ kt_ => XS.aloadN Xu1.here hx rfl (hb hby d27_6) rfl rfl kt_) ?_
  obtain ⟨Tu2, Xu2, eu2, stu2⟩ := getF Xu1 hx hZ hown (host := "") (Or.inl (hw _ (List.mem_of_getElem? (i := 105) rfl))) Via.refl eu1 B.2.1 (g := (mkF mI 7 #[.val (.ref b), .val (.int p), .val (.ref a)] [(.ref b), (.ref a)])) rfl rfl (hb hby d27_7)
  refine own_go (T' := Tu2) (g' := (mkF mI 10 #[.val (.ref b), .val (.int p), .val (.ref a)] [(.ref da), (.ref a)])) (fun t_ kt_ => stu2 _ kt_) ?_
  refine own_go (T' := Tu2) (g' := (mkF mI 11 #[.val (.ref b), .val (.int p), .val (.ref a)] [(.int p), (.ref da), (.ref a)])) (fun t_ kt_ => XS.iloadN Xu2.here hx rfl (hb hby d27_10) rfl kt_) ?_
  refine own_go (T' := Tu2) (g' := (mkF mI 12 #[.val (.ref b), .val (.int p), .val (.ref a)] [(.ref b), (.int p), (.ref da), (.ref a)])) (fun t_ kt_ => XS.aloadN Xu2.here hx rfl (hb hby d27_11) rfl rfl kt_) ?_
  obtain ⟨Tu3, Xu3, eu3, stu3⟩ := getF Xu2 hx hZ hown (host := "") (Or.inl (hw _ (List.mem_of_getElem? (i := 107) rfl))) Via.refl eu2 B.2.2.1 (g := (mkF mI 12 #[.val (.ref b), .val (.int p), .val (.ref a)] [(.ref b), (.int p), (.ref da), (.ref a)])) rfl rfl (hb hby d27_12)
  refine own_go (T' := Tu3) (g' := (mkF mI 15 #[.val (.ref b), .val (.int p), .val (.ref a)] [(.int (0 : Int32)), (.int p), (.ref da), (.ref a)])) (fun t_ kt_ => stu3 _ kt_) ?_
  refine own_callV own_closed Xu3 hx hZ (y := (⟨"java/lang/String", "getBytes", "([BIB)V"⟩ : MethodName)) (z := (⟨"java/lang/String", "getBytes", "([BIB)V"⟩ : MethodName)) hown (hw _ (List.mem_of_getElem? (i := 158) rfl)) (hw _ (List.mem_of_getElem? (i := 159) rfl)) (hw _ (List.mem_of_getElem? (i := 161) rfl)) (hw _ (List.mem_of_getElem? (i := 160) rfl)) (hw _ (List.mem_of_getElem? (i := 161) rfl)) rfl (by decide) (rj_getBytes l Z a0 hw [] h0 n0 O cs Scs hcs a da p d k ks z zs vs us S B.2.2.2.2.1 g_da ne_a_da ne_d_da h_dp hs0 hpv hsu hfit) (hw _ (List.mem_of_getElem? (i := 162) rfl)) (hw _ (List.mem_of_getElem? (i := 21) rfl)) eu3 S.1 (pc := 15) (Ls := #[.val (.ref b), .val (.int p), .val (.ref a)]) (argsL := [(.ref da), (.int p), (.int (0 : Int32))]) (rest := []) (by rw [hml]; rfl) (lenOf pd_10 rfl) (W := 0) (Nat.le_of_eq rfl) (by decide) (by decide) (by decide) (by decide) (hb hby d27_15) rfl rfl ?_
  intro Tu4 Lu4 vu4 Xu4 hQu4
  obtain ⟨rfl, Nu4, Ku4, Vu4⟩ := hQu4
  show own_Ends pP eE bB sS _ _ Tu4 (mkF mI 18 #[.val (.ref b), .val (.int p), .val (.ref a)] [])
  refine own_retV Xu4 hx hlk hret (hb hby d27_18) (by decide) (by decide) ?_
  exact ⟨rfl, Fr.app (Fr.nil n0) Nu4, Ku4, Vu4⟩
def own_QA (Z : State) (h0 : Heap) (n0 : Nat) (b da : Addr) (m : Int32) (vs : List Value) (v : Option Value) (h : Heap) (L : List Loc) : Prop := v = some (.ref b) ∧ Fr n0 L ∧ Keep h0 h [b, da] ∧ ∃ (da' : Addr) (k' : ClassId) (z' : Int32), own_SB Z h b da' k' z' m vs ∧ (da' = da ∨ h0.size ≤ da') ∧ m.toInt ≤ z'.toInt ∧ z'.toInt ≤ 300
theorem d26_0 : decode jdk_68_method_22_code 0 = .ok (.aload_n 1, 1) := by decide +kernel
theorem d26_1 : decode jdk_68_method_22_code 1 = .ok (.ifnonnull 8, 3) := by decide +kernel
theorem d26_9 : decode jdk_68_method_22_code 9 = .ok (.aload_n 1, 1) := by decide +kernel
theorem d26_10 : decode jdk_68_method_22_code 10 = .ok (.invokevirtual 32, 3) := by decide +kernel
theorem d26_13 : decode jdk_68_method_22_code 13 = .ok (.istore_n 2, 1) := by decide +kernel
theorem d26_14 : decode jdk_68_method_22_code 14 = .ok (.aload_n 0, 1) := by decide +kernel
theorem d26_15 : decode jdk_68_method_22_code 15 = .ok (.aload_n 0, 1) := by decide +kernel
theorem d26_16 : decode jdk_68_method_22_code 16 = .ok (.getfield 79, 3) := by decide +kernel
theorem d26_19 : decode jdk_68_method_22_code 19 = .ok (.iload_n 2, 1) := by decide +kernel
theorem d26_20 : decode jdk_68_method_22_code 20 = .ok (.iadd, 1) := by decide +kernel
theorem d26_21 : decode jdk_68_method_22_code 21 = .ok (.invokevirtual 100, 3) := by decide +kernel
theorem d26_24 : decode jdk_68_method_22_code 24 = .ok (.aload_n 0, 1) := by decide +kernel
theorem d26_25 : decode jdk_68_method_22_code 25 = .ok (.aload_n 0, 1) := by decide +kernel
theorem d26_26 : decode jdk_68_method_22_code 26 = .ok (.getfield 79, 3) := by decide +kernel
theorem d26_29 : decode jdk_68_method_22_code 29 = .ok (.aload_n 1, 1) := by decide +kernel
theorem d26_30 : decode jdk_68_method_22_code 30 = .ok (.invokevirtual 208, 3) := by decide +kernel
theorem d26_33 : decode jdk_68_method_22_code 33 = .ok (.aload_n 0, 1) := by decide +kernel
theorem d26_34 : decode jdk_68_method_22_code 34 = .ok (.dup, 1) := by decide +kernel
theorem d26_35 : decode jdk_68_method_22_code 35 = .ok (.getfield 79, 3) := by decide +kernel
theorem d26_38 : decode jdk_68_method_22_code 38 = .ok (.iload_n 2, 1) := by decide +kernel
theorem d26_39 : decode jdk_68_method_22_code 39 = .ok (.iadd, 1) := by decide +kernel
theorem d26_40 : decode jdk_68_method_22_code 40 = .ok (.putfield 79, 3) := by decide +kernel
theorem d26_43 : decode jdk_68_method_22_code 43 = .ok (.aload_n 0, 1) := by decide +kernel
theorem d26_44 : decode jdk_68_method_22_code 44 = .ok (.areturn, 1) := by decide +kernel
theorem rj_asAppS_pn : plainFor (⟨"java/lang/AbstractStringBuilder", "append", "(Ljava/lang/String;)Ljava/lang/AbstractStringBuilder;"⟩ : MethodName) = true := plainFor_of_name (show plainName "java/lang/AbstractStringBuilder" = true by first | (simp [plainName, overriddenIn]; done) | decide +kernel)
theorem rj_asAppS_ef (mI : MethodId) (b : Addr) (a : Addr) : entryFrame mI #[(.ref b), (.ref a)] 3 = mkF mI 0 #[.val (.ref b), .val (.ref a), .unset] [] := by first | (simp [entryFrame, mkF, argsToLocals, Value.category]; done) | rfl
set_option maxRecDepth 65536 in
set_option maxHeartbeats 40000000 in
theorem rj_asAppS (l : Launch) (Z : State) (a0 : Array Value) (hw : ∀ d ∈ tables_1, d.before a0 Z = true) (ws : List Jvm.Cond) (h0 : Heap) (n0 : Nat) (O : Old Z n0 h0) (cs : Int32) (Scs : Sta Z Z.heap "java/lang/String" "COMPACT_STRINGS" "Z" (.int cs)) (hcs : ¬ cs = 0) (Z0 : n0 ≤ h0.size) (b a : Addr) (da d : Addr) (k ks : ClassId) (z zs n m : Int32) (vs us : List Value) (B : own_SB Z h0 b da k z n vs) (S : own_St Z h0 a d ks zs us) (g_b : n0 ≤ b) (g_da : n0 ≤ da) (ne_a_b : a ≠ b) (ne_d_b : d ≠ b) (ne_d_da : d ≠ da) (hz0 : ¬ z < 0) (hzi : 0 ≤ z.toInt) (hz3 : z.toInt ≤ 300) (hvz : vs.length ≤ z.toNatClampNeg) (hn0 : ¬ n < 0) (hvn : vs.length = n.toNatClampNeg) (hs0 : ¬ zs < 0) (hsu : us.length = zs.toNatClampNeg) (hm : n + zs = m) (hm0 : 0 ≤ m.toInt) (hm1 : m.toInt ≤ 140) (hmn : m.toInt = n.toInt + zs.toInt) :
    own_Met l Z (⟨"java/lang/AbstractStringBuilder", "append", "(Ljava/lang/String;)Ljava/lang/AbstractStringBuilder;"⟩ : MethodName) jdk_68_method_22_code 3 (some (.object "java/lang/AbstractStringBuilder")) ws ({ frames := 4, cells := 1, slots := 300, locals := 62 } : Room) #[(.ref b), (.ref a)] h0 (own_QA Z h0 n0 b da m (vs ++ us)) := by
  refine own_met rj_asAppS_pn ?_
  intro pP eE sS mI bB mT cC s₁ hx hby hml hown hnm hret hlk hZ X0 e0
  replace hown : sS.vm.findClass "java/lang/AbstractStringBuilder" = some mI.cls := hown
  refine own_cast (rj_asAppS_ef mI b a) ?_
  refine own_go (T' := s₁) (g' := (mkF mI 1 #[.val (.ref b), .val (.ref a), .unset] [(.ref a)])) (fun t_ kt_ => XS.aloadN X0.here hx rfl (hb hby d26_0) rfl rfl kt_) ?_
  refine own_go (T' := s₁) (g' := (mkF mI 9 #[.val (.ref b), .val (.ref a), .unset] [])) (fun t_ kt_ => XS.ifnonnullYes X0.here hx rfl (pc0 := 1) (pc' := 9) rfl (hb hby d26_1) rfl (by decide) (by decide) kt_) ?_
  refine own_go (T' := s₁) (g' := (mkF mI 10 #[.val (.ref b), .val (.ref a), .unset] [(.ref a)])) (fun t_ kt_ => XS.aloadN X0.here hx rfl (hb hby d26_9) rfl rfl kt_) ?_
  refine own_callV own_closed X0 hx hZ (y := (⟨"java/lang/String", "length", "()I"⟩ : MethodName)) (z := (⟨"java/lang/String", "length", "()I"⟩ : MethodName)) hown (hw _ (List.mem_of_getElem? (i := 146) rfl)) (hw _ (List.mem_of_getElem? (i := 41) rfl)) (hw _ (List.mem_of_getElem? (i := 43) rfl)) (hw _ (List.mem_of_getElem? (i := 42) rfl)) (hw _ (List.mem_of_getElem? (i := 43) rfl)) rfl (by decide) (rj_len l Z a0 hw [] h0 n0 O cs Scs hcs a d _ zs _ S.1 S.2.1 S.2.2.1 S.2.2.2) (hw _ (List.mem_of_getElem? (i := 44) rfl)) (hw _ (List.mem_of_getElem? (i := 21) rfl)) e0 S.1 (pc := 10) (Ls := #[.val (.ref b), .val (.ref a), .unset]) (argsL := []) (rest := []) (by rw [hml]; rfl) (lenOf pd_11 rfl) (W := 0) (Nat.le_of_eq rfl) (by decide) (by decide) (by decide) (by decide) (hb hby d26_10) rfl rfl ?_
  intro Tv1 Lv1 vv1 Xv1 hQv1
  obtain ⟨rfl, rfl, ev1⟩ := hQv1
  show own_Ends pP eE bB sS _ _ Tv1 (mkF mI 13 #[.val (.ref b), .val (.ref a), .unset] [(.int zs)])
  refine own_go (T' := Tv1) (g' := (mkF mI 14 #[.val (.ref b), .val (.ref a), .val (.int zs)] [])) (fun t_ kt_ => XS.istoreN Xv1.here hx rfl (hb hby d26_13) rfl (l' := #[.val (.ref b), .val (.ref a), .val (.int zs)]) rfl kt_) ?_
  refine own_go (T' := Tv1) (g' := (mkF mI 15 #[.val (.ref b), .val (.ref a), .val (.int zs)] [(.ref b)])) (fun t_ kt_ => XS.aloadN Xv1.here hx rfl (hb hby d26_14) rfl rfl kt_) ?_
  refine own_go (T' := Tv1) (g' := (mkF mI 16 #[.val (.ref b), .val (.ref a), .val (.int zs)] [(.ref b), (.ref b)])) (fun t_ kt_ => XS.aloadN Xv1.here hx rfl (hb hby d26_15) rfl rfl kt_) ?_
  obtain ⟨Tv2, Xv2, ev2, stv2⟩ := getF Xv1 hx hZ hown (host := "") (Or.inl (hw _ (List.mem_of_getElem? (i := 119) rfl))) Via.refl ev1 B.2.2.2.1 (g := (mkF mI 16 #[.val (.ref b), .val (.ref a), .val (.int zs)] [(.ref b), (.ref b)])) rfl rfl (hb hby d26_16)
  refine own_go (T' := Tv2) (g' := (mkF mI 19 #[.val (.ref b), .val (.ref a), .val (.int zs)] [(.int n), (.ref b)])) (fun t_ kt_ => stv2 _ kt_) ?_
  refine own_go (T' := Tv2) (g' := (mkF mI 20 #[.val (.ref b), .val (.ref a), .val (.int zs)] [(.int zs), (.int n), (.ref b)])) (fun t_ kt_ => XS.iloadN Xv2.here hx rfl (hb hby d26_19) rfl kt_) ?_
  refine own_go (T' := Tv2) (g' := (mkF mI 21 #[.val (.ref b), .val (.ref a), .val (.int zs)] [(.int (n + zs)), (.ref b)])) (fun t_ kt_ => XS.iadd Xv2.here hx rfl (hb hby d26_20) rfl kt_) ?_
  rw [hm]
  refine own_callV own_closed Xv2 hx hZ (y := (⟨"java/lang/AbstractStringBuilder", "ensureCapacityInternal", "(I)V"⟩ : MethodName)) (z := (⟨"java/lang/AbstractStringBuilder", "ensureCapacityInternal", "(I)V"⟩ : MethodName)) hown (hw _ (List.mem_of_getElem? (i := 122) rfl)) (own_decl (hw _ (List.mem_of_getElem? (i := 123) rfl)) (hw _ (List.mem_of_getElem? (i := 126) rfl))) (hw _ (List.mem_of_getElem? (i := 125) rfl)) (hw _ (List.mem_of_getElem? (i := 123) rfl)) (hw _ (List.mem_of_getElem? (i := 125) rfl)) rfl (by decide) (rj_ensure l Z a0 hw [] h0 n0 Z0 b m da k z n vs B.1 B.2.1 B.2.2.1 B.2.2.2.1 B.2.2.2.2.1 B.2.2.2.2.2 g_b hvz hz0 hzi hz3 hm0 hm1) (hw _ (List.mem_of_getElem? (i := 126) rfl)) (hw _ (List.mem_of_getElem? (i := 101) rfl)) ev2 B.1 (pc := 21) (Ls := #[.val (.ref b), .val (.ref a), .val (.int zs)]) (argsL := [(.int m)]) (rest := []) (by rw [hml]; rfl) (lenOf pd_12 rfl) (W := 0) (Nat.le_of_eq rfl) (by decide) (by decide) (by decide) (by decide) (hb hby d26_21) rfl rfl ?_
  intro Tv3 Lv3 vv3 Xv3 hQv3
  obtain ⟨rfl, Nv3, Kv3, dav3, kv3, zv3, Bv3, hdav3, hzav3, hzbv3, hzcv3⟩ := hQv3
  have g_dv3 : n0 ≤ dav3 := hdav3.elim (fun q => by rw [q.1]; exact g_da) (fun q => Nat.le_trans Z0 q)
  have ne_dv3 : d ≠ dav3 := hdav3.elim (fun q => by rw [q.1]; exact ne_d_da) (fun q => Nat.ne_of_lt (Nat.lt_of_lt_of_le S.2.2.2.lt q))
  have ne_bv3 : b ≠ dav3 := Exa.neArv Bv3.1 Bv3.2.2.2.2.1 (hw _ (List.mem_of_getElem? (i := 92) rfl))
  have ne_av3 : a ≠ dav3 := Exa.neArv (S.1.keep Kv3) Bv3.2.2.2.2.1 (hw _ (List.mem_of_getElem? (i := 28) rfl))
  have Sv3 : own_St Z Tv3.heap a d ks zs us := S.keep Kv3 (ninS ne_a_b nin0) (ninS ne_d_b nin0)
  have Ov3 : Old Z n0 Tv3.heap := O.keep Kv3 (allS g_b all0)
  have Nv3a := Fr.app (Fr.nil n0) Nv3
  have Zzv3 : n0 ≤ Tv3.heap.size := Nat.le_trans Z0 Kv3.1
  show own_Ends pP eE bB sS _ _ Tv3 (mkF mI 24 #[.val (.ref b), .val (.ref a), .val (.int zs)] [])
  refine own_go (T' := Tv3) (g' := (mkF mI 25 #[.val (.ref b), .val (.ref a), .val (.int zs)] [(.ref b)])) (fun t_ kt_ => XS.aloadN Xv3.here hx rfl (hb hby d26_24) rfl rfl kt_) ?_
  refine own_go (T' := Tv3) (g' := (mkF mI 26 #[.val (.ref b), .val (.ref a), .val (.int zs)] [(.ref b), (.ref b)])) (fun t_ kt_ => XS.aloadN Xv3.here hx rfl (hb hby d26_25) rfl rfl kt_) ?_
  obtain ⟨Tv4, Xv4, ev4, stv4⟩ := getF Xv3 hx hZ hown (host := "") (Or.inl (hw _ (List.mem_of_getElem? (i := 119) rfl))) Via.refl rfl Bv3.2.2.2.1 (g := (mkF mI 26 #[.val (.ref b), .val (.ref a), .val (.int zs)] [(.ref b), (.ref b)])) rfl rfl (hb hby d26_26)
  refine own_go (T' := Tv4) (g' := (mkF mI 29 #[.val (.ref b), .val (.ref a), .val (.int zs)] [(.int n), (.ref b)])) (fun t_ kt_ => stv4 _ kt_) ?_
  refine own_go (T' := Tv4) (g' := (mkF mI 30 #[.val (.ref b), .val (.ref a), .val (.int zs)] [(.ref a), (.int n), (.ref b)])) (fun t_ kt_ => XS.aloadN Xv4.here hx rfl (hb hby d26_29) rfl rfl kt_) ?_
  refine own_callV own_closed Xv4 hx hZ (y := (⟨"java/lang/AbstractStringBuilder", "putStringAt", "(ILjava/lang/String;)V"⟩ : MethodName)) (z := (⟨"java/lang/AbstractStringBuilder", "putStringAt", "(ILjava/lang/String;)V"⟩ : MethodName)) hown (hw _ (List.mem_of_getElem? (i := 147) rfl)) (own_decl (hw _ (List.mem_of_getElem? (i := 148) rfl)) (hw _ (List.mem_of_getElem? (i := 151) rfl))) (hw _ (List.mem_of_getElem? (i := 150) rfl)) (hw _ (List.mem_of_getElem? (i := 148) rfl)) (hw _ (List.mem_of_getElem? (i := 150) rfl)) rfl (by decide) (rj_putStr l Z a0 hw [] Tv3.heap dav3 kv3 zv3 vs n0 Ov3 cs Scs hcs b n Bv3 a n d ks zs us Sv3 g_dv3 ne_av3 ne_dv3 hn0 hs0 hvn hsu (own_fit hn0 hs0 hmn hzbv3)) (hw _ (List.mem_of_getElem? (i := 151) rfl)) (hw _ (List.mem_of_getElem? (i := 101) rfl)) ev4 Bv3.1 (pc := 30) (Ls := #[.val (.ref b), .val (.ref a), .val (.int zs)]) (argsL := [(.int n), (.ref a)]) (rest := []) (by rw [hml]; rfl) (lenOf pd_13 rfl) (W := 0) (Nat.le_of_eq rfl) (by decide) (by decide) (by decide) (by decide) (hb hby d26_30) rfl rfl ?_
  intro Tv5 Lv5 vv5 Xv5 hQv5
  obtain ⟨rfl, Nv5, Kv5, Vv5⟩ := hQv5
  have Bv5 : own_SB Z Tv5.heap b dav3 kv3 zv3 n (vs ++ us) := ⟨Bv3.1.keep Kv5, Bv3.2.1.keep Kv5 (ninS ne_bv3 nin0), Bv3.2.2.1.keep Kv5 (ninS ne_bv3 nin0), Bv3.2.2.2.1.keep Kv5 (ninS ne_bv3 nin0), Vv5, Bv3.2.2.2.2.2.keep Kv5⟩
  have Kxv5 : Keep h0 Tv5.heap [b, da] := (own_keepSub Kv3 (allS (List.mem_cons_self ..) all0)).trans Kv5 (allS (hdav3.elim (fun q => Or.inl (by rw [q.1]; exact List.mem_cons_of_mem _ (List.mem_cons_self ..))) Or.inr) all0)
  have Nv5a := Fr.app Nv3a Nv5
  have Zzv5 : n0 ≤ Tv5.heap.size := Nat.le_trans Zzv3 Kv5.1
  show own_Ends pP eE bB sS _ _ Tv5 (mkF mI 33 #[.val (.ref b), .val (.ref a), .val (.int zs)] [])
  refine own_go (T' := Tv5) (g' := (mkF mI 34 #[.val (.ref b), .val (.ref a), .val (.int zs)] [(.ref b)])) (fun t_ kt_ => XS.aloadN Xv5.here hx rfl (hb hby d26_33) rfl rfl kt_) ?_
  refine own_go (T' := Tv5) (g' := (mkF mI 35 #[.val (.ref b), .val (.ref a), .val (.int zs)] [(.ref b), (.ref b)])) (fun t_ kt_ => XS.dup Xv5.here hx rfl (hb hby d26_34) rfl rfl kt_) ?_
  obtain ⟨Tv6, Xv6, ev6, stv6⟩ := getF Xv5 hx hZ hown (host := "") (Or.inl (hw _ (List.mem_of_getElem? (i := 119) rfl))) Via.refl rfl Bv5.2.2.2.1 (g := (mkF mI 35 #[.val (.ref b), .val (.ref a), .val (.int zs)] [(.ref b), (.ref b)])) rfl rfl (hb hby d26_35)
  refine own_go (T' := Tv6) (g' := (mkF mI 38 #[.val (.ref b), .val (.ref a), .val (.int zs)] [(.int n), (.ref b)])) (fun t_ kt_ => stv6 _ kt_) ?_
  refine own_go (T' := Tv6) (g' := (mkF mI 39 #[.val (.ref b), .val (.ref a), .val (.int zs)] [(.int zs), (.int n), (.ref b)])) (fun t_ kt_ => XS.iloadN Xv6.here hx rfl (hb hby d26_38) rfl kt_) ?_
  refine own_go (T' := Tv6) (g' := (mkF mI 40 #[.val (.ref b), .val (.ref a), .val (.int zs)] [(.int (n + zs)), (.ref b)])) (fun t_ kt_ => XS.iadd Xv6.here hx rfl (hb hby d26_39) rfl kt_) ?_
  rw [hm]
  obtain ⟨Tv7, hv7, Xv7, ev7, Wv7, stv7⟩ := putF Xv6 hx hZ hown (host := "") (Or.inl (hw _ (List.mem_of_getElem? (i := 119) rfl))) Via.refl ev6 Bv5.2.2.2.1 Bv5.1 (Or.inl (hw _ (List.mem_of_getElem? (i := 120) rfl))) (hw _ (List.mem_of_getElem? (i := 92) rfl)) (ty := .int) (by decide) rfl rfl (g := (mkF mI 40 #[.val (.ref b), .val (.ref a), .val (.int zs)] [(.int m), (.ref b)])) rfl rfl (hb hby d26_40)
  have Fwv7 : Fld Z hv7 b "java/lang/AbstractStringBuilder" "count" "I" (.int m) := Fld.same Wv7 Bv5.2.2.2.1
  have Ev8 := Exa.wr Wv7 Bv5.1
  have Zv11 : n0 ≤ hv7.size := Nat.le_trans Zzv5 (Nat.le_of_eq (Wr.size Wv7).symm)
  have Nv7 := Fr.snoc Xv7 Nv5a g_b
  refine own_go (T' := Tv7) (g' := (mkF mI 43 #[.val (.ref b), .val (.ref a), .val (.int zs)] [])) (fun t_ kt_ => stv7 _ kt_) ?_
  refine own_go (T' := Tv7) (g' := (mkF mI 44 #[.val (.ref b), .val (.ref a), .val (.int zs)] [(.ref b)])) (fun t_ kt_ => XS.aloadN Xv7.here hx rfl (hb hby d26_43) rfl rfl kt_) ?_
  refine own_retA Xv7 hx hlk hret rfl rfl (hb hby d26_44) (by decide) (by decide) ?_
  exact by rw [ev7]; exact ⟨rfl, Nv7, Kxv5.wr Wv7 (Or.inl (List.mem_cons_self ..)), dav3, kv3, zv3, ⟨Ev8, Fld.other Wv7 Bv5.2.1 (Or.inr (slot_ne (Or.inl (hw _ (List.mem_of_getElem? (i := 106) rfl))) (Or.inl (hw _ (List.mem_of_getElem? (i := 120) rfl))) (by decide) (t := (.array .byte)) (t' := .int) (by decide) (by decide))), Fld.other Wv7 Bv5.2.2.1 (Or.inr (slot_ne (Or.inl (hw _ (List.mem_of_getElem? (i := 108) rfl))) (Or.inl (hw _ (List.mem_of_getElem? (i := 120) rfl))) (by decide) (t := .byte) (t' := .int) (by decide) (by decide))), Fwv7, Bv5.2.2.2.2.1.other Wv7 (Ne.symm ne_bv3), Bv5.2.2.2.2.2.wr Wv7⟩, hdav3.imp And.left id, hzbv3, hzcv3⟩
theorem d25_0 : decode jdk_67_method_7_code 0 = .ok (.aload_n 0, 1) := by decide +kernel
theorem d25_1 : decode jdk_67_method_7_code 1 = .ok (.aload_n 1, 1) := by decide +kernel
theorem d25_2 : decode jdk_67_method_7_code 2 = .ok (.invokespecial 29, 3) := by decide +kernel
theorem d25_5 : decode jdk_67_method_7_code 5 = .ok (.pop, 1) := by decide +kernel
theorem d25_6 : decode jdk_67_method_7_code 6 = .ok (.aload_n 0, 1) := by decide +kernel
theorem d25_7 : decode jdk_67_method_7_code 7 = .ok (.areturn, 1) := by decide +kernel
theorem rj_appS_pn : plainFor (⟨"java/lang/StringBuilder", "append", "(Ljava/lang/String;)Ljava/lang/StringBuilder;"⟩ : MethodName) = true := plainFor_of_name (show plainName "java/lang/StringBuilder" = true by first | (simp [plainName, overriddenIn]; done) | decide +kernel)
theorem rj_appS_ef (mI : MethodId) (b : Addr) (a : Addr) : entryFrame mI #[(.ref b), (.ref a)] 2 = mkF mI 0 #[.val (.ref b), .val (.ref a)] [] := by first | (simp [entryFrame, mkF, argsToLocals, Value.category]; done) | rfl
set_option maxRecDepth 65536 in
set_option maxHeartbeats 40000000 in
theorem rj_appS (l : Launch) (Z : State) (a0 : Array Value) (hw : ∀ d ∈ tables_1, d.before a0 Z = true) (ws : List Jvm.Cond) (h0 : Heap) (n0 : Nat) (O : Old Z n0 h0) (cs : Int32) (Scs : Sta Z Z.heap "java/lang/String" "COMPACT_STRINGS" "Z" (.int cs)) (hcs : ¬ cs = 0) (Z0 : n0 ≤ h0.size) (b a : Addr) (da d : Addr) (k ks : ClassId) (z zs n m : Int32) (vs us : List Value) (B : own_SB Z h0 b da k z n vs) (S : own_St Z h0 a d ks zs us) (g_b : n0 ≤ b) (g_da : n0 ≤ da) (ne_a_b : a ≠ b) (ne_d_b : d ≠ b) (ne_d_da : d ≠ da) (hz0 : ¬ z < 0) (hzi : 0 ≤ z.toInt) (hz3 : z.toInt ≤ 300) (hvz : vs.length ≤ z.toNatClampNeg) (hn0 : ¬ n < 0) (hvn : vs.length = n.toNatClampNeg) (hs0 : ¬ zs < 0) (hsu : us.length = zs.toNatClampNeg) (hm : n + zs = m) (hm0 : 0 ≤ m.toInt) (hm1 : m.toInt ≤ 140) (hmn : m.toInt = n.toInt + zs.toInt) :
    own_Met l Z (⟨"java/lang/StringBuilder", "append", "(Ljava/lang/String;)Ljava/lang/StringBuilder;"⟩ : MethodName) jdk_67_method_7_code 2 (some (.object "java/lang/StringBuilder")) ws ({ frames := 5, cells := 1, slots := 300, locals := 76 } : Room) #[(.ref b), (.ref a)] h0 (own_QA Z h0 n0 b da m (vs ++ us)) := by
  refine own_met rj_appS_pn ?_
  intro pP eE sS mI bB mT cC s₁ hx hby hml hown hnm hret hlk hZ X0 e0
  replace hown : sS.vm.findClass "java/lang/StringBuilder" = some mI.cls := hown
  refine own_cast (rj_appS_ef mI b a) ?_
  refine own_go (T' := s₁) (g' := (mkF mI 1 #[.val (.ref b), .val (.ref a)] [(.ref b)])) (fun t_ kt_ => XS.aloadN X0.here hx rfl (hb hby d25_0) rfl rfl kt_) ?_
  refine own_go (T' := s₁) (g' := (mkF mI 2 #[.val (.ref b), .val (.ref a)] [(.ref a), (.ref b)])) (fun t_ kt_ => XS.aloadN X0.here hx rfl (hb hby d25_1) rfl rfl kt_) ?_
  refine own_callX own_closed X0 hx hZ (y := (⟨"java/lang/AbstractStringBuilder", "append", "(Ljava/lang/String;)Ljava/lang/AbstractStringBuilder;"⟩ : MethodName)) hown (hw _ (List.mem_of_getElem? (i := 142) rfl)) (hw _ (List.mem_of_getElem? (i := 143) rfl)) (hw _ (List.mem_of_getElem? (i := 116) rfl)) (hw _ (List.mem_of_getElem? (i := 125) rfl)) rfl (by decide) (by decide) (rj_asAppS l Z a0 hw [] h0 n0 O cs Scs hcs Z0 b a da d k ks z zs n m vs us B S g_b g_da ne_a_b ne_d_b ne_d_da hz0 hzi hz3 hvz hn0 hvn hs0 hsu hm hm0 hm1 hmn) (hw _ (List.mem_of_getElem? (i := 145) rfl)) (hw _ (List.mem_of_getElem? (i := 101) rfl)) e0 B.1 (pc := 2) (Ls := #[.val (.ref b), .val (.ref a)]) (argsL := [(.ref a)]) (rest := []) (by rw [hml]; rfl) (lenOf pd_14 rfl) (W := 0) (Nat.le_of_eq rfl) (by decide) (by decide) (by decide) (by decide) (hb hby d25_2) rfl rfl ?_
  intro Tw1 Lw1 vw1 Xw1 hQw1
  obtain ⟨rfl, Nw1, Kw1, Rw1⟩ := hQw1
  show own_Ends pP eE bB sS _ _ Tw1 (mkF mI 5 #[.val (.ref b), .val (.ref a)] [(.ref b)])
  refine own_go (T' := Tw1) (g' := (mkF mI 6 #[.val (.ref b), .val (.ref a)] [])) (fun t_ kt_ => XS.pop Xw1.here hx rfl (hb hby d25_5) rfl rfl kt_) ?_
  refine own_go (T' := Tw1) (g' := (mkF mI 7 #[.val (.ref b), .val (.ref a)] [(.ref b)])) (fun t_ kt_ => XS.aloadN Xw1.here hx rfl (hb hby d25_6) rfl rfl kt_) ?_
  refine own_retA Xw1 hx hlk hret rfl rfl (hb hby d25_7) (by decide) (by decide) ?_
  exact ⟨rfl, Fr.app (Fr.nil n0) Nw1, Kw1, Rw1⟩
def own_QI (Z : State) (h0 : Heap) (n0 : Nat) (b : Addr) (v : Option Value) (h : Heap) (L : List Loc) : Prop := v = none ∧ Fr n0 L ∧ Keep h0 h [b] ∧ ∃ (da : Addr) (k : ClassId), own_SB Z h b da k 16 0 [] ∧ h0.size ≤ da
theorem d20_0 : decode jdk_68_method_2_code 0 = .ok (.aload_n 0, 1) := by decide +kernel
theorem d20_1 : decode jdk_68_method_2_code 1 = .ok (.invokespecial 3, 3) := by decide +kernel
theorem d20_4 : decode jdk_68_method_2_code 4 = .ok (.getstatic 18, 3) := by decide +kernel
theorem d20_7 : decode jdk_68_method_2_code 7 = .ok (.ifCond .eq 18, 3) := by decide +kernel
theorem d20_10 : decode jdk_68_method_2_code 10 = .ok (.aload_n 0, 1) := by decide +kernel
theorem d20_11 : decode jdk_68_method_2_code 11 = .ok (.iload_n 1, 1) := by decide +kernel
theorem d20_12 : decode jdk_68_method_2_code 12 = .ok (.newarray .byte, 2) := by decide +kernel
theorem d20_14 : decode jdk_68_method_2_code 14 = .ok (.putfield 15, 3) := by decide +kernel
theorem d20_17 : decode jdk_68_method_2_code 17 = .ok (.aload_n 0, 1) := by decide +kernel
theorem d20_18 : decode jdk_68_method_2_code 18 = .ok (.iconst 0, 1) := by decide +kernel
theorem d20_19 : decode jdk_68_method_2_code 19 = .ok (.putfield 22, 3) := by decide +kernel
theorem d20_22 : decode jdk_68_method_2_code 22 = .ok (.goto 16, 3) := by decide +kernel
theorem d20_38 : decode jdk_68_method_2_code 38 = .ok (.return_, 1) := by decide +kernel
theorem rj_asInit_pn : plainFor (⟨"java/lang/AbstractStringBuilder", "<init>", "(I)V"⟩ : MethodName) = true := plainFor_of_name (show plainName "java/lang/AbstractStringBuilder" = true by first | (simp [plainName, overriddenIn]; done) | decide +kernel)
theorem rj_asInit_ef (mI : MethodId) (b : Addr) : entryFrame mI #[(.ref b), (.int (16 : Int32))] 2 = mkF mI 0 #[.val (.ref b), .val (.int (16 : Int32))] [] := by first | (simp [entryFrame, mkF, argsToLocals, Value.category]; done) | rfl
set_option maxRecDepth 65536 in
set_option maxHeartbeats 40000000 in
theorem rj_asInit (l : Launch) (Z : State) (a0 : Array Value) (hw : ∀ d ∈ tables_1, d.before a0 Z = true) (ws : List Jvm.Cond) (h0 : Heap) (n0 : Nat) (O : Old Z n0 h0) (cs : Int32) (Scs : Sta Z Z.heap "java/lang/String" "COMPACT_STRINGS" "Z" (.int cs)) (hcs : ¬ cs = 0) (Z0 : n0 ≤ h0.size) (b : Addr) (Eb : Exa Z h0 b "java/lang/StringBuilder") (Fv : Fld Z h0 b "java/lang/AbstractStringBuilder" "value" "[B" .null) (Fc : Fld Z h0 b "java/lang/AbstractStringBuilder" "coder" "B" (.int 0)) (Fn : Fld Z h0 b "java/lang/AbstractStringBuilder" "count" "I" (.int 0)) (g_b : n0 ≤ b) :
    own_Met l Z (⟨"java/lang/AbstractStringBuilder", "<init>", "(I)V"⟩ : MethodName) jdk_68_method_2_code 2 none ws ({ frames := 1, cells := 1, slots := 16, locals := 12 } : Room) #[(.ref b), (.int (16 : Int32))] h0 (own_QI Z h0 n0 b) := by
  refine own_met rj_asInit_pn ?_
  intro pP eE sS mI bB mT cC s₁ hx hby hml hown hnm hret hlk hZ X0 e0
  replace hown : sS.vm.findClass "java/lang/AbstractStringBuilder" = some mI.cls := hown
  refine own_cast (rj_asInit_ef mI b) ?_
  refine own_go (T' := s₁) (g' := (mkF mI 1 #[.val (.ref b), .val (.int (16 : Int32))] [(.ref b)])) (fun t_ kt_ => XS.aloadN X0.here hx rfl (hb hby d20_0) rfl rfl kt_) ?_
  obtain ⟨Tx1, Xx1, ex1, stx1⟩ := initO X0 hx hZ hown (hw _ (List.mem_of_getElem? (i := 103) rfl)) (hw _ (List.mem_of_getElem? (i := 34) rfl)) (hw _ (List.mem_of_getElem? (i := 35) rfl)) e0 (g := (mkF mI 1 #[.val (.ref b), .val (.int (16 : Int32))] [(.ref b)])) rfl (by rw [hml]; rfl) rfl (hb hby d20_1) (by decide) (W := 0) (by show 2 * 0 + _ ≤ _; exact Nat.le_of_eq rfl) (by decide)
  refine own_go (T' := Tx1) (g' := (mkF mI 4 #[.val (.ref b), .val (.int (16 : Int32))] [])) (fun t_ kt_ => stx1 _ kt_) ?_
  obtain ⟨Tx2, Xx2, ex2, stx2⟩ := getS2 Xx1 hx hZ hown (host := "") (Or.inl (hw _ (List.mem_of_getElem? (i := 104) rfl))) Via.refl ex1 (Sta.ext O.2 Scs) (g := (mkF mI 4 #[.val (.ref b), .val (.int (16 : Int32))] [])) rfl (hb hby d20_4)
  refine own_go (T' := Tx2) (g' := (mkF mI 7 #[.val (.ref b), .val (.int (16 : Int32))] [(.int cs)])) (fun t_ kt_ => stx2 _ kt_) ?_
  refine own_go (T' := Tx2) (g' := (mkF mI 10 #[.val (.ref b), .val (.int (16 : Int32))] [])) (fun t_ kt_ => XS.ifNo Xx2.here hx rfl (hb hby d20_7) rfl ((if0 _ _).trans (feq (hcs : ¬ (cs = (0 : Int32)))).1) kt_) ?_
  refine own_go (T' := Tx2) (g' := (mkF mI 11 #[.val (.ref b), .val (.int (16 : Int32))] [(.ref b)])) (fun t_ kt_ => XS.aloadN Xx2.here hx rfl (hb hby d20_10) rfl rfl kt_) ?_
  refine own_go (T' := Tx2) (g' := (mkF mI 12 #[.val (.ref b), .val (.int (16 : Int32))] [(.int (16 : Int32)), (.ref b)])) (fun t_ kt_ => XS.iloadN Xx2.here hx rfl (hb hby d20_11) rfl kt_) ?_
  obtain ⟨Tx3, hx3, kx3, Xx3, ex3, Exx3, Ax3, Ecx3, stx3⟩ := newPE Xx2 hx hZ (hw _ (List.mem_of_getElem? (i := 22) rfl)) ex2 (g := (mkF mI 12 #[.val (.ref b), .val (.int (16 : Int32))] [(.int (16 : Int32)), (.ref b)])) rfl (hb hby d20_12) rfl (by decide) (cap := 16) (by decide) (by decide) (by decide) (by decide) (ad := "[B") (by decide)
  obtain ⟨bx3, gx3⟩ : ∃ z, z = h0.size := ⟨_, rfl⟩
  rw [← gx3] at Ax3 Ecx3 stx3
  have ne_b_bx3 : b ≠ bx3 := Nat.ne_of_lt (Nat.lt_of_lt_of_le (Fv.lt) (Nat.le_of_eq gx3.symm))
  have g_bx3 : n0 ≤ bx3 := Nat.le_trans Z0 (Nat.le_of_eq gx3.symm)
  have sz_bx3 : h0.size ≤ bx3 := Nat.le_trans (Keep.refl h0 [b]).1 (Nat.le_of_eq gx3.symm)
  have Fx4 := Fld.ext Exx3 Fv
  have Fx5 := Fld.ext Exx3 Fc
  have Fx6 := Fld.ext Exx3 Fn
  have Ex7 := Exa.ext Exx3 Eb
  have Zx10 : n0 ≤ hx3.size := Nat.le_trans Z0 Exx3.1
  have Kx11 : Keep h0 hx3 [b] := (Keep.refl h0 [b]).ext Exx3
  have Ox12 : Old Z n0 hx3 := Old.ext O Exx3
  have Vx3 : Arv Z hx3 bx3 kx3 .byte (16 : Int32) [] (.int (0 : Int32)) := Arv.new Ax3 (by decide)
  refine own_go (T' := Tx3) (g' := (mkF mI 14 #[.val (.ref b), .val (.int (16 : Int32))] [(.ref bx3), (.ref b)])) (fun t_ kt_ => stx3 _ kt_) ?_
  obtain ⟨Tx13, hx13, Xx13, ex13, Wx13, stx13⟩ := putF Xx3 hx hZ hown (host := "") (Or.inl (hw _ (List.mem_of_getElem? (i := 105) rfl))) Via.refl ex3 Fx4 Ex7 (Or.inl (hw _ (List.mem_of_getElem? (i := 106) rfl))) (hw _ (List.mem_of_getElem? (i := 92) rfl)) (ty := (.array .byte)) (by decide) rfl rfl (g := (mkF mI 14 #[.val (.ref b), .val (.int (16 : Int32))] [(.ref bx3), (.ref b)])) rfl rfl (hb hby d20_14)
  have Fwx13 : Fld Z hx13 b "java/lang/AbstractStringBuilder" "value" "[B" (.ref bx3) := Fld.same Wx13 Fx4
  have Fx14 := Fld.other Wx13 Fx5 (Or.inr (slot_ne (Or.inl (hw _ (List.mem_of_getElem? (i := 108) rfl))) (Or.inl (hw _ (List.mem_of_getElem? (i := 106) rfl))) (by decide) (t := .byte) (t' := (.array .byte)) (by decide) (by decide)))
  have Fx15 := Fld.other Wx13 Fx6 (Or.inr (slot_ne (Or.inl (hw _ (List.mem_of_getElem? (i := 120) rfl))) (Or.inl (hw _ (List.mem_of_getElem? (i := 106) rfl))) (by decide) (t := .int) (t' := (.array .byte)) (by decide) (by decide)))
  have Ex16 := Exa.wr Wx13 Ex7
  have Ex17 := Exa.wr Wx13 Ecx3
  have Vx20 := Arv.other Vx3 Wx13 (Ne.symm ne_b_bx3)
  have Zx21 : n0 ≤ hx13.size := Nat.le_trans Zx10 (Nat.le_of_eq (Wr.size Wx13).symm)
  have Kx22 : Keep h0 hx13 [b] := Kx11.wr Wx13 (Or.inl (List.mem_of_getElem? (i := 0) rfl))
  have Ox23 : Old Z n0 hx13 := Old.wr Ox12 Wx13 g_b
  have Nx13 := Fr.snoc Xx13 (Fr.nil n0) g_b
  refine own_go (T' := Tx13) (g' := (mkF mI 17 #[.val (.ref b), .val (.int (16 : Int32))] [])) (fun t_ kt_ => stx13 _ kt_) ?_
  refine own_go (T' := Tx13) (g' := (mkF mI 18 #[.val (.ref b), .val (.int (16 : Int32))] [(.ref b)])) (fun t_ kt_ => XS.aloadN Xx13.here hx rfl (hb hby d20_17) rfl rfl kt_) ?_
  refine own_go (T' := Tx13) (g' := (mkF mI 19 #[.val (.ref b), .val (.int (16 : Int32))] [(.int (0 : Int32)), (.ref b)])) (fun t_ kt_ => XS.iconst Xx13.here hx rfl (hb hby d20_18) kt_) ?_
  obtain ⟨Tx24, hx24, Xx24, ex24, Wx24, stx24⟩ := putFN Xx13 hx hZ hown (hw _ (List.mem_of_getElem? (i := 107) rfl)) Via.refl ex13 Fx14 Ex16 (Or.inl (hw _ (List.mem_of_getElem? (i := 108) rfl))) (hw _ (List.mem_of_getElem? (i := 92) rfl)) (ty := .byte) (v' := (.int (0 : Int32))) (by decide) rfl (by decide) (g := (mkF mI 19 #[.val (.ref b), .val (.int (16 : Int32))] [(.int (0 : Int32)), (.ref b)])) rfl rfl (hb hby d20_19)
  have Fwx24 : Fld Z hx24 b "java/lang/AbstractStringBuilder" "coder" "B" (.int (0 : Int32)) := Fld.same Wx24 Fx14
  have Fx25 := Fld.other Wx24 Fwx13 (Or.inr (slot_ne (Or.inl (hw _ (List.mem_of_getElem? (i := 106) rfl))) (Or.inl (hw _ (List.mem_of_getElem? (i := 108) rfl))) (by decide) (t := (.array .byte)) (t' := .byte) (by decide) (by decide)))
  have Fx26 := Fld.other Wx24 Fx15 (Or.inr (slot_ne (Or.inl (hw _ (List.mem_of_getElem? (i := 120) rfl))) (Or.inl (hw _ (List.mem_of_getElem? (i := 108) rfl))) (by decide) (t := .int) (t' := .byte) (by decide) (by decide)))
  have Ex27 := Exa.wr Wx24 Ex16
  have Ex28 := Exa.wr Wx24 Ex17
  have Vx31 := Arv.other Vx20 Wx24 (Ne.symm ne_b_bx3)
  have Zx32 : n0 ≤ hx24.size := Nat.le_trans Zx21 (Nat.le_of_eq (Wr.size Wx24).symm)
  have Kx33 : Keep h0 hx24 [b] := Kx22.wr Wx24 (Or.inl (List.mem_of_getElem? (i := 0) rfl))
  have Ox34 : Old Z n0 hx24 := Old.wr Ox23 Wx24 g_b
  have Nx24 := Fr.snoc Xx24 Nx13 g_b
  refine own_go (T' := Tx24) (g' := (mkF mI 22 #[.val (.ref b), .val (.int (16 : Int32))] [])) (fun t_ kt_ => stx24 _ kt_) ?_
  refine own_go (T' := Tx24) (g' := (mkF mI 38 #[.val (.ref b), .val (.int (16 : Int32))] [])) (fun t_ kt_ => XS.goto Xx24.here hx rfl (pc0 := 22) (pc' := 38) rfl (hb hby d20_22) (by decide) (by decide) kt_) ?_
  refine own_retV Xx24 hx hlk hret (hb hby d20_38) (by decide) (by decide) ?_
  exact by rw [ex24]; exact ⟨rfl, Nx24, Kx33, bx3, _, ⟨Ex27, Fx25, Fwx24, Fx26, Vx31, Ex28⟩, sz_bx3⟩
theorem d19_0 : decode jdk_67_method_1_code 0 = .ok (.aload_n 0, 1) := by decide +kernel
theorem d19_1 : decode jdk_67_method_1_code 1 = .ok (.bipush 16, 2) := by decide +kernel
theorem d19_3 : decode jdk_67_method_1_code 3 = .ok (.invokespecial 1, 3) := by decide +kernel
theorem d19_6 : decode jdk_67_method_1_code 6 = .ok (.return_, 1) := by decide +kernel
theorem rj_sbInit_pn : plainFor (⟨"java/lang/StringBuilder", "<init>", "()V"⟩ : MethodName) = true := plainFor_of_name (show plainName "java/lang/StringBuilder" = true by first | (simp [plainName, overriddenIn]; done) | decide +kernel)
theorem rj_sbInit_ef (mI : MethodId) (b : Addr) : entryFrame mI #[(.ref b)] 1 = mkF mI 0 #[.val (.ref b)] [] := by first | (simp [entryFrame, mkF, argsToLocals, Value.category]; done) | rfl
set_option maxRecDepth 65536 in
set_option maxHeartbeats 40000000 in
theorem rj_sbInit (l : Launch) (Z : State) (a0 : Array Value) (hw : ∀ d ∈ tables_1, d.before a0 Z = true) (ws : List Jvm.Cond) (h0 : Heap) (n0 : Nat) (O : Old Z n0 h0) (cs : Int32) (Scs : Sta Z Z.heap "java/lang/String" "COMPACT_STRINGS" "Z" (.int cs)) (hcs : ¬ cs = 0) (Z0 : n0 ≤ h0.size) (b : Addr) (Eb : Exa Z h0 b "java/lang/StringBuilder") (Fv : Fld Z h0 b "java/lang/AbstractStringBuilder" "value" "[B" .null) (Fc : Fld Z h0 b "java/lang/AbstractStringBuilder" "coder" "B" (.int 0)) (Fn : Fld Z h0 b "java/lang/AbstractStringBuilder" "count" "I" (.int 0)) (g_b : n0 ≤ b) :
    own_Met l Z (⟨"java/lang/StringBuilder", "<init>", "()V"⟩ : MethodName) jdk_67_method_1_code 1 none ws ({ frames := 2, cells := 1, slots := 16, locals := 25 } : Room) #[(.ref b)] h0 (own_QI Z h0 n0 b) := by
  refine own_met rj_sbInit_pn ?_
  intro pP eE sS mI bB mT cC s₁ hx hby hml hown hnm hret hlk hZ X0 e0
  replace hown : sS.vm.findClass "java/lang/StringBuilder" = some mI.cls := hown
  refine own_cast (rj_sbInit_ef mI b) ?_
  refine own_go (T' := s₁) (g' := (mkF mI 1 #[.val (.ref b)] [(.ref b)])) (fun t_ kt_ => XS.aloadN X0.here hx rfl (hb hby d19_0) rfl rfl kt_) ?_
  refine own_go (T' := s₁) (g' := (mkF mI 3 #[.val (.ref b)] [(.int (16 : Int32)), (.ref b)])) (fun t_ kt_ => XS.bipush X0.here hx rfl (hb hby d19_1) kt_) ?_
  refine own_callI own_closed X0 hx hZ (y := (⟨"java/lang/AbstractStringBuilder", "<init>", "(I)V"⟩ : MethodName)) rfl hown (hw _ (List.mem_of_getElem? (i := 97) rfl)) (hw _ (List.mem_of_getElem? (i := 98) rfl)) (by decide) (rj_asInit l Z a0 hw [] h0 n0 O cs Scs hcs Z0 b Eb Fv Fc Fn g_b) (hw _ (List.mem_of_getElem? (i := 102) rfl)) (hw _ (List.mem_of_getElem? (i := 101) rfl)) (b := b) e0 (pc := 3) (Ls := #[.val (.ref b)]) (argsL := [(.int (16 : Int32))]) (rest := []) (by rw [hml]; rfl) (lenOf pd_12 rfl) (W := 0) (Nat.le_of_eq rfl) (by decide) (by decide) (by decide) (by decide) (hb hby d19_3) rfl rfl ?_
  intro Ty1 Ly1 vy1 Xy1 hQy1
  obtain ⟨rfl, Ny1, Ky1, Ry1⟩ := hQy1
  show own_Ends pP eE bB sS _ _ Ty1 (mkF mI 6 #[.val (.ref b)] [])
  refine own_retV Xy1 hx hlk hret (hb hby d19_6) (by decide) (by decide) ?_
  exact ⟨rfl, Fr.app (Fr.nil n0) Ny1, Ky1, Ry1⟩
theorem d38_0 : decode jdk_65_method_131_code 0 = .ok (.iload_n 1, 1) := by decide +kernel
theorem d38_1 : decode jdk_65_method_131_code 1 = .ok (.iload_n 0, 1) := by decide +kernel
theorem d38_2 : decode jdk_65_method_131_code 2 = .ok (.if_icmp .ge 35, 3) := by decide +kernel
theorem d38_37 : decode jdk_65_method_131_code 37 = .ok (.return_, 1) := by decide +kernel
theorem rj_chkLen_pn : plainFor (⟨"java/util/Arrays", "checkLength", "(II)V"⟩ : MethodName) = true := plainFor_of_name (show plainName "java/util/Arrays" = true by first | (simp [plainName, overriddenIn]; done) | decide +kernel)
theorem rj_chkLen_ef (mI : MethodId) (i : Int32) (j : Int32) : entryFrame mI #[(.int i), (.int j)] 2 = mkF mI 0 #[.val (.int i), .val (.int j)] [] := by first | (simp [entryFrame, mkF, argsToLocals, Value.category]; done) | rfl
set_option maxRecDepth 65536 in
set_option maxHeartbeats 40000000 in
theorem rj_chkLen (l : Launch) (Z : State) (a0 : Array Value) (hw : ∀ d ∈ tables_1, d.before a0 Z = true) (ws : List Jvm.Cond) (h0 : Heap) (i j : Int32) (hij : ¬ j < i) :
    own_Met l Z (⟨"java/util/Arrays", "checkLength", "(II)V"⟩ : MethodName) jdk_65_method_131_code 2 none ws ({ frames := 0, cells := 0, slots := 0, locals := 0 } : Room) #[(.int i), (.int j)] h0 (own_QP h0 none) := by
  refine own_met rj_chkLen_pn ?_
  intro pP eE sS mI bB mT cC s₁ hx hby hml hown hnm hret hlk hZ X0 e0
  replace hown : sS.vm.findClass "java/util/Arrays" = some mI.cls := hown
  refine own_cast (rj_chkLen_ef mI i j) ?_
  refine own_go (T' := s₁) (g' := (mkF mI 1 #[.val (.int i), .val (.int j)] [(.int j)])) (fun t_ kt_ => XS.iloadN X0.here hx rfl (hb hby d38_0) rfl kt_) ?_
  refine own_go (T' := s₁) (g' := (mkF mI 2 #[.val (.int i), .val (.int j)] [(.int i), (.int j)])) (fun t_ kt_ => XS.iloadN X0.here hx rfl (hb hby d38_1) rfl kt_) ?_
  refine own_go (T' := s₁) (g' := (mkF mI 37 #[.val (.int i), .val (.int j)] [])) (fun t_ kt_ => XS.icmpYes X0.here hx rfl (pc0 := 2) (pc' := 37) rfl (hb hby d38_2) rfl (flt (hij : ¬ (j < i))).2.1 (by decide) (by decide) kt_) ?_
  refine own_retV X0 hx hlk hret (hb hby d38_37) (by decide) (by decide) ?_
  exact ⟨rfl, rfl, e0⟩
theorem d37_0 : decode jdk_65_method_133_code 0 = .ok (.iload_n 1, 1) := by decide +kernel
theorem d37_1 : decode jdk_65_method_133_code 1 = .ok (.iload_n 2, 1) := by decide +kernel
theorem d37_2 : decode jdk_65_method_133_code 2 = .ok (.invokestatic 343, 3) := by decide +kernel
theorem d37_5 : decode jdk_65_method_133_code 5 = .ok (.iload_n 2, 1) := by decide +kernel
theorem d37_6 : decode jdk_65_method_133_code 6 = .ok (.iload_n 1, 1) := by decide +kernel
theorem d37_7 : decode jdk_65_method_133_code 7 = .ok (.isub, 1) := by decide +kernel
theorem d37_8 : decode jdk_65_method_133_code 8 = .ok (.istore_n 3, 1) := by decide +kernel
theorem d37_9 : decode jdk_65_method_133_code 9 = .ok (.iload_n 3, 1) := by decide +kernel
theorem d37_10 : decode jdk_65_method_133_code 10 = .ok (.newarray .byte, 2) := by decide +kernel
theorem d37_12 : decode jdk_65_method_133_code 12 = .ok (.astore 4, 2) := by decide +kernel
theorem d37_14 : decode jdk_65_method_133_code 14 = .ok (.aload_n 0, 1) := by decide +kernel
theorem d37_15 : decode jdk_65_method_133_code 15 = .ok (.iload_n 1, 1) := by decide +kernel
theorem d37_16 : decode jdk_65_method_133_code 16 = .ok (.aload 4, 2) := by decide +kernel
theorem d37_18 : decode jdk_65_method_133_code 18 = .ok (.iconst 0, 1) := by decide +kernel
theorem d37_19 : decode jdk_65_method_133_code 19 = .ok (.aload_n 0, 1) := by decide +kernel
theorem d37_20 : decode jdk_65_method_133_code 20 = .ok (.arraylength, 1) := by decide +kernel
theorem d37_21 : decode jdk_65_method_133_code 21 = .ok (.iload_n 1, 1) := by decide +kernel
theorem d37_22 : decode jdk_65_method_133_code 22 = .ok (.isub, 1) := by decide +kernel
theorem d37_23 : decode jdk_65_method_133_code 23 = .ok (.iload_n 3, 1) := by decide +kernel
theorem d37_24 : decode jdk_65_method_133_code 24 = .ok (.invokestatic 304, 3) := by decide +kernel
theorem d37_27 : decode jdk_65_method_133_code 27 = .ok (.invokestatic 150, 3) := by decide +kernel
theorem d37_30 : decode jdk_65_method_133_code 30 = .ok (.aload 4, 2) := by decide +kernel
theorem d37_32 : decode jdk_65_method_133_code 32 = .ok (.areturn, 1) := by decide +kernel
theorem rj_crb_pn : plainFor (⟨"java/util/Arrays", "copyOfRangeByte", "([BII)[B"⟩ : MethodName) = true := plainFor_of_name (show plainName "java/util/Arrays" = true by first | (simp [plainName, overriddenIn]; done) | decide +kernel)
theorem rj_crb_ef (mI : MethodId) (d : Addr) (n : Int32) : entryFrame mI #[(.ref d), (.int (0 : Int32)), (.int n)] 5 = mkF mI 0 #[.val (.ref d), .val (.int (0 : Int32)), .val (.int n), .unset, .unset] [] := by first | (simp [entryFrame, mkF, argsToLocals, Value.category]; done) | rfl
set_option maxRecDepth 65536 in
set_option maxHeartbeats 40000000 in
theorem rj_crb (l : Launch) (Z : State) (a0 : Array Value) (hw : ∀ d ∈ tables_1, d.before a0 Z = true) (ws : List Jvm.Cond) (h0 : Heap) (n0 : Nat) (Z0 : n0 ≤ h0.size) (d : Addr) (n : Int32) (k : ClassId) (z : Int32) (vs : List Value) (V : Arv Z h0 d k .byte z vs (.int 0)) (hvn : vs.length = n.toNatClampNeg) (hn0 : ¬ n < 0) (hn1 : n.toNatClampNeg ≤ 300) (hnz : n < z) :
    own_Met l Z (⟨"java/util/Arrays", "copyOfRangeByte", "([BII)[B"⟩ : MethodName) jdk_65_method_133_code 5 (some (.array .byte)) ws ({ frames := 1, cells := 1, slots := 300, locals := 18 } : Room) #[(.ref d), (.int (0 : Int32)), (.int n)] h0 (own_QF Z h0 n0 n vs) := by
  refine own_met rj_crb_pn ?_
  intro pP eE sS mI bB mT cC s₁ hx hby hml hown hnm hret hlk hZ X0 e0
  replace hown : sS.vm.findClass "java/util/Arrays" = some mI.cls := hown
  refine own_cast (rj_crb_ef mI d n) ?_
  have hnz' : n.toNatClampNeg < z.toNatClampNeg := own_ltN (Int32.lt_iff_toInt_lt.mp hnz) hn0
  refine own_go (T' := s₁) (g' := (mkF mI 1 #[.val (.ref d), .val (.int (0 : Int32)), .val (.int n), .unset, .unset] [(.int (0 : Int32))])) (fun t_ kt_ => XS.iloadN X0.here hx rfl (hb hby d37_0) rfl kt_) ?_
  refine own_go (T' := s₁) (g' := (mkF mI 2 #[.val (.ref d), .val (.int (0 : Int32)), .val (.int n), .unset, .unset] [(.int n), (.int (0 : Int32))])) (fun t_ kt_ => XS.iloadN X0.here hx rfl (hb hby d37_1) rfl kt_) ?_
  refine own_callS own_closed X0 hx hZ (y := (⟨"java/util/Arrays", "checkLength", "(II)V"⟩ : MethodName)) hown (hw _ (List.mem_of_getElem? (i := 200) rfl)) (hw _ (List.mem_of_getElem? (i := 201) rfl)) (by decide) (rj_chkLen l Z a0 hw [] h0 (0 : Int32) n hn0) (hw _ (List.mem_of_getElem? (i := 202) rfl)) (hw _ (List.mem_of_getElem? (i := 195) rfl)) e0 (pc := 2) (Ls := #[.val (.ref d), .val (.int (0 : Int32)), .val (.int n), .unset, .unset]) (argsL := [(.int (0 : Int32)), (.int n)]) (rest := []) (by rw [hml]; rfl) (lenOf pd_2 rfl) (W := 0) (Nat.le_of_eq rfl) (by decide) (by decide) (by decide) (by decide) (hb hby d37_2) rfl rfl ?_
  intro TA1 LA1 vA1 XA1 hQA1
  obtain ⟨rfl, rfl, eA1⟩ := hQA1
  show own_Ends pP eE bB sS _ _ TA1 (mkF mI 5 #[.val (.ref d), .val (.int (0 : Int32)), .val (.int n), .unset, .unset] [])
  refine own_go (T' := TA1) (g' := (mkF mI 6 #[.val (.ref d), .val (.int (0 : Int32)), .val (.int n), .unset, .unset] [(.int n)])) (fun t_ kt_ => XS.iloadN XA1.here hx rfl (hb hby d37_5) rfl kt_) ?_
  refine own_go (T' := TA1) (g' := (mkF mI 7 #[.val (.ref d), .val (.int (0 : Int32)), .val (.int n), .unset, .unset] [(.int (0 : Int32)), (.int n)])) (fun t_ kt_ => XS.iloadN XA1.here hx rfl (hb hby d37_6) rfl kt_) ?_
  refine own_go (T' := TA1) (g' := (mkF mI 8 #[.val (.ref d), .val (.int (0 : Int32)), .val (.int n), .unset, .unset] [(.int (n - (0 : Int32)))])) (fun t_ kt_ => XS.isub XA1.here hx rfl (hb hby d37_7) rfl kt_) ?_
  rw [own_sub0]
  refine own_go (T' := TA1) (g' := (mkF mI 9 #[.val (.ref d), .val (.int (0 : Int32)), .val (.int n), .val (.int n), .unset] [])) (fun t_ kt_ => XS.istoreN XA1.here hx rfl (hb hby d37_8) rfl (l' := #[.val (.ref d), .val (.int (0 : Int32)), .val (.int n), .val (.int n), .unset]) rfl kt_) ?_
  refine own_go (T' := TA1) (g' := (mkF mI 10 #[.val (.ref d), .val (.int (0 : Int32)), .val (.int n), .val (.int n), .unset] [(.int n)])) (fun t_ kt_ => XS.iloadN XA1.here hx rfl (hb hby d37_9) rfl kt_) ?_
  obtain ⟨TA2, hA2, kA2, XA2, eA2, ExA2, AA2, EcA2, stA2⟩ := newPE XA1 hx hZ (hw _ (List.mem_of_getElem? (i := 22) rfl)) eA1 (g := (mkF mI 10 #[.val (.ref d), .val (.int (0 : Int32)), .val (.int n), .val (.int n), .unset] [(.int n)])) rfl (hb hby d37_10) rfl hn0 (cap := 300) hn1 (by decide) (by decide) (by decide) (ad := "[B") (by decide)
  obtain ⟨bA2, gA2⟩ : ∃ z, z = h0.size := ⟨_, rfl⟩
  rw [← gA2] at AA2 EcA2 stA2
  have ne_d_bA2 : d ≠ bA2 := Nat.ne_of_lt (Nat.lt_of_lt_of_le (V.lt) (Nat.le_of_eq gA2.symm))
  have g_bA2 : n0 ≤ bA2 := Nat.le_trans Z0 (Nat.le_of_eq gA2.symm)
  have sz_bA2 : h0.size ≤ bA2 := Nat.le_trans (Keep.refl h0 []).1 (Nat.le_of_eq gA2.symm)
  have VA3 := Arv.ext V ExA2
  have ZA4 : n0 ≤ hA2.size := Nat.le_trans Z0 ExA2.1
  have KA5 : Keep h0 hA2 [] := (Keep.refl h0 []).ext ExA2
  have VA2 : Arv Z hA2 bA2 kA2 .byte n [] (.int (0 : Int32)) := Arv.new AA2 hn0
  refine own_go (T' := TA2) (g' := (mkF mI 12 #[.val (.ref d), .val (.int (0 : Int32)), .val (.int n), .val (.int n), .unset] [(.ref bA2)])) (fun t_ kt_ => stA2 _ kt_) ?_
  refine own_go (T' := TA2) (g' := (mkF mI 14 #[.val (.ref d), .val (.int (0 : Int32)), .val (.int n), .val (.int n), .val (.ref bA2)] [])) (fun t_ kt_ => XS.astore XA2.here hx rfl (hb hby d37_12) rfl rfl (l' := #[.val (.ref d), .val (.int (0 : Int32)), .val (.int n), .val (.int n), .val (.ref bA2)]) rfl kt_) ?_
  refine own_go (T' := TA2) (g' := (mkF mI 15 #[.val (.ref d), .val (.int (0 : Int32)), .val (.int n), .val (.int n), .val (.ref bA2)] [(.ref d)])) (fun t_ kt_ => XS.aloadN XA2.here hx rfl (hb hby d37_14) rfl rfl kt_) ?_
  refine own_go (T' := TA2) (g' := (mkF mI 16 #[.val (.ref d), .val (.int (0 : Int32)), .val (.int n), .val (.int n), .val (.ref bA2)] [(.int (0 : Int32)), (.ref d)])) (fun t_ kt_ => XS.iloadN XA2.here hx rfl (hb hby d37_15) rfl kt_) ?_
  refine own_go (T' := TA2) (g' := (mkF mI 18 #[.val (.ref d), .val (.int (0 : Int32)), .val (.int n), .val (.int n), .val (.ref bA2)] [(.ref bA2), (.int (0 : Int32)), (.ref d)])) (fun t_ kt_ => XS.aload XA2.here hx rfl (hb hby d37_16) rfl rfl kt_) ?_
  refine own_go (T' := TA2) (g' := (mkF mI 19 #[.val (.ref d), .val (.int (0 : Int32)), .val (.int n), .val (.int n), .val (.ref bA2)] [(.int (0 : Int32)), (.ref bA2), (.int (0 : Int32)), (.ref d)])) (fun t_ kt_ => XS.iconst XA2.here hx rfl (hb hby d37_18) kt_) ?_
  refine own_go (T' := TA2) (g' := (mkF mI 20 #[.val (.ref d), .val (.int (0 : Int32)), .val (.int n), .val (.int n), .val (.ref bA2)] [(.ref d), (.int (0 : Int32)), (.ref bA2), (.int (0 : Int32)), (.ref d)])) (fun t_ kt_ => XS.aloadN XA2.here hx rfl (hb hby d37_19) rfl rfl kt_) ?_
  obtain ⟨clA6, ArA6, qA6, SA6, NgA6, HA6, GA6⟩ := id VA3
  refine own_go (T' := TA2) (g' := (mkF mI 21 #[.val (.ref d), .val (.int (0 : Int32)), .val (.int n), .val (.int n), .val (.ref bA2)] [(.int z), (.int (0 : Int32)), (.ref bA2), (.int (0 : Int32)), (.ref d)])) (fun t_ kt_ => own_len XA2 hx hZ eA2 ArA6 (len_of SA6 NgA6) (g := (mkF mI 20 #[.val (.ref d), .val (.int (0 : Int32)), .val (.int n), .val (.int n), .val (.ref bA2)] [(.ref d), (.int (0 : Int32)), (.ref bA2), (.int (0 : Int32)), (.ref d)])) rfl rfl (hb hby d37_20) _ kt_) ?_
  refine own_go (T' := TA2) (g' := (mkF mI 22 #[.val (.ref d), .val (.int (0 : Int32)), .val (.int n), .val (.int n), .val (.ref bA2)] [(.int (0 : Int32)), (.int z), (.int (0 : Int32)), (.ref bA2), (.int (0 : Int32)), (.ref d)])) (fun t_ kt_ => XS.iloadN XA2.here hx rfl (hb hby d37_21) rfl kt_) ?_
  refine own_go (T' := TA2) (g' := (mkF mI 23 #[.val (.ref d), .val (.int (0 : Int32)), .val (.int n), .val (.int n), .val (.ref bA2)] [(.int (z - (0 : Int32))), (.int (0 : Int32)), (.ref bA2), (.int (0 : Int32)), (.ref d)])) (fun t_ kt_ => XS.isub XA2.here hx rfl (hb hby d37_22) rfl kt_) ?_
  rw [own_sub0]
  refine own_go (T' := TA2) (g' := (mkF mI 24 #[.val (.ref d), .val (.int (0 : Int32)), .val (.int n), .val (.int n), .val (.ref bA2)] [(.int n), (.int z), (.int (0 : Int32)), (.ref bA2), (.int (0 : Int32)), (.ref d)])) (fun t_ kt_ => XS.iloadN XA2.here hx rfl (hb hby d37_23) rfl kt_) ?_
  refine own_callS own_closed XA2 hx hZ (y := (⟨"java/lang/Math", "min", "(II)I"⟩ : MethodName)) hown (hw _ (List.mem_of_getElem? (i := 203) rfl)) (hw _ (List.mem_of_getElem? (i := 204) rfl)) (by decide) (rj_min l Z a0 hw [] hA2 z n) (hw _ (List.mem_of_getElem? (i := 206) rfl)) (hw _ (List.mem_of_getElem? (i := 205) rfl)) eA2 (pc := 24) (Ls := #[.val (.ref d), .val (.int (0 : Int32)), .val (.int n), .val (.int n), .val (.ref bA2)]) (argsL := [(.int z), (.int n)]) (rest := [(.int (0 : Int32)), (.ref bA2), (.int (0 : Int32)), (.ref d)]) (by rw [hml]; rfl) (lenOf pd_5 rfl) (W := 4) (Nat.le_of_eq rfl) (by decide) (by decide) (by decide) (by decide) (hb hby d37_24) rfl rfl ?_
  intro TA7 LA7 vA7 XA7 hQA7
  obtain ⟨qA7, rfl, eA7⟩ := hQA7
  rw [show own_min z n = n by simp [own_min, hnz]] at qA7; subst qA7
  show own_Ends pP eE bB sS _ _ TA7 (mkF mI 27 #[.val (.ref d), .val (.int (0 : Int32)), .val (.int n), .val (.int n), .val (.ref bA2)] [(.int n), (.int (0 : Int32)), (.ref bA2), (.int (0 : Int32)), (.ref d)])
  have VpA8 : Arv Z hA2 bA2 kA2 .byte n (List.replicate n.toNatClampNeg (.int 0)) (.int 0) := Arv.pad VA2 (pad_rep [] _ _)
  obtain ⟨TA9, hA9, LA9, XA9, eA9, NA9, KcA9, VcA9, stA9⟩ := cpA XA7 hx hZ hown (hw _ (List.mem_of_getElem? (i := 207) rfl)) (hw _ (List.mem_of_getElem? (i := 166) rfl)) (hw _ (List.mem_of_getElem? (i := 164) rfl)) (hw _ (List.mem_of_getElem? (i := 165) rfl)) eA7 VA3 VpA8 (Or.inl ⟨rfl, rfl⟩) (by decide) (by decide) hn0 (by show 0 + _ ≤ _; omega) (by show 0 + _ ≤ _; omega) rfl (by rw [List.length_replicate]; show 0 + _ ≤ _; omega) (Fr.nil n0) g_bA2 (g := (mkF mI 27 #[.val (.ref d), .val (.int (0 : Int32)), .val (.int n), .val (.int n), .val (.ref bA2)] [(.int n), (.int (0 : Int32)), (.ref bA2), (.int (0 : Int32)), (.ref d)])) rfl (by rw [hml]; rfl) rfl (hb hby d37_27) (by decide) (W := 0) (by show 2 * 0 + _ ≤ _; exact Nat.le_of_eq rfl) (by decide)
  have VA9 : Arv Z hA9 bA2 kA2 .byte n vs (.int 0) := Arv.pad VcA9 (own_copyList rfl rfl (by omega))
  have EA10 := Exa.keep EcA2 KcA9
  have VA11 := Arv.keep VA3 KcA9 (ninS ne_d_bA2 nin0)
  have ZA12 : n0 ≤ hA9.size := Nat.le_trans ZA4 KcA9.1
  have KA13 : Keep h0 hA9 [] := KA5.trans KcA9 (allS (Or.inr sz_bA2) all0)
  refine own_go (T' := TA9) (g' := (mkF mI 30 #[.val (.ref d), .val (.int (0 : Int32)), .val (.int n), .val (.int n), .val (.ref bA2)] [])) (fun t_ kt_ => stA9 _ kt_) ?_
  refine own_go (T' := TA9) (g' := (mkF mI 32 #[.val (.ref d), .val (.int (0 : Int32)), .val (.int n), .val (.int n), .val (.ref bA2)] [(.ref bA2)])) (fun t_ kt_ => XS.aload XA9.here hx rfl (hb hby d37_30) rfl rfl kt_) ?_
  refine own_retA XA9 hx hlk hret rfl rfl (hb hby d37_32) (by decide) (by decide) ?_
  exact ⟨bA2, _, rfl, NA9, by rw [eA9]; exact KA13, sz_bA2, by rw [eA9]; exact ⟨VA9, EA10⟩⟩
theorem d36_0 : decode jdk_65_method_132_code 0 = .ok (.iload_n 1, 1) := by decide +kernel
theorem d36_1 : decode jdk_65_method_132_code 1 = .ok (.ifCond .ne 9, 3) := by decide +kernel
theorem d36_4 : decode jdk_65_method_132_code 4 = .ok (.iload_n 2, 1) := by decide +kernel
theorem d36_5 : decode jdk_65_method_132_code 5 = .ok (.aload_n 0, 1) := by decide +kernel
theorem d36_6 : decode jdk_65_method_132_code 6 = .ok (.arraylength, 1) := by decide +kernel
theorem d36_7 : decode jdk_65_method_132_code 7 = .ok (.if_icmp .eq 10, 3) := by decide +kernel
theorem d36_10 : decode jdk_65_method_132_code 10 = .ok (.aload_n 0, 1) := by decide +kernel
theorem d36_11 : decode jdk_65_method_132_code 11 = .ok (.iload_n 1, 1) := by decide +kernel
theorem d36_12 : decode jdk_65_method_132_code 12 = .ok (.iload_n 2, 1) := by decide +kernel
theorem d36_13 : decode jdk_65_method_132_code 13 = .ok (.invokestatic 339, 3) := by decide +kernel
theorem d36_16 : decode jdk_65_method_132_code 16 = .ok (.areturn, 1) := by decide +kernel
theorem d36_17 : decode jdk_65_method_132_code 17 = .ok (.aload_n 0, 1) := by decide +kernel
theorem d36_18 : decode jdk_65_method_132_code 18 = .ok (.invokevirtual 310, 3) := by decide +kernel
theorem d36_21 : decode jdk_65_method_132_code 21 = .ok (.checkcast 311, 3) := by decide +kernel
theorem d36_24 : decode jdk_65_method_132_code 24 = .ok (.areturn, 1) := by decide +kernel
theorem rj_cor_pn : plainFor (⟨"java/util/Arrays", "copyOfRange", "([BII)[B"⟩ : MethodName) = true := plainFor_of_name (show plainName "java/util/Arrays" = true by first | (simp [plainName, overriddenIn]; done) | decide +kernel)
theorem rj_cor_ef (mI : MethodId) (d : Addr) (n : Int32) : entryFrame mI #[(.ref d), (.int (0 : Int32)), (.int n)] 3 = mkF mI 0 #[.val (.ref d), .val (.int (0 : Int32)), .val (.int n)] [] := by first | (simp [entryFrame, mkF, argsToLocals, Value.category]; done) | rfl
set_option maxRecDepth 65536 in
set_option maxHeartbeats 40000000 in
theorem rj_cor (l : Launch) (Z : State) (a0 : Array Value) (hw : ∀ d ∈ tables_1, d.before a0 Z = true) (ws : List Jvm.Cond) (h0 : Heap) (n0 : Nat) (Z0 : n0 ≤ h0.size) (d : Addr) (n : Int32) (k : ClassId) (z : Int32) (vs : List Value) (V : Arv Z h0 d k .byte z vs (.int 0)) (hvn : vs.length = n.toNatClampNeg) (hn0 : ¬ n < 0) (hn1 : n.toNatClampNeg ≤ 300) (Ed : Exa Z h0 d "[B") (hzn : ¬ z < n) :
    own_Met l Z (⟨"java/util/Arrays", "copyOfRange", "([BII)[B"⟩ : MethodName) jdk_65_method_132_code 3 (some (.array .byte)) ws ({ frames := 2, cells := 1, slots := 300, locals := 34 } : Room) #[(.ref d), (.int (0 : Int32)), (.int n)] h0 (own_QF Z h0 n0 n vs) := by
  refine own_met rj_cor_pn ?_
  intro pP eE sS mI bB mT cC s₁ hx hby hml hown hnm hret hlk hZ X0 e0
  replace hown : sS.vm.findClass "java/util/Arrays" = some mI.cls := hown
  refine own_cast (rj_cor_ef mI d n) ?_
  refine own_go (T' := s₁) (g' := (mkF mI 1 #[.val (.ref d), .val (.int (0 : Int32)), .val (.int n)] [(.int (0 : Int32))])) (fun t_ kt_ => XS.iloadN X0.here hx rfl (hb hby d36_0) rfl kt_) ?_
  refine own_go (T' := s₁) (g' := (mkF mI 4 #[.val (.ref d), .val (.int (0 : Int32)), .val (.int n)] [])) (fun t_ kt_ => XS.ifNo X0.here hx rfl (hb hby d36_1) rfl ((if0 _ _).trans (teq (by decide : (0 : Int32) = (0 : Int32))).2) kt_) ?_
  refine own_go (T' := s₁) (g' := (mkF mI 5 #[.val (.ref d), .val (.int (0 : Int32)), .val (.int n)] [(.int n)])) (fun t_ kt_ => XS.iloadN X0.here hx rfl (hb hby d36_4) rfl kt_) ?_
  refine own_go (T' := s₁) (g' := (mkF mI 6 #[.val (.ref d), .val (.int (0 : Int32)), .val (.int n)] [(.ref d), (.int n)])) (fun t_ kt_ => XS.aloadN X0.here hx rfl (hb hby d36_5) rfl rfl kt_) ?_
  obtain ⟨clB1, ArB1, qB1, SB1, NgB1, HB1, GB1⟩ := id V
  refine own_go (T' := s₁) (g' := (mkF mI 7 #[.val (.ref d), .val (.int (0 : Int32)), .val (.int n)] [(.int z), (.int n)])) (fun t_ kt_ => own_len X0 hx hZ e0 ArB1 (len_of SB1 NgB1) (g := (mkF mI 6 #[.val (.ref d), .val (.int (0 : Int32)), .val (.int n)] [(.ref d), (.int n)])) rfl rfl (hb hby d36_6) _ kt_) ?_
  by_cases hc7_B2 : n = z
  · skip
    refine own_go (T' := s₁) (g' := (mkF mI 17 #[.val (.ref d), .val (.int (0 : Int32)), .val (.int n)] [])) (fun t_ kt_ => XS.icmpYes X0.here hx rfl (pc0 := 7) (pc' := 17) rfl (hb hby d36_7) rfl (teq hc7_B2).1 (by decide) (by decide) kt_) ?_
    refine own_go (T' := s₁) (g' := (mkF mI 18 #[.val (.ref d), .val (.int (0 : Int32)), .val (.int n)] [(.ref d)])) (fun t_ kt_ => XS.aloadN X0.here hx rfl (hb hby d36_17) rfl rfl kt_) ?_
    have EdB3 : Exa Z h0 d "[B" := Ed
    obtain ⟨TB3, hB3, XB3, eB3, ExB3, AB3, EcB3, stB3⟩ := cloneH X0 hx hZ hown (hw _ (List.mem_of_getElem? (i := 226) rfl)) (hw _ (List.mem_of_getElem? (i := 227) rfl)) (hw _ (List.mem_of_getElem? (i := 231) rfl)) (hw _ (List.mem_of_getElem? (i := 229) rfl)) (hw _ (List.mem_of_getElem? (i := 230) rfl)) (hw _ (List.mem_of_getElem? (i := 232) rfl)) e0 V.arh EdB3 (g := (mkF mI 18 #[.val (.ref d), .val (.int (0 : Int32)), .val (.int n)] [(.ref d)])) rfl (by rw [hml]; rfl) (rest := []) rfl (hb hby d36_18) (by decide) (W := 0) (cap := 300) (by show 2 * 0 + 0 ≤ 0; decide) (by decide) (by rw [← hc7_B2]; exact hn1) (by decide) (by decide)
    obtain ⟨bB3, gB3⟩ : ∃ z, z = h0.size := ⟨_, rfl⟩
    rw [← gB3] at AB3 EcB3 stB3
    refine own_go (T' := TB3) (g' := (mkF mI 21 #[.val (.ref d), .val (.int (0 : Int32)), .val (.int n)] [(.ref bB3)])) (fun t_ kt_ => stB3 _ kt_) ?_
    obtain ⟨TB5, XB5, eB5, stB5⟩ := castY XB3 hx hZ hown (hw _ (List.mem_of_getElem? (i := 233) rfl)) eB3 (Ins.self EcB3) (g := (mkF mI 21 #[.val (.ref d), .val (.int (0 : Int32)), .val (.int n)] [(.ref bB3)])) rfl rfl (hb hby d36_21)
    refine own_go (T' := TB5) (g' := (mkF mI 24 #[.val (.ref d), .val (.int (0 : Int32)), .val (.int n)] [(.ref bB3)])) (fun t_ kt_ => stB5 _ kt_) ?_
    refine own_retA XB5 hx hlk hret rfl rfl (hb hby d36_24) (by decide) (by decide) ?_
    exact by rw [eB5]; exact ⟨bB3, _, rfl, Fr.nil n0, (Keep.refl h0 []).ext ExB3, Nat.le_of_eq gB3.symm, by rw [hc7_B2]; exact ⟨AB3, EcB3⟩⟩
  · skip
    refine own_go (T' := s₁) (g' := (mkF mI 10 #[.val (.ref d), .val (.int (0 : Int32)), .val (.int n)] [])) (fun t_ kt_ => XS.icmpNo X0.here hx rfl (hb hby d36_7) rfl (feq hc7_B2).1 kt_) ?_
    refine own_go (T' := s₁) (g' := (mkF mI 11 #[.val (.ref d), .val (.int (0 : Int32)), .val (.int n)] [(.ref d)])) (fun t_ kt_ => XS.aloadN X0.here hx rfl (hb hby d36_10) rfl rfl kt_) ?_
    refine own_go (T' := s₁) (g' := (mkF mI 12 #[.val (.ref d), .val (.int (0 : Int32)), .val (.int n)] [(.int (0 : Int32)), (.ref d)])) (fun t_ kt_ => XS.iloadN X0.here hx rfl (hb hby d36_11) rfl kt_) ?_
    refine own_go (T' := s₁) (g' := (mkF mI 13 #[.val (.ref d), .val (.int (0 : Int32)), .val (.int n)] [(.int n), (.int (0 : Int32)), (.ref d)])) (fun t_ kt_ => XS.iloadN X0.here hx rfl (hb hby d36_12) rfl kt_) ?_
    refine own_callS own_closed X0 hx hZ (y := (⟨"java/util/Arrays", "copyOfRangeByte", "([BII)[B"⟩ : MethodName)) hown (hw _ (List.mem_of_getElem? (i := 197) rfl)) (hw _ (List.mem_of_getElem? (i := 198) rfl)) (by decide) (rj_crb l Z a0 hw [] h0 n0 Z0 d n k z vs V hvn hn0 hn1 (own_lt (by have q := hc7_B2; have q2 : ¬ n.toInt = z.toInt := fun u => q (Int32.toInt_inj.mp u); rw [Int32.lt_iff_toInt_lt] at hzn; omega))) (hw _ (List.mem_of_getElem? (i := 199) rfl)) (hw _ (List.mem_of_getElem? (i := 195) rfl)) e0 (pc := 13) (Ls := #[.val (.ref d), .val (.int (0 : Int32)), .val (.int n)]) (argsL := [(.ref d), (.int (0 : Int32)), (.int n)]) (rest := []) (by rw [hml]; rfl) (lenOf pd_15 rfl) (W := 0) (Nat.le_of_eq rfl) (by decide) (by decide) (by decide) (by decide) (hb hby d36_13) rfl rfl ?_
    intro TB6 LB6 vB6 XB6 hQB6
    obtain ⟨bB6, kbB6, rfl, NB6, KB6, hzB6, VB6, EdB6⟩ := hQB6
    show own_Ends pP eE bB sS _ _ TB6 (mkF mI 16 #[.val (.ref d), .val (.int (0 : Int32)), .val (.int n)] [(.ref bB6)])
    refine own_retA XB6 hx hlk hret rfl rfl (hb hby d36_16) (by decide) (by decide) ?_
    exact ⟨bB6, _, rfl, Fr.app (Fr.nil n0) NB6, KB6, hzB6, VB6, EdB6⟩
theorem d33_0 : decode jdk_68_method_64_code 0 = .ok (.aload_n 0, 1) := by decide +kernel
theorem d33_1 : decode jdk_68_method_64_code 1 = .ok (.getfield 15, 3) := by decide +kernel
theorem d33_4 : decode jdk_68_method_64_code 4 = .ok (.areturn, 1) := by decide +kernel
theorem rj_getv_pn : plainFor (⟨"java/lang/AbstractStringBuilder", "getValue", "()[B"⟩ : MethodName) = true := plainFor_of_name (show plainName "java/lang/AbstractStringBuilder" = true by first | (simp [plainName, overriddenIn]; done) | decide +kernel)
theorem rj_getv_ef (mI : MethodId) (b : Addr) : entryFrame mI #[(.ref b)] 1 = mkF mI 0 #[.val (.ref b)] [] := by first | (simp [entryFrame, mkF, argsToLocals, Value.category]; done) | rfl
set_option maxRecDepth 65536 in
set_option maxHeartbeats 40000000 in
theorem rj_getv (l : Launch) (Z : State) (a0 : Array Value) (hw : ∀ d ∈ tables_1, d.before a0 Z = true) (ws : List Jvm.Cond) (h0 : Heap) (b da : Addr) (F : Fld Z h0 b "java/lang/AbstractStringBuilder" "value" "[B" (.ref da)) :
    own_Met l Z (⟨"java/lang/AbstractStringBuilder", "getValue", "()[B"⟩ : MethodName) jdk_68_method_64_code 1 (some (.array .byte)) ws ({ frames := 0, cells := 0, slots := 0, locals := 0 } : Room) #[(.ref b)] h0 (own_QP h0 (some (.ref da))) := by
  refine own_met rj_getv_pn ?_
  intro pP eE sS mI bB mT cC s₁ hx hby hml hown hnm hret hlk hZ X0 e0
  replace hown : sS.vm.findClass "java/lang/AbstractStringBuilder" = some mI.cls := hown
  refine own_cast (rj_getv_ef mI b) ?_
  refine own_go (T' := s₁) (g' := (mkF mI 1 #[.val (.ref b)] [(.ref b)])) (fun t_ kt_ => XS.aloadN X0.here hx rfl (hb hby d33_0) rfl rfl kt_) ?_
  obtain ⟨TC1, XC1, eC1, stC1⟩ := getF X0 hx hZ hown (host := "") (Or.inl (hw _ (List.mem_of_getElem? (i := 105) rfl))) Via.refl e0 F (g := (mkF mI 1 #[.val (.ref b)] [(.ref b)])) rfl rfl (hb hby d33_1)
  refine own_go (T' := TC1) (g' := (mkF mI 4 #[.val (.ref b)] [(.ref da)])) (fun t_ kt_ => stC1 _ kt_) ?_
  refine own_retA XC1 hx hlk hret rfl rfl (hb hby d33_4) (by decide) (by decide) ?_
  exact ⟨rfl, rfl, eC1⟩
theorem d35_0 : decode jdk_68_method_6_code 0 = .ok (.aload_n 0, 1) := by decide +kernel
theorem d35_1 : decode jdk_68_method_6_code 1 = .ok (.getfield 79, 3) := by decide +kernel
theorem d35_4 : decode jdk_68_method_6_code 4 = .ok (.ireturn, 1) := by decide +kernel
theorem rj_asLen_pn : plainFor (⟨"java/lang/AbstractStringBuilder", "length", "()I"⟩ : MethodName) = true := plainFor_of_name (show plainName "java/lang/AbstractStringBuilder" = true by first | (simp [plainName, overriddenIn]; done) | decide +kernel)
theorem rj_asLen_ef (mI : MethodId) (b : Addr) : entryFrame mI #[(.ref b)] 1 = mkF mI 0 #[.val (.ref b)] [] := by first | (simp [entryFrame, mkF, argsToLocals, Value.category]; done) | rfl
set_option maxRecDepth 65536 in
set_option maxHeartbeats 40000000 in
theorem rj_asLen (l : Launch) (Z : State) (a0 : Array Value) (hw : ∀ d ∈ tables_1, d.before a0 Z = true) (ws : List Jvm.Cond) (h0 : Heap) (b : Addr) (n : Int32) (F : Fld Z h0 b "java/lang/AbstractStringBuilder" "count" "I" (.int n)) :
    own_Met l Z (⟨"java/lang/AbstractStringBuilder", "length", "()I"⟩ : MethodName) jdk_68_method_6_code 1 (some .int) ws ({ frames := 0, cells := 0, slots := 0, locals := 0 } : Room) #[(.ref b)] h0 (own_QP h0 (some (.int n))) := by
  refine own_met rj_asLen_pn ?_
  intro pP eE sS mI bB mT cC s₁ hx hby hml hown hnm hret hlk hZ X0 e0
  replace hown : sS.vm.findClass "java/lang/AbstractStringBuilder" = some mI.cls := hown
  refine own_cast (rj_asLen_ef mI b) ?_
  refine own_go (T' := s₁) (g' := (mkF mI 1 #[.val (.ref b)] [(.ref b)])) (fun t_ kt_ => XS.aloadN X0.here hx rfl (hb hby d35_0) rfl rfl kt_) ?_
  obtain ⟨TD1, XD1, eD1, stD1⟩ := getF X0 hx hZ hown (host := "") (Or.inl (hw _ (List.mem_of_getElem? (i := 119) rfl))) Via.refl e0 F (g := (mkF mI 1 #[.val (.ref b)] [(.ref b)])) rfl rfl (hb hby d35_1)
  refine own_go (T' := TD1) (g' := (mkF mI 4 #[.val (.ref b)] [(.int n)])) (fun t_ kt_ => stD1 _ kt_) ?_
  refine own_retI XD1 hx hlk hret (hb hby d35_4) (by decide) (by decide) ?_
  exact ⟨rfl, rfl, eD1⟩
theorem d34_0 : decode jdk_67_method_93_code 0 = .ok (.aload_n 0, 1) := by decide +kernel
theorem d34_1 : decode jdk_67_method_93_code 1 = .ok (.invokespecial 343, 3) := by decide +kernel
theorem d34_4 : decode jdk_67_method_93_code 4 = .ok (.ireturn, 1) := by decide +kernel
theorem rj_sbLen_pn : plainFor (⟨"java/lang/StringBuilder", "length", "()I"⟩ : MethodName) = true := plainFor_of_name (show plainName "java/lang/StringBuilder" = true by first | (simp [plainName, overriddenIn]; done) | decide +kernel)
theorem rj_sbLen_ef (mI : MethodId) (b : Addr) : entryFrame mI #[(.ref b)] 1 = mkF mI 0 #[.val (.ref b)] [] := by first | (simp [entryFrame, mkF, argsToLocals, Value.category]; done) | rfl
set_option maxRecDepth 65536 in
set_option maxHeartbeats 40000000 in
theorem rj_sbLen (l : Launch) (Z : State) (a0 : Array Value) (hw : ∀ d ∈ tables_1, d.before a0 Z = true) (ws : List Jvm.Cond) (h0 : Heap) (b : Addr) (n : Int32) (Eb : Exa Z h0 b "java/lang/StringBuilder") (F : Fld Z h0 b "java/lang/AbstractStringBuilder" "count" "I" (.int n)) :
    own_Met l Z (⟨"java/lang/StringBuilder", "length", "()I"⟩ : MethodName) jdk_67_method_93_code 1 (some .int) ws ({ frames := 1, cells := 0, slots := 0, locals := 12 } : Room) #[(.ref b)] h0 (own_QP h0 (some (.int n))) := by
  refine own_met rj_sbLen_pn ?_
  intro pP eE sS mI bB mT cC s₁ hx hby hml hown hnm hret hlk hZ X0 e0
  replace hown : sS.vm.findClass "java/lang/StringBuilder" = some mI.cls := hown
  refine own_cast (rj_sbLen_ef mI b) ?_
  refine own_go (T' := s₁) (g' := (mkF mI 1 #[.val (.ref b)] [(.ref b)])) (fun t_ kt_ => XS.aloadN X0.here hx rfl (hb hby d34_0) rfl rfl kt_) ?_
  refine own_callX own_closed X0 hx hZ (y := (⟨"java/lang/AbstractStringBuilder", "length", "()I"⟩ : MethodName)) hown (hw _ (List.mem_of_getElem? (i := 190) rfl)) (hw _ (List.mem_of_getElem? (i := 186) rfl)) (hw _ (List.mem_of_getElem? (i := 116) rfl)) (hw _ (List.mem_of_getElem? (i := 125) rfl)) rfl (by decide) (by decide) (rj_asLen l Z a0 hw [] h0 b n F) (hw _ (List.mem_of_getElem? (i := 191) rfl)) (hw _ (List.mem_of_getElem? (i := 101) rfl)) e0 Eb (pc := 1) (Ls := #[.val (.ref b)]) (argsL := []) (rest := []) (by rw [hml]; rfl) (lenOf pd_11 rfl) (W := 0) (Nat.le_of_eq rfl) (by decide) (by decide) (by decide) (by decide) (hb hby d34_1) rfl rfl ?_
  intro TE1 LE1 vE1 XE1 hQE1
  obtain ⟨rfl, rfl, eE1⟩ := hQE1
  show own_Ends pP eE bB sS _ _ TE1 (mkF mI 4 #[.val (.ref b)] [(.int n)])
  refine own_retI XE1 hx hlk hret (hb hby d34_4) (by decide) (by decide) ?_
  exact ⟨rfl, rfl, eE1⟩
theorem d24_0 : decode jdk_68_method_68_code 0 = .ok (.getstatic 18, 3) := by decide +kernel
theorem d24_3 : decode jdk_68_method_68_code 3 = .ok (.ifCond .eq 14, 3) := by decide +kernel
theorem d24_6 : decode jdk_68_method_68_code 6 = .ok (.aload_n 0, 1) := by decide +kernel
theorem d24_7 : decode jdk_68_method_68_code 7 = .ok (.getfield 22, 3) := by decide +kernel
theorem d24_10 : decode jdk_68_method_68_code 10 = .ok (.ifCond .ne 7, 3) := by decide +kernel
theorem d24_13 : decode jdk_68_method_68_code 13 = .ok (.iconst 1, 1) := by decide +kernel
theorem d24_14 : decode jdk_68_method_68_code 14 = .ok (.goto 4, 3) := by decide +kernel
theorem d24_18 : decode jdk_68_method_68_code 18 = .ok (.ireturn, 1) := by decide +kernel
theorem rj_asLat_pn : plainFor (⟨"java/lang/AbstractStringBuilder", "isLatin1", "()Z"⟩ : MethodName) = true := plainFor_of_name (show plainName "java/lang/AbstractStringBuilder" = true by first | (simp [plainName, overriddenIn]; done) | decide +kernel)
theorem rj_asLat_ef (mI : MethodId) (b : Addr) : entryFrame mI #[(.ref b)] 1 = mkF mI 0 #[.val (.ref b)] [] := by first | (simp [entryFrame, mkF, argsToLocals, Value.category]; done) | rfl
set_option maxRecDepth 65536 in
set_option maxHeartbeats 40000000 in
theorem rj_asLat (l : Launch) (Z : State) (a0 : Array Value) (hw : ∀ d ∈ tables_1, d.before a0 Z = true) (ws : List Jvm.Cond) (h0 : Heap) (n0 : Nat) (O : Old Z n0 h0) (cs : Int32) (Scs : Sta Z Z.heap "java/lang/String" "COMPACT_STRINGS" "Z" (.int cs)) (hcs : ¬ cs = 0) (b : Addr) (F : Fld Z h0 b "java/lang/AbstractStringBuilder" "coder" "B" (.int 0)) :
    own_Met l Z (⟨"java/lang/AbstractStringBuilder", "isLatin1", "()Z"⟩ : MethodName) jdk_68_method_68_code 1 (some .boolean) ws ({ frames := 0, cells := 0, slots := 0, locals := 0 } : Room) #[(.ref b)] h0 (own_QP h0 (some (.int 1))) := by
  refine own_met rj_asLat_pn ?_
  intro pP eE sS mI bB mT cC s₁ hx hby hml hown hnm hret hlk hZ X0 e0
  replace hown : sS.vm.findClass "java/lang/AbstractStringBuilder" = some mI.cls := hown
  refine own_cast (rj_asLat_ef mI b) ?_
  obtain ⟨TF1, XF1, eF1, stF1⟩ := getS2 X0 hx hZ hown (host := "") (Or.inl (hw _ (List.mem_of_getElem? (i := 104) rfl))) Via.refl e0 (Sta.ext O.2 Scs) (g := (mkF mI 0 #[.val (.ref b)] [])) rfl (hb hby d24_0)
  refine own_go (T' := TF1) (g' := (mkF mI 3 #[.val (.ref b)] [(.int cs)])) (fun t_ kt_ => stF1 _ kt_) ?_
  refine own_go (T' := TF1) (g' := (mkF mI 6 #[.val (.ref b)] [])) (fun t_ kt_ => XS.ifNo XF1.here hx rfl (hb hby d24_3) rfl ((if0 _ _).trans (feq (hcs : ¬ (cs = (0 : Int32)))).1) kt_) ?_
  refine own_go (T' := TF1) (g' := (mkF mI 7 #[.val (.ref b)] [(.ref b)])) (fun t_ kt_ => XS.aloadN XF1.here hx rfl (hb hby d24_6) rfl rfl kt_) ?_
  obtain ⟨TF2, XF2, eF2, stF2⟩ := getF XF1 hx hZ hown (host := "") (Or.inl (hw _ (List.mem_of_getElem? (i := 107) rfl))) Via.refl eF1 F (g := (mkF mI 7 #[.val (.ref b)] [(.ref b)])) rfl rfl (hb hby d24_7)
  refine own_go (T' := TF2) (g' := (mkF mI 10 #[.val (.ref b)] [(.int (0 : Int32))])) (fun t_ kt_ => stF2 _ kt_) ?_
  refine own_go (T' := TF2) (g' := (mkF mI 13 #[.val (.ref b)] [])) (fun t_ kt_ => XS.ifNo XF2.here hx rfl (hb hby d24_10) rfl ((if0 _ _).trans (teq (by decide : (0 : Int32) = (0 : Int32))).2) kt_) ?_
  refine own_go (T' := TF2) (g' := (mkF mI 14 #[.val (.ref b)] [(.int (1 : Int32))])) (fun t_ kt_ => XS.iconst XF2.here hx rfl (hb hby d24_13) kt_) ?_
  refine own_go (T' := TF2) (g' := (mkF mI 18 #[.val (.ref b)] [(.int (1 : Int32))])) (fun t_ kt_ => XS.goto XF2.here hx rfl (pc0 := 14) (pc' := 18) rfl (hb hby d24_14) (by decide) (by decide) kt_) ?_
  refine own_retN XF2 hx hlk (t := .boolean) hret (by simp) (hb hby d24_18) (show nar .boolean (1 : Int32) = (1 : Int32) from by decide) (by decide) (by decide) ?_
  exact ⟨rfl, rfl, eF2⟩
def own_QT (Z : State) (h0 : Heap) (n0 : Nat) (a : Addr) (n : Int32) (vs : List Value) (v : Option Value) (h : Heap) (L : List Loc) : Prop := v = none ∧ Fr n0 L ∧ Keep h0 h [a] ∧ ∃ (d : Addr) (k : ClassId), own_St Z h a d k n vs ∧ h0.size ≤ d
theorem d32_0 : decode jdk_42_method_150_code 0 = .ok (.aload_n 0, 1) := by decide +kernel
theorem d32_1 : decode jdk_42_method_150_code 1 = .ok (.invokespecial 1, 3) := by decide +kernel
theorem d32_4 : decode jdk_42_method_150_code 4 = .ok (.aload_n 1, 1) := by decide +kernel
theorem d32_5 : decode jdk_42_method_150_code 5 = .ok (.invokevirtual 552, 3) := by decide +kernel
theorem d32_8 : decode jdk_42_method_150_code 8 = .ok (.astore_n 3, 1) := by decide +kernel
theorem d32_9 : decode jdk_42_method_150_code 9 = .ok (.aload_n 1, 1) := by decide +kernel
theorem d32_10 : decode jdk_42_method_150_code 10 = .ok (.invokevirtual 549, 3) := by decide +kernel
theorem d32_13 : decode jdk_42_method_150_code 13 = .ok (.istore 4, 2) := by decide +kernel
theorem d32_15 : decode jdk_42_method_150_code 15 = .ok (.aload_n 1, 1) := by decide +kernel
theorem d32_16 : decode jdk_42_method_150_code 16 = .ok (.invokevirtual 1047, 3) := by decide +kernel
theorem d32_19 : decode jdk_42_method_150_code 19 = .ok (.ifCond .eq 22, 3) := by decide +kernel
theorem d32_22 : decode jdk_42_method_150_code 22 = .ok (.aload_n 0, 1) := by decide +kernel
theorem d32_23 : decode jdk_42_method_150_code 23 = .ok (.iconst 0, 1) := by decide +kernel
theorem d32_24 : decode jdk_42_method_150_code 24 = .ok (.putfield 15, 3) := by decide +kernel
theorem d32_27 : decode jdk_42_method_150_code 27 = .ok (.aload_n 0, 1) := by decide +kernel
theorem d32_28 : decode jdk_42_method_150_code 28 = .ok (.aload_n 3, 1) := by decide +kernel
theorem d32_29 : decode jdk_42_method_150_code 29 = .ok (.iconst 0, 1) := by decide +kernel
theorem d32_30 : decode jdk_42_method_150_code 30 = .ok (.iload 4, 2) := by decide +kernel
theorem d32_32 : decode jdk_42_method_150_code 32 = .ok (.invokestatic 54, 3) := by decide +kernel
theorem d32_35 : decode jdk_42_method_150_code 35 = .ok (.putfield 9, 3) := by decide +kernel
theorem d32_38 : decode jdk_42_method_150_code 38 = .ok (.goto 59, 3) := by decide +kernel
theorem d32_97 : decode jdk_42_method_150_code 97 = .ok (.return_, 1) := by decide +kernel
theorem rj_strA_pn : plainFor (⟨"java/lang/String", "<init>", "(Ljava/lang/AbstractStringBuilder;Ljava/lang/Void;)V"⟩ : MethodName) = true := plainFor_of_name (show plainName "java/lang/String" = true by first | (simp [plainName, overriddenIn]; done) | decide +kernel)
theorem rj_strA_ef (mI : MethodId) (a : Addr) (b : Addr) : entryFrame mI #[(.ref a), (.ref b), .null] 5 = mkF mI 0 #[.val (.ref a), .val (.ref b), .val .null, .unset, .unset] [] := by first | (simp [entryFrame, mkF, argsToLocals, Value.category]; done) | rfl
set_option maxRecDepth 65536 in
set_option maxHeartbeats 40000000 in
theorem rj_strA (l : Launch) (Z : State) (a0 : Array Value) (hw : ∀ d ∈ tables_1, d.before a0 Z = true) (ws : List Jvm.Cond) (h0 : Heap) (n0 : Nat) (O : Old Z n0 h0) (cs : Int32) (Scs : Sta Z Z.heap "java/lang/String" "COMPACT_STRINGS" "Z" (.int cs)) (hcs : ¬ cs = 0) (Z0 : n0 ≤ h0.size) (a b : Addr) (da : Addr) (k : ClassId) (z n : Int32) (vs : List Value) (Ea : Exa Z h0 a "java/lang/String") (Fc : Fld Z h0 a "java/lang/String" "coder" "B" (.int 0)) (Fv : Fld Z h0 a "java/lang/String" "value" "[B" .null) (B : own_SB Z h0 b da k z n vs) (g_a : n0 ≤ a) (ne_a_b : a ≠ b) (hvn : vs.length = n.toNatClampNeg) (hn0 : ¬ n < 0) (hn1 : n.toNatClampNeg ≤ 300) (hzn : ¬ z < n) :
    own_Met l Z (⟨"java/lang/String", "<init>", "(Ljava/lang/AbstractStringBuilder;Ljava/lang/Void;)V"⟩ : MethodName) jdk_42_method_150_code 5 none ws ({ frames := 3, cells := 1, slots := 300, locals := 49 } : Room) #[(.ref a), (.ref b), .null] h0 (own_QT Z h0 n0 a n vs) := by
  refine own_met rj_strA_pn ?_
  intro pP eE sS mI bB mT cC s₁ hx hby hml hown hnm hret hlk hZ X0 e0
  replace hown : sS.vm.findClass "java/lang/String" = some mI.cls := hown
  refine own_cast (rj_strA_ef mI a b) ?_
  refine own_go (T' := s₁) (g' := (mkF mI 1 #[.val (.ref a), .val (.ref b), .val .null, .unset, .unset] [(.ref a)])) (fun t_ kt_ => XS.aloadN X0.here hx rfl (hb hby d32_0) rfl rfl kt_) ?_
  obtain ⟨TG1, XG1, eG1, stG1⟩ := initO X0 hx hZ hown (hw _ (List.mem_of_getElem? (i := 33) rfl)) (hw _ (List.mem_of_getElem? (i := 34) rfl)) (hw _ (List.mem_of_getElem? (i := 35) rfl)) e0 (g := (mkF mI 1 #[.val (.ref a), .val (.ref b), .val .null, .unset, .unset] [(.ref a)])) rfl (by rw [hml]; rfl) rfl (hb hby d32_1) (by decide) (W := 0) (by show 2 * 0 + _ ≤ _; exact Nat.le_of_eq rfl) (by decide)
  refine own_go (T' := TG1) (g' := (mkF mI 4 #[.val (.ref a), .val (.ref b), .val .null, .unset, .unset] [])) (fun t_ kt_ => stG1 _ kt_) ?_
  refine own_go (T' := TG1) (g' := (mkF mI 5 #[.val (.ref a), .val (.ref b), .val .null, .unset, .unset] [(.ref b)])) (fun t_ kt_ => XS.aloadN XG1.here hx rfl (hb hby d32_4) rfl rfl kt_) ?_
  refine own_callV own_closed XG1 hx hZ (y := (⟨"java/lang/AbstractStringBuilder", "getValue", "()[B"⟩ : MethodName)) (z := (⟨"java/lang/AbstractStringBuilder", "getValue", "()[B"⟩ : MethodName)) hown (hw _ (List.mem_of_getElem? (i := 179) rfl)) (hw _ (List.mem_of_getElem? (i := 180) rfl)) (hw _ (List.mem_of_getElem? (i := 182) rfl)) (hw _ (List.mem_of_getElem? (i := 181) rfl)) (hw _ (List.mem_of_getElem? (i := 182) rfl)) rfl (by decide) (rj_getv l Z a0 hw [] h0 b da B.2.1) (hw _ (List.mem_of_getElem? (i := 183) rfl)) (hw _ (List.mem_of_getElem? (i := 101) rfl)) eG1 B.1 (pc := 5) (Ls := #[.val (.ref a), .val (.ref b), .val .null, .unset, .unset]) (argsL := []) (rest := []) (by rw [hml]; rfl) (lenOf pd_16 rfl) (W := 0) (Nat.le_of_eq rfl) (by decide) (by decide) (by decide) (by decide) (hb hby d32_5) rfl rfl ?_
  intro TG2 LG2 vG2 XG2 hQG2
  obtain ⟨rfl, rfl, eG2⟩ := hQG2
  show own_Ends pP eE bB sS _ _ TG2 (mkF mI 8 #[.val (.ref a), .val (.ref b), .val .null, .unset, .unset] [(.ref da)])
  refine own_go (T' := TG2) (g' := (mkF mI 9 #[.val (.ref a), .val (.ref b), .val .null, .val (.ref da), .unset] [])) (fun t_ kt_ => XS.astoreN XG2.here hx rfl (hb hby d32_8) rfl rfl (l' := #[.val (.ref a), .val (.ref b), .val .null, .val (.ref da), .unset]) rfl kt_) ?_
  refine own_go (T' := TG2) (g' := (mkF mI 10 #[.val (.ref a), .val (.ref b), .val .null, .val (.ref da), .unset] [(.ref b)])) (fun t_ kt_ => XS.aloadN XG2.here hx rfl (hb hby d32_9) rfl rfl kt_) ?_
  refine own_callV own_closed XG2 hx hZ (y := (⟨"java/lang/AbstractStringBuilder", "length", "()I"⟩ : MethodName)) (z := (⟨"java/lang/StringBuilder", "length", "()I"⟩ : MethodName)) hown (hw _ (List.mem_of_getElem? (i := 184) rfl)) (hw _ (List.mem_of_getElem? (i := 185) rfl)) (hw _ (List.mem_of_getElem? (i := 187) rfl)) (hw _ (List.mem_of_getElem? (i := 188) rfl)) (hw _ (List.mem_of_getElem? (i := 125) rfl)) rfl (by decide) (rj_sbLen l Z a0 hw [] h0 b n B.1 B.2.2.2.1) (hw _ (List.mem_of_getElem? (i := 189) rfl)) (hw _ (List.mem_of_getElem? (i := 93) rfl)) eG2 B.1 (pc := 10) (Ls := #[.val (.ref a), .val (.ref b), .val .null, .val (.ref da), .unset]) (argsL := []) (rest := []) (by rw [hml]; rfl) (lenOf pd_11 rfl) (W := 0) (Nat.le_of_eq rfl) (by decide) (by decide) (by decide) (by decide) (hb hby d32_10) rfl rfl ?_
  intro TG3 LG3 vG3 XG3 hQG3
  obtain ⟨rfl, rfl, eG3⟩ := hQG3
  show own_Ends pP eE bB sS _ _ TG3 (mkF mI 13 #[.val (.ref a), .val (.ref b), .val .null, .val (.ref da), .unset] [(.int n)])
  refine own_go (T' := TG3) (g' := (mkF mI 15 #[.val (.ref a), .val (.ref b), .val .null, .val (.ref da), .val (.int n)] [])) (fun t_ kt_ => XS.istore XG3.here hx rfl (hb hby d32_13) rfl (l' := #[.val (.ref a), .val (.ref b), .val .null, .val (.ref da), .val (.int n)]) rfl kt_) ?_
  refine own_go (T' := TG3) (g' := (mkF mI 16 #[.val (.ref a), .val (.ref b), .val .null, .val (.ref da), .val (.int n)] [(.ref b)])) (fun t_ kt_ => XS.aloadN XG3.here hx rfl (hb hby d32_15) rfl rfl kt_) ?_
  refine own_callV own_closed XG3 hx hZ (y := (⟨"java/lang/AbstractStringBuilder", "isLatin1", "()Z"⟩ : MethodName)) (z := (⟨"java/lang/AbstractStringBuilder", "isLatin1", "()Z"⟩ : MethodName)) hown (hw _ (List.mem_of_getElem? (i := 192) rfl)) (hw _ (List.mem_of_getElem? (i := 128) rfl)) (hw _ (List.mem_of_getElem? (i := 130) rfl)) (hw _ (List.mem_of_getElem? (i := 129) rfl)) (hw _ (List.mem_of_getElem? (i := 130) rfl)) rfl (by decide) (rj_asLat l Z a0 hw [] h0 n0 O cs Scs hcs b B.2.2.1) (hw _ (List.mem_of_getElem? (i := 131) rfl)) (hw _ (List.mem_of_getElem? (i := 101) rfl)) eG3 B.1 (pc := 16) (Ls := #[.val (.ref a), .val (.ref b), .val .null, .val (.ref da), .val (.int n)]) (argsL := []) (rest := []) (by rw [hml]; rfl) (lenOf pd_3 rfl) (W := 0) (Nat.le_of_eq rfl) (by decide) (by decide) (by decide) (by decide) (hb hby d32_16) rfl rfl ?_
  intro TG4 LG4 vG4 XG4 hQG4
  obtain ⟨rfl, rfl, eG4⟩ := hQG4
  show own_Ends pP eE bB sS _ _ TG4 (mkF mI 19 #[.val (.ref a), .val (.ref b), .val .null, .val (.ref da), .val (.int n)] [(.int (1 : Int32))])
  refine own_go (T' := TG4) (g' := (mkF mI 22 #[.val (.ref a), .val (.ref b), .val .null, .val (.ref da), .val (.int n)] [])) (fun t_ kt_ => XS.ifNo XG4.here hx rfl (hb hby d32_19) rfl ((if0 _ _).trans (feq (by decide : ¬ ((1 : Int32) = (0 : Int32)))).1) kt_) ?_
  refine own_go (T' := TG4) (g' := (mkF mI 23 #[.val (.ref a), .val (.ref b), .val .null, .val (.ref da), .val (.int n)] [(.ref a)])) (fun t_ kt_ => XS.aloadN XG4.here hx rfl (hb hby d32_22) rfl rfl kt_) ?_
  refine own_go (T' := TG4) (g' := (mkF mI 24 #[.val (.ref a), .val (.ref b), .val .null, .val (.ref da), .val (.int n)] [(.int (0 : Int32)), (.ref a)])) (fun t_ kt_ => XS.iconst XG4.here hx rfl (hb hby d32_23) kt_) ?_
  obtain ⟨TG5, hG5, XG5, eG5, WG5, stG5⟩ := putFN XG4 hx hZ hown (hw _ (List.mem_of_getElem? (i := 38) rfl)) Via.refl eG4 Fc Ea (Or.inr ⟨(hw _ (List.mem_of_getElem? (i := 39) rfl)), rfl, hnm⟩) (hw _ (List.mem_of_getElem? (i := 28) rfl)) (ty := .byte) (v' := (.int (0 : Int32))) (by decide) rfl (by decide) (g := (mkF mI 24 #[.val (.ref a), .val (.ref b), .val .null, .val (.ref da), .val (.int n)] [(.int (0 : Int32)), (.ref a)])) rfl rfl (hb hby d32_24)
  have FwG5 : Fld Z hG5 a "java/lang/String" "coder" "B" (.int (0 : Int32)) := Fld.same WG5 Fc
  have FG6 := Fld.other WG5 Fv (Or.inr (slot_ne (Or.inr (hw _ (List.mem_of_getElem? (i := 37) rfl))) (Or.inr (hw _ (List.mem_of_getElem? (i := 39) rfl))) (by decide) (t := (.array .byte)) (t' := .byte) (by decide) (by decide)))
  have FG7 := Fld.other WG5 B.2.1 (Or.inl (Ne.symm ne_a_b))
  have FG8 := Fld.other WG5 B.2.2.1 (Or.inl (Ne.symm ne_a_b))
  have FG9 := Fld.other WG5 B.2.2.2.1 (Or.inl (Ne.symm ne_a_b))
  have EG10 := Exa.wr WG5 Ea
  have EG11 := Exa.wr WG5 B.1
  have EG12 := Exa.wr WG5 B.2.2.2.2.2
  have VG15 := Arv.other B.2.2.2.2.1 WG5 (Ne.symm (Exa.neArv Ea B.2.2.2.2.1 (hw _ (List.mem_of_getElem? (i := 28) rfl))))
  have ZG16 : n0 ≤ hG5.size := Nat.le_trans Z0 (Nat.le_of_eq (Wr.size WG5).symm)
  have KG17 : Keep h0 hG5 [a] := (Keep.refl h0 [a]).wr WG5 (Or.inl (List.mem_of_getElem? (i := 0) rfl))
  have OG18 : Old Z n0 hG5 := Old.wr O WG5 g_a
  have NG5 := Fr.snoc XG5 (Fr.nil n0) g_a
  refine own_go (T' := TG5) (g' := (mkF mI 27 #[.val (.ref a), .val (.ref b), .val .null, .val (.ref da), .val (.int n)] [])) (fun t_ kt_ => stG5 _ kt_) ?_
  refine own_go (T' := TG5) (g' := (mkF mI 28 #[.val (.ref a), .val (.ref b), .val .null, .val (.ref da), .val (.int n)] [(.ref a)])) (fun t_ kt_ => XS.aloadN XG5.here hx rfl (hb hby d32_27) rfl rfl kt_) ?_
  refine own_go (T' := TG5) (g' := (mkF mI 29 #[.val (.ref a), .val (.ref b), .val .null, .val (.ref da), .val (.int n)] [(.ref da), (.ref a)])) (fun t_ kt_ => XS.aloadN XG5.here hx rfl (hb hby d32_28) rfl rfl kt_) ?_
  refine own_go (T' := TG5) (g' := (mkF mI 30 #[.val (.ref a), .val (.ref b), .val .null, .val (.ref da), .val (.int n)] [(.int (0 : Int32)), (.ref da), (.ref a)])) (fun t_ kt_ => XS.iconst XG5.here hx rfl (hb hby d32_29) kt_) ?_
  refine own_go (T' := TG5) (g' := (mkF mI 32 #[.val (.ref a), .val (.ref b), .val .null, .val (.ref da), .val (.int n)] [(.int n), (.int (0 : Int32)), (.ref da), (.ref a)])) (fun t_ kt_ => XS.iload XG5.here hx rfl (hb hby d32_30) rfl kt_) ?_
  refine own_callS own_closed XG5 hx hZ (y := (⟨"java/util/Arrays", "copyOfRange", "([BII)[B"⟩ : MethodName)) hown (hw _ (List.mem_of_getElem? (i := 193) rfl)) (hw _ (List.mem_of_getElem? (i := 194) rfl)) (by decide) (rj_cor l Z a0 hw [] hG5 n0 ZG16 da n k z vs VG15 hvn hn0 hn1 EG12 hzn) (hw _ (List.mem_of_getElem? (i := 196) rfl)) (hw _ (List.mem_of_getElem? (i := 195) rfl)) eG5 (pc := 32) (Ls := #[.val (.ref a), .val (.ref b), .val .null, .val (.ref da), .val (.int n)]) (argsL := [(.ref da), (.int (0 : Int32)), (.int n)]) (rest := [(.ref a)]) (by rw [hml]; rfl) (lenOf pd_15 rfl) (W := 1) (Nat.le_of_eq rfl) (by decide) (by decide) (by decide) (by decide) (hb hby d32_32) rfl rfl ?_
  intro TG19 LG19 vG19 XG19 hQG19
  obtain ⟨bG19, kG19, rfl, NG19, KG19, hzG19, VG19, EdG19⟩ := hQG19
  have ne_a_bG19 : a ≠ bG19 := Nat.ne_of_lt (Nat.lt_of_lt_of_le EG10.lt hzG19)
  have sz_bG19 : h0.size ≤ bG19 := Nat.le_trans KG17.1 hzG19
  have NG19a := Fr.app NG5 NG19
  have FG20 := Fld.keep FwG5 KG19 nin0
  have FG21 := Fld.keep FG6 KG19 nin0
  have EG22 := Exa.keep EG10 KG19
  have ZG25 : n0 ≤ TG19.heap.size := Nat.le_trans ZG16 KG19.1
  have KG26 : Keep h0 TG19.heap [a] := KG17.trans KG19 all0
  have OG27 : Old Z n0 TG19.heap := Old.keep OG18 KG19 all0
  show own_Ends pP eE bB sS _ _ TG19 (mkF mI 35 #[.val (.ref a), .val (.ref b), .val .null, .val (.ref da), .val (.int n)] [(.ref bG19), (.ref a)])
  obtain ⟨TG28, hG28, XG28, eG28, WG28, stG28⟩ := putF XG19 hx hZ hown (host := "") (Or.inl (hw _ (List.mem_of_getElem? (i := 36) rfl))) Via.refl rfl FG21 EG22 (Or.inr ⟨(hw _ (List.mem_of_getElem? (i := 37) rfl)), rfl, hnm⟩) (hw _ (List.mem_of_getElem? (i := 28) rfl)) (ty := (.array .byte)) (by decide) rfl rfl (g := (mkF mI 35 #[.val (.ref a), .val (.ref b), .val .null, .val (.ref da), .val (.int n)] [(.ref bG19), (.ref a)])) rfl rfl (hb hby d32_35)
  have FwG28 : Fld Z hG28 a "java/lang/String" "value" "[B" (.ref bG19) := Fld.same WG28 FG21
  have FG29 := Fld.other WG28 FG20 (Or.inr (slot_ne (Or.inr (hw _ (List.mem_of_getElem? (i := 39) rfl))) (Or.inr (hw _ (List.mem_of_getElem? (i := 37) rfl))) (by decide) (t := .byte) (t' := (.array .byte)) (by decide) (by decide)))
  have EG30 := Exa.wr WG28 EG22
  have EG31 := Exa.wr WG28 EdG19
  have VG34 := Arv.other VG19 WG28 (Ne.symm ne_a_bG19)
  have ZG35 : n0 ≤ hG28.size := Nat.le_trans ZG25 (Nat.le_of_eq (Wr.size WG28).symm)
  have KG36 : Keep h0 hG28 [a] := KG26.wr WG28 (Or.inl (List.mem_of_getElem? (i := 0) rfl))
  have OG37 : Old Z n0 hG28 := Old.wr OG27 WG28 g_a
  have NG28 := Fr.snoc XG28 NG19a g_a
  refine own_go (T' := TG28) (g' := (mkF mI 38 #[.val (.ref a), .val (.ref b), .val .null, .val (.ref da), .val (.int n)] [])) (fun t_ kt_ => stG28 _ kt_) ?_
  refine own_go (T' := TG28) (g' := (mkF mI 97 #[.val (.ref a), .val (.ref b), .val .null, .val (.ref da), .val (.int n)] [])) (fun t_ kt_ => XS.goto XG28.here hx rfl (pc0 := 38) (pc' := 97) rfl (hb hby d32_38) (by decide) (by decide) kt_) ?_
  refine own_retV XG28 hx hlk hret (hb hby d32_97) (by decide) (by decide) ?_
  exact by rw [eG28]; exact ⟨rfl, NG28, KG36, bG19, _, ⟨EG30, FG29, FwG28, VG34⟩, sz_bG19⟩
theorem d31_0 : decode jdk_42_method_53_code 0 = .ok (.aload_n 0, 1) := by decide +kernel
theorem d31_1 : decode jdk_42_method_53_code 1 = .ok (.aload_n 1, 1) := by decide +kernel
theorem d31_2 : decode jdk_42_method_53_code 2 = .ok (.aconst_null, 1) := by decide +kernel
theorem d31_3 : decode jdk_42_method_53_code 3 = .ok (.invokespecial 489, 3) := by decide +kernel
theorem d31_6 : decode jdk_42_method_53_code 6 = .ok (.return_, 1) := by decide +kernel
theorem rj_strB_pn : plainFor (⟨"java/lang/String", "<init>", "(Ljava/lang/StringBuilder;)V"⟩ : MethodName) = true := plainFor_of_name (show plainName "java/lang/String" = true by first | (simp [plainName, overriddenIn]; done) | decide +kernel)
theorem rj_strB_ef (mI : MethodId) (a : Addr) (b : Addr) : entryFrame mI #[(.ref a), (.ref b)] 2 = mkF mI 0 #[.val (.ref a), .val (.ref b)] [] := by first | (simp [entryFrame, mkF, argsToLocals, Value.category]; done) | rfl
set_option maxRecDepth 65536 in
set_option maxHeartbeats 40000000 in
theorem rj_strB (l : Launch) (Z : State) (a0 : Array Value) (hw : ∀ d ∈ tables_1, d.before a0 Z = true) (ws : List Jvm.Cond) (h0 : Heap) (n0 : Nat) (O : Old Z n0 h0) (cs : Int32) (Scs : Sta Z Z.heap "java/lang/String" "COMPACT_STRINGS" "Z" (.int cs)) (hcs : ¬ cs = 0) (Z0 : n0 ≤ h0.size) (a b : Addr) (da : Addr) (k : ClassId) (z n : Int32) (vs : List Value) (Ea : Exa Z h0 a "java/lang/String") (Fc : Fld Z h0 a "java/lang/String" "coder" "B" (.int 0)) (Fv : Fld Z h0 a "java/lang/String" "value" "[B" .null) (B : own_SB Z h0 b da k z n vs) (g_a : n0 ≤ a) (ne_a_b : a ≠ b) (hvn : vs.length = n.toNatClampNeg) (hn0 : ¬ n < 0) (hn1 : n.toNatClampNeg ≤ 300) (hzn : ¬ z < n) :
    own_Met l Z (⟨"java/lang/String", "<init>", "(Ljava/lang/StringBuilder;)V"⟩ : MethodName) jdk_42_method_53_code 2 none ws ({ frames := 4, cells := 1, slots := 300, locals := 65 } : Room) #[(.ref a), (.ref b)] h0 (own_QT Z h0 n0 a n vs) := by
  refine own_met rj_strB_pn ?_
  intro pP eE sS mI bB mT cC s₁ hx hby hml hown hnm hret hlk hZ X0 e0
  replace hown : sS.vm.findClass "java/lang/String" = some mI.cls := hown
  refine own_cast (rj_strB_ef mI a b) ?_
  refine own_go (T' := s₁) (g' := (mkF mI 1 #[.val (.ref a), .val (.ref b)] [(.ref a)])) (fun t_ kt_ => XS.aloadN X0.here hx rfl (hb hby d31_0) rfl rfl kt_) ?_
  refine own_go (T' := s₁) (g' := (mkF mI 2 #[.val (.ref a), .val (.ref b)] [(.ref b), (.ref a)])) (fun t_ kt_ => XS.aloadN X0.here hx rfl (hb hby d31_1) rfl rfl kt_) ?_
  refine own_go (T' := s₁) (g' := (mkF mI 3 #[.val (.ref a), .val (.ref b)] [.null, (.ref b), (.ref a)])) (fun t_ kt_ => XS.aconstNull X0.here hx rfl (hb hby d31_2) kt_) ?_
  refine own_callI own_closed X0 hx hZ (y := (⟨"java/lang/String", "<init>", "(Ljava/lang/AbstractStringBuilder;Ljava/lang/Void;)V"⟩ : MethodName)) rfl hown (hw _ (List.mem_of_getElem? (i := 176) rfl)) (hw _ (List.mem_of_getElem? (i := 177) rfl)) (by decide) (rj_strA l Z a0 hw [] h0 n0 O cs Scs hcs Z0 a b da k z n vs Ea Fc Fv B g_a ne_a_b hvn hn0 hn1 hzn) (hw _ (List.mem_of_getElem? (i := 178) rfl)) (hw _ (List.mem_of_getElem? (i := 21) rfl)) (b := a) e0 (pc := 3) (Ls := #[.val (.ref a), .val (.ref b)]) (argsL := [(.ref b), .null]) (rest := []) (by rw [hml]; rfl) (lenOf pd_17 rfl) (W := 0) (Nat.le_of_eq rfl) (by decide) (by decide) (by decide) (by decide) (hb hby d31_3) rfl rfl ?_
  intro TH1 LH1 vH1 XH1 hQH1
  obtain ⟨rfl, NH1, KH1, RH1⟩ := hQH1
  show own_Ends pP eE bB sS _ _ TH1 (mkF mI 6 #[.val (.ref a), .val (.ref b)] [])
  refine own_retV XH1 hx hlk hret (hb hby d31_6) (by decide) (by decide) ?_
  exact ⟨rfl, Fr.app (Fr.nil n0) NH1, KH1, RH1⟩
def own_QTS (Z : State) (h0 : Heap) (n0 : Nat) (n : Int32) (vs : List Value) (v : Option Value) (h : Heap) (L : List Loc) : Prop := ∃ (a d : Addr) (k : ClassId), v = some (.ref a) ∧ Fr n0 L ∧ Keep h0 h [] ∧ own_St Z h a d k n vs ∧ h0.size ≤ a ∧ h0.size ≤ d
theorem d30_0 : decode jdk_67_method_42_code 0 = .ok (.new 18, 3) := by decide +kernel
theorem d30_3 : decode jdk_67_method_42_code 3 = .ok (.dup, 1) := by decide +kernel
theorem d30_4 : decode jdk_67_method_42_code 4 = .ok (.aload_n 0, 1) := by decide +kernel
theorem d30_5 : decode jdk_67_method_42_code 5 = .ok (.invokespecial 137, 3) := by decide +kernel
theorem d30_8 : decode jdk_67_method_42_code 8 = .ok (.areturn, 1) := by decide +kernel
theorem rj_toStr_pn : plainFor (⟨"java/lang/StringBuilder", "toString", "()Ljava/lang/String;"⟩ : MethodName) = true := plainFor_of_name (show plainName "java/lang/StringBuilder" = true by first | (simp [plainName, overriddenIn]; done) | decide +kernel)
theorem rj_toStr_ef (mI : MethodId) (b : Addr) : entryFrame mI #[(.ref b)] 1 = mkF mI 0 #[.val (.ref b)] [] := by first | (simp [entryFrame, mkF, argsToLocals, Value.category]; done) | rfl
set_option maxRecDepth 65536 in
set_option maxHeartbeats 40000000 in
theorem rj_toStr (l : Launch) (Z : State) (a0 : Array Value) (hw : ∀ d ∈ tables_1, d.before a0 Z = true) (ws : List Jvm.Cond) (h0 : Heap) (n0 : Nat) (O : Old Z n0 h0) (cs : Int32) (Scs : Sta Z Z.heap "java/lang/String" "COMPACT_STRINGS" "Z" (.int cs)) (hcs : ¬ cs = 0) (Z0 : n0 ≤ h0.size) (b : Addr) (da : Addr) (k : ClassId) (z n : Int32) (vs : List Value) (B : own_SB Z h0 b da k z n vs) (hvn : vs.length = n.toNatClampNeg) (hn0 : ¬ n < 0) (hn1 : n.toNatClampNeg ≤ 300) (hzn : ¬ z < n) :
    own_Met l Z (⟨"java/lang/StringBuilder", "toString", "()Ljava/lang/String;"⟩ : MethodName) jdk_67_method_42_code 1 (some (.object "java/lang/String")) ws ({ frames := 5, cells := 2, slots := 304, locals := 79 } : Room) #[(.ref b)] h0 (own_QTS Z h0 n0 n vs) := by
  refine own_met rj_toStr_pn ?_
  intro pP eE sS mI bB mT cC s₁ hx hby hml hown hnm hret hlk hZ X0 e0
  replace hown : sS.vm.findClass "java/lang/StringBuilder" = some mI.cls := hown
  refine own_cast (rj_toStr_ef mI b) ?_
  obtain ⟨TI1, hI1, XI1, eI1, ExI1, AI1, DI1, -, stI1⟩ := newO X0 hx hZ hown (hw _ (List.mem_of_getElem? (i := 172) rfl)) (hw _ (List.mem_of_getElem? (i := 28) rfl)) (hw _ (List.mem_of_getElem? (i := 21) rfl)) e0 (g := (mkF mI 0 #[.val (.ref b)] [])) rfl (hb hby d30_0) (by decide) (by decide)
  obtain ⟨bI1, gI1⟩ : ∃ z, z = h0.size := ⟨_, rfl⟩
  rw [← gI1] at AI1 DI1 stI1
  have ne_b_bI1 : b ≠ bI1 := Nat.ne_of_lt (Nat.lt_of_lt_of_le (B.2.1.lt) (Nat.le_of_eq gI1.symm))
  have ne_da_bI1 : da ≠ bI1 := Nat.ne_of_lt (Nat.lt_of_lt_of_le (B.2.2.2.2.2.lt) (Nat.le_of_eq gI1.symm))
  have g_bI1 : n0 ≤ bI1 := Nat.le_trans Z0 (Nat.le_of_eq gI1.symm)
  have sz_bI1 : h0.size ≤ bI1 := Nat.le_trans (Keep.refl h0 []).1 (Nat.le_of_eq gI1.symm)
  have FI2 := Fld.ext ExI1 B.2.1
  have FI3 := Fld.ext ExI1 B.2.2.1
  have FI4 := Fld.ext ExI1 B.2.2.2.1
  have EI5 := Exa.ext ExI1 B.1
  have EI6 := Exa.ext ExI1 B.2.2.2.2.2
  have VI9 := Arv.ext B.2.2.2.2.1 ExI1
  have ZI10 : n0 ≤ hI1.size := Nat.le_trans Z0 ExI1.1
  have KI11 : Keep h0 hI1 [] := (Keep.refl h0 []).ext ExI1
  have OI12 : Old Z n0 hI1 := Old.ext O ExI1
  have F_value_bI1 : Fld Z hI1 bI1 "java/lang/String" "value" "[B" .null := DI1 (Or.inr (hw _ (List.mem_of_getElem? (i := 37) rfl))) (ty := (.array .byte)) (by decide)
  have F_coder_bI1 : Fld Z hI1 bI1 "java/lang/String" "coder" "B" (.int (0 : Int32)) := DI1 (Or.inr (hw _ (List.mem_of_getElem? (i := 39) rfl))) (ty := .byte) (by decide)
  refine own_go (T' := TI1) (g' := (mkF mI 3 #[.val (.ref b)] [(.ref bI1)])) (fun t_ kt_ => stI1 _ kt_) ?_
  refine own_go (T' := TI1) (g' := (mkF mI 4 #[.val (.ref b)] [(.ref bI1), (.ref bI1)])) (fun t_ kt_ => XS.dup XI1.here hx rfl (hb hby d30_3) rfl rfl kt_) ?_
  refine own_go (T' := TI1) (g' := (mkF mI 5 #[.val (.ref b)] [(.ref b), (.ref bI1), (.ref bI1)])) (fun t_ kt_ => XS.aloadN XI1.here hx rfl (hb hby d30_4) rfl rfl kt_) ?_
  refine own_callI own_closed XI1 hx hZ (y := (⟨"java/lang/String", "<init>", "(Ljava/lang/StringBuilder;)V"⟩ : MethodName)) rfl hown (hw _ (List.mem_of_getElem? (i := 173) rfl)) (hw _ (List.mem_of_getElem? (i := 174) rfl)) (by decide) (rj_strB l Z a0 hw [] hI1 n0 OI12 cs Scs hcs ZI10 bI1 b da k z n vs AI1 F_coder_bI1 F_value_bI1 ⟨EI5, FI2, FI3, FI4, VI9, EI6⟩ g_bI1 (Ne.symm ne_b_bI1) hvn hn0 hn1 hzn) (hw _ (List.mem_of_getElem? (i := 175) rfl)) (hw _ (List.mem_of_getElem? (i := 21) rfl)) (b := bI1) eI1 (pc := 5) (Ls := #[.val (.ref b)]) (argsL := [(.ref b)]) (rest := [(.ref bI1)]) (by rw [hml]; rfl) (lenOf pd_18 rfl) (W := 1) (Nat.le_of_eq rfl) (by decide) (by decide) (by decide) (by decide) (hb hby d30_5) rfl rfl ?_
  intro TI13 LI13 vI13 XI13 hQI13
  obtain ⟨rfl, NI13, KI13, RI13⟩ := hQI13
  have KxI13 : Keep h0 TI13.heap [] := KI11.trans KI13 (allS (Or.inr sz_bI1) all0)
  have NI13a := Fr.app (Fr.nil n0) NI13
  obtain ⟨dI13, kI13, SI13, hdI13⟩ := RI13
  have hdI13' : h0.size ≤ dI13 := Nat.le_trans KI11.1 hdI13
  show own_Ends pP eE bB sS _ _ TI13 (mkF mI 8 #[.val (.ref b)] [(.ref bI1)])
  refine own_retA XI13 hx hlk hret rfl rfl (hb hby d30_8) (by decide) (by decide) ?_
  exact ⟨bI1, dI13, _, rfl, NI13a, KxI13, SI13, sz_bI1, hdI13'⟩
def own_dc (m : Int64) : Int32 := if m < 10 then 1 else if m < 100 then 2 else if m < 1000 then 3 else if m < 10000 then 4 else if m < 100000 then 5 else if m < 1000000 then 6 else if m < 10000000 then 7 else if m < 100000000 then 8 else if m < 1000000000 then 9 else 10
theorem d2_0 : decode method_3_code 0 = .ok (.lload_n 0, 1) := by decide +kernel
theorem d2_1 : decode method_3_code 1 = .ok (.ldc2_w 7, 3) := by decide +kernel
theorem d2_4 : decode method_3_code 4 = .ok (.lcmp, 1) := by decide +kernel
theorem d2_5 : decode method_3_code 5 = .ok (.ifCond .ge 5, 3) := by decide +kernel
theorem d2_8 : decode method_3_code 8 = .ok (.iconst 1, 1) := by decide +kernel
theorem d2_9 : decode method_3_code 9 = .ok (.ireturn, 1) := by decide +kernel
theorem d2_10 : decode method_3_code 10 = .ok (.lload_n 0, 1) := by decide +kernel
theorem d2_11 : decode method_3_code 11 = .ok (.ldc2_w 9, 3) := by decide +kernel
theorem d2_14 : decode method_3_code 14 = .ok (.lcmp, 1) := by decide +kernel
theorem d2_15 : decode method_3_code 15 = .ok (.ifCond .ge 5, 3) := by decide +kernel
theorem d2_18 : decode method_3_code 18 = .ok (.iconst 2, 1) := by decide +kernel
theorem d2_19 : decode method_3_code 19 = .ok (.ireturn, 1) := by decide +kernel
theorem d2_20 : decode method_3_code 20 = .ok (.lload_n 0, 1) := by decide +kernel
theorem d2_21 : decode method_3_code 21 = .ok (.ldc2_w 11, 3) := by decide +kernel
theorem d2_24 : decode method_3_code 24 = .ok (.lcmp, 1) := by decide +kernel
theorem d2_25 : decode method_3_code 25 = .ok (.ifCond .ge 5, 3) := by decide +kernel
theorem d2_28 : decode method_3_code 28 = .ok (.iconst 3, 1) := by decide +kernel
theorem d2_29 : decode method_3_code 29 = .ok (.ireturn, 1) := by decide +kernel
theorem d2_30 : decode method_3_code 30 = .ok (.lload_n 0, 1) := by decide +kernel
theorem d2_31 : decode method_3_code 31 = .ok (.ldc2_w 13, 3) := by decide +kernel
theorem d2_34 : decode method_3_code 34 = .ok (.lcmp, 1) := by decide +kernel
theorem d2_35 : decode method_3_code 35 = .ok (.ifCond .ge 5, 3) := by decide +kernel
theorem d2_38 : decode method_3_code 38 = .ok (.iconst 4, 1) := by decide +kernel
theorem d2_39 : decode method_3_code 39 = .ok (.ireturn, 1) := by decide +kernel
theorem d2_40 : decode method_3_code 40 = .ok (.lload_n 0, 1) := by decide +kernel
theorem d2_41 : decode method_3_code 41 = .ok (.ldc2_w 15, 3) := by decide +kernel
theorem d2_44 : decode method_3_code 44 = .ok (.lcmp, 1) := by decide +kernel
theorem d2_45 : decode method_3_code 45 = .ok (.ifCond .ge 5, 3) := by decide +kernel
theorem d2_48 : decode method_3_code 48 = .ok (.iconst 5, 1) := by decide +kernel
theorem d2_49 : decode method_3_code 49 = .ok (.ireturn, 1) := by decide +kernel
theorem d2_50 : decode method_3_code 50 = .ok (.lload_n 0, 1) := by decide +kernel
theorem d2_51 : decode method_3_code 51 = .ok (.ldc2_w 17, 3) := by decide +kernel
theorem d2_54 : decode method_3_code 54 = .ok (.lcmp, 1) := by decide +kernel
theorem d2_55 : decode method_3_code 55 = .ok (.ifCond .ge 6, 3) := by decide +kernel
theorem d2_58 : decode method_3_code 58 = .ok (.bipush 6, 2) := by decide +kernel
theorem d2_60 : decode method_3_code 60 = .ok (.ireturn, 1) := by decide +kernel
theorem d2_61 : decode method_3_code 61 = .ok (.lload_n 0, 1) := by decide +kernel
theorem d2_62 : decode method_3_code 62 = .ok (.ldc2_w 19, 3) := by decide +kernel
theorem d2_65 : decode method_3_code 65 = .ok (.lcmp, 1) := by decide +kernel
theorem d2_66 : decode method_3_code 66 = .ok (.ifCond .ge 6, 3) := by decide +kernel
theorem d2_69 : decode method_3_code 69 = .ok (.bipush 7, 2) := by decide +kernel
theorem d2_71 : decode method_3_code 71 = .ok (.ireturn, 1) := by decide +kernel
theorem d2_72 : decode method_3_code 72 = .ok (.lload_n 0, 1) := by decide +kernel
theorem d2_73 : decode method_3_code 73 = .ok (.ldc2_w 21, 3) := by decide +kernel
theorem d2_76 : decode method_3_code 76 = .ok (.lcmp, 1) := by decide +kernel
theorem d2_77 : decode method_3_code 77 = .ok (.ifCond .ge 6, 3) := by decide +kernel
theorem d2_80 : decode method_3_code 80 = .ok (.bipush 8, 2) := by decide +kernel
theorem d2_82 : decode method_3_code 82 = .ok (.ireturn, 1) := by decide +kernel
theorem d2_83 : decode method_3_code 83 = .ok (.lload_n 0, 1) := by decide +kernel
theorem d2_84 : decode method_3_code 84 = .ok (.ldc2_w 23, 3) := by decide +kernel
theorem d2_87 : decode method_3_code 87 = .ok (.lcmp, 1) := by decide +kernel
theorem d2_88 : decode method_3_code 88 = .ok (.ifCond .ge 6, 3) := by decide +kernel
theorem d2_91 : decode method_3_code 91 = .ok (.bipush 9, 2) := by decide +kernel
theorem d2_93 : decode method_3_code 93 = .ok (.ireturn, 1) := by decide +kernel
theorem d2_94 : decode method_3_code 94 = .ok (.bipush 10, 2) := by decide +kernel
theorem d2_96 : decode method_3_code 96 = .ok (.ireturn, 1) := by decide +kernel
theorem rl_dc_pn : plainFor (⟨"com/example/planfold/planfold/rules/FiguresYearSpanPinLaw", "digitCount", "(J)I"⟩ : MethodName) = true := plainFor_of_name (show plainName "com/example/planfold/planfold/rules/FiguresYearSpanPinLaw" = true by first | (simp [plainName, overriddenIn]; done) | decide +kernel)
theorem rl_dc_ef (mI : MethodId) (x : Int64) : entryFrame mI #[(.long x)] 2 = mkF mI 0 #[.val (.long x), .second] [] := by first | (simp [entryFrame, mkF, argsToLocals, Value.category]; done) | rfl
set_option maxRecDepth 65536 in
set_option maxHeartbeats 40000000 in
theorem rl_dc (l : Launch) (Z : State) (a0 : Array Value) (hw : ∀ d ∈ tables_1, d.before a0 Z = true) (ws : List Jvm.Cond) (h0 : Heap) (x : Int64) :
    own_Met l Z (⟨"com/example/planfold/planfold/rules/FiguresYearSpanPinLaw", "digitCount", "(J)I"⟩ : MethodName) method_3_code 2 (some .int) ws ({ frames := 0, cells := 0, slots := 0, locals := 0 } : Room) #[(.long x)] h0 (own_QP h0 (some (.int (own_dc x)))) := by
  refine own_met rl_dc_pn ?_
  intro pP eE sS mI bB mT cC s₁ hx hby hml hown hnm hret hlk hZ X0 e0
  replace hown : sS.vm.findClass "com/example/planfold/planfold/rules/FiguresYearSpanPinLaw" = some mI.cls := hown
  refine own_cast (rl_dc_ef mI x) ?_
  refine own_go (T' := s₁) (g' := (mkF mI 1 #[.val (.long x), .second] [(.long x)])) (fun t_ kt_ => XS.lloadN X0.here hx rfl (hb hby d2_0) rfl kt_) ?_
  refine own_go (T' := s₁) (g' := (mkF mI 4 #[.val (.long x), .second] [(.long (10 : Int64)), (.long x)])) (fun t_ kt_ => ldc2J X0 hx hown (mvT hZ (hw _ (List.mem_of_getElem? (i := 7) rfl))) rfl (hb hby d2_1) kt_) ?_
  refine own_go (T' := s₁) (g' := (mkF mI 5 #[.val (.long x), .second] [(.int (lcmpW x (10 : Int64)))])) (fun t_ kt_ => XS.lcmp X0.here hx rfl (hb hby d2_4) rfl kt_) ?_
  by_cases hc5_Ja1 : x < (10 : Int64)
  · skip
    refine own_go (T' := s₁) (g' := (mkF mI 8 #[.val (.long x), .second] [])) (fun t_ kt_ => XS.ifNo X0.here hx rfl (hb hby d2_5) rfl (XT.ll_ge_f hc5_Ja1) kt_) ?_
    refine own_go (T' := s₁) (g' := (mkF mI 9 #[.val (.long x), .second] [(.int (1 : Int32))])) (fun t_ kt_ => XS.iconst X0.here hx rfl (hb hby d2_8) kt_) ?_
    refine own_retI X0 hx hlk hret (hb hby d2_9) (by decide) (by decide) ?_
    exact ⟨by rw [own_dc, if_pos hc5_Ja1], rfl, e0⟩
  · skip
    refine own_go (T' := s₁) (g' := (mkF mI 10 #[.val (.long x), .second] [])) (fun t_ kt_ => XS.ifYes X0.here hx rfl (pc0 := 5) (pc' := 10) rfl (hb hby d2_5) rfl (XT.ll_ge_t hc5_Ja1) (by decide) (by decide) kt_) ?_
    refine own_go (T' := s₁) (g' := (mkF mI 11 #[.val (.long x), .second] [(.long x)])) (fun t_ kt_ => XS.lloadN X0.here hx rfl (hb hby d2_10) rfl kt_) ?_
    refine own_go (T' := s₁) (g' := (mkF mI 14 #[.val (.long x), .second] [(.long (100 : Int64)), (.long x)])) (fun t_ kt_ => ldc2J X0 hx hown (mvT hZ (hw _ (List.mem_of_getElem? (i := 83) rfl))) rfl (hb hby d2_11) kt_) ?_
    refine own_go (T' := s₁) (g' := (mkF mI 15 #[.val (.long x), .second] [(.int (lcmpW x (100 : Int64)))])) (fun t_ kt_ => XS.lcmp X0.here hx rfl (hb hby d2_14) rfl kt_) ?_
    by_cases hc15_Ja2 : x < (100 : Int64)
    · skip
      refine own_go (T' := s₁) (g' := (mkF mI 18 #[.val (.long x), .second] [])) (fun t_ kt_ => XS.ifNo X0.here hx rfl (hb hby d2_15) rfl (XT.ll_ge_f hc15_Ja2) kt_) ?_
      refine own_go (T' := s₁) (g' := (mkF mI 19 #[.val (.long x), .second] [(.int (2 : Int32))])) (fun t_ kt_ => XS.iconst X0.here hx rfl (hb hby d2_18) kt_) ?_
      refine own_retI X0 hx hlk hret (hb hby d2_19) (by decide) (by decide) ?_
      exact ⟨by rw [own_dc, if_neg hc5_Ja1, if_pos hc15_Ja2], rfl, e0⟩
    · skip
      refine own_go (T' := s₁) (g' := (mkF mI 20 #[.val (.long x), .second] [])) (fun t_ kt_ => XS.ifYes X0.here hx rfl (pc0 := 15) (pc' := 20) rfl (hb hby d2_15) rfl (XT.ll_ge_t hc15_Ja2) (by decide) (by decide) kt_) ?_
      refine own_go (T' := s₁) (g' := (mkF mI 21 #[.val (.long x), .second] [(.long x)])) (fun t_ kt_ => XS.lloadN X0.here hx rfl (hb hby d2_20) rfl kt_) ?_
      refine own_go (T' := s₁) (g' := (mkF mI 24 #[.val (.long x), .second] [(.long (1000 : Int64)), (.long x)])) (fun t_ kt_ => ldc2J X0 hx hown (mvT hZ (hw _ (List.mem_of_getElem? (i := 84) rfl))) rfl (hb hby d2_21) kt_) ?_
      refine own_go (T' := s₁) (g' := (mkF mI 25 #[.val (.long x), .second] [(.int (lcmpW x (1000 : Int64)))])) (fun t_ kt_ => XS.lcmp X0.here hx rfl (hb hby d2_24) rfl kt_) ?_
      by_cases hc25_Ja3 : x < (1000 : Int64)
      · skip
        refine own_go (T' := s₁) (g' := (mkF mI 28 #[.val (.long x), .second] [])) (fun t_ kt_ => XS.ifNo X0.here hx rfl (hb hby d2_25) rfl (XT.ll_ge_f hc25_Ja3) kt_) ?_
        refine own_go (T' := s₁) (g' := (mkF mI 29 #[.val (.long x), .second] [(.int (3 : Int32))])) (fun t_ kt_ => XS.iconst X0.here hx rfl (hb hby d2_28) kt_) ?_
        refine own_retI X0 hx hlk hret (hb hby d2_29) (by decide) (by decide) ?_
        exact ⟨by rw [own_dc, if_neg hc5_Ja1, if_neg hc15_Ja2, if_pos hc25_Ja3], rfl, e0⟩
      · skip
        refine own_go (T' := s₁) (g' := (mkF mI 30 #[.val (.long x), .second] [])) (fun t_ kt_ => XS.ifYes X0.here hx rfl (pc0 := 25) (pc' := 30) rfl (hb hby d2_25) rfl (XT.ll_ge_t hc25_Ja3) (by decide) (by decide) kt_) ?_
        refine own_go (T' := s₁) (g' := (mkF mI 31 #[.val (.long x), .second] [(.long x)])) (fun t_ kt_ => XS.lloadN X0.here hx rfl (hb hby d2_30) rfl kt_) ?_
        refine own_go (T' := s₁) (g' := (mkF mI 34 #[.val (.long x), .second] [(.long (10000 : Int64)), (.long x)])) (fun t_ kt_ => ldc2J X0 hx hown (mvT hZ (hw _ (List.mem_of_getElem? (i := 85) rfl))) rfl (hb hby d2_31) kt_) ?_
        refine own_go (T' := s₁) (g' := (mkF mI 35 #[.val (.long x), .second] [(.int (lcmpW x (10000 : Int64)))])) (fun t_ kt_ => XS.lcmp X0.here hx rfl (hb hby d2_34) rfl kt_) ?_
        by_cases hc35_Ja4 : x < (10000 : Int64)
        · skip
          refine own_go (T' := s₁) (g' := (mkF mI 38 #[.val (.long x), .second] [])) (fun t_ kt_ => XS.ifNo X0.here hx rfl (hb hby d2_35) rfl (XT.ll_ge_f hc35_Ja4) kt_) ?_
          refine own_go (T' := s₁) (g' := (mkF mI 39 #[.val (.long x), .second] [(.int (4 : Int32))])) (fun t_ kt_ => XS.iconst X0.here hx rfl (hb hby d2_38) kt_) ?_
          refine own_retI X0 hx hlk hret (hb hby d2_39) (by decide) (by decide) ?_
          exact ⟨by rw [own_dc, if_neg hc5_Ja1, if_neg hc15_Ja2, if_neg hc25_Ja3, if_pos hc35_Ja4], rfl, e0⟩
        · skip
          refine own_go (T' := s₁) (g' := (mkF mI 40 #[.val (.long x), .second] [])) (fun t_ kt_ => XS.ifYes X0.here hx rfl (pc0 := 35) (pc' := 40) rfl (hb hby d2_35) rfl (XT.ll_ge_t hc35_Ja4) (by decide) (by decide) kt_) ?_
          refine own_go (T' := s₁) (g' := (mkF mI 41 #[.val (.long x), .second] [(.long x)])) (fun t_ kt_ => XS.lloadN X0.here hx rfl (hb hby d2_40) rfl kt_) ?_
          refine own_go (T' := s₁) (g' := (mkF mI 44 #[.val (.long x), .second] [(.long (100000 : Int64)), (.long x)])) (fun t_ kt_ => ldc2J X0 hx hown (mvT hZ (hw _ (List.mem_of_getElem? (i := 86) rfl))) rfl (hb hby d2_41) kt_) ?_
          refine own_go (T' := s₁) (g' := (mkF mI 45 #[.val (.long x), .second] [(.int (lcmpW x (100000 : Int64)))])) (fun t_ kt_ => XS.lcmp X0.here hx rfl (hb hby d2_44) rfl kt_) ?_
          by_cases hc45_Ja5 : x < (100000 : Int64)
          · skip
            refine own_go (T' := s₁) (g' := (mkF mI 48 #[.val (.long x), .second] [])) (fun t_ kt_ => XS.ifNo X0.here hx rfl (hb hby d2_45) rfl (XT.ll_ge_f hc45_Ja5) kt_) ?_
            refine own_go (T' := s₁) (g' := (mkF mI 49 #[.val (.long x), .second] [(.int (5 : Int32))])) (fun t_ kt_ => XS.iconst X0.here hx rfl (hb hby d2_48) kt_) ?_
            refine own_retI X0 hx hlk hret (hb hby d2_49) (by decide) (by decide) ?_
            exact ⟨by rw [own_dc, if_neg hc5_Ja1, if_neg hc15_Ja2, if_neg hc25_Ja3, if_neg hc35_Ja4, if_pos hc45_Ja5], rfl, e0⟩
          · skip
            refine own_go (T' := s₁) (g' := (mkF mI 50 #[.val (.long x), .second] [])) (fun t_ kt_ => XS.ifYes X0.here hx rfl (pc0 := 45) (pc' := 50) rfl (hb hby d2_45) rfl (XT.ll_ge_t hc45_Ja5) (by decide) (by decide) kt_) ?_
            refine own_go (T' := s₁) (g' := (mkF mI 51 #[.val (.long x), .second] [(.long x)])) (fun t_ kt_ => XS.lloadN X0.here hx rfl (hb hby d2_50) rfl kt_) ?_
            refine own_go (T' := s₁) (g' := (mkF mI 54 #[.val (.long x), .second] [(.long (1000000 : Int64)), (.long x)])) (fun t_ kt_ => ldc2J X0 hx hown (mvT hZ (hw _ (List.mem_of_getElem? (i := 87) rfl))) rfl (hb hby d2_51) kt_) ?_
            refine own_go (T' := s₁) (g' := (mkF mI 55 #[.val (.long x), .second] [(.int (lcmpW x (1000000 : Int64)))])) (fun t_ kt_ => XS.lcmp X0.here hx rfl (hb hby d2_54) rfl kt_) ?_
            by_cases hc55_Ja6 : x < (1000000 : Int64)
            · skip
              refine own_go (T' := s₁) (g' := (mkF mI 58 #[.val (.long x), .second] [])) (fun t_ kt_ => XS.ifNo X0.here hx rfl (hb hby d2_55) rfl (XT.ll_ge_f hc55_Ja6) kt_) ?_
              refine own_go (T' := s₁) (g' := (mkF mI 60 #[.val (.long x), .second] [(.int (6 : Int32))])) (fun t_ kt_ => XS.bipush X0.here hx rfl (hb hby d2_58) kt_) ?_
              refine own_retI X0 hx hlk hret (hb hby d2_60) (by decide) (by decide) ?_
              exact ⟨by rw [own_dc, if_neg hc5_Ja1, if_neg hc15_Ja2, if_neg hc25_Ja3, if_neg hc35_Ja4, if_neg hc45_Ja5, if_pos hc55_Ja6], rfl, e0⟩
            · skip
              refine own_go (T' := s₁) (g' := (mkF mI 61 #[.val (.long x), .second] [])) (fun t_ kt_ => XS.ifYes X0.here hx rfl (pc0 := 55) (pc' := 61) rfl (hb hby d2_55) rfl (XT.ll_ge_t hc55_Ja6) (by decide) (by decide) kt_) ?_
              refine own_go (T' := s₁) (g' := (mkF mI 62 #[.val (.long x), .second] [(.long x)])) (fun t_ kt_ => XS.lloadN X0.here hx rfl (hb hby d2_61) rfl kt_) ?_
              refine own_go (T' := s₁) (g' := (mkF mI 65 #[.val (.long x), .second] [(.long (10000000 : Int64)), (.long x)])) (fun t_ kt_ => ldc2J X0 hx hown (mvT hZ (hw _ (List.mem_of_getElem? (i := 88) rfl))) rfl (hb hby d2_62) kt_) ?_
              refine own_go (T' := s₁) (g' := (mkF mI 66 #[.val (.long x), .second] [(.int (lcmpW x (10000000 : Int64)))])) (fun t_ kt_ => XS.lcmp X0.here hx rfl (hb hby d2_65) rfl kt_) ?_
              by_cases hc66_Ja7 : x < (10000000 : Int64)
              · skip
                refine own_go (T' := s₁) (g' := (mkF mI 69 #[.val (.long x), .second] [])) (fun t_ kt_ => XS.ifNo X0.here hx rfl (hb hby d2_66) rfl (XT.ll_ge_f hc66_Ja7) kt_) ?_
                refine own_go (T' := s₁) (g' := (mkF mI 71 #[.val (.long x), .second] [(.int (7 : Int32))])) (fun t_ kt_ => XS.bipush X0.here hx rfl (hb hby d2_69) kt_) ?_
                refine own_retI X0 hx hlk hret (hb hby d2_71) (by decide) (by decide) ?_
                exact ⟨by rw [own_dc, if_neg hc5_Ja1, if_neg hc15_Ja2, if_neg hc25_Ja3, if_neg hc35_Ja4, if_neg hc45_Ja5, if_neg hc55_Ja6, if_pos hc66_Ja7], rfl, e0⟩
              · skip
                refine own_go (T' := s₁) (g' := (mkF mI 72 #[.val (.long x), .second] [])) (fun t_ kt_ => XS.ifYes X0.here hx rfl (pc0 := 66) (pc' := 72) rfl (hb hby d2_66) rfl (XT.ll_ge_t hc66_Ja7) (by decide) (by decide) kt_) ?_
                refine own_go (T' := s₁) (g' := (mkF mI 73 #[.val (.long x), .second] [(.long x)])) (fun t_ kt_ => XS.lloadN X0.here hx rfl (hb hby d2_72) rfl kt_) ?_
                refine own_go (T' := s₁) (g' := (mkF mI 76 #[.val (.long x), .second] [(.long (100000000 : Int64)), (.long x)])) (fun t_ kt_ => ldc2J X0 hx hown (mvT hZ (hw _ (List.mem_of_getElem? (i := 89) rfl))) rfl (hb hby d2_73) kt_) ?_
                refine own_go (T' := s₁) (g' := (mkF mI 77 #[.val (.long x), .second] [(.int (lcmpW x (100000000 : Int64)))])) (fun t_ kt_ => XS.lcmp X0.here hx rfl (hb hby d2_76) rfl kt_) ?_
                by_cases hc77_Ja8 : x < (100000000 : Int64)
                · skip
                  refine own_go (T' := s₁) (g' := (mkF mI 80 #[.val (.long x), .second] [])) (fun t_ kt_ => XS.ifNo X0.here hx rfl (hb hby d2_77) rfl (XT.ll_ge_f hc77_Ja8) kt_) ?_
                  refine own_go (T' := s₁) (g' := (mkF mI 82 #[.val (.long x), .second] [(.int (8 : Int32))])) (fun t_ kt_ => XS.bipush X0.here hx rfl (hb hby d2_80) kt_) ?_
                  refine own_retI X0 hx hlk hret (hb hby d2_82) (by decide) (by decide) ?_
                  exact ⟨by rw [own_dc, if_neg hc5_Ja1, if_neg hc15_Ja2, if_neg hc25_Ja3, if_neg hc35_Ja4, if_neg hc45_Ja5, if_neg hc55_Ja6, if_neg hc66_Ja7, if_pos hc77_Ja8], rfl, e0⟩
                · skip
                  refine own_go (T' := s₁) (g' := (mkF mI 83 #[.val (.long x), .second] [])) (fun t_ kt_ => XS.ifYes X0.here hx rfl (pc0 := 77) (pc' := 83) rfl (hb hby d2_77) rfl (XT.ll_ge_t hc77_Ja8) (by decide) (by decide) kt_) ?_
                  refine own_go (T' := s₁) (g' := (mkF mI 84 #[.val (.long x), .second] [(.long x)])) (fun t_ kt_ => XS.lloadN X0.here hx rfl (hb hby d2_83) rfl kt_) ?_
                  refine own_go (T' := s₁) (g' := (mkF mI 87 #[.val (.long x), .second] [(.long (1000000000 : Int64)), (.long x)])) (fun t_ kt_ => ldc2J X0 hx hown (mvT hZ (hw _ (List.mem_of_getElem? (i := 90) rfl))) rfl (hb hby d2_84) kt_) ?_
                  refine own_go (T' := s₁) (g' := (mkF mI 88 #[.val (.long x), .second] [(.int (lcmpW x (1000000000 : Int64)))])) (fun t_ kt_ => XS.lcmp X0.here hx rfl (hb hby d2_87) rfl kt_) ?_
                  by_cases hc88_Ja9 : x < (1000000000 : Int64)
                  · skip
                    refine own_go (T' := s₁) (g' := (mkF mI 91 #[.val (.long x), .second] [])) (fun t_ kt_ => XS.ifNo X0.here hx rfl (hb hby d2_88) rfl (XT.ll_ge_f hc88_Ja9) kt_) ?_
                    refine own_go (T' := s₁) (g' := (mkF mI 93 #[.val (.long x), .second] [(.int (9 : Int32))])) (fun t_ kt_ => XS.bipush X0.here hx rfl (hb hby d2_91) kt_) ?_
                    refine own_retI X0 hx hlk hret (hb hby d2_93) (by decide) (by decide) ?_
                    exact ⟨by rw [own_dc, if_neg hc5_Ja1, if_neg hc15_Ja2, if_neg hc25_Ja3, if_neg hc35_Ja4, if_neg hc45_Ja5, if_neg hc55_Ja6, if_neg hc66_Ja7, if_neg hc77_Ja8, if_pos hc88_Ja9], rfl, e0⟩
                  · skip
                    refine own_go (T' := s₁) (g' := (mkF mI 94 #[.val (.long x), .second] [])) (fun t_ kt_ => XS.ifYes X0.here hx rfl (pc0 := 88) (pc' := 94) rfl (hb hby d2_88) rfl (XT.ll_ge_t hc88_Ja9) (by decide) (by decide) kt_) ?_
                    refine own_go (T' := s₁) (g' := (mkF mI 96 #[.val (.long x), .second] [(.int (10 : Int32))])) (fun t_ kt_ => XS.bipush X0.here hx rfl (hb hby d2_94) kt_) ?_
                    refine own_retI X0 hx hlk hret (hb hby d2_96) (by decide) (by decide) ?_
                    exact ⟨by rw [own_dc, if_neg hc5_Ja1, if_neg hc15_Ja2, if_neg hc25_Ja3, if_neg hc35_Ja4, if_neg hc45_Ja5, if_neg hc55_Ja6, if_neg hc66_Ja7, if_neg hc77_Ja8, if_neg hc88_Ja9], rfl, e0⟩
def own_dl (v : Int64) : Int32 := if v < 0 then 1 + own_dc (-v) else 0 + own_dc v
theorem d1_0 : decode method_4_code 0 = .ok (.lload_n 0, 1) := by decide +kernel
theorem d1_1 : decode method_4_code 1 = .ok (.lconst 0, 1) := by decide +kernel
theorem d1_2 : decode method_4_code 2 = .ok (.lcmp, 1) := by decide +kernel
theorem d1_3 : decode method_4_code 3 = .ok (.ifCond .ge 8, 3) := by decide +kernel
theorem d1_6 : decode method_4_code 6 = .ok (.lload_n 0, 1) := by decide +kernel
theorem d1_7 : decode method_4_code 7 = .ok (.lneg, 1) := by decide +kernel
theorem d1_8 : decode method_4_code 8 = .ok (.goto 4, 3) := by decide +kernel
theorem d1_11 : decode method_4_code 11 = .ok (.lload_n 0, 1) := by decide +kernel
theorem d1_12 : decode method_4_code 12 = .ok (.lstore_n 2, 1) := by decide +kernel
theorem d1_13 : decode method_4_code 13 = .ok (.lload_n 0, 1) := by decide +kernel
theorem d1_14 : decode method_4_code 14 = .ok (.lconst 0, 1) := by decide +kernel
theorem d1_15 : decode method_4_code 15 = .ok (.lcmp, 1) := by decide +kernel
theorem d1_16 : decode method_4_code 16 = .ok (.ifCond .ge 7, 3) := by decide +kernel
theorem d1_19 : decode method_4_code 19 = .ok (.iconst 1, 1) := by decide +kernel
theorem d1_20 : decode method_4_code 20 = .ok (.goto 4, 3) := by decide +kernel
theorem d1_23 : decode method_4_code 23 = .ok (.iconst 0, 1) := by decide +kernel
theorem d1_24 : decode method_4_code 24 = .ok (.lload_n 2, 1) := by decide +kernel
theorem d1_25 : decode method_4_code 25 = .ok (.invokestatic 25, 3) := by decide +kernel
theorem d1_28 : decode method_4_code 28 = .ok (.iadd, 1) := by decide +kernel
theorem d1_29 : decode method_4_code 29 = .ok (.ireturn, 1) := by decide +kernel
theorem rl_dl_pn : plainFor (⟨"com/example/planfold/planfold/rules/FiguresYearSpanPinLaw", "decLen", "(J)I"⟩ : MethodName) = true := plainFor_of_name (show plainName "com/example/planfold/planfold/rules/FiguresYearSpanPinLaw" = true by first | (simp [plainName, overriddenIn]; done) | decide +kernel)
theorem rl_dl_ef (mI : MethodId) (v : Int64) : entryFrame mI #[(.long v)] 4 = mkF mI 0 #[.val (.long v), .second, .unset, .unset] [] := by first | (simp [entryFrame, mkF, argsToLocals, Value.category]; done) | rfl
set_option maxRecDepth 65536 in
set_option maxHeartbeats 40000000 in
theorem rl_dl (l : Launch) (Z : State) (a0 : Array Value) (hw : ∀ d ∈ tables_1, d.before a0 Z = true) (ws : List Jvm.Cond) (h0 : Heap) (v : Int64) :
    own_Met l Z (⟨"com/example/planfold/planfold/rules/FiguresYearSpanPinLaw", "decLen", "(J)I"⟩ : MethodName) method_4_code 4 (some .int) ws ({ frames := 1, cells := 0, slots := 0, locals := 14 } : Room) #[(.long v)] h0 (own_QP h0 (some (.int (own_dl v)))) := by
  refine own_met rl_dl_pn ?_
  intro pP eE sS mI bB mT cC s₁ hx hby hml hown hnm hret hlk hZ X0 e0
  replace hown : sS.vm.findClass "com/example/planfold/planfold/rules/FiguresYearSpanPinLaw" = some mI.cls := hown
  refine own_cast (rl_dl_ef mI v) ?_
  refine own_go (T' := s₁) (g' := (mkF mI 1 #[.val (.long v), .second, .unset, .unset] [(.long v)])) (fun t_ kt_ => XS.lloadN X0.here hx rfl (hb hby d1_0) rfl kt_) ?_
  refine own_go (T' := s₁) (g' := (mkF mI 2 #[.val (.long v), .second, .unset, .unset] [(.long (0 : Int64)), (.long v)])) (fun t_ kt_ => XS.lconst X0.here hx rfl (hb hby d1_1) kt_) ?_
  refine own_go (T' := s₁) (g' := (mkF mI 3 #[.val (.long v), .second, .unset, .unset] [(.int (lcmpW v (0 : Int64)))])) (fun t_ kt_ => XS.lcmp X0.here hx rfl (hb hby d1_2) rfl kt_) ?_
  by_cases hc3_Jb1 : v < (0 : Int64)
  · skip
    refine own_go (T' := s₁) (g' := (mkF mI 6 #[.val (.long v), .second, .unset, .unset] [])) (fun t_ kt_ => XS.ifNo X0.here hx rfl (hb hby d1_3) rfl (XT.ll_ge_f hc3_Jb1) kt_) ?_
    refine own_go (T' := s₁) (g' := (mkF mI 7 #[.val (.long v), .second, .unset, .unset] [(.long v)])) (fun t_ kt_ => XS.lloadN X0.here hx rfl (hb hby d1_6) rfl kt_) ?_
    refine own_go (T' := s₁) (g' := (mkF mI 8 #[.val (.long v), .second, .unset, .unset] [(.long (-v))])) (fun t_ kt_ => XS.lneg X0.here hx rfl (hb hby d1_7) rfl kt_) ?_
    refine own_go (T' := s₁) (g' := (mkF mI 12 #[.val (.long v), .second, .unset, .unset] [(.long (-v))])) (fun t_ kt_ => XS.goto X0.here hx rfl (pc0 := 8) (pc' := 12) rfl (hb hby d1_8) (by decide) (by decide) kt_) ?_
    refine own_go (T' := s₁) (g' := (mkF mI 13 #[.val (.long v), .second, .val (.long (-v)), .second] [])) (fun t_ kt_ => XS.lstoreN X0.here hx rfl (hb hby d1_12) rfl (l' := #[.val (.long v), .second, .val (.long (-v)), .second]) rfl kt_) ?_
    refine own_go (T' := s₁) (g' := (mkF mI 14 #[.val (.long v), .second, .val (.long (-v)), .second] [(.long v)])) (fun t_ kt_ => XS.lloadN X0.here hx rfl (hb hby d1_13) rfl kt_) ?_
    refine own_go (T' := s₁) (g' := (mkF mI 15 #[.val (.long v), .second, .val (.long (-v)), .second] [(.long (0 : Int64)), (.long v)])) (fun t_ kt_ => XS.lconst X0.here hx rfl (hb hby d1_14) kt_) ?_
    refine own_go (T' := s₁) (g' := (mkF mI 16 #[.val (.long v), .second, .val (.long (-v)), .second] [(.int (lcmpW v (0 : Int64)))])) (fun t_ kt_ => XS.lcmp X0.here hx rfl (hb hby d1_15) rfl kt_) ?_
    refine own_go (T' := s₁) (g' := (mkF mI 19 #[.val (.long v), .second, .val (.long (-v)), .second] [])) (fun t_ kt_ => XS.ifNo X0.here hx rfl (hb hby d1_16) rfl (XT.ll_ge_f (hc3_Jb1 : v < (0 : Int64))) kt_) ?_
    refine own_go (T' := s₁) (g' := (mkF mI 20 #[.val (.long v), .second, .val (.long (-v)), .second] [(.int (1 : Int32))])) (fun t_ kt_ => XS.iconst X0.here hx rfl (hb hby d1_19) kt_) ?_
    refine own_go (T' := s₁) (g' := (mkF mI 24 #[.val (.long v), .second, .val (.long (-v)), .second] [(.int (1 : Int32))])) (fun t_ kt_ => XS.goto X0.here hx rfl (pc0 := 20) (pc' := 24) rfl (hb hby d1_20) (by decide) (by decide) kt_) ?_
    refine own_go (T' := s₁) (g' := (mkF mI 25 #[.val (.long v), .second, .val (.long (-v)), .second] [(.long (-v)), (.int (1 : Int32))])) (fun t_ kt_ => XS.lloadN X0.here hx rfl (hb hby d1_24) rfl kt_) ?_
    refine own_callS own_closed X0 hx hZ (y := (⟨"com/example/planfold/planfold/rules/FiguresYearSpanPinLaw", "digitCount", "(J)I"⟩ : MethodName)) hown (hw _ (List.mem_of_getElem? (i := 4) rfl)) (hw _ (List.mem_of_getElem? (i := 5) rfl)) (by decide) (rl_dc l Z a0 hw [] h0 (-v)) (hw _ (List.mem_of_getElem? (i := 6) rfl)) (hw _ (List.mem_of_getElem? (i := 2) rfl)) e0 (pc := 25) (Ls := #[.val (.long v), .second, .val (.long (-v)), .second]) (argsL := [(.long (-v))]) (rest := [(.int (1 : Int32))]) (by rw [hml]; rfl) (lenOf pd_19 rfl) (W := 1) (Nat.le_of_eq rfl) (by decide) (by decide) (by decide) (by decide) (hb hby d1_25) rfl rfl ?_
    intro TJb2 LJb2 vJb2 XJb2 hQJb2
    obtain ⟨rfl, rfl, eJb2⟩ := hQJb2
    show own_Ends pP eE bB sS _ _ TJb2 (mkF mI 28 #[.val (.long v), .second, .val (.long (-v)), .second] [(.int (own_dc (-v))), (.int (1 : Int32))])
    refine own_go (T' := TJb2) (g' := (mkF mI 29 #[.val (.long v), .second, .val (.long (-v)), .second] [(.int ((1 : Int32) + (own_dc (-v))))])) (fun t_ kt_ => XS.iadd XJb2.here hx rfl (hb hby d1_28) rfl kt_) ?_
    refine own_retI XJb2 hx hlk hret (hb hby d1_29) (by decide) (by decide) ?_
    exact ⟨by simp [own_dl, hc3_Jb1], rfl, eJb2⟩
  · skip
    refine own_go (T' := s₁) (g' := (mkF mI 11 #[.val (.long v), .second, .unset, .unset] [])) (fun t_ kt_ => XS.ifYes X0.here hx rfl (pc0 := 3) (pc' := 11) rfl (hb hby d1_3) rfl (XT.ll_ge_t hc3_Jb1) (by decide) (by decide) kt_) ?_
    refine own_go (T' := s₁) (g' := (mkF mI 12 #[.val (.long v), .second, .unset, .unset] [(.long v)])) (fun t_ kt_ => XS.lloadN X0.here hx rfl (hb hby d1_11) rfl kt_) ?_
    refine own_go (T' := s₁) (g' := (mkF mI 13 #[.val (.long v), .second, .val (.long v), .second] [])) (fun t_ kt_ => XS.lstoreN X0.here hx rfl (hb hby d1_12) rfl (l' := #[.val (.long v), .second, .val (.long v), .second]) rfl kt_) ?_
    refine own_go (T' := s₁) (g' := (mkF mI 14 #[.val (.long v), .second, .val (.long v), .second] [(.long v)])) (fun t_ kt_ => XS.lloadN X0.here hx rfl (hb hby d1_13) rfl kt_) ?_
    refine own_go (T' := s₁) (g' := (mkF mI 15 #[.val (.long v), .second, .val (.long v), .second] [(.long (0 : Int64)), (.long v)])) (fun t_ kt_ => XS.lconst X0.here hx rfl (hb hby d1_14) kt_) ?_
    refine own_go (T' := s₁) (g' := (mkF mI 16 #[.val (.long v), .second, .val (.long v), .second] [(.int (lcmpW v (0 : Int64)))])) (fun t_ kt_ => XS.lcmp X0.here hx rfl (hb hby d1_15) rfl kt_) ?_
    refine own_go (T' := s₁) (g' := (mkF mI 23 #[.val (.long v), .second, .val (.long v), .second] [])) (fun t_ kt_ => XS.ifYes X0.here hx rfl (pc0 := 16) (pc' := 23) rfl (hb hby d1_16) rfl (XT.ll_ge_t (hc3_Jb1 : ¬ (v < (0 : Int64)))) (by decide) (by decide) kt_) ?_
    refine own_go (T' := s₁) (g' := (mkF mI 24 #[.val (.long v), .second, .val (.long v), .second] [(.int (0 : Int32))])) (fun t_ kt_ => XS.iconst X0.here hx rfl (hb hby d1_23) kt_) ?_
    refine own_go (T' := s₁) (g' := (mkF mI 25 #[.val (.long v), .second, .val (.long v), .second] [(.long v), (.int (0 : Int32))])) (fun t_ kt_ => XS.lloadN X0.here hx rfl (hb hby d1_24) rfl kt_) ?_
    refine own_callS own_closed X0 hx hZ (y := (⟨"com/example/planfold/planfold/rules/FiguresYearSpanPinLaw", "digitCount", "(J)I"⟩ : MethodName)) hown (hw _ (List.mem_of_getElem? (i := 4) rfl)) (hw _ (List.mem_of_getElem? (i := 5) rfl)) (by decide) (rl_dc l Z a0 hw [] h0 v) (hw _ (List.mem_of_getElem? (i := 6) rfl)) (hw _ (List.mem_of_getElem? (i := 2) rfl)) e0 (pc := 25) (Ls := #[.val (.long v), .second, .val (.long v), .second]) (argsL := [(.long v)]) (rest := [(.int (0 : Int32))]) (by rw [hml]; rfl) (lenOf pd_19 rfl) (W := 1) (Nat.le_of_eq rfl) (by decide) (by decide) (by decide) (by decide) (hb hby d1_25) rfl rfl ?_
    intro TJb3 LJb3 vJb3 XJb3 hQJb3
    obtain ⟨rfl, rfl, eJb3⟩ := hQJb3
    show own_Ends pP eE bB sS _ _ TJb3 (mkF mI 28 #[.val (.long v), .second, .val (.long v), .second] [(.int (own_dc v)), (.int (0 : Int32))])
    refine own_go (T' := TJb3) (g' := (mkF mI 29 #[.val (.long v), .second, .val (.long v), .second] [(.int ((0 : Int32) + (own_dc v)))])) (fun t_ kt_ => XS.iadd XJb3.here hx rfl (hb hby d1_28) rfl kt_) ?_
    refine own_retI XJb3 hx hlk hret (hb hby d1_29) (by decide) (by decide) ?_
    exact ⟨by simp [own_dl, hc3_Jb1], rfl, eJb3⟩
def own_pows : List Value := [(.long (1 : Int64)), (.long (10 : Int64)), (.long (100 : Int64)), (.long (1000 : Int64)), (.long (10000 : Int64)), (.long (100000 : Int64)), (.long (1000000 : Int64)), (.long (10000000 : Int64)), (.long (100000000 : Int64)), (.long (1000000000 : Int64))]
def own_QG (h0 : Heap) (n0 : Nat) (r : Option Value) (v : Option Value) (h : Heap) (L : List Loc) : Prop := v = r ∧ Fr n0 L ∧ Keep h0 h []
theorem d18_0 : decode method_2_code 0 = .ok (.bipush 10, 2) := by decide +kernel
theorem d18_2 : decode method_2_code 2 = .ok (.newarray .long, 2) := by decide +kernel
theorem d18_4 : decode method_2_code 4 = .ok (.dup, 1) := by decide +kernel
theorem d18_5 : decode method_2_code 5 = .ok (.iconst 0, 1) := by decide +kernel
theorem d18_6 : decode method_2_code 6 = .ok (.lconst 1, 1) := by decide +kernel
theorem d18_7 : decode method_2_code 7 = .ok (.lastore, 1) := by decide +kernel
theorem d18_8 : decode method_2_code 8 = .ok (.dup, 1) := by decide +kernel
theorem d18_9 : decode method_2_code 9 = .ok (.iconst 1, 1) := by decide +kernel
theorem d18_10 : decode method_2_code 10 = .ok (.ldc2_w 7, 3) := by decide +kernel
theorem d18_13 : decode method_2_code 13 = .ok (.lastore, 1) := by decide +kernel
theorem d18_14 : decode method_2_code 14 = .ok (.dup, 1) := by decide +kernel
theorem d18_15 : decode method_2_code 15 = .ok (.iconst 2, 1) := by decide +kernel
theorem d18_16 : decode method_2_code 16 = .ok (.ldc2_w 9, 3) := by decide +kernel
theorem d18_19 : decode method_2_code 19 = .ok (.lastore, 1) := by decide +kernel
theorem d18_20 : decode method_2_code 20 = .ok (.dup, 1) := by decide +kernel
theorem d18_21 : decode method_2_code 21 = .ok (.iconst 3, 1) := by decide +kernel
theorem d18_22 : decode method_2_code 22 = .ok (.ldc2_w 11, 3) := by decide +kernel
theorem d18_25 : decode method_2_code 25 = .ok (.lastore, 1) := by decide +kernel
theorem d18_26 : decode method_2_code 26 = .ok (.dup, 1) := by decide +kernel
theorem d18_27 : decode method_2_code 27 = .ok (.iconst 4, 1) := by decide +kernel
theorem d18_28 : decode method_2_code 28 = .ok (.ldc2_w 13, 3) := by decide +kernel
theorem d18_31 : decode method_2_code 31 = .ok (.lastore, 1) := by decide +kernel
theorem d18_32 : decode method_2_code 32 = .ok (.dup, 1) := by decide +kernel
theorem d18_33 : decode method_2_code 33 = .ok (.iconst 5, 1) := by decide +kernel
theorem d18_34 : decode method_2_code 34 = .ok (.ldc2_w 15, 3) := by decide +kernel
theorem d18_37 : decode method_2_code 37 = .ok (.lastore, 1) := by decide +kernel
theorem d18_38 : decode method_2_code 38 = .ok (.dup, 1) := by decide +kernel
theorem d18_39 : decode method_2_code 39 = .ok (.bipush 6, 2) := by decide +kernel
theorem d18_41 : decode method_2_code 41 = .ok (.ldc2_w 17, 3) := by decide +kernel
theorem d18_44 : decode method_2_code 44 = .ok (.lastore, 1) := by decide +kernel
theorem d18_45 : decode method_2_code 45 = .ok (.dup, 1) := by decide +kernel
theorem d18_46 : decode method_2_code 46 = .ok (.bipush 7, 2) := by decide +kernel
theorem d18_48 : decode method_2_code 48 = .ok (.ldc2_w 19, 3) := by decide +kernel
theorem d18_51 : decode method_2_code 51 = .ok (.lastore, 1) := by decide +kernel
theorem d18_52 : decode method_2_code 52 = .ok (.dup, 1) := by decide +kernel
theorem d18_53 : decode method_2_code 53 = .ok (.bipush 8, 2) := by decide +kernel
theorem d18_55 : decode method_2_code 55 = .ok (.ldc2_w 21, 3) := by decide +kernel
theorem d18_58 : decode method_2_code 58 = .ok (.lastore, 1) := by decide +kernel
theorem d18_59 : decode method_2_code 59 = .ok (.dup, 1) := by decide +kernel
theorem d18_60 : decode method_2_code 60 = .ok (.bipush 9, 2) := by decide +kernel
theorem d18_62 : decode method_2_code 62 = .ok (.ldc2_w 23, 3) := by decide +kernel
theorem d18_65 : decode method_2_code 65 = .ok (.lastore, 1) := by decide +kernel
theorem d18_66 : decode method_2_code 66 = .ok (.astore_n 1, 1) := by decide +kernel
theorem d18_67 : decode method_2_code 67 = .ok (.aload_n 1, 1) := by decide +kernel
theorem d18_68 : decode method_2_code 68 = .ok (.iload_n 0, 1) := by decide +kernel
theorem d18_69 : decode method_2_code 69 = .ok (.laload, 1) := by decide +kernel
theorem d18_70 : decode method_2_code 70 = .ok (.lreturn, 1) := by decide +kernel
theorem rl_pow_pn : plainFor (⟨"com/example/planfold/planfold/rules/FiguresYearSpanPinLaw", "pow10", "(I)J"⟩ : MethodName) = true := plainFor_of_name (show plainName "com/example/planfold/planfold/rules/FiguresYearSpanPinLaw" = true by first | (simp [plainName, overriddenIn]; done) | decide +kernel)
theorem rl_pow_ef (mI : MethodId) (ix : Int32) : entryFrame mI #[(.int ix)] 2 = mkF mI 0 #[.val (.int ix), .unset] [] := by first | (simp [entryFrame, mkF, argsToLocals, Value.category]; done) | rfl
set_option maxRecDepth 65536 in
set_option maxHeartbeats 40000000 in
theorem rl_pow (l : Launch) (Z : State) (a0 : Array Value) (hw : ∀ d ∈ tables_1, d.before a0 Z = true) (ws : List Jvm.Cond) (h0 : Heap) (n0 : Nat) (Z0 : n0 ≤ h0.size) (ix : Int32) (w : Int64) (he0 : ¬ ix < 0) (he9 : ix < 10) (hw9 : own_pows.getD ix.toNatClampNeg (.long (0 : Int64)) = .long w) :
    own_Met l Z (⟨"com/example/planfold/planfold/rules/FiguresYearSpanPinLaw", "pow10", "(I)J"⟩ : MethodName) method_2_code 2 (some .long) ws ({ frames := 0, cells := 1, slots := 10, locals := 0 } : Room) #[(.int ix)] h0 (own_QG h0 n0 (some (.long w))) := by
  refine own_met rl_pow_pn ?_
  intro pP eE sS mI bB mT cC s₁ hx hby hml hown hnm hret hlk hZ X0 e0
  replace hown : sS.vm.findClass "com/example/planfold/planfold/rules/FiguresYearSpanPinLaw" = some mI.cls := hown
  refine own_cast (rl_pow_ef mI ix) ?_
  refine own_go (T' := s₁) (g' := (mkF mI 2 #[.val (.int ix), .unset] [(.int (10 : Int32))])) (fun t_ kt_ => XS.bipush X0.here hx rfl (hb hby d18_0) kt_) ?_
  obtain ⟨TJc1, hJc1, kJc1, XJc1, eJc1, ExJc1, AJc1, EcJc1, stJc1⟩ := newPE X0 hx hZ (hw _ (List.mem_of_getElem? (i := 82) rfl)) e0 (g := (mkF mI 2 #[.val (.int ix), .unset] [(.int (10 : Int32))])) rfl (hb hby d18_2) rfl (by decide) (cap := 10) (by decide) (by decide) (by decide) (by decide) (ad := "[J") (by decide)
  obtain ⟨bJc1, gJc1⟩ : ∃ z, z = h0.size := ⟨_, rfl⟩
  rw [← gJc1] at AJc1 EcJc1 stJc1
  have g_bJc1 : n0 ≤ bJc1 := Nat.le_trans Z0 (Nat.le_of_eq gJc1.symm)
  have sz_bJc1 : h0.size ≤ bJc1 := Nat.le_trans (Keep.refl h0 []).1 (Nat.le_of_eq gJc1.symm)
  have ZJc2 : n0 ≤ hJc1.size := Nat.le_trans Z0 ExJc1.1
  have KJc3 : Keep h0 hJc1 [] := (Keep.refl h0 []).ext ExJc1
  have VJc1 : Arv Z hJc1 bJc1 kJc1 .long (10 : Int32) [] (.long (0 : Int64)) := Arv.new AJc1 (by decide)
  have VJc4 : Arv Z hJc1 bJc1 kJc1 .long (10 : Int32) [(.long (0 : Int64)), (.long (0 : Int64)), (.long (0 : Int64)), (.long (0 : Int64)), (.long (0 : Int64)), (.long (0 : Int64)), (.long (0 : Int64)), (.long (0 : Int64)), (.long (0 : Int64)), (.long (0 : Int64))] (.long (0 : Int64)) := Arv.pad VJc1 (pad_rep [] (.long (0 : Int64)) 10)
  refine own_go (T' := TJc1) (g' := (mkF mI 4 #[.val (.int ix), .unset] [(.ref bJc1)])) (fun t_ kt_ => stJc1 _ kt_) ?_
  refine own_go (T' := TJc1) (g' := (mkF mI 5 #[.val (.int ix), .unset] [(.ref bJc1), (.ref bJc1)])) (fun t_ kt_ => XS.dup XJc1.here hx rfl (hb hby d18_4) rfl rfl kt_) ?_
  refine own_go (T' := TJc1) (g' := (mkF mI 6 #[.val (.int ix), .unset] [(.int (0 : Int32)), (.ref bJc1), (.ref bJc1)])) (fun t_ kt_ => XS.iconst XJc1.here hx rfl (hb hby d18_5) kt_) ?_
  refine own_go (T' := TJc1) (g' := (mkF mI 7 #[.val (.int ix), .unset] [(.long (1 : Int64)), (.int (0 : Int32)), (.ref bJc1), (.ref bJc1)])) (fun t_ kt_ => XS.lconst XJc1.here hx rfl (hb hby d18_6) kt_) ?_
  obtain ⟨clJc5, ArJc5, qJc5, SJc5, NgJc5, HJc5, GJc5⟩ := id VJc4
  obtain ⟨TJc6, hJc6, XJc6, eJc6, WJc6, stJc6⟩ := stJ XJc1 hx hZ eJc1 ArJc5 (j := (0 : Int32)) (inb_of SJc5 ⟨by decide, by decide⟩) (g := (mkF mI 7 #[.val (.int ix), .unset] [(.long (1 : Int64)), (.int (0 : Int32)), (.ref bJc1), (.ref bJc1)])) rfl rfl (hb hby d18_7)
  have VJc6 : Arv Z hJc6 bJc1 kJc1 .long (10 : Int32) [(.long (1 : Int64)), (.long (0 : Int64)), (.long (0 : Int64)), (.long (0 : Int64)), (.long (0 : Int64)), (.long (0 : Int64)), (.long (0 : Int64)), (.long (0 : Int64)), (.long (0 : Int64)), (.long (0 : Int64))] (.long (0 : Int64)) := Arv.set ArJc5 qJc5 SJc5 NgJc5 HJc5 GJc5 rfl WJc6 0 rfl (Nat.le_of_ble_eq_true rfl)
  have EJc7 := Exa.wr WJc6 EcJc1
  have ZJc9 : n0 ≤ hJc6.size := Nat.le_trans ZJc2 (Nat.le_of_eq (Wr.size WJc6).symm)
  have KJc10 : Keep h0 hJc6 [] := KJc3.wr WJc6 (Or.inr sz_bJc1)
  have NJc6 := Fr.snoc XJc6 (Fr.nil n0) g_bJc1
  refine own_go (T' := TJc6) (g' := (mkF mI 8 #[.val (.int ix), .unset] [(.ref bJc1)])) (fun t_ kt_ => stJc6 _ kt_) ?_
  refine own_go (T' := TJc6) (g' := (mkF mI 9 #[.val (.int ix), .unset] [(.ref bJc1), (.ref bJc1)])) (fun t_ kt_ => XS.dup XJc6.here hx rfl (hb hby d18_8) rfl rfl kt_) ?_
  refine own_go (T' := TJc6) (g' := (mkF mI 10 #[.val (.int ix), .unset] [(.int (1 : Int32)), (.ref bJc1), (.ref bJc1)])) (fun t_ kt_ => XS.iconst XJc6.here hx rfl (hb hby d18_9) kt_) ?_
  refine own_go (T' := TJc6) (g' := (mkF mI 13 #[.val (.int ix), .unset] [(.long (10 : Int64)), (.int (1 : Int32)), (.ref bJc1), (.ref bJc1)])) (fun t_ kt_ => ldc2J XJc6 hx hown (mvT hZ (hw _ (List.mem_of_getElem? (i := 7) rfl))) rfl (hb hby d18_10) kt_) ?_
  obtain ⟨clJc11, ArJc11, qJc11, SJc11, NgJc11, HJc11, GJc11⟩ := id VJc6
  obtain ⟨TJc12, hJc12, XJc12, eJc12, WJc12, stJc12⟩ := stJ XJc6 hx hZ eJc6 ArJc11 (j := (1 : Int32)) (inb_of SJc11 ⟨by decide, by decide⟩) (g := (mkF mI 13 #[.val (.int ix), .unset] [(.long (10 : Int64)), (.int (1 : Int32)), (.ref bJc1), (.ref bJc1)])) rfl rfl (hb hby d18_13)
  have VJc12 : Arv Z hJc12 bJc1 kJc1 .long (10 : Int32) [(.long (1 : Int64)), (.long (10 : Int64)), (.long (0 : Int64)), (.long (0 : Int64)), (.long (0 : Int64)), (.long (0 : Int64)), (.long (0 : Int64)), (.long (0 : Int64)), (.long (0 : Int64)), (.long (0 : Int64))] (.long (0 : Int64)) := Arv.set ArJc11 qJc11 SJc11 NgJc11 HJc11 GJc11 rfl WJc12 1 rfl (Nat.le_of_ble_eq_true rfl)
  have EJc13 := Exa.wr WJc12 EJc7
  have ZJc15 : n0 ≤ hJc12.size := Nat.le_trans ZJc9 (Nat.le_of_eq (Wr.size WJc12).symm)
  have KJc16 : Keep h0 hJc12 [] := KJc10.wr WJc12 (Or.inr sz_bJc1)
  have NJc12 := Fr.snoc XJc12 NJc6 g_bJc1
  refine own_go (T' := TJc12) (g' := (mkF mI 14 #[.val (.int ix), .unset] [(.ref bJc1)])) (fun t_ kt_ => stJc12 _ kt_) ?_
  refine own_go (T' := TJc12) (g' := (mkF mI 15 #[.val (.int ix), .unset] [(.ref bJc1), (.ref bJc1)])) (fun t_ kt_ => XS.dup XJc12.here hx rfl (hb hby d18_14) rfl rfl kt_) ?_
  refine own_go (T' := TJc12) (g' := (mkF mI 16 #[.val (.int ix), .unset] [(.int (2 : Int32)), (.ref bJc1), (.ref bJc1)])) (fun t_ kt_ => XS.iconst XJc12.here hx rfl (hb hby d18_15) kt_) ?_
  refine own_go (T' := TJc12) (g' := (mkF mI 19 #[.val (.int ix), .unset] [(.long (100 : Int64)), (.int (2 : Int32)), (.ref bJc1), (.ref bJc1)])) (fun t_ kt_ => ldc2J XJc12 hx hown (mvT hZ (hw _ (List.mem_of_getElem? (i := 83) rfl))) rfl (hb hby d18_16) kt_) ?_
  obtain ⟨clJc17, ArJc17, qJc17, SJc17, NgJc17, HJc17, GJc17⟩ := id VJc12
  obtain ⟨TJc18, hJc18, XJc18, eJc18, WJc18, stJc18⟩ := stJ XJc12 hx hZ eJc12 ArJc17 (j := (2 : Int32)) (inb_of SJc17 ⟨by decide, by decide⟩) (g := (mkF mI 19 #[.val (.int ix), .unset] [(.long (100 : Int64)), (.int (2 : Int32)), (.ref bJc1), (.ref bJc1)])) rfl rfl (hb hby d18_19)
  have VJc18 : Arv Z hJc18 bJc1 kJc1 .long (10 : Int32) [(.long (1 : Int64)), (.long (10 : Int64)), (.long (100 : Int64)), (.long (0 : Int64)), (.long (0 : Int64)), (.long (0 : Int64)), (.long (0 : Int64)), (.long (0 : Int64)), (.long (0 : Int64)), (.long (0 : Int64))] (.long (0 : Int64)) := Arv.set ArJc17 qJc17 SJc17 NgJc17 HJc17 GJc17 rfl WJc18 2 rfl (Nat.le_of_ble_eq_true rfl)
  have EJc19 := Exa.wr WJc18 EJc13
  have ZJc21 : n0 ≤ hJc18.size := Nat.le_trans ZJc15 (Nat.le_of_eq (Wr.size WJc18).symm)
  have KJc22 : Keep h0 hJc18 [] := KJc16.wr WJc18 (Or.inr sz_bJc1)
  have NJc18 := Fr.snoc XJc18 NJc12 g_bJc1
  refine own_go (T' := TJc18) (g' := (mkF mI 20 #[.val (.int ix), .unset] [(.ref bJc1)])) (fun t_ kt_ => stJc18 _ kt_) ?_
  refine own_go (T' := TJc18) (g' := (mkF mI 21 #[.val (.int ix), .unset] [(.ref bJc1), (.ref bJc1)])) (fun t_ kt_ => XS.dup XJc18.here hx rfl (hb hby d18_20) rfl rfl kt_) ?_
  refine own_go (T' := TJc18) (g' := (mkF mI 22 #[.val (.int ix), .unset] [(.int (3 : Int32)), (.ref bJc1), (.ref bJc1)])) (fun t_ kt_ => XS.iconst XJc18.here hx rfl (hb hby d18_21) kt_) ?_
  refine own_go (T' := TJc18) (g' := (mkF mI 25 #[.val (.int ix), .unset] [(.long (1000 : Int64)), (.int (3 : Int32)), (.ref bJc1), (.ref bJc1)])) (fun t_ kt_ => ldc2J XJc18 hx hown (mvT hZ (hw _ (List.mem_of_getElem? (i := 84) rfl))) rfl (hb hby d18_22) kt_) ?_
  obtain ⟨clJc23, ArJc23, qJc23, SJc23, NgJc23, HJc23, GJc23⟩ := id VJc18
  obtain ⟨TJc24, hJc24, XJc24, eJc24, WJc24, stJc24⟩ := stJ XJc18 hx hZ eJc18 ArJc23 (j := (3 : Int32)) (inb_of SJc23 ⟨by decide, by decide⟩) (g := (mkF mI 25 #[.val (.int ix), .unset] [(.long (1000 : Int64)), (.int (3 : Int32)), (.ref bJc1), (.ref bJc1)])) rfl rfl (hb hby d18_25)
  have VJc24 : Arv Z hJc24 bJc1 kJc1 .long (10 : Int32) [(.long (1 : Int64)), (.long (10 : Int64)), (.long (100 : Int64)), (.long (1000 : Int64)), (.long (0 : Int64)), (.long (0 : Int64)), (.long (0 : Int64)), (.long (0 : Int64)), (.long (0 : Int64)), (.long (0 : Int64))] (.long (0 : Int64)) := Arv.set ArJc23 qJc23 SJc23 NgJc23 HJc23 GJc23 rfl WJc24 3 rfl (Nat.le_of_ble_eq_true rfl)
  have EJc25 := Exa.wr WJc24 EJc19
  have ZJc27 : n0 ≤ hJc24.size := Nat.le_trans ZJc21 (Nat.le_of_eq (Wr.size WJc24).symm)
  have KJc28 : Keep h0 hJc24 [] := KJc22.wr WJc24 (Or.inr sz_bJc1)
  have NJc24 := Fr.snoc XJc24 NJc18 g_bJc1
  refine own_go (T' := TJc24) (g' := (mkF mI 26 #[.val (.int ix), .unset] [(.ref bJc1)])) (fun t_ kt_ => stJc24 _ kt_) ?_
  refine own_go (T' := TJc24) (g' := (mkF mI 27 #[.val (.int ix), .unset] [(.ref bJc1), (.ref bJc1)])) (fun t_ kt_ => XS.dup XJc24.here hx rfl (hb hby d18_26) rfl rfl kt_) ?_
  refine own_go (T' := TJc24) (g' := (mkF mI 28 #[.val (.int ix), .unset] [(.int (4 : Int32)), (.ref bJc1), (.ref bJc1)])) (fun t_ kt_ => XS.iconst XJc24.here hx rfl (hb hby d18_27) kt_) ?_
  refine own_go (T' := TJc24) (g' := (mkF mI 31 #[.val (.int ix), .unset] [(.long (10000 : Int64)), (.int (4 : Int32)), (.ref bJc1), (.ref bJc1)])) (fun t_ kt_ => ldc2J XJc24 hx hown (mvT hZ (hw _ (List.mem_of_getElem? (i := 85) rfl))) rfl (hb hby d18_28) kt_) ?_
  obtain ⟨clJc29, ArJc29, qJc29, SJc29, NgJc29, HJc29, GJc29⟩ := id VJc24
  obtain ⟨TJc30, hJc30, XJc30, eJc30, WJc30, stJc30⟩ := stJ XJc24 hx hZ eJc24 ArJc29 (j := (4 : Int32)) (inb_of SJc29 ⟨by decide, by decide⟩) (g := (mkF mI 31 #[.val (.int ix), .unset] [(.long (10000 : Int64)), (.int (4 : Int32)), (.ref bJc1), (.ref bJc1)])) rfl rfl (hb hby d18_31)
  have VJc30 : Arv Z hJc30 bJc1 kJc1 .long (10 : Int32) [(.long (1 : Int64)), (.long (10 : Int64)), (.long (100 : Int64)), (.long (1000 : Int64)), (.long (10000 : Int64)), (.long (0 : Int64)), (.long (0 : Int64)), (.long (0 : Int64)), (.long (0 : Int64)), (.long (0 : Int64))] (.long (0 : Int64)) := Arv.set ArJc29 qJc29 SJc29 NgJc29 HJc29 GJc29 rfl WJc30 4 rfl (Nat.le_of_ble_eq_true rfl)
  have EJc31 := Exa.wr WJc30 EJc25
  have ZJc33 : n0 ≤ hJc30.size := Nat.le_trans ZJc27 (Nat.le_of_eq (Wr.size WJc30).symm)
  have KJc34 : Keep h0 hJc30 [] := KJc28.wr WJc30 (Or.inr sz_bJc1)
  have NJc30 := Fr.snoc XJc30 NJc24 g_bJc1
  refine own_go (T' := TJc30) (g' := (mkF mI 32 #[.val (.int ix), .unset] [(.ref bJc1)])) (fun t_ kt_ => stJc30 _ kt_) ?_
  refine own_go (T' := TJc30) (g' := (mkF mI 33 #[.val (.int ix), .unset] [(.ref bJc1), (.ref bJc1)])) (fun t_ kt_ => XS.dup XJc30.here hx rfl (hb hby d18_32) rfl rfl kt_) ?_
  refine own_go (T' := TJc30) (g' := (mkF mI 34 #[.val (.int ix), .unset] [(.int (5 : Int32)), (.ref bJc1), (.ref bJc1)])) (fun t_ kt_ => XS.iconst XJc30.here hx rfl (hb hby d18_33) kt_) ?_
  refine own_go (T' := TJc30) (g' := (mkF mI 37 #[.val (.int ix), .unset] [(.long (100000 : Int64)), (.int (5 : Int32)), (.ref bJc1), (.ref bJc1)])) (fun t_ kt_ => ldc2J XJc30 hx hown (mvT hZ (hw _ (List.mem_of_getElem? (i := 86) rfl))) rfl (hb hby d18_34) kt_) ?_
  obtain ⟨clJc35, ArJc35, qJc35, SJc35, NgJc35, HJc35, GJc35⟩ := id VJc30
  obtain ⟨TJc36, hJc36, XJc36, eJc36, WJc36, stJc36⟩ := stJ XJc30 hx hZ eJc30 ArJc35 (j := (5 : Int32)) (inb_of SJc35 ⟨by decide, by decide⟩) (g := (mkF mI 37 #[.val (.int ix), .unset] [(.long (100000 : Int64)), (.int (5 : Int32)), (.ref bJc1), (.ref bJc1)])) rfl rfl (hb hby d18_37)
  have VJc36 : Arv Z hJc36 bJc1 kJc1 .long (10 : Int32) [(.long (1 : Int64)), (.long (10 : Int64)), (.long (100 : Int64)), (.long (1000 : Int64)), (.long (10000 : Int64)), (.long (100000 : Int64)), (.long (0 : Int64)), (.long (0 : Int64)), (.long (0 : Int64)), (.long (0 : Int64))] (.long (0 : Int64)) := Arv.set ArJc35 qJc35 SJc35 NgJc35 HJc35 GJc35 rfl WJc36 5 rfl (Nat.le_of_ble_eq_true rfl)
  have EJc37 := Exa.wr WJc36 EJc31
  have ZJc39 : n0 ≤ hJc36.size := Nat.le_trans ZJc33 (Nat.le_of_eq (Wr.size WJc36).symm)
  have KJc40 : Keep h0 hJc36 [] := KJc34.wr WJc36 (Or.inr sz_bJc1)
  have NJc36 := Fr.snoc XJc36 NJc30 g_bJc1
  refine own_go (T' := TJc36) (g' := (mkF mI 38 #[.val (.int ix), .unset] [(.ref bJc1)])) (fun t_ kt_ => stJc36 _ kt_) ?_
  refine own_go (T' := TJc36) (g' := (mkF mI 39 #[.val (.int ix), .unset] [(.ref bJc1), (.ref bJc1)])) (fun t_ kt_ => XS.dup XJc36.here hx rfl (hb hby d18_38) rfl rfl kt_) ?_
  refine own_go (T' := TJc36) (g' := (mkF mI 41 #[.val (.int ix), .unset] [(.int (6 : Int32)), (.ref bJc1), (.ref bJc1)])) (fun t_ kt_ => XS.bipush XJc36.here hx rfl (hb hby d18_39) kt_) ?_
  refine own_go (T' := TJc36) (g' := (mkF mI 44 #[.val (.int ix), .unset] [(.long (1000000 : Int64)), (.int (6 : Int32)), (.ref bJc1), (.ref bJc1)])) (fun t_ kt_ => ldc2J XJc36 hx hown (mvT hZ (hw _ (List.mem_of_getElem? (i := 87) rfl))) rfl (hb hby d18_41) kt_) ?_
  obtain ⟨clJc41, ArJc41, qJc41, SJc41, NgJc41, HJc41, GJc41⟩ := id VJc36
  obtain ⟨TJc42, hJc42, XJc42, eJc42, WJc42, stJc42⟩ := stJ XJc36 hx hZ eJc36 ArJc41 (j := (6 : Int32)) (inb_of SJc41 ⟨by decide, by decide⟩) (g := (mkF mI 44 #[.val (.int ix), .unset] [(.long (1000000 : Int64)), (.int (6 : Int32)), (.ref bJc1), (.ref bJc1)])) rfl rfl (hb hby d18_44)
  have VJc42 : Arv Z hJc42 bJc1 kJc1 .long (10 : Int32) [(.long (1 : Int64)), (.long (10 : Int64)), (.long (100 : Int64)), (.long (1000 : Int64)), (.long (10000 : Int64)), (.long (100000 : Int64)), (.long (1000000 : Int64)), (.long (0 : Int64)), (.long (0 : Int64)), (.long (0 : Int64))] (.long (0 : Int64)) := Arv.set ArJc41 qJc41 SJc41 NgJc41 HJc41 GJc41 rfl WJc42 6 rfl (Nat.le_of_ble_eq_true rfl)
  have EJc43 := Exa.wr WJc42 EJc37
  have ZJc45 : n0 ≤ hJc42.size := Nat.le_trans ZJc39 (Nat.le_of_eq (Wr.size WJc42).symm)
  have KJc46 : Keep h0 hJc42 [] := KJc40.wr WJc42 (Or.inr sz_bJc1)
  have NJc42 := Fr.snoc XJc42 NJc36 g_bJc1
  refine own_go (T' := TJc42) (g' := (mkF mI 45 #[.val (.int ix), .unset] [(.ref bJc1)])) (fun t_ kt_ => stJc42 _ kt_) ?_
  refine own_go (T' := TJc42) (g' := (mkF mI 46 #[.val (.int ix), .unset] [(.ref bJc1), (.ref bJc1)])) (fun t_ kt_ => XS.dup XJc42.here hx rfl (hb hby d18_45) rfl rfl kt_) ?_
  refine own_go (T' := TJc42) (g' := (mkF mI 48 #[.val (.int ix), .unset] [(.int (7 : Int32)), (.ref bJc1), (.ref bJc1)])) (fun t_ kt_ => XS.bipush XJc42.here hx rfl (hb hby d18_46) kt_) ?_
  refine own_go (T' := TJc42) (g' := (mkF mI 51 #[.val (.int ix), .unset] [(.long (10000000 : Int64)), (.int (7 : Int32)), (.ref bJc1), (.ref bJc1)])) (fun t_ kt_ => ldc2J XJc42 hx hown (mvT hZ (hw _ (List.mem_of_getElem? (i := 88) rfl))) rfl (hb hby d18_48) kt_) ?_
  obtain ⟨clJc47, ArJc47, qJc47, SJc47, NgJc47, HJc47, GJc47⟩ := id VJc42
  obtain ⟨TJc48, hJc48, XJc48, eJc48, WJc48, stJc48⟩ := stJ XJc42 hx hZ eJc42 ArJc47 (j := (7 : Int32)) (inb_of SJc47 ⟨by decide, by decide⟩) (g := (mkF mI 51 #[.val (.int ix), .unset] [(.long (10000000 : Int64)), (.int (7 : Int32)), (.ref bJc1), (.ref bJc1)])) rfl rfl (hb hby d18_51)
  have VJc48 : Arv Z hJc48 bJc1 kJc1 .long (10 : Int32) [(.long (1 : Int64)), (.long (10 : Int64)), (.long (100 : Int64)), (.long (1000 : Int64)), (.long (10000 : Int64)), (.long (100000 : Int64)), (.long (1000000 : Int64)), (.long (10000000 : Int64)), (.long (0 : Int64)), (.long (0 : Int64))] (.long (0 : Int64)) := Arv.set ArJc47 qJc47 SJc47 NgJc47 HJc47 GJc47 rfl WJc48 7 rfl (Nat.le_of_ble_eq_true rfl)
  have EJc49 := Exa.wr WJc48 EJc43
  have ZJc51 : n0 ≤ hJc48.size := Nat.le_trans ZJc45 (Nat.le_of_eq (Wr.size WJc48).symm)
  have KJc52 : Keep h0 hJc48 [] := KJc46.wr WJc48 (Or.inr sz_bJc1)
  have NJc48 := Fr.snoc XJc48 NJc42 g_bJc1
  refine own_go (T' := TJc48) (g' := (mkF mI 52 #[.val (.int ix), .unset] [(.ref bJc1)])) (fun t_ kt_ => stJc48 _ kt_) ?_
  refine own_go (T' := TJc48) (g' := (mkF mI 53 #[.val (.int ix), .unset] [(.ref bJc1), (.ref bJc1)])) (fun t_ kt_ => XS.dup XJc48.here hx rfl (hb hby d18_52) rfl rfl kt_) ?_
  refine own_go (T' := TJc48) (g' := (mkF mI 55 #[.val (.int ix), .unset] [(.int (8 : Int32)), (.ref bJc1), (.ref bJc1)])) (fun t_ kt_ => XS.bipush XJc48.here hx rfl (hb hby d18_53) kt_) ?_
  refine own_go (T' := TJc48) (g' := (mkF mI 58 #[.val (.int ix), .unset] [(.long (100000000 : Int64)), (.int (8 : Int32)), (.ref bJc1), (.ref bJc1)])) (fun t_ kt_ => ldc2J XJc48 hx hown (mvT hZ (hw _ (List.mem_of_getElem? (i := 89) rfl))) rfl (hb hby d18_55) kt_) ?_
  obtain ⟨clJc53, ArJc53, qJc53, SJc53, NgJc53, HJc53, GJc53⟩ := id VJc48
  obtain ⟨TJc54, hJc54, XJc54, eJc54, WJc54, stJc54⟩ := stJ XJc48 hx hZ eJc48 ArJc53 (j := (8 : Int32)) (inb_of SJc53 ⟨by decide, by decide⟩) (g := (mkF mI 58 #[.val (.int ix), .unset] [(.long (100000000 : Int64)), (.int (8 : Int32)), (.ref bJc1), (.ref bJc1)])) rfl rfl (hb hby d18_58)
  have VJc54 : Arv Z hJc54 bJc1 kJc1 .long (10 : Int32) [(.long (1 : Int64)), (.long (10 : Int64)), (.long (100 : Int64)), (.long (1000 : Int64)), (.long (10000 : Int64)), (.long (100000 : Int64)), (.long (1000000 : Int64)), (.long (10000000 : Int64)), (.long (100000000 : Int64)), (.long (0 : Int64))] (.long (0 : Int64)) := Arv.set ArJc53 qJc53 SJc53 NgJc53 HJc53 GJc53 rfl WJc54 8 rfl (Nat.le_of_ble_eq_true rfl)
  have EJc55 := Exa.wr WJc54 EJc49
  have ZJc57 : n0 ≤ hJc54.size := Nat.le_trans ZJc51 (Nat.le_of_eq (Wr.size WJc54).symm)
  have KJc58 : Keep h0 hJc54 [] := KJc52.wr WJc54 (Or.inr sz_bJc1)
  have NJc54 := Fr.snoc XJc54 NJc48 g_bJc1
  refine own_go (T' := TJc54) (g' := (mkF mI 59 #[.val (.int ix), .unset] [(.ref bJc1)])) (fun t_ kt_ => stJc54 _ kt_) ?_
  refine own_go (T' := TJc54) (g' := (mkF mI 60 #[.val (.int ix), .unset] [(.ref bJc1), (.ref bJc1)])) (fun t_ kt_ => XS.dup XJc54.here hx rfl (hb hby d18_59) rfl rfl kt_) ?_
  refine own_go (T' := TJc54) (g' := (mkF mI 62 #[.val (.int ix), .unset] [(.int (9 : Int32)), (.ref bJc1), (.ref bJc1)])) (fun t_ kt_ => XS.bipush XJc54.here hx rfl (hb hby d18_60) kt_) ?_
  refine own_go (T' := TJc54) (g' := (mkF mI 65 #[.val (.int ix), .unset] [(.long (1000000000 : Int64)), (.int (9 : Int32)), (.ref bJc1), (.ref bJc1)])) (fun t_ kt_ => ldc2J XJc54 hx hown (mvT hZ (hw _ (List.mem_of_getElem? (i := 90) rfl))) rfl (hb hby d18_62) kt_) ?_
  obtain ⟨clJc59, ArJc59, qJc59, SJc59, NgJc59, HJc59, GJc59⟩ := id VJc54
  obtain ⟨TJc60, hJc60, XJc60, eJc60, WJc60, stJc60⟩ := stJ XJc54 hx hZ eJc54 ArJc59 (j := (9 : Int32)) (inb_of SJc59 ⟨by decide, by decide⟩) (g := (mkF mI 65 #[.val (.int ix), .unset] [(.long (1000000000 : Int64)), (.int (9 : Int32)), (.ref bJc1), (.ref bJc1)])) rfl rfl (hb hby d18_65)
  have VJc60 : Arv Z hJc60 bJc1 kJc1 .long (10 : Int32) [(.long (1 : Int64)), (.long (10 : Int64)), (.long (100 : Int64)), (.long (1000 : Int64)), (.long (10000 : Int64)), (.long (100000 : Int64)), (.long (1000000 : Int64)), (.long (10000000 : Int64)), (.long (100000000 : Int64)), (.long (1000000000 : Int64))] (.long (0 : Int64)) := Arv.set ArJc59 qJc59 SJc59 NgJc59 HJc59 GJc59 rfl WJc60 9 rfl (Nat.le_of_ble_eq_true rfl)
  have EJc61 := Exa.wr WJc60 EJc55
  have ZJc63 : n0 ≤ hJc60.size := Nat.le_trans ZJc57 (Nat.le_of_eq (Wr.size WJc60).symm)
  have KJc64 : Keep h0 hJc60 [] := KJc58.wr WJc60 (Or.inr sz_bJc1)
  have NJc60 := Fr.snoc XJc60 NJc54 g_bJc1
  refine own_go (T' := TJc60) (g' := (mkF mI 66 #[.val (.int ix), .unset] [(.ref bJc1)])) (fun t_ kt_ => stJc60 _ kt_) ?_
  refine own_go (T' := TJc60) (g' := (mkF mI 67 #[.val (.int ix), .val (.ref bJc1)] [])) (fun t_ kt_ => XS.astoreN XJc60.here hx rfl (hb hby d18_66) rfl rfl (l' := #[.val (.int ix), .val (.ref bJc1)]) rfl kt_) ?_
  refine own_go (T' := TJc60) (g' := (mkF mI 68 #[.val (.int ix), .val (.ref bJc1)] [(.ref bJc1)])) (fun t_ kt_ => XS.aloadN XJc60.here hx rfl (hb hby d18_67) rfl rfl kt_) ?_
  refine own_go (T' := TJc60) (g' := (mkF mI 69 #[.val (.int ix), .val (.ref bJc1)] [(.int ix), (.ref bJc1)])) (fun t_ kt_ => XS.iloadN XJc60.here hx rfl (hb hby d18_68) rfl kt_) ?_
  obtain ⟨clJc65, ArJc65, qJc65, SJc65, NgJc65, HJc65, GJc65⟩ := id VJc60
  refine own_go (T' := TJc60) (g' := (mkF mI 70 #[.val (.int ix), .val (.ref bJc1)] [(.long w)])) (fun t_ kt_ => own_lald XJc60 hx hZ eJc60 ArJc65 (inb_of SJc65 ⟨he0, he9⟩) (Has.at HJc65 (inb_of SJc65 ⟨he0, he9⟩) hw9) (g := (mkF mI 69 #[.val (.int ix), .val (.ref bJc1)] [(.int ix), (.ref bJc1)])) rfl rfl (hb hby d18_69) _ kt_) ?_
  refine own_retJ XJc60 hx hlk hret (hb hby d18_70) (by decide) (by decide) ?_
  exact by rw [eJc60]; exact ⟨rfl, NJc60, KJc64⟩
theorem d22_0 : decode jdk_68_method_32_code 0 = .ok (.aload_n 0, 1) := by decide +kernel
theorem d22_1 : decode jdk_68_method_32_code 1 = .ok (.getfield 79, 3) := by decide +kernel
theorem d22_4 : decode jdk_68_method_32_code 4 = .ok (.istore_n 2, 1) := by decide +kernel
theorem d22_5 : decode jdk_68_method_32_code 5 = .ok (.iload_n 2, 1) := by decide +kernel
theorem d22_6 : decode jdk_68_method_32_code 6 = .ok (.iload_n 1, 1) := by decide +kernel
theorem d22_7 : decode jdk_68_method_32_code 7 = .ok (.invokestatic 245, 3) := by decide +kernel
theorem d22_10 : decode jdk_68_method_32_code 10 = .ok (.iadd, 1) := by decide +kernel
theorem d22_11 : decode jdk_68_method_32_code 11 = .ok (.istore_n 3, 1) := by decide +kernel
theorem d22_12 : decode jdk_68_method_32_code 12 = .ok (.aload_n 0, 1) := by decide +kernel
theorem d22_13 : decode jdk_68_method_32_code 13 = .ok (.iload_n 3, 1) := by decide +kernel
theorem d22_14 : decode jdk_68_method_32_code 14 = .ok (.invokevirtual 100, 3) := by decide +kernel
theorem d22_17 : decode jdk_68_method_32_code 17 = .ok (.aload_n 0, 1) := by decide +kernel
theorem d22_18 : decode jdk_68_method_32_code 18 = .ok (.invokevirtual 83, 3) := by decide +kernel
theorem d22_21 : decode jdk_68_method_32_code 21 = .ok (.ifCond .eq 16, 3) := by decide +kernel
theorem d22_24 : decode jdk_68_method_32_code 24 = .ok (.iload_n 1, 1) := by decide +kernel
theorem d22_25 : decode jdk_68_method_32_code 25 = .ok (.iload_n 3, 1) := by decide +kernel
theorem d22_26 : decode jdk_68_method_32_code 26 = .ok (.aload_n 0, 1) := by decide +kernel
theorem d22_27 : decode jdk_68_method_32_code 27 = .ok (.getfield 15, 3) := by decide +kernel
theorem d22_30 : decode jdk_68_method_32_code 30 = .ok (.invokestatic 248, 3) := by decide +kernel
theorem d22_33 : decode jdk_68_method_32_code 33 = .ok (.pop, 1) := by decide +kernel
theorem d22_34 : decode jdk_68_method_32_code 34 = .ok (.goto 14, 3) := by decide +kernel
theorem d22_48 : decode jdk_68_method_32_code 48 = .ok (.aload_n 0, 1) := by decide +kernel
theorem d22_49 : decode jdk_68_method_32_code 49 = .ok (.iload_n 3, 1) := by decide +kernel
theorem d22_50 : decode jdk_68_method_32_code 50 = .ok (.putfield 79, 3) := by decide +kernel
theorem d22_53 : decode jdk_68_method_32_code 53 = .ok (.aload_n 0, 1) := by decide +kernel
theorem d22_54 : decode jdk_68_method_32_code 54 = .ok (.areturn, 1) := by decide +kernel
theorem rj_asAppI_pn : plainFor (⟨"java/lang/AbstractStringBuilder", "append", "(I)Ljava/lang/AbstractStringBuilder;"⟩ : MethodName) = true := plainFor_of_name (show plainName "java/lang/AbstractStringBuilder" = true by first | (simp [plainName, overriddenIn]; done) | decide +kernel)
theorem rj_asAppI_ef (mI : MethodId) (b : Addr) (x : Int32) : entryFrame mI #[(.ref b), (.int x)] 4 = mkF mI 0 #[.val (.ref b), .val (.int x), .unset, .unset] [] := by first | (simp [entryFrame, mkF, argsToLocals, Value.category]; done) | rfl
set_option maxRecDepth 65536 in
set_option maxHeartbeats 40000000 in
theorem rj_asAppI (l : Launch) (Z : State) (a0 : Array Value) (hw : ∀ d ∈ tables_1, d.before a0 Z = true) (ws : List Jvm.Cond) (h0 : Heap) (n0 : Nat) (O : Old Z n0 h0) (cs : Int32) (Scs : Sta Z Z.heap "java/lang/String" "COMPACT_STRINGS" "Z" (.int cs)) (hcs : ¬ cs = 0) (Z0 : n0 ≤ h0.size) (b : Addr) (x : Int32) (da : Addr) (k : ClassId) (z zs n m : Int32) (vs : List Value) (B : own_SB Z h0 b da k z n vs) (g_b : n0 ≤ b) (g_da : n0 ≤ da) (hz0 : ¬ z < 0) (hzi : 0 ≤ z.toInt) (hz3 : z.toInt ≤ 300) (hvz : vs.length ≤ z.toNatClampNeg) (hn0 : ¬ n < 0) (hvn : vs.length = n.toNatClampNeg) (hzs : Int32.ofNat (own_dec x).length = zs) (hm : n + zs = m) (hm0 : 0 ≤ m.toInt) (hm1 : m.toInt ≤ 140) (hmn : m.toInt = n.toInt + zs.toInt) (sT d1 d2 : Addr) (D1 D2 : Cell) (TB : own_Tb Z sT d1 d2 D1 D2) :
    own_Met l Z (⟨"java/lang/AbstractStringBuilder", "append", "(I)Ljava/lang/AbstractStringBuilder;"⟩ : MethodName) jdk_68_method_32_code 4 (some (.object "java/lang/AbstractStringBuilder")) ws ({ frames := 4, cells := 1, slots := 300, locals := 78 } : Room) #[(.ref b), (.int x)] h0 (own_QA Z h0 n0 b da m (vs ++ own_dec x)) := by
  refine own_met rj_asAppI_pn ?_
  intro pP eE sS mI bB mT cC s₁ hx hby hml hown hnm hret hlk hZ X0 e0
  replace hown : sS.vm.findClass "java/lang/AbstractStringBuilder" = some mI.cls := hown
  refine own_cast (rj_asAppI_ef mI b x) ?_
  refine own_go (T' := s₁) (g' := (mkF mI 1 #[.val (.ref b), .val (.int x), .unset, .unset] [(.ref b)])) (fun t_ kt_ => XS.aloadN X0.here hx rfl (hb hby d22_0) rfl rfl kt_) ?_
  obtain ⟨TK1, XK1, eK1, stK1⟩ := getF X0 hx hZ hown (host := "") (Or.inl (hw _ (List.mem_of_getElem? (i := 119) rfl))) Via.refl e0 B.2.2.2.1 (g := (mkF mI 1 #[.val (.ref b), .val (.int x), .unset, .unset] [(.ref b)])) rfl rfl (hb hby d22_1)
  refine own_go (T' := TK1) (g' := (mkF mI 4 #[.val (.ref b), .val (.int x), .unset, .unset] [(.int n)])) (fun t_ kt_ => stK1 _ kt_) ?_
  refine own_go (T' := TK1) (g' := (mkF mI 5 #[.val (.ref b), .val (.int x), .val (.int n), .unset] [])) (fun t_ kt_ => XS.istoreN XK1.here hx rfl (hb hby d22_4) rfl (l' := #[.val (.ref b), .val (.int x), .val (.int n), .unset]) rfl kt_) ?_
  refine own_go (T' := TK1) (g' := (mkF mI 6 #[.val (.ref b), .val (.int x), .val (.int n), .unset] [(.int n)])) (fun t_ kt_ => XS.iloadN XK1.here hx rfl (hb hby d22_5) rfl kt_) ?_
  refine own_go (T' := TK1) (g' := (mkF mI 7 #[.val (.ref b), .val (.int x), .val (.int n), .unset] [(.int x), (.int n)])) (fun t_ kt_ => XS.iloadN XK1.here hx rfl (hb hby d22_6) rfl kt_) ?_
  refine own_strSize own_closed XK1 hx hZ hown (hw _ (List.mem_of_getElem? (i := 121) rfl)) (hw _ (List.mem_of_getElem? (i := 18) rfl)) (hw _ (List.mem_of_getElem? (i := 19) rfl)) (hw _ (List.mem_of_getElem? (i := 15) rfl)) eK1 (pc := 7) (Ls := #[.val (.ref b), .val (.int x), .val (.int n), .unset]) (rest := [(.int n)]) (by rw [hml]; rfl) (W := 1) (Nat.le_of_eq rfl) (by decide) (by decide) (by decide) (by decide) (hb hby d22_7) (x := x) (y := zs) ((own_decSize x).trans hzs) ?_
  intro TK2 XK2 eK2
  show own_Ends pP eE bB sS _ _ TK2 (mkF mI 10 #[.val (.ref b), .val (.int x), .val (.int n), .unset] [(.int zs), (.int n)])
  refine own_go (T' := TK2) (g' := (mkF mI 11 #[.val (.ref b), .val (.int x), .val (.int n), .unset] [(.int (n + zs))])) (fun t_ kt_ => XS.iadd XK2.here hx rfl (hb hby d22_10) rfl kt_) ?_
  rw [hm]
  refine own_go (T' := TK2) (g' := (mkF mI 12 #[.val (.ref b), .val (.int x), .val (.int n), .val (.int m)] [])) (fun t_ kt_ => XS.istoreN XK2.here hx rfl (hb hby d22_11) rfl (l' := #[.val (.ref b), .val (.int x), .val (.int n), .val (.int m)]) rfl kt_) ?_
  refine own_go (T' := TK2) (g' := (mkF mI 13 #[.val (.ref b), .val (.int x), .val (.int n), .val (.int m)] [(.ref b)])) (fun t_ kt_ => XS.aloadN XK2.here hx rfl (hb hby d22_12) rfl rfl kt_) ?_
  refine own_go (T' := TK2) (g' := (mkF mI 14 #[.val (.ref b), .val (.int x), .val (.int n), .val (.int m)] [(.int m), (.ref b)])) (fun t_ kt_ => XS.iloadN XK2.here hx rfl (hb hby d22_13) rfl kt_) ?_
  refine own_callV own_closed XK2 hx hZ (y := (⟨"java/lang/AbstractStringBuilder", "ensureCapacityInternal", "(I)V"⟩ : MethodName)) (z := (⟨"java/lang/AbstractStringBuilder", "ensureCapacityInternal", "(I)V"⟩ : MethodName)) hown (hw _ (List.mem_of_getElem? (i := 122) rfl)) (own_decl (hw _ (List.mem_of_getElem? (i := 123) rfl)) (hw _ (List.mem_of_getElem? (i := 126) rfl))) (hw _ (List.mem_of_getElem? (i := 125) rfl)) (hw _ (List.mem_of_getElem? (i := 123) rfl)) (hw _ (List.mem_of_getElem? (i := 125) rfl)) rfl (by decide) (rj_ensure l Z a0 hw [] h0 n0 Z0 b m da k z n vs B.1 B.2.1 B.2.2.1 B.2.2.2.1 B.2.2.2.2.1 B.2.2.2.2.2 g_b hvz hz0 hzi hz3 hm0 hm1) (hw _ (List.mem_of_getElem? (i := 126) rfl)) (hw _ (List.mem_of_getElem? (i := 101) rfl)) eK2 B.1 (pc := 14) (Ls := #[.val (.ref b), .val (.int x), .val (.int n), .val (.int m)]) (argsL := [(.int m)]) (rest := []) (by rw [hml]; rfl) (lenOf pd_12 rfl) (W := 0) (Nat.le_of_eq rfl) (by decide) (by decide) (by decide) (by decide) (hb hby d22_14) rfl rfl ?_
  intro TK3 LK3 vK3 XK3 hQK3
  obtain ⟨rfl, NK3, KK3, daK3, kK3, zK3, BK3, hdaK3, hzaK3, hzbK3, hzcK3⟩ := hQK3
  have g_dK3 : n0 ≤ daK3 := hdaK3.elim (fun q => by rw [q.1]; exact g_da) (fun q => Nat.le_trans Z0 q)
  have ne_bK3 : b ≠ daK3 := Exa.neArv BK3.1 BK3.2.2.2.2.1 (hw _ (List.mem_of_getElem? (i := 92) rfl))
  have OK3 : Old Z n0 TK3.heap := O.keep KK3 (allS g_b all0)
  have NK3a := Fr.app (Fr.nil n0) NK3
  have ZzK3 : n0 ≤ TK3.heap.size := Nat.le_trans Z0 KK3.1
  show own_Ends pP eE bB sS _ _ TK3 (mkF mI 17 #[.val (.ref b), .val (.int x), .val (.int n), .val (.int m)] [])
  refine own_go (T' := TK3) (g' := (mkF mI 18 #[.val (.ref b), .val (.int x), .val (.int n), .val (.int m)] [(.ref b)])) (fun t_ kt_ => XS.aloadN XK3.here hx rfl (hb hby d22_17) rfl rfl kt_) ?_
  refine own_callV own_closed XK3 hx hZ (y := (⟨"java/lang/AbstractStringBuilder", "isLatin1", "()Z"⟩ : MethodName)) (z := (⟨"java/lang/AbstractStringBuilder", "isLatin1", "()Z"⟩ : MethodName)) hown (hw _ (List.mem_of_getElem? (i := 127) rfl)) (hw _ (List.mem_of_getElem? (i := 128) rfl)) (hw _ (List.mem_of_getElem? (i := 130) rfl)) (hw _ (List.mem_of_getElem? (i := 129) rfl)) (hw _ (List.mem_of_getElem? (i := 130) rfl)) rfl (by decide) (rj_asLat l Z a0 hw [] TK3.heap n0 OK3 cs Scs hcs b BK3.2.2.1) (hw _ (List.mem_of_getElem? (i := 131) rfl)) (hw _ (List.mem_of_getElem? (i := 101) rfl)) rfl BK3.1 (pc := 18) (Ls := #[.val (.ref b), .val (.int x), .val (.int n), .val (.int m)]) (argsL := []) (rest := []) (by rw [hml]; rfl) (lenOf pd_3 rfl) (W := 0) (Nat.le_of_eq rfl) (by decide) (by decide) (by decide) (by decide) (hb hby d22_18) rfl rfl ?_
  intro TK4 LK4 vK4 XK4 hQK4
  obtain ⟨rfl, rfl, eK4⟩ := hQK4
  have NK4a := Fr.app NK3a (Fr.nil n0)
  show own_Ends pP eE bB sS _ _ TK4 (mkF mI 21 #[.val (.ref b), .val (.int x), .val (.int n), .val (.int m)] [(.int (1 : Int32))])
  refine own_go (T' := TK4) (g' := (mkF mI 24 #[.val (.ref b), .val (.int x), .val (.int n), .val (.int m)] [])) (fun t_ kt_ => XS.ifNo XK4.here hx rfl (hb hby d22_21) rfl ((if0 _ _).trans (feq (by decide : ¬ ((1 : Int32) = (0 : Int32)))).1) kt_) ?_
  refine own_go (T' := TK4) (g' := (mkF mI 25 #[.val (.ref b), .val (.int x), .val (.int n), .val (.int m)] [(.int x)])) (fun t_ kt_ => XS.iloadN XK4.here hx rfl (hb hby d22_24) rfl kt_) ?_
  refine own_go (T' := TK4) (g' := (mkF mI 26 #[.val (.ref b), .val (.int x), .val (.int n), .val (.int m)] [(.int m), (.int x)])) (fun t_ kt_ => XS.iloadN XK4.here hx rfl (hb hby d22_25) rfl kt_) ?_
  refine own_go (T' := TK4) (g' := (mkF mI 27 #[.val (.ref b), .val (.int x), .val (.int n), .val (.int m)] [(.ref b), (.int m), (.int x)])) (fun t_ kt_ => XS.aloadN XK4.here hx rfl (hb hby d22_26) rfl rfl kt_) ?_
  obtain ⟨TK5, XK5, eK5, stK5⟩ := getF XK4 hx hZ hown (host := "") (Or.inl (hw _ (List.mem_of_getElem? (i := 105) rfl))) Via.refl eK4 BK3.2.1 (g := (mkF mI 27 #[.val (.ref b), .val (.int x), .val (.int n), .val (.int m)] [(.ref b), (.int m), (.int x)])) rfl rfl (hb hby d22_27)
  refine own_go (T' := TK5) (g' := (mkF mI 30 #[.val (.ref b), .val (.int x), .val (.int n), .val (.int m)] [(.ref daK3), (.int m), (.int x)])) (fun t_ kt_ => stK5 _ kt_) ?_
  refine own_getChars own_closed XK5 hx hZ hown (hw _ (List.mem_of_getElem? (i := 132) rfl)) (hw _ (List.mem_of_getElem? (i := 24) rfl)) (hw _ (List.mem_of_getElem? (i := 25) rfl)) (hw _ (List.mem_of_getElem? (i := 26) rfl)) (hw _ (List.mem_of_getElem? (i := 133) rfl)) (hw _ (List.mem_of_getElem? (i := 15) rfl)) eK5 OK3 TB BK3.2.2.2.2.1 g_dK3 (by have q := own_appI hvn hn0 hzs (own_decLe20 x) hmn; have q2 := hzbK3; simp only [Int32.toNatClampNeg] at *; omega) (pc := 30) (Ls := #[.val (.ref b), .val (.int x), .val (.int n), .val (.int m)]) (rest := []) (by rw [hml]; rfl) (W := 0) (Nat.le_of_eq rfl) (by decide) (by decide) (by decide) (by decide) (hb hby d22_30) (x := x) (own_appI hvn hn0 hzs (own_decLe20 x) hmn).1 ?_
  intro TK6 LK6 XK6 VK6 KK6 NK6
  have BK6 : own_SB Z TK6.heap b daK3 kK3 zK3 n (vs ++ own_dec x) := ⟨BK3.1.keep KK6, BK3.2.1.keep KK6 (ninS ne_bK3 nin0), BK3.2.2.1.keep KK6 (ninS ne_bK3 nin0), BK3.2.2.2.1.keep KK6 (ninS ne_bK3 nin0), VK6, BK3.2.2.2.2.2.keep KK6⟩
  have KxK6 : Keep h0 TK6.heap [b, da] := (own_keepSub KK3 (allS (List.mem_cons_self ..) all0)).trans KK6 (allS (hdaK3.elim (fun q => Or.inl (by rw [q.1]; exact List.mem_cons_of_mem _ (List.mem_cons_self ..))) Or.inr) all0)
  have NK6a := Fr.app NK4a NK6
  have ZzK6 : n0 ≤ TK6.heap.size := Nat.le_trans ZzK3 KK6.1
  show own_Ends pP eE bB sS _ _ TK6 (mkF mI 33 #[.val (.ref b), .val (.int x), .val (.int n), .val (.int m)] [(.int _)])
  refine own_go (T' := TK6) (g' := (mkF mI 34 #[.val (.ref b), .val (.int x), .val (.int n), .val (.int m)] [])) (fun t_ kt_ => XS.pop XK6.here hx rfl (hb hby d22_33) rfl rfl kt_) ?_
  refine own_go (T' := TK6) (g' := (mkF mI 48 #[.val (.ref b), .val (.int x), .val (.int n), .val (.int m)] [])) (fun t_ kt_ => XS.goto XK6.here hx rfl (pc0 := 34) (pc' := 48) rfl (hb hby d22_34) (by decide) (by decide) kt_) ?_
  refine own_go (T' := TK6) (g' := (mkF mI 49 #[.val (.ref b), .val (.int x), .val (.int n), .val (.int m)] [(.ref b)])) (fun t_ kt_ => XS.aloadN XK6.here hx rfl (hb hby d22_48) rfl rfl kt_) ?_
  refine own_go (T' := TK6) (g' := (mkF mI 50 #[.val (.ref b), .val (.int x), .val (.int n), .val (.int m)] [(.int m), (.ref b)])) (fun t_ kt_ => XS.iloadN XK6.here hx rfl (hb hby d22_49) rfl kt_) ?_
  obtain ⟨TK7, hK7, XK7, eK7, WK7, stK7⟩ := putF XK6 hx hZ hown (host := "") (Or.inl (hw _ (List.mem_of_getElem? (i := 119) rfl))) Via.refl rfl BK6.2.2.2.1 BK6.1 (Or.inl (hw _ (List.mem_of_getElem? (i := 120) rfl))) (hw _ (List.mem_of_getElem? (i := 92) rfl)) (ty := .int) (by decide) rfl rfl (g := (mkF mI 50 #[.val (.ref b), .val (.int x), .val (.int n), .val (.int m)] [(.int m), (.ref b)])) rfl rfl (hb hby d22_50)
  have FwK7 : Fld Z hK7 b "java/lang/AbstractStringBuilder" "count" "I" (.int m) := Fld.same WK7 BK6.2.2.2.1
  have EK8 := Exa.wr WK7 BK6.1
  have ZK11 : n0 ≤ hK7.size := Nat.le_trans ZzK6 (Nat.le_of_eq (Wr.size WK7).symm)
  have NK7 := Fr.snoc XK7 NK6a g_b
  refine own_go (T' := TK7) (g' := (mkF mI 53 #[.val (.ref b), .val (.int x), .val (.int n), .val (.int m)] [])) (fun t_ kt_ => stK7 _ kt_) ?_
  refine own_go (T' := TK7) (g' := (mkF mI 54 #[.val (.ref b), .val (.int x), .val (.int n), .val (.int m)] [(.ref b)])) (fun t_ kt_ => XS.aloadN XK7.here hx rfl (hb hby d22_53) rfl rfl kt_) ?_
  refine own_retA XK7 hx hlk hret rfl rfl (hb hby d22_54) (by decide) (by decide) ?_
  exact by rw [eK7]; exact ⟨rfl, NK7, KxK6.wr WK7 (Or.inl (List.mem_cons_self ..)), daK3, kK3, zK3, ⟨EK8, Fld.other WK7 BK6.2.1 (Or.inr (slot_ne (Or.inl (hw _ (List.mem_of_getElem? (i := 106) rfl))) (Or.inl (hw _ (List.mem_of_getElem? (i := 120) rfl))) (by decide) (t := (.array .byte)) (t' := .int) (by decide) (by decide))), Fld.other WK7 BK6.2.2.1 (Or.inr (slot_ne (Or.inl (hw _ (List.mem_of_getElem? (i := 108) rfl))) (Or.inl (hw _ (List.mem_of_getElem? (i := 120) rfl))) (by decide) (t := .byte) (t' := .int) (by decide) (by decide))), FwK7, BK6.2.2.2.2.1.other WK7 (Ne.symm ne_bK3), BK6.2.2.2.2.2.wr WK7⟩, hdaK3.imp And.left id, hzbK3, hzcK3⟩
theorem d21_0 : decode jdk_67_method_15_code 0 = .ok (.aload_n 0, 1) := by decide +kernel
theorem d21_1 : decode jdk_67_method_15_code 1 = .ok (.iload_n 1, 1) := by decide +kernel
theorem d21_2 : decode jdk_67_method_15_code 2 = .ok (.invokespecial 53, 3) := by decide +kernel
theorem d21_5 : decode jdk_67_method_15_code 5 = .ok (.pop, 1) := by decide +kernel
theorem d21_6 : decode jdk_67_method_15_code 6 = .ok (.aload_n 0, 1) := by decide +kernel
theorem d21_7 : decode jdk_67_method_15_code 7 = .ok (.areturn, 1) := by decide +kernel
theorem rj_appI_pn : plainFor (⟨"java/lang/StringBuilder", "append", "(I)Ljava/lang/StringBuilder;"⟩ : MethodName) = true := plainFor_of_name (show plainName "java/lang/StringBuilder" = true by first | (simp [plainName, overriddenIn]; done) | decide +kernel)
theorem rj_appI_ef (mI : MethodId) (b : Addr) (x : Int32) : entryFrame mI #[(.ref b), (.int x)] 2 = mkF mI 0 #[.val (.ref b), .val (.int x)] [] := by first | (simp [entryFrame, mkF, argsToLocals, Value.category]; done) | rfl
set_option maxRecDepth 65536 in
set_option maxHeartbeats 40000000 in
theorem rj_appI (l : Launch) (Z : State) (a0 : Array Value) (hw : ∀ d ∈ tables_1, d.before a0 Z = true) (ws : List Jvm.Cond) (h0 : Heap) (n0 : Nat) (O : Old Z n0 h0) (cs : Int32) (Scs : Sta Z Z.heap "java/lang/String" "COMPACT_STRINGS" "Z" (.int cs)) (hcs : ¬ cs = 0) (Z0 : n0 ≤ h0.size) (b : Addr) (x : Int32) (da : Addr) (k : ClassId) (z zs n m : Int32) (vs : List Value) (B : own_SB Z h0 b da k z n vs) (g_b : n0 ≤ b) (g_da : n0 ≤ da) (hz0 : ¬ z < 0) (hzi : 0 ≤ z.toInt) (hz3 : z.toInt ≤ 300) (hvz : vs.length ≤ z.toNatClampNeg) (hn0 : ¬ n < 0) (hvn : vs.length = n.toNatClampNeg) (hzs : Int32.ofNat (own_dec x).length = zs) (hm : n + zs = m) (hm0 : 0 ≤ m.toInt) (hm1 : m.toInt ≤ 140) (hmn : m.toInt = n.toInt + zs.toInt) (sT d1 d2 : Addr) (D1 D2 : Cell) (TB : own_Tb Z sT d1 d2 D1 D2) :
    own_Met l Z (⟨"java/lang/StringBuilder", "append", "(I)Ljava/lang/StringBuilder;"⟩ : MethodName) jdk_67_method_15_code 2 (some (.object "java/lang/StringBuilder")) ws ({ frames := 5, cells := 1, slots := 300, locals := 93 } : Room) #[(.ref b), (.int x)] h0 (own_QA Z h0 n0 b da m (vs ++ own_dec x)) := by
  refine own_met rj_appI_pn ?_
  intro pP eE sS mI bB mT cC s₁ hx hby hml hown hnm hret hlk hZ X0 e0
  replace hown : sS.vm.findClass "java/lang/StringBuilder" = some mI.cls := hown
  refine own_cast (rj_appI_ef mI b x) ?_
  refine own_go (T' := s₁) (g' := (mkF mI 1 #[.val (.ref b), .val (.int x)] [(.ref b)])) (fun t_ kt_ => XS.aloadN X0.here hx rfl (hb hby d21_0) rfl rfl kt_) ?_
  refine own_go (T' := s₁) (g' := (mkF mI 2 #[.val (.ref b), .val (.int x)] [(.int x), (.ref b)])) (fun t_ kt_ => XS.iloadN X0.here hx rfl (hb hby d21_1) rfl kt_) ?_
  refine own_callX own_closed X0 hx hZ (y := (⟨"java/lang/AbstractStringBuilder", "append", "(I)Ljava/lang/AbstractStringBuilder;"⟩ : MethodName)) hown (hw _ (List.mem_of_getElem? (i := 114) rfl)) (hw _ (List.mem_of_getElem? (i := 115) rfl)) (hw _ (List.mem_of_getElem? (i := 116) rfl)) (hw _ (List.mem_of_getElem? (i := 125) rfl)) rfl (by decide) (by decide) (rj_asAppI l Z a0 hw [] h0 n0 O cs Scs hcs Z0 b x da k z zs n m vs B g_b g_da hz0 hzi hz3 hvz hn0 hvn hzs hm hm0 hm1 hmn sT d1 d2 D1 D2 TB) (hw _ (List.mem_of_getElem? (i := 118) rfl)) (hw _ (List.mem_of_getElem? (i := 101) rfl)) e0 B.1 (pc := 2) (Ls := #[.val (.ref b), .val (.int x)]) (argsL := [(.int x)]) (rest := []) (by rw [hml]; rfl) (lenOf pd_20 rfl) (W := 0) (Nat.le_of_eq rfl) (by decide) (by decide) (by decide) (by decide) (hb hby d21_2) rfl rfl ?_
  intro TL1 LL1 vL1 XL1 hQL1
  obtain ⟨rfl, NL1, KL1, RL1⟩ := hQL1
  show own_Ends pP eE bB sS _ _ TL1 (mkF mI 5 #[.val (.ref b), .val (.int x)] [(.ref b)])
  refine own_go (T' := TL1) (g' := (mkF mI 6 #[.val (.ref b), .val (.int x)] [])) (fun t_ kt_ => XS.pop XL1.here hx rfl (hb hby d21_5) rfl rfl kt_) ?_
  refine own_go (T' := TL1) (g' := (mkF mI 7 #[.val (.ref b), .val (.int x)] [(.ref b)])) (fun t_ kt_ => XS.aloadN XL1.here hx rfl (hb hby d21_6) rfl rfl kt_) ?_
  refine own_retA XL1 hx hlk hret rfl rfl (hb hby d21_7) (by decide) (by decide) ?_
  exact ⟨rfl, Fr.app (Fr.nil n0) NL1, KL1, RL1⟩
def own_QB (Z : State) (h0 : Heap) (n0 : Nat) (a d : Addr) (k : ClassId) (n : Int32) (vs : List Value) (v : Option Value) (h : Heap) (L : List Loc) : Prop := v = none ∧ Fr n0 L ∧ Keep h0 h [a] ∧ own_St Z h a d k n vs
theorem d7_0 : decode jdk_42_method_151_code 0 = .ok (.aload_n 0, 1) := by decide +kernel
theorem d7_1 : decode jdk_42_method_151_code 1 = .ok (.invokespecial 1, 3) := by decide +kernel
theorem d7_4 : decode jdk_42_method_151_code 4 = .ok (.aload_n 0, 1) := by decide +kernel
theorem d7_5 : decode jdk_42_method_151_code 5 = .ok (.aload_n 1, 1) := by decide +kernel
theorem d7_6 : decode jdk_42_method_151_code 6 = .ok (.putfield 9, 3) := by decide +kernel
theorem d7_9 : decode jdk_42_method_151_code 9 = .ok (.aload_n 0, 1) := by decide +kernel
theorem d7_10 : decode jdk_42_method_151_code 10 = .ok (.iload_n 2, 1) := by decide +kernel
theorem d7_11 : decode jdk_42_method_151_code 11 = .ok (.putfield 15, 3) := by decide +kernel
theorem d7_14 : decode jdk_42_method_151_code 14 = .ok (.return_, 1) := by decide +kernel
theorem rj_strC_pn : plainFor (⟨"java/lang/String", "<init>", "([BB)V"⟩ : MethodName) = true := plainFor_of_name (show plainName "java/lang/String" = true by first | (simp [plainName, overriddenIn]; done) | decide +kernel)
theorem rj_strC_ef (mI : MethodId) (a : Addr) (d : Addr) : entryFrame mI #[(.ref a), (.ref d), (.int (0 : Int32))] 3 = mkF mI 0 #[.val (.ref a), .val (.ref d), .val (.int (0 : Int32))] [] := by first | (simp [entryFrame, mkF, argsToLocals, Value.category]; done) | rfl
set_option maxRecDepth 65536 in
set_option maxHeartbeats 40000000 in
theorem rj_strC (l : Launch) (Z : State) (a0 : Array Value) (hw : ∀ d ∈ tables_1, d.before a0 Z = true) (ws : List Jvm.Cond) (h0 : Heap) (n0 : Nat) (O : Old Z n0 h0) (cs : Int32) (Scs : Sta Z Z.heap "java/lang/String" "COMPACT_STRINGS" "Z" (.int cs)) (hcs : ¬ cs = 0) (Z0 : n0 ≤ h0.size) (a d : Addr) (k : ClassId) (n : Int32) (vs : List Value) (Ea : Exa Z h0 a "java/lang/String") (Fc : Fld Z h0 a "java/lang/String" "coder" "B" (.int 0)) (Fv : Fld Z h0 a "java/lang/String" "value" "[B" .null) (V : Arv Z h0 d k .byte n vs (.int 0)) (Ed : Exa Z h0 d "[B") (g_a : n0 ≤ a) :
    own_Met l Z (⟨"java/lang/String", "<init>", "([BB)V"⟩ : MethodName) jdk_42_method_151_code 3 none ws ({ frames := 1, cells := 0, slots := 0, locals := 12 } : Room) #[(.ref a), (.ref d), (.int (0 : Int32))] h0 (own_QB Z h0 n0 a d k n vs) := by
  refine own_met rj_strC_pn ?_
  intro pP eE sS mI bB mT cC s₁ hx hby hml hown hnm hret hlk hZ X0 e0
  replace hown : sS.vm.findClass "java/lang/String" = some mI.cls := hown
  refine own_cast (rj_strC_ef mI a d) ?_
  refine own_go (T' := s₁) (g' := (mkF mI 1 #[.val (.ref a), .val (.ref d), .val (.int (0 : Int32))] [(.ref a)])) (fun t_ kt_ => XS.aloadN X0.here hx rfl (hb hby d7_0) rfl rfl kt_) ?_
  obtain ⟨TM1, XM1, eM1, stM1⟩ := initO X0 hx hZ hown (hw _ (List.mem_of_getElem? (i := 33) rfl)) (hw _ (List.mem_of_getElem? (i := 34) rfl)) (hw _ (List.mem_of_getElem? (i := 35) rfl)) e0 (g := (mkF mI 1 #[.val (.ref a), .val (.ref d), .val (.int (0 : Int32))] [(.ref a)])) rfl (by rw [hml]; rfl) rfl (hb hby d7_1) (by decide) (W := 0) (by show 2 * 0 + _ ≤ _; exact Nat.le_of_eq rfl) (by decide)
  refine own_go (T' := TM1) (g' := (mkF mI 4 #[.val (.ref a), .val (.ref d), .val (.int (0 : Int32))] [])) (fun t_ kt_ => stM1 _ kt_) ?_
  refine own_go (T' := TM1) (g' := (mkF mI 5 #[.val (.ref a), .val (.ref d), .val (.int (0 : Int32))] [(.ref a)])) (fun t_ kt_ => XS.aloadN XM1.here hx rfl (hb hby d7_4) rfl rfl kt_) ?_
  refine own_go (T' := TM1) (g' := (mkF mI 6 #[.val (.ref a), .val (.ref d), .val (.int (0 : Int32))] [(.ref d), (.ref a)])) (fun t_ kt_ => XS.aloadN XM1.here hx rfl (hb hby d7_5) rfl rfl kt_) ?_
  obtain ⟨TM2, hM2, XM2, eM2, WM2, stM2⟩ := putF XM1 hx hZ hown (host := "") (Or.inl (hw _ (List.mem_of_getElem? (i := 36) rfl))) Via.refl eM1 Fv Ea (Or.inr ⟨(hw _ (List.mem_of_getElem? (i := 37) rfl)), rfl, hnm⟩) (hw _ (List.mem_of_getElem? (i := 28) rfl)) (ty := (.array .byte)) (by decide) rfl rfl (g := (mkF mI 6 #[.val (.ref a), .val (.ref d), .val (.int (0 : Int32))] [(.ref d), (.ref a)])) rfl rfl (hb hby d7_6)
  have FwM2 : Fld Z hM2 a "java/lang/String" "value" "[B" (.ref d) := Fld.same WM2 Fv
  have FM3 := Fld.other WM2 Fc (Or.inr (slot_ne (Or.inr (hw _ (List.mem_of_getElem? (i := 39) rfl))) (Or.inr (hw _ (List.mem_of_getElem? (i := 37) rfl))) (by decide) (t := .byte) (t' := (.array .byte)) (by decide) (by decide)))
  have EM4 := Exa.wr WM2 Ea
  have EM5 := Exa.wr WM2 Ed
  have VM8 := Arv.other V WM2 (Ne.symm (Exa.neArv Ea V (hw _ (List.mem_of_getElem? (i := 28) rfl))))
  have ZM9 : n0 ≤ hM2.size := Nat.le_trans Z0 (Nat.le_of_eq (Wr.size WM2).symm)
  have KM10 : Keep h0 hM2 [a] := (Keep.refl h0 [a]).wr WM2 (Or.inl (List.mem_of_getElem? (i := 0) rfl))
  have OM11 : Old Z n0 hM2 := Old.wr O WM2 g_a
  have NM2 := Fr.snoc XM2 (Fr.nil n0) g_a
  refine own_go (T' := TM2) (g' := (mkF mI 9 #[.val (.ref a), .val (.ref d), .val (.int (0 : Int32))] [])) (fun t_ kt_ => stM2 _ kt_) ?_
  refine own_go (T' := TM2) (g' := (mkF mI 10 #[.val (.ref a), .val (.ref d), .val (.int (0 : Int32))] [(.ref a)])) (fun t_ kt_ => XS.aloadN XM2.here hx rfl (hb hby d7_9) rfl rfl kt_) ?_
  refine own_go (T' := TM2) (g' := (mkF mI 11 #[.val (.ref a), .val (.ref d), .val (.int (0 : Int32))] [(.int (0 : Int32)), (.ref a)])) (fun t_ kt_ => XS.iloadN XM2.here hx rfl (hb hby d7_10) rfl kt_) ?_
  obtain ⟨TM12, hM12, XM12, eM12, WM12, stM12⟩ := putFN XM2 hx hZ hown (hw _ (List.mem_of_getElem? (i := 38) rfl)) Via.refl eM2 FM3 EM4 (Or.inr ⟨(hw _ (List.mem_of_getElem? (i := 39) rfl)), rfl, hnm⟩) (hw _ (List.mem_of_getElem? (i := 28) rfl)) (ty := .byte) (v' := (.int (0 : Int32))) (by decide) rfl (by decide) (g := (mkF mI 11 #[.val (.ref a), .val (.ref d), .val (.int (0 : Int32))] [(.int (0 : Int32)), (.ref a)])) rfl rfl (hb hby d7_11)
  have FwM12 : Fld Z hM12 a "java/lang/String" "coder" "B" (.int (0 : Int32)) := Fld.same WM12 FM3
  have FM13 := Fld.other WM12 FwM2 (Or.inr (slot_ne (Or.inr (hw _ (List.mem_of_getElem? (i := 37) rfl))) (Or.inr (hw _ (List.mem_of_getElem? (i := 39) rfl))) (by decide) (t := (.array .byte)) (t' := .byte) (by decide) (by decide)))
  have EM14 := Exa.wr WM12 EM4
  have EM15 := Exa.wr WM12 EM5
  have VM18 := Arv.other VM8 WM12 (Ne.symm (Exa.neArv Ea V (hw _ (List.mem_of_getElem? (i := 28) rfl))))
  have ZM19 : n0 ≤ hM12.size := Nat.le_trans ZM9 (Nat.le_of_eq (Wr.size WM12).symm)
  have KM20 : Keep h0 hM12 [a] := KM10.wr WM12 (Or.inl (List.mem_of_getElem? (i := 0) rfl))
  have OM21 : Old Z n0 hM12 := Old.wr OM11 WM12 g_a
  have NM12 := Fr.snoc XM12 NM2 g_a
  refine own_go (T' := TM12) (g' := (mkF mI 14 #[.val (.ref a), .val (.ref d), .val (.int (0 : Int32))] [])) (fun t_ kt_ => stM12 _ kt_) ?_
  refine own_retV XM12 hx hlk hret (hb hby d7_14) (by decide) (by decide) ?_
  exact by rw [eM12]; exact ⟨rfl, NM12, KM20, EM14, FwM12, FM13, VM18⟩
theorem d4_0 : decode jdk_33_method_10_code 0 = .ok (.iload_n 0, 1) := by decide +kernel
theorem d4_1 : decode jdk_33_method_10_code 1 = .ok (.invokestatic 72, 3) := by decide +kernel
theorem d4_4 : decode jdk_33_method_10_code 4 = .ok (.istore_n 1, 1) := by decide +kernel
theorem d4_5 : decode jdk_33_method_10_code 5 = .ok (.getstatic 13, 3) := by decide +kernel
theorem d4_8 : decode jdk_33_method_10_code 8 = .ok (.ifCond .eq 24, 3) := by decide +kernel
theorem d4_11 : decode jdk_33_method_10_code 11 = .ok (.iload_n 1, 1) := by decide +kernel
theorem d4_12 : decode jdk_33_method_10_code 12 = .ok (.newarray .byte, 2) := by decide +kernel
theorem d4_14 : decode jdk_33_method_10_code 14 = .ok (.astore_n 2, 1) := by decide +kernel
theorem d4_15 : decode jdk_33_method_10_code 15 = .ok (.iload_n 0, 1) := by decide +kernel
theorem d4_16 : decode jdk_33_method_10_code 16 = .ok (.iload_n 1, 1) := by decide +kernel
theorem d4_17 : decode jdk_33_method_10_code 17 = .ok (.aload_n 2, 1) := by decide +kernel
theorem d4_18 : decode jdk_33_method_10_code 18 = .ok (.invokestatic 75, 3) := by decide +kernel
theorem d4_21 : decode jdk_33_method_10_code 21 = .ok (.pop, 1) := by decide +kernel
theorem d4_22 : decode jdk_33_method_10_code 22 = .ok (.new 5, 3) := by decide +kernel
theorem d4_25 : decode jdk_33_method_10_code 25 = .ok (.dup, 1) := by decide +kernel
theorem d4_26 : decode jdk_33_method_10_code 26 = .ok (.aload_n 2, 1) := by decide +kernel
theorem d4_27 : decode jdk_33_method_10_code 27 = .ok (.iconst 0, 1) := by decide +kernel
theorem d4_28 : decode jdk_33_method_10_code 28 = .ok (.invokespecial 65, 3) := by decide +kernel
theorem d4_31 : decode jdk_33_method_10_code 31 = .ok (.areturn, 1) := by decide +kernel
theorem rj_itoa_pn : plainFor (⟨"java/lang/Integer", "toString", "(I)Ljava/lang/String;"⟩ : MethodName) = true := plainFor_of_name (show plainName "java/lang/Integer" = true by first | (simp [plainName, overriddenIn]; done) | decide +kernel)
theorem rj_itoa_ef (mI : MethodId) (x : Int32) : entryFrame mI #[(.int x)] 3 = mkF mI 0 #[.val (.int x), .unset, .unset] [] := by first | (simp [entryFrame, mkF, argsToLocals, Value.category]; done) | rfl
set_option maxRecDepth 65536 in
set_option maxHeartbeats 40000000 in
theorem rj_itoa (l : Launch) (Z : State) (a0 : Array Value) (hw : ∀ d ∈ tables_1, d.before a0 Z = true) (ws : List Jvm.Cond) (h0 : Heap) (n0 : Nat) (O : Old Z n0 h0) (cs : Int32) (Scs : Sta Z Z.heap "java/lang/String" "COMPACT_STRINGS" "Z" (.int cs)) (hcs : ¬ cs = 0) (Z0 : n0 ≤ h0.size) (x zs : Int32) (hzs : Int32.ofNat (own_dec x).length = zs) (hz0 : ¬ zs < 0) (sT d1 d2 : Addr) (D1 D2 : Cell) (TB : own_Tb Z sT d1 d2 D1 D2) :
    own_Met l Z (⟨"java/lang/Integer", "toString", "(I)Ljava/lang/String;"⟩ : MethodName) jdk_33_method_10_code 3 (some (.object "java/lang/String")) ws ({ frames := 2, cells := 2, slots := 15, locals := 78 } : Room) #[(.int x)] h0 (own_QTS Z h0 n0 zs (own_dec x)) := by
  refine own_met rj_itoa_pn ?_
  intro pP eE sS mI bB mT cC s₁ hx hby hml hown hnm hret hlk hZ X0 e0
  replace hown : sS.vm.findClass "java/lang/Integer" = some mI.cls := hown
  refine own_cast (rj_itoa_ef mI x) ?_
  refine own_go (T' := s₁) (g' := (mkF mI 1 #[.val (.int x), .unset, .unset] [(.int x)])) (fun t_ kt_ => XS.iloadN X0.here hx rfl (hb hby d4_0) rfl kt_) ?_
  refine own_strSize own_closed X0 hx hZ hown (hw _ (List.mem_of_getElem? (i := 17) rfl)) (hw _ (List.mem_of_getElem? (i := 18) rfl)) (hw _ (List.mem_of_getElem? (i := 19) rfl)) (hw _ (List.mem_of_getElem? (i := 15) rfl)) e0 (pc := 1) (Ls := #[.val (.int x), .unset, .unset]) (rest := []) (by rw [hml]; rfl) (W := 0) (Nat.le_of_eq rfl) (by decide) (by decide) (by decide) (by decide) (hb hby d4_1) (x := x) (y := zs) ((own_decSize x).trans hzs) ?_
  intro TN1 XN1 eN1
  show own_Ends pP eE bB sS _ _ TN1 (mkF mI 4 #[.val (.int x), .unset, .unset] [(.int zs)])
  refine own_go (T' := TN1) (g' := (mkF mI 5 #[.val (.int x), .val (.int zs), .unset] [])) (fun t_ kt_ => XS.istoreN XN1.here hx rfl (hb hby d4_4) rfl (l' := #[.val (.int x), .val (.int zs), .unset]) rfl kt_) ?_
  obtain ⟨TN2, XN2, eN2, stN2⟩ := getS2 XN1 hx hZ hown (host := "") (Or.inl (hw _ (List.mem_of_getElem? (i := 20) rfl))) Via.refl eN1 (Sta.ext O.2 Scs) (g := (mkF mI 5 #[.val (.int x), .val (.int zs), .unset] [])) rfl (hb hby d4_5)
  refine own_go (T' := TN2) (g' := (mkF mI 8 #[.val (.int x), .val (.int zs), .unset] [(.int cs)])) (fun t_ kt_ => stN2 _ kt_) ?_
  refine own_go (T' := TN2) (g' := (mkF mI 11 #[.val (.int x), .val (.int zs), .unset] [])) (fun t_ kt_ => XS.ifNo XN2.here hx rfl (hb hby d4_8) rfl ((if0 _ _).trans (feq (hcs : ¬ (cs = (0 : Int32)))).1) kt_) ?_
  refine own_go (T' := TN2) (g' := (mkF mI 12 #[.val (.int x), .val (.int zs), .unset] [(.int zs)])) (fun t_ kt_ => XS.iloadN XN2.here hx rfl (hb hby d4_11) rfl kt_) ?_
  obtain ⟨TN3, hN3, kN3, XN3, eN3, ExN3, AN3, EcN3, stN3⟩ := newPE XN2 hx hZ (hw _ (List.mem_of_getElem? (i := 22) rfl)) eN2 (g := (mkF mI 12 #[.val (.int x), .val (.int zs), .unset] [(.int zs)])) rfl (hb hby d4_12) rfl hz0 (cap := 11) (by have q := own_zsN hzs (own_decLe20 x); have := own_decLe x; omega) (by decide) (by decide) (by decide) (ad := "[B") (by decide)
  obtain ⟨bN3, gN3⟩ : ∃ z, z = h0.size := ⟨_, rfl⟩
  rw [← gN3] at AN3 EcN3 stN3
  have g_bN3 : n0 ≤ bN3 := Nat.le_trans Z0 (Nat.le_of_eq gN3.symm)
  have sz_bN3 : h0.size ≤ bN3 := Nat.le_trans (Keep.refl h0 []).1 (Nat.le_of_eq gN3.symm)
  have ZN6 : n0 ≤ hN3.size := Nat.le_trans Z0 ExN3.1
  have KN7 : Keep h0 hN3 [] := (Keep.refl h0 []).ext ExN3
  have ON8 : Old Z n0 hN3 := Old.ext O ExN3
  have VN3 : Arv Z hN3 bN3 kN3 .byte zs [] (.int (0 : Int32)) := Arv.new AN3 hz0
  refine own_go (T' := TN3) (g' := (mkF mI 14 #[.val (.int x), .val (.int zs), .unset] [(.ref bN3)])) (fun t_ kt_ => stN3 _ kt_) ?_
  refine own_go (T' := TN3) (g' := (mkF mI 15 #[.val (.int x), .val (.int zs), .val (.ref bN3)] [])) (fun t_ kt_ => XS.astoreN XN3.here hx rfl (hb hby d4_14) rfl rfl (l' := #[.val (.int x), .val (.int zs), .val (.ref bN3)]) rfl kt_) ?_
  refine own_go (T' := TN3) (g' := (mkF mI 16 #[.val (.int x), .val (.int zs), .val (.ref bN3)] [(.int x)])) (fun t_ kt_ => XS.iloadN XN3.here hx rfl (hb hby d4_15) rfl kt_) ?_
  refine own_go (T' := TN3) (g' := (mkF mI 17 #[.val (.int x), .val (.int zs), .val (.ref bN3)] [(.int zs), (.int x)])) (fun t_ kt_ => XS.iloadN XN3.here hx rfl (hb hby d4_16) rfl kt_) ?_
  refine own_go (T' := TN3) (g' := (mkF mI 18 #[.val (.int x), .val (.int zs), .val (.ref bN3)] [(.ref bN3), (.int zs), (.int x)])) (fun t_ kt_ => XS.aloadN XN3.here hx rfl (hb hby d4_17) rfl rfl kt_) ?_
  refine own_getChars own_closed XN3 hx hZ hown (hw _ (List.mem_of_getElem? (i := 23) rfl)) (hw _ (List.mem_of_getElem? (i := 24) rfl)) (hw _ (List.mem_of_getElem? (i := 25) rfl)) (hw _ (List.mem_of_getElem? (i := 26) rfl)) (hw _ (List.mem_of_getElem? (i := 133) rfl)) (hw _ (List.mem_of_getElem? (i := 15) rfl)) eN3 ON8 TB VN3 g_bN3 (by have q := own_zsN hzs (own_decLe20 x); show 0 + _ ≤ _; omega) (pc := 18) (Ls := #[.val (.int x), .val (.int zs), .val (.ref bN3)]) (rest := []) (by rw [hml]; rfl) (W := 0) (Nat.le_of_eq rfl) (by decide) (by decide) (by decide) (by decide) (hb hby d4_18) (x := x) (by rw [← hzs]; show _ = Int32.ofNat (0 + _); rw [Nat.zero_add]) ?_
  intro TN9 LN9 XN9 VN9 KN9 NN9
  have NN9a := Fr.app (Fr.nil n0) NN9
  have EN10 := Exa.keep EcN3 KN9
  have ZN13 : n0 ≤ TN9.heap.size := Nat.le_trans ZN6 KN9.1
  have KN14 : Keep h0 TN9.heap [] := KN7.trans KN9 (allS (Or.inr sz_bN3) all0)
  have ON15 : Old Z n0 TN9.heap := Old.keep ON8 KN9 (allS g_bN3 all0)
  show own_Ends pP eE bB sS _ _ TN9 (mkF mI 21 #[.val (.int x), .val (.int zs), .val (.ref bN3)] [(.int _)])
  refine own_go (T' := TN9) (g' := (mkF mI 22 #[.val (.int x), .val (.int zs), .val (.ref bN3)] [])) (fun t_ kt_ => XS.pop XN9.here hx rfl (hb hby d4_21) rfl rfl kt_) ?_
  obtain ⟨TN16, hN16, XN16, eN16, ExN16, AN16, DN16, -, stN16⟩ := newO XN9 hx hZ hown (hw _ (List.mem_of_getElem? (i := 27) rfl)) (hw _ (List.mem_of_getElem? (i := 28) rfl)) (hw _ (List.mem_of_getElem? (i := 21) rfl)) rfl (g := (mkF mI 22 #[.val (.int x), .val (.int zs), .val (.ref bN3)] [])) rfl (hb hby d4_22) (by decide) (by decide)
  obtain ⟨bN16, gN16⟩ : ∃ z, z = TN9.heap.size := ⟨_, rfl⟩
  rw [← gN16] at AN16 DN16 stN16
  have ne_bN3_bN16 : bN3 ≠ bN16 := Nat.ne_of_lt (Nat.lt_of_lt_of_le (EN10.lt) (Nat.le_of_eq gN16.symm))
  have g_bN16 : n0 ≤ bN16 := Nat.le_trans ZN13 (Nat.le_of_eq gN16.symm)
  have sz_bN16 : h0.size ≤ bN16 := Nat.le_trans KN14.1 (Nat.le_of_eq gN16.symm)
  have EN17 := Exa.ext ExN16 EN10
  have VN20 := Arv.ext VN9 ExN16
  have ZN21 : n0 ≤ hN16.size := Nat.le_trans ZN13 ExN16.1
  have KN22 : Keep h0 hN16 [] := KN14.ext ExN16
  have ON23 : Old Z n0 hN16 := Old.ext ON15 ExN16
  have F_value_bN16 : Fld Z hN16 bN16 "java/lang/String" "value" "[B" .null := DN16 (Or.inr (hw _ (List.mem_of_getElem? (i := 37) rfl))) (ty := (.array .byte)) (by decide)
  have F_coder_bN16 : Fld Z hN16 bN16 "java/lang/String" "coder" "B" (.int (0 : Int32)) := DN16 (Or.inr (hw _ (List.mem_of_getElem? (i := 39) rfl))) (ty := .byte) (by decide)
  refine own_go (T' := TN16) (g' := (mkF mI 25 #[.val (.int x), .val (.int zs), .val (.ref bN3)] [(.ref bN16)])) (fun t_ kt_ => stN16 _ kt_) ?_
  refine own_go (T' := TN16) (g' := (mkF mI 26 #[.val (.int x), .val (.int zs), .val (.ref bN3)] [(.ref bN16), (.ref bN16)])) (fun t_ kt_ => XS.dup XN16.here hx rfl (hb hby d4_25) rfl rfl kt_) ?_
  refine own_go (T' := TN16) (g' := (mkF mI 27 #[.val (.int x), .val (.int zs), .val (.ref bN3)] [(.ref bN3), (.ref bN16), (.ref bN16)])) (fun t_ kt_ => XS.aloadN XN16.here hx rfl (hb hby d4_26) rfl rfl kt_) ?_
  refine own_go (T' := TN16) (g' := (mkF mI 28 #[.val (.int x), .val (.int zs), .val (.ref bN3)] [(.int (0 : Int32)), (.ref bN3), (.ref bN16), (.ref bN16)])) (fun t_ kt_ => XS.iconst XN16.here hx rfl (hb hby d4_27) kt_) ?_
  refine own_callI own_closed XN16 hx hZ (y := (⟨"java/lang/String", "<init>", "([BB)V"⟩ : MethodName)) rfl hown (hw _ (List.mem_of_getElem? (i := 29) rfl)) (hw _ (List.mem_of_getElem? (i := 30) rfl)) (by decide) (rj_strC l Z a0 hw [] hN16 n0 ON23 cs Scs hcs ZN21 bN16 bN3 _ zs (own_dec x) AN16 F_coder_bN16 F_value_bN16 VN20 EN17 g_bN16) (hw _ (List.mem_of_getElem? (i := 32) rfl)) (hw _ (List.mem_of_getElem? (i := 21) rfl)) (b := bN16) eN16 (pc := 28) (Ls := #[.val (.int x), .val (.int zs), .val (.ref bN3)]) (argsL := [(.ref bN3), (.int (0 : Int32))]) (rest := [(.ref bN16)]) (by rw [hml]; rfl) (lenOf pd_21 rfl) (W := 1) (Nat.le_of_eq rfl) (by decide) (by decide) (by decide) (by decide) (hb hby d4_28) rfl rfl ?_
  intro TN24 LN24 vN24 XN24 hQN24
  obtain ⟨rfl, NN24, KN24, SN24⟩ := hQN24
  have KxN24 : Keep h0 TN24.heap [] := KN22.trans KN24 (allS (Or.inr sz_bN16) all0)
  have NN24a := Fr.app NN9a NN24
  show own_Ends pP eE bB sS _ _ TN24 (mkF mI 31 #[.val (.int x), .val (.int zs), .val (.ref bN3)] [(.ref bN16)])
  refine own_retA XN24 hx hlk hret rfl rfl (hb hby d4_31) (by decide) (by decide) ?_
  exact ⟨bN16, bN3, _, rfl, NN24a, KxN24, SN24, sz_bN16, sz_bN3⟩
theorem own_dcE {m : Int64} {n : Nat} (h : m.toInt = n) : own_dc m = Int32.ofNat (SBG.digits n) := by
  have k1 : m < 10 ↔ n < 10 := by rw [Int64.lt_iff_toInt_lt, h, show (10 : Int64).toInt = 10 from by decide]; omega
  have k2 : m < 100 ↔ n < 100 := by rw [Int64.lt_iff_toInt_lt, h, show (100 : Int64).toInt = 100 from by decide]; omega
  have k3 : m < 1000 ↔ n < 1000 := by rw [Int64.lt_iff_toInt_lt, h, show (1000 : Int64).toInt = 1000 from by decide]; omega
  have k4 : m < 10000 ↔ n < 10000 := by rw [Int64.lt_iff_toInt_lt, h, show (10000 : Int64).toInt = 10000 from by decide]; omega
  have k5 : m < 100000 ↔ n < 100000 := by rw [Int64.lt_iff_toInt_lt, h, show (100000 : Int64).toInt = 100000 from by decide]; omega
  have k6 : m < 1000000 ↔ n < 1000000 := by rw [Int64.lt_iff_toInt_lt, h, show (1000000 : Int64).toInt = 1000000 from by decide]; omega
  have k7 : m < 10000000 ↔ n < 10000000 := by rw [Int64.lt_iff_toInt_lt, h, show (10000000 : Int64).toInt = 10000000 from by decide]; omega
  have k8 : m < 100000000 ↔ n < 100000000 := by rw [Int64.lt_iff_toInt_lt, h, show (100000000 : Int64).toInt = 100000000 from by decide]; omega
  have k9 : m < 1000000000 ↔ n < 1000000000 := by rw [Int64.lt_iff_toInt_lt, h, show (1000000000 : Int64).toInt = 1000000000 from by decide]; omega
  unfold own_dc SBG.digits
  simp only [k1, k2, k3, k4, k5, k6, k7, k8, k9]
  by_cases h1 : n < 10
  · rw [if_pos h1, if_pos h1]; rfl
  rw [if_neg h1, if_neg h1]
  by_cases h2 : n < 100
  · rw [if_pos h2, if_pos h2]; rfl
  rw [if_neg h2, if_neg h2]
  by_cases h3 : n < 1000
  · rw [if_pos h3, if_pos h3]; rfl
  rw [if_neg h3, if_neg h3]
  by_cases h4 : n < 10000
  · rw [if_pos h4, if_pos h4]; rfl
  rw [if_neg h4, if_neg h4]
  by_cases h5 : n < 100000
  · rw [if_pos h5, if_pos h5]; rfl
  rw [if_neg h5, if_neg h5]
  by_cases h6 : n < 1000000
  · rw [if_pos h6, if_pos h6]; rfl
  rw [if_neg h6, if_neg h6]
  by_cases h7 : n < 10000000
  · rw [if_pos h7, if_pos h7]; rfl
  rw [if_neg h7, if_neg h7]
  by_cases h8 : n < 100000000
  · rw [if_pos h8, if_pos h8]; rfl
  rw [if_neg h8, if_neg h8]
  by_cases h9 : n < 1000000000
  · rw [if_pos h9, if_pos h9]; rfl
  rw [if_neg h9, if_neg h9]
  rfl
theorem own_x64 (x : Int32) : (x.toInt64 < 0 ↔ x < 0) ∧ (¬ x < 0 → x.toInt64.toInt = own_mag x) ∧ (x < 0 → (-x.toInt64).toInt = own_mag x) := by
  have e : x.toInt64.toInt = x.toInt := Int32.toInt_toInt64 x
  have h1 := x.le_toInt; have h2 := x.toInt_lt
  have z6 : (0 : Int64).toInt = 0 := by decide
  have z3 : (0 : Int32).toInt = 0 := by decide
  refine ⟨by rw [Int64.lt_iff_toInt_lt, Int32.lt_iff_toInt_lt, e, z6, z3], fun h => ?_, fun h => ?_⟩
  · rw [Int32.lt_iff_toInt_lt, z3] at h
    unfold own_mag; omega
  · rw [Int32.lt_iff_toInt_lt, z3] at h
    rw [Int64.toInt_neg, e, Int.bmod_eq_of_le (by omega) (by omega)]
    unfold own_mag; omega
theorem own_dlE (x : Int32) : own_dl x.toInt64 = Int32.ofNat (own_dec x).length := by
  obtain ⟨h1, h2, h3⟩ := own_x64 x
  rw [own_decLen]
  unfold own_dl SBG.GetChars.sgn
  by_cases hx : x < 0
  · rw [if_pos (h1.mpr hx), if_pos hx, own_dcE (h3 hx), Int32.ofNat_add, Int32.add_comm]; rfl
  · rw [if_neg (fun q => hx (h1.mp q)), if_neg hx, own_dcE (h2 hx), Int32.zero_add]; rfl
theorem own_powsAt : ∀ t, t < 10 → own_pows.getD t (.long (0 : Int64)) = .long (Int64.ofNat (10 ^ t)) ∧ (Int64.ofNat (10 ^ t)).toInt = 10 ^ t ∧ Int64.ofNat (10 ^ t) ≠ 0 := by decide +kernel
theorem own_chr : ∀ d, d < 10 → nar .char (((48 : Int32) + (Int64.ofNat d).toInt32).toUInt32.toUInt16.toUInt32.toInt32) = Int32.ofNat (48 + d) := by decide +kernel
theorem own_digC {x i c : Int32} {m : Int64} {sg : Int32} (hm : m.toInt = own_mag x) (hsg : sg = Int32.ofNat (SBG.GetChars.sgn x)) (hi0 : ¬ i < 0) (hi : ¬ i < sg) (hc : (own_dec x)[i.toNatClampNeg]? = some (.int c)) :
    ∃ w : Int64, (¬ ((own_dc m - 1) - (i - sg)) < 0) ∧ ((own_dc m - 1) - (i - sg)) < 10 ∧ own_pows.getD ((own_dc m - 1) - (i - sg)).toNatClampNeg (.long (0 : Int64)) = .long w ∧ ¬ w = 0 ∧ nar .char (((48 : Int32) + ((m / w) % 10).toInt32).toUInt32.toUInt16.toUInt32.toInt32) = c := by
  have hl := own_decLen x
  have hD := own_digLe (own_mag x)
  have hlt := (List.getElem?_eq_some_iff.mp hc).1
  have hs1 : SBG.GetChars.sgn x ≤ 1 := by unfold SBG.GetChars.sgn; split <;> omega
  have z3 : (0 : Int32).toInt = 0 := by decide
  have z1 : (1 : Int32).toInt = 1 := by decide
  have z10 : (10 : Int32).toInt = 10 := by decide
  have es : sg.toInt = SBG.GetChars.sgn x := by rw [hsg]; exact Int32.toInt_ofNat_small (by omega)
  rw [Int32.lt_iff_toInt_lt, z3] at hi0
  rw [Int32.lt_iff_toInt_lt, es] at hi
  have hiN : (i.toNatClampNeg : Int) = i.toInt := own_toN (by omega)
  obtain ⟨I, hI⟩ : ∃ I : Nat, I = i.toNatClampNeg := ⟨_, rfl⟩
  rw [← hI] at hiN hc hlt
  obtain ⟨D, eD⟩ : ∃ D, D = SBG.digits (own_mag x) := ⟨_, rfl⟩
  obtain ⟨t, et⟩ : ∃ t, t = D - 1 - (I - SBG.GetChars.sgn x) := ⟨_, rfl⟩
  have hdc := own_dcE hm
  rw [← eD] at hdc hl hD
  have e1 : (own_dc m).toInt = D := by rw [hdc]; exact Int32.toInt_ofNat_small (by omega)
  have e2 : (own_dc m - 1).toInt = D - 1 := by rw [Int32.toInt_sub, e1, z1]; exact Int.bmod_eq_of_le (by omega) (by omega)
  have e3 : (i - sg).toInt = I - SBG.GetChars.sgn x := by rw [Int32.toInt_sub, es, ← hiN]; exact Int.bmod_eq_of_le (by omega) (by omega)
  have e4 : ((own_dc m - 1) - (i - sg)).toInt = t := by rw [Int32.toInt_sub, e2, e3, Int.bmod_eq_of_le (by omega) (by omega)]; omega
  have e5 : ((own_dc m - 1) - (i - sg)).toNatClampNeg = t := by simp only [Int32.toNatClampNeg]; omega
  have ht : t < 10 := by omega
  obtain ⟨p1, p2, p3⟩ := own_powsAt t ht
  have q := own_decAt x (i := t) (by rw [← eD]; omega)
  rw [show (own_dec x).length - 1 - t = I by omega, hc] at q
  have ec : c = Int32.ofNat (48 + own_mag x / 10 ^ t % 10) := Value.int.inj (Option.some.inj q)
  refine ⟨Int64.ofNat (10 ^ t), ?_, ?_, by rw [e5]; exact p1, p3, ?_⟩
  · rw [Int32.lt_iff_toInt_lt, e4, z3]; omega
  · rw [Int32.lt_iff_toInt_lt, e4, z10]; omega
  · have ed : (m / Int64.ofNat (10 ^ t)) % 10 = Int64.ofNat (own_mag x / 10 ^ t % 10) := by
      apply Int64.toInt_inj.mp
      have hmg := own_magLe x
      obtain ⟨q, hq⟩ : ∃ q : Nat, q = own_mag x / 10 ^ t := ⟨_, rfl⟩
      have b2 : q ≤ own_mag x := by rw [hq]; exact Nat.div_le_self _ _
      have e6 : ((own_mag x : Nat) : Int).tdiv (10 ^ t) = (q : Int) := by
        rw [hq, Int.tdiv_eq_ediv_of_nonneg (by omega)]; push_cast; rfl
      rw [← hq]
      have b : q % 10 < 10 := Nat.mod_lt _ (by decide)
      rw [Int64.toInt_mod, Int64.toInt_div, hm, p2, e6, show (10 : Int64).toInt = 10 from by decide, Int64.toInt_ofNat_of_lt (by omega), Int.bmod_eq_of_le (by omega) (by omega), Int.tmod_eq_emod_of_nonneg (by omega)]
      omega
    rw [ed, ec]
    exact own_chr _ (Nat.mod_lt _ (by decide))
theorem own_sg1 {x : Int32} (h : x < 0) : (1 : Int32) = Int32.ofNat (SBG.GetChars.sgn x) := by rw [show SBG.GetChars.sgn x = 1 by simp [SBG.GetChars.sgn, h]]; decide
theorem own_sg0 {x : Int32} (h : ¬ x < 0) : (0 : Int32) = Int32.ofNat (SBG.GetChars.sgn x) := by rw [show SBG.GetChars.sgn x = 0 by simp [SBG.GetChars.sgn, h]]; decide
theorem own_dashC {x i c : Int32} (hx : x < 0) (hi0 : ¬ i < 0) (hi : i < 1) (hc : (own_dec x)[i.toNatClampNeg]? = some (.int c)) : nar .char 45 = c := by
  have z3 : (0 : Int32).toInt = 0 := by decide
  have z1 : (1 : Int32).toInt = 1 := by decide
  rw [Int32.lt_iff_toInt_lt, z3] at hi0
  rw [Int32.lt_iff_toInt_lt, z1] at hi
  rw [show i.toNatClampNeg = 0 by simp only [Int32.toNatClampNeg]; omega, own_decHd hx] at hc
  cases hc; decide
theorem d17_0 : decode method_5_code 0 = .ok (.lload_n 0, 1) := by decide +kernel
theorem d17_1 : decode method_5_code 1 = .ok (.lconst 0, 1) := by decide +kernel
theorem d17_2 : decode method_5_code 2 = .ok (.lcmp, 1) := by decide +kernel
theorem d17_3 : decode method_5_code 3 = .ok (.ifCond .ge 8, 3) := by decide +kernel
theorem d17_6 : decode method_5_code 6 = .ok (.lload_n 0, 1) := by decide +kernel
theorem d17_7 : decode method_5_code 7 = .ok (.lneg, 1) := by decide +kernel
theorem d17_8 : decode method_5_code 8 = .ok (.goto 4, 3) := by decide +kernel
theorem d17_11 : decode method_5_code 11 = .ok (.lload_n 0, 1) := by decide +kernel
theorem d17_12 : decode method_5_code 12 = .ok (.lstore_n 3, 1) := by decide +kernel
theorem d17_13 : decode method_5_code 13 = .ok (.lload_n 0, 1) := by decide +kernel
theorem d17_14 : decode method_5_code 14 = .ok (.lconst 0, 1) := by decide +kernel
theorem d17_15 : decode method_5_code 15 = .ok (.lcmp, 1) := by decide +kernel
theorem d17_16 : decode method_5_code 16 = .ok (.ifCond .ge 7, 3) := by decide +kernel
theorem d17_19 : decode method_5_code 19 = .ok (.iconst 1, 1) := by decide +kernel
theorem d17_20 : decode method_5_code 20 = .ok (.goto 4, 3) := by decide +kernel
theorem d17_23 : decode method_5_code 23 = .ok (.iconst 0, 1) := by decide +kernel
theorem d17_24 : decode method_5_code 24 = .ok (.istore 5, 2) := by decide +kernel
theorem d17_26 : decode method_5_code 26 = .ok (.iload_n 2, 1) := by decide +kernel
theorem d17_27 : decode method_5_code 27 = .ok (.iload 5, 2) := by decide +kernel
theorem d17_29 : decode method_5_code 29 = .ok (.if_icmp .ge 6, 3) := by decide +kernel
theorem d17_32 : decode method_5_code 32 = .ok (.bipush 45, 2) := by decide +kernel
theorem d17_34 : decode method_5_code 34 = .ok (.ireturn, 1) := by decide +kernel
theorem d17_35 : decode method_5_code 35 = .ok (.iload_n 2, 1) := by decide +kernel
theorem d17_36 : decode method_5_code 36 = .ok (.iload 5, 2) := by decide +kernel
theorem d17_38 : decode method_5_code 38 = .ok (.isub, 1) := by decide +kernel
theorem d17_39 : decode method_5_code 39 = .ok (.istore 6, 2) := by decide +kernel
theorem d17_41 : decode method_5_code 41 = .ok (.lload_n 3, 1) := by decide +kernel
theorem d17_42 : decode method_5_code 42 = .ok (.invokestatic 25, 3) := by decide +kernel
theorem d17_45 : decode method_5_code 45 = .ok (.istore 7, 2) := by decide +kernel
theorem d17_47 : decode method_5_code 47 = .ok (.iload 7, 2) := by decide +kernel
theorem d17_49 : decode method_5_code 49 = .ok (.iconst 1, 1) := by decide +kernel
theorem d17_50 : decode method_5_code 50 = .ok (.isub, 1) := by decide +kernel
theorem d17_51 : decode method_5_code 51 = .ok (.iload 6, 2) := by decide +kernel
theorem d17_53 : decode method_5_code 53 = .ok (.isub, 1) := by decide +kernel
theorem d17_54 : decode method_5_code 54 = .ok (.invokestatic 31, 3) := by decide +kernel
theorem d17_57 : decode method_5_code 57 = .ok (.lstore 8, 2) := by decide +kernel
theorem d17_59 : decode method_5_code 59 = .ok (.bipush 48, 2) := by decide +kernel
theorem d17_61 : decode method_5_code 61 = .ok (.lload_n 3, 1) := by decide +kernel
theorem d17_62 : decode method_5_code 62 = .ok (.lload 8, 2) := by decide +kernel
theorem d17_64 : decode method_5_code 64 = .ok (.ldiv, 1) := by decide +kernel
theorem d17_65 : decode method_5_code 65 = .ok (.ldc2_w 7, 3) := by decide +kernel
theorem d17_68 : decode method_5_code 68 = .ok (.lrem, 1) := by decide +kernel
theorem d17_69 : decode method_5_code 69 = .ok (.l2i, 1) := by decide +kernel
theorem d17_70 : decode method_5_code 70 = .ok (.iadd, 1) := by decide +kernel
theorem d17_71 : decode method_5_code 71 = .ok (.i2c, 1) := by decide +kernel
theorem d17_72 : decode method_5_code 72 = .ok (.ireturn, 1) := by decide +kernel
theorem rl_dchr_pn : plainFor (⟨"com/example/planfold/planfold/rules/FiguresYearSpanPinLaw", "decChar", "(JI)C"⟩ : MethodName) = true := plainFor_of_name (show plainName "com/example/planfold/planfold/rules/FiguresYearSpanPinLaw" = true by first | (simp [plainName, overriddenIn]; done) | decide +kernel)
theorem rl_dchr_ef (mI : MethodId) (x : Int32) (i : Int32) : entryFrame mI #[(.long x.toInt64), (.int i)] 10 = mkF mI 0 #[.val (.long x.toInt64), .second, .val (.int i), .unset, .unset, .unset, .unset, .unset, .unset, .unset] [] := by first | (simp [entryFrame, mkF, argsToLocals, Value.category]; done) | rfl
set_option maxRecDepth 65536 in
set_option maxHeartbeats 40000000 in
theorem rl_dchr (l : Launch) (Z : State) (a0 : Array Value) (hw : ∀ d ∈ tables_1, d.before a0 Z = true) (ws : List Jvm.Cond) (h0 : Heap) (n0 : Nat) (Z0 : n0 ≤ h0.size) (x i c : Int32) (hi0 : ¬ i < 0) (hc : (own_dec x)[i.toNatClampNeg]? = some (.int c)) :
    own_Met l Z (⟨"com/example/planfold/planfold/rules/FiguresYearSpanPinLaw", "decChar", "(JI)C"⟩ : MethodName) method_5_code 10 (some .char) ws ({ frames := 1, cells := 1, slots := 10, locals := 13 } : Room) #[(.long x.toInt64), (.int i)] h0 (own_QG h0 n0 (some (.int c))) := by
  refine own_met rl_dchr_pn ?_
  intro pP eE sS mI bB mT cC s₁ hx hby hml hown hnm hret hlk hZ X0 e0
  replace hown : sS.vm.findClass "com/example/planfold/planfold/rules/FiguresYearSpanPinLaw" = some mI.cls := hown
  refine own_cast (rl_dchr_ef mI x i) ?_
  refine own_go (T' := s₁) (g' := (mkF mI 1 #[.val (.long x.toInt64), .second, .val (.int i), .unset, .unset, .unset, .unset, .unset, .unset, .unset] [(.long x.toInt64)])) (fun t_ kt_ => XS.lloadN X0.here hx rfl (hb hby d17_0) rfl kt_) ?_
  refine own_go (T' := s₁) (g' := (mkF mI 2 #[.val (.long x.toInt64), .second, .val (.int i), .unset, .unset, .unset, .unset, .unset, .unset, .unset] [(.long (0 : Int64)), (.long x.toInt64)])) (fun t_ kt_ => XS.lconst X0.here hx rfl (hb hby d17_1) kt_) ?_
  refine own_go (T' := s₁) (g' := (mkF mI 3 #[.val (.long x.toInt64), .second, .val (.int i), .unset, .unset, .unset, .unset, .unset, .unset, .unset] [(.int (lcmpW x.toInt64 (0 : Int64)))])) (fun t_ kt_ => XS.lcmp X0.here hx rfl (hb hby d17_2) rfl kt_) ?_
  by_cases hc3_Jd1 : x.toInt64 < (0 : Int64)
  · skip
    refine own_go (T' := s₁) (g' := (mkF mI 6 #[.val (.long x.toInt64), .second, .val (.int i), .unset, .unset, .unset, .unset, .unset, .unset, .unset] [])) (fun t_ kt_ => XS.ifNo X0.here hx rfl (hb hby d17_3) rfl (XT.ll_ge_f hc3_Jd1) kt_) ?_
    refine own_go (T' := s₁) (g' := (mkF mI 7 #[.val (.long x.toInt64), .second, .val (.int i), .unset, .unset, .unset, .unset, .unset, .unset, .unset] [(.long x.toInt64)])) (fun t_ kt_ => XS.lloadN X0.here hx rfl (hb hby d17_6) rfl kt_) ?_
    refine own_go (T' := s₁) (g' := (mkF mI 8 #[.val (.long x.toInt64), .second, .val (.int i), .unset, .unset, .unset, .unset, .unset, .unset, .unset] [(.long (-x.toInt64))])) (fun t_ kt_ => XS.lneg X0.here hx rfl (hb hby d17_7) rfl kt_) ?_
    refine own_go (T' := s₁) (g' := (mkF mI 12 #[.val (.long x.toInt64), .second, .val (.int i), .unset, .unset, .unset, .unset, .unset, .unset, .unset] [(.long (-x.toInt64))])) (fun t_ kt_ => XS.goto X0.here hx rfl (pc0 := 8) (pc' := 12) rfl (hb hby d17_8) (by decide) (by decide) kt_) ?_
    refine own_go (T' := s₁) (g' := (mkF mI 13 #[.val (.long x.toInt64), .second, .val (.int i), .val (.long (-x.toInt64)), .second, .unset, .unset, .unset, .unset, .unset] [])) (fun t_ kt_ => XS.lstoreN X0.here hx rfl (hb hby d17_12) rfl (l' := #[.val (.long x.toInt64), .second, .val (.int i), .val (.long (-x.toInt64)), .second, .unset, .unset, .unset, .unset, .unset]) rfl kt_) ?_
    refine own_go (T' := s₁) (g' := (mkF mI 14 #[.val (.long x.toInt64), .second, .val (.int i), .val (.long (-x.toInt64)), .second, .unset, .unset, .unset, .unset, .unset] [(.long x.toInt64)])) (fun t_ kt_ => XS.lloadN X0.here hx rfl (hb hby d17_13) rfl kt_) ?_
    refine own_go (T' := s₁) (g' := (mkF mI 15 #[.val (.long x.toInt64), .second, .val (.int i), .val (.long (-x.toInt64)), .second, .unset, .unset, .unset, .unset, .unset] [(.long (0 : Int64)), (.long x.toInt64)])) (fun t_ kt_ => XS.lconst X0.here hx rfl (hb hby d17_14) kt_) ?_
    refine own_go (T' := s₁) (g' := (mkF mI 16 #[.val (.long x.toInt64), .second, .val (.int i), .val (.long (-x.toInt64)), .second, .unset, .unset, .unset, .unset, .unset] [(.int (lcmpW x.toInt64 (0 : Int64)))])) (fun t_ kt_ => XS.lcmp X0.here hx rfl (hb hby d17_15) rfl kt_) ?_
    refine own_go (T' := s₁) (g' := (mkF mI 19 #[.val (.long x.toInt64), .second, .val (.int i), .val (.long (-x.toInt64)), .second, .unset, .unset, .unset, .unset, .unset] [])) (fun t_ kt_ => XS.ifNo X0.here hx rfl (hb hby d17_16) rfl (XT.ll_ge_f (hc3_Jd1 : x.toInt64 < (0 : Int64))) kt_) ?_
    refine own_go (T' := s₁) (g' := (mkF mI 20 #[.val (.long x.toInt64), .second, .val (.int i), .val (.long (-x.toInt64)), .second, .unset, .unset, .unset, .unset, .unset] [(.int (1 : Int32))])) (fun t_ kt_ => XS.iconst X0.here hx rfl (hb hby d17_19) kt_) ?_
    refine own_go (T' := s₁) (g' := (mkF mI 24 #[.val (.long x.toInt64), .second, .val (.int i), .val (.long (-x.toInt64)), .second, .unset, .unset, .unset, .unset, .unset] [(.int (1 : Int32))])) (fun t_ kt_ => XS.goto X0.here hx rfl (pc0 := 20) (pc' := 24) rfl (hb hby d17_20) (by decide) (by decide) kt_) ?_
    refine own_go (T' := s₁) (g' := (mkF mI 26 #[.val (.long x.toInt64), .second, .val (.int i), .val (.long (-x.toInt64)), .second, .val (.int (1 : Int32)), .unset, .unset, .unset, .unset] [])) (fun t_ kt_ => XS.istore X0.here hx rfl (hb hby d17_24) rfl (l' := #[.val (.long x.toInt64), .second, .val (.int i), .val (.long (-x.toInt64)), .second, .val (.int (1 : Int32)), .unset, .unset, .unset, .unset]) rfl kt_) ?_
    refine own_go (T' := s₁) (g' := (mkF mI 27 #[.val (.long x.toInt64), .second, .val (.int i), .val (.long (-x.toInt64)), .second, .val (.int (1 : Int32)), .unset, .unset, .unset, .unset] [(.int i)])) (fun t_ kt_ => XS.iloadN X0.here hx rfl (hb hby d17_26) rfl kt_) ?_
    refine own_go (T' := s₁) (g' := (mkF mI 29 #[.val (.long x.toInt64), .second, .val (.int i), .val (.long (-x.toInt64)), .second, .val (.int (1 : Int32)), .unset, .unset, .unset, .unset] [(.int (1 : Int32)), (.int i)])) (fun t_ kt_ => XS.iload X0.here hx rfl (hb hby d17_27) rfl kt_) ?_
    by_cases hc29_Jd2 : i < (1 : Int32)
    · skip
      refine own_go (T' := s₁) (g' := (mkF mI 32 #[.val (.long x.toInt64), .second, .val (.int i), .val (.long (-x.toInt64)), .second, .val (.int (1 : Int32)), .unset, .unset, .unset, .unset] [])) (fun t_ kt_ => XS.icmpNo X0.here hx rfl (hb hby d17_29) rfl (tlt hc29_Jd2).2.1 kt_) ?_
      refine own_go (T' := s₁) (g' := (mkF mI 34 #[.val (.long x.toInt64), .second, .val (.int i), .val (.long (-x.toInt64)), .second, .val (.int (1 : Int32)), .unset, .unset, .unset, .unset] [(.int (45 : Int32))])) (fun t_ kt_ => XS.bipush X0.here hx rfl (hb hby d17_32) kt_) ?_
      refine own_retN X0 hx hlk (t := .char) hret (by simp) (hb hby d17_34) (own_dashC ((own_x64 x).1.mp hc3_Jd1) hi0 hc29_Jd2 hc) (by decide) (by decide) ?_
      exact ⟨rfl, Fr.nil n0, by rw [e0]; exact Keep.refl h0 []⟩
    · skip
      refine own_go (T' := s₁) (g' := (mkF mI 35 #[.val (.long x.toInt64), .second, .val (.int i), .val (.long (-x.toInt64)), .second, .val (.int (1 : Int32)), .unset, .unset, .unset, .unset] [])) (fun t_ kt_ => XS.icmpYes X0.here hx rfl (pc0 := 29) (pc' := 35) rfl (hb hby d17_29) rfl (flt hc29_Jd2).2.1 (by decide) (by decide) kt_) ?_
      refine own_go (T' := s₁) (g' := (mkF mI 36 #[.val (.long x.toInt64), .second, .val (.int i), .val (.long (-x.toInt64)), .second, .val (.int (1 : Int32)), .unset, .unset, .unset, .unset] [(.int i)])) (fun t_ kt_ => XS.iloadN X0.here hx rfl (hb hby d17_35) rfl kt_) ?_
      refine own_go (T' := s₁) (g' := (mkF mI 38 #[.val (.long x.toInt64), .second, .val (.int i), .val (.long (-x.toInt64)), .second, .val (.int (1 : Int32)), .unset, .unset, .unset, .unset] [(.int (1 : Int32)), (.int i)])) (fun t_ kt_ => XS.iload X0.here hx rfl (hb hby d17_36) rfl kt_) ?_
      refine own_go (T' := s₁) (g' := (mkF mI 39 #[.val (.long x.toInt64), .second, .val (.int i), .val (.long (-x.toInt64)), .second, .val (.int (1 : Int32)), .unset, .unset, .unset, .unset] [(.int (i - (1 : Int32)))])) (fun t_ kt_ => XS.isub X0.here hx rfl (hb hby d17_38) rfl kt_) ?_
      refine own_go (T' := s₁) (g' := (mkF mI 41 #[.val (.long x.toInt64), .second, .val (.int i), .val (.long (-x.toInt64)), .second, .val (.int (1 : Int32)), .val (.int (i - (1 : Int32))), .unset, .unset, .unset] [])) (fun t_ kt_ => XS.istore X0.here hx rfl (hb hby d17_39) rfl (l' := #[.val (.long x.toInt64), .second, .val (.int i), .val (.long (-x.toInt64)), .second, .val (.int (1 : Int32)), .val (.int (i - (1 : Int32))), .unset, .unset, .unset]) rfl kt_) ?_
      refine own_go (T' := s₁) (g' := (mkF mI 42 #[.val (.long x.toInt64), .second, .val (.int i), .val (.long (-x.toInt64)), .second, .val (.int (1 : Int32)), .val (.int (i - (1 : Int32))), .unset, .unset, .unset] [(.long (-x.toInt64))])) (fun t_ kt_ => XS.lloadN X0.here hx rfl (hb hby d17_41) rfl kt_) ?_
      refine own_callS own_closed X0 hx hZ (y := (⟨"com/example/planfold/planfold/rules/FiguresYearSpanPinLaw", "digitCount", "(J)I"⟩ : MethodName)) hown (hw _ (List.mem_of_getElem? (i := 4) rfl)) (hw _ (List.mem_of_getElem? (i := 5) rfl)) (by decide) (rl_dc l Z a0 hw [] h0 (-x.toInt64)) (hw _ (List.mem_of_getElem? (i := 6) rfl)) (hw _ (List.mem_of_getElem? (i := 2) rfl)) e0 (pc := 42) (Ls := #[.val (.long x.toInt64), .second, .val (.int i), .val (.long (-x.toInt64)), .second, .val (.int (1 : Int32)), .val (.int (i - (1 : Int32))), .unset, .unset, .unset]) (argsL := [(.long (-x.toInt64))]) (rest := []) (by rw [hml]; rfl) (lenOf pd_19 rfl) (W := 0) (Nat.le_of_eq rfl) (by decide) (by decide) (by decide) (by decide) (hb hby d17_42) rfl rfl ?_
      intro TJd3 LJd3 vJd3 XJd3 hQJd3
      obtain ⟨rfl, rfl, eJd3⟩ := hQJd3
      show own_Ends pP eE bB sS _ _ TJd3 (mkF mI 45 #[.val (.long x.toInt64), .second, .val (.int i), .val (.long (-x.toInt64)), .second, .val (.int (1 : Int32)), .val (.int (i - (1 : Int32))), .unset, .unset, .unset] [(.int (own_dc (-x.toInt64)))])
      refine own_go (T' := TJd3) (g' := (mkF mI 47 #[.val (.long x.toInt64), .second, .val (.int i), .val (.long (-x.toInt64)), .second, .val (.int (1 : Int32)), .val (.int (i - (1 : Int32))), .val (.int (own_dc (-x.toInt64))), .unset, .unset] [])) (fun t_ kt_ => XS.istore XJd3.here hx rfl (hb hby d17_45) rfl (l' := #[.val (.long x.toInt64), .second, .val (.int i), .val (.long (-x.toInt64)), .second, .val (.int (1 : Int32)), .val (.int (i - (1 : Int32))), .val (.int (own_dc (-x.toInt64))), .unset, .unset]) rfl kt_) ?_
      refine own_go (T' := TJd3) (g' := (mkF mI 49 #[.val (.long x.toInt64), .second, .val (.int i), .val (.long (-x.toInt64)), .second, .val (.int (1 : Int32)), .val (.int (i - (1 : Int32))), .val (.int (own_dc (-x.toInt64))), .unset, .unset] [(.int (own_dc (-x.toInt64)))])) (fun t_ kt_ => XS.iload XJd3.here hx rfl (hb hby d17_47) rfl kt_) ?_
      refine own_go (T' := TJd3) (g' := (mkF mI 50 #[.val (.long x.toInt64), .second, .val (.int i), .val (.long (-x.toInt64)), .second, .val (.int (1 : Int32)), .val (.int (i - (1 : Int32))), .val (.int (own_dc (-x.toInt64))), .unset, .unset] [(.int (1 : Int32)), (.int (own_dc (-x.toInt64)))])) (fun t_ kt_ => XS.iconst XJd3.here hx rfl (hb hby d17_49) kt_) ?_
      refine own_go (T' := TJd3) (g' := (mkF mI 51 #[.val (.long x.toInt64), .second, .val (.int i), .val (.long (-x.toInt64)), .second, .val (.int (1 : Int32)), .val (.int (i - (1 : Int32))), .val (.int (own_dc (-x.toInt64))), .unset, .unset] [(.int ((own_dc (-x.toInt64)) - (1 : Int32)))])) (fun t_ kt_ => XS.isub XJd3.here hx rfl (hb hby d17_50) rfl kt_) ?_
      refine own_go (T' := TJd3) (g' := (mkF mI 53 #[.val (.long x.toInt64), .second, .val (.int i), .val (.long (-x.toInt64)), .second, .val (.int (1 : Int32)), .val (.int (i - (1 : Int32))), .val (.int (own_dc (-x.toInt64))), .unset, .unset] [(.int (i - (1 : Int32))), (.int ((own_dc (-x.toInt64)) - (1 : Int32)))])) (fun t_ kt_ => XS.iload XJd3.here hx rfl (hb hby d17_51) rfl kt_) ?_
      refine own_go (T' := TJd3) (g' := (mkF mI 54 #[.val (.long x.toInt64), .second, .val (.int i), .val (.long (-x.toInt64)), .second, .val (.int (1 : Int32)), .val (.int (i - (1 : Int32))), .val (.int (own_dc (-x.toInt64))), .unset, .unset] [(.int (((own_dc (-x.toInt64)) - (1 : Int32)) - (i - (1 : Int32))))])) (fun t_ kt_ => XS.isub XJd3.here hx rfl (hb hby d17_53) rfl kt_) ?_
      obtain ⟨wJd4, h9a, h9b, h9c, hw0, hres⟩ := own_digC (x := x) (i := i) (c := c) (m := -x.toInt64) (sg := (1 : Int32)) ((own_x64 x).2.2 ((own_x64 x).1.mp hc3_Jd1)) (own_sg1 ((own_x64 x).1.mp hc3_Jd1)) hi0 hc29_Jd2 hc
      refine own_callS own_closed XJd3 hx hZ (y := (⟨"com/example/planfold/planfold/rules/FiguresYearSpanPinLaw", "pow10", "(I)J"⟩ : MethodName)) hown (hw _ (List.mem_of_getElem? (i := 79) rfl)) (hw _ (List.mem_of_getElem? (i := 80) rfl)) (by decide) (rl_pow l Z a0 hw [] h0 n0 Z0 (((own_dc (-x.toInt64)) - (1 : Int32)) - (i - (1 : Int32))) wJd4 h9a h9b h9c) (hw _ (List.mem_of_getElem? (i := 81) rfl)) (hw _ (List.mem_of_getElem? (i := 2) rfl)) eJd3 (pc := 54) (Ls := #[.val (.long x.toInt64), .second, .val (.int i), .val (.long (-x.toInt64)), .second, .val (.int (1 : Int32)), .val (.int (i - (1 : Int32))), .val (.int (own_dc (-x.toInt64))), .unset, .unset]) (argsL := [(.int (((own_dc (-x.toInt64)) - (1 : Int32)) - (i - (1 : Int32))))]) (rest := []) (by rw [hml]; rfl) (lenOf pd_22 rfl) (W := 0) (Nat.le_of_eq rfl) (by decide) (by decide) (by decide) (by decide) (hb hby d17_54) rfl rfl ?_
      intro TJd5 LJd5 vJd5 XJd5 hQJd5
      obtain ⟨rfl, NJd5, KJd5⟩ := hQJd5
      have NJd5a := Fr.app (Fr.nil n0) NJd5
      show own_Ends pP eE bB sS _ _ TJd5 (mkF mI 57 #[.val (.long x.toInt64), .second, .val (.int i), .val (.long (-x.toInt64)), .second, .val (.int (1 : Int32)), .val (.int (i - (1 : Int32))), .val (.int (own_dc (-x.toInt64))), .unset, .unset] [(.long wJd4)])
      refine own_go (T' := TJd5) (g' := (mkF mI 59 #[.val (.long x.toInt64), .second, .val (.int i), .val (.long (-x.toInt64)), .second, .val (.int (1 : Int32)), .val (.int (i - (1 : Int32))), .val (.int (own_dc (-x.toInt64))), .val (.long wJd4), .second] [])) (fun t_ kt_ => XS.lstore XJd5.here hx rfl (hb hby d17_57) rfl (l' := #[.val (.long x.toInt64), .second, .val (.int i), .val (.long (-x.toInt64)), .second, .val (.int (1 : Int32)), .val (.int (i - (1 : Int32))), .val (.int (own_dc (-x.toInt64))), .val (.long wJd4), .second]) rfl kt_) ?_
      refine own_go (T' := TJd5) (g' := (mkF mI 61 #[.val (.long x.toInt64), .second, .val (.int i), .val (.long (-x.toInt64)), .second, .val (.int (1 : Int32)), .val (.int (i - (1 : Int32))), .val (.int (own_dc (-x.toInt64))), .val (.long wJd4), .second] [(.int (48 : Int32))])) (fun t_ kt_ => XS.bipush XJd5.here hx rfl (hb hby d17_59) kt_) ?_
      refine own_go (T' := TJd5) (g' := (mkF mI 62 #[.val (.long x.toInt64), .second, .val (.int i), .val (.long (-x.toInt64)), .second, .val (.int (1 : Int32)), .val (.int (i - (1 : Int32))), .val (.int (own_dc (-x.toInt64))), .val (.long wJd4), .second] [(.long (-x.toInt64)), (.int (48 : Int32))])) (fun t_ kt_ => XS.lloadN XJd5.here hx rfl (hb hby d17_61) rfl kt_) ?_
      refine own_go (T' := TJd5) (g' := (mkF mI 64 #[.val (.long x.toInt64), .second, .val (.int i), .val (.long (-x.toInt64)), .second, .val (.int (1 : Int32)), .val (.int (i - (1 : Int32))), .val (.int (own_dc (-x.toInt64))), .val (.long wJd4), .second] [(.long wJd4), (.long (-x.toInt64)), (.int (48 : Int32))])) (fun t_ kt_ => XS.lload XJd5.here hx rfl (hb hby d17_62) rfl kt_) ?_
      refine own_go (T' := TJd5) (g' := (mkF mI 65 #[.val (.long x.toInt64), .second, .val (.int i), .val (.long (-x.toInt64)), .second, .val (.int (1 : Int32)), .val (.int (i - (1 : Int32))), .val (.int (own_dc (-x.toInt64))), .val (.long wJd4), .second] [(.long ((-x.toInt64) / wJd4)), (.int (48 : Int32))])) (fun t_ kt_ => XS.ldiv XJd5.here hx rfl (hb hby d17_64) rfl hw0 kt_) ?_
      refine own_go (T' := TJd5) (g' := (mkF mI 68 #[.val (.long x.toInt64), .second, .val (.int i), .val (.long (-x.toInt64)), .second, .val (.int (1 : Int32)), .val (.int (i - (1 : Int32))), .val (.int (own_dc (-x.toInt64))), .val (.long wJd4), .second] [(.long (10 : Int64)), (.long ((-x.toInt64) / wJd4)), (.int (48 : Int32))])) (fun t_ kt_ => ldc2J XJd5 hx hown (mvT hZ (hw _ (List.mem_of_getElem? (i := 7) rfl))) rfl (hb hby d17_65) kt_) ?_
      refine own_go (T' := TJd5) (g' := (mkF mI 69 #[.val (.long x.toInt64), .second, .val (.int i), .val (.long (-x.toInt64)), .second, .val (.int (1 : Int32)), .val (.int (i - (1 : Int32))), .val (.int (own_dc (-x.toInt64))), .val (.long wJd4), .second] [(.long (((-x.toInt64) / wJd4) % (10 : Int64))), (.int (48 : Int32))])) (fun t_ kt_ => own_lremM XJd5 hx rfl (hb hby d17_68) rfl (by decide) kt_) ?_
      refine own_go (T' := TJd5) (g' := (mkF mI 70 #[.val (.long x.toInt64), .second, .val (.int i), .val (.long (-x.toInt64)), .second, .val (.int (1 : Int32)), .val (.int (i - (1 : Int32))), .val (.int (own_dc (-x.toInt64))), .val (.long wJd4), .second] [(.int ((((-x.toInt64) / wJd4) % (10 : Int64)).toInt32)), (.int (48 : Int32))])) (fun t_ kt_ => XS.l2i XJd5.here hx rfl (hb hby d17_69) rfl kt_) ?_
      refine own_go (T' := TJd5) (g' := (mkF mI 71 #[.val (.long x.toInt64), .second, .val (.int i), .val (.long (-x.toInt64)), .second, .val (.int (1 : Int32)), .val (.int (i - (1 : Int32))), .val (.int (own_dc (-x.toInt64))), .val (.long wJd4), .second] [(.int ((48 : Int32) + ((((-x.toInt64) / wJd4) % (10 : Int64)).toInt32)))])) (fun t_ kt_ => XS.iadd XJd5.here hx rfl (hb hby d17_70) rfl kt_) ?_
      refine own_go (T' := TJd5) (g' := (mkF mI 72 #[.val (.long x.toInt64), .second, .val (.int i), .val (.long (-x.toInt64)), .second, .val (.int (1 : Int32)), .val (.int (i - (1 : Int32))), .val (.int (own_dc (-x.toInt64))), .val (.long wJd4), .second] [(.int (((48 : Int32) + ((((-x.toInt64) / wJd4) % (10 : Int64)).toInt32)).toUInt32.toUInt16.toUInt32.toInt32))])) (fun t_ kt_ => XS.i2c XJd5.here hx rfl (hb hby d17_71) rfl kt_) ?_
      refine own_retN XJd5 hx hlk (t := .char) hret (by simp) (hb hby d17_72) hres (by decide) (by decide) ?_
      exact ⟨rfl, NJd5a, KJd5⟩
  · skip
    refine own_go (T' := s₁) (g' := (mkF mI 11 #[.val (.long x.toInt64), .second, .val (.int i), .unset, .unset, .unset, .unset, .unset, .unset, .unset] [])) (fun t_ kt_ => XS.ifYes X0.here hx rfl (pc0 := 3) (pc' := 11) rfl (hb hby d17_3) rfl (XT.ll_ge_t hc3_Jd1) (by decide) (by decide) kt_) ?_
    refine own_go (T' := s₁) (g' := (mkF mI 12 #[.val (.long x.toInt64), .second, .val (.int i), .unset, .unset, .unset, .unset, .unset, .unset, .unset] [(.long x.toInt64)])) (fun t_ kt_ => XS.lloadN X0.here hx rfl (hb hby d17_11) rfl kt_) ?_
    refine own_go (T' := s₁) (g' := (mkF mI 13 #[.val (.long x.toInt64), .second, .val (.int i), .val (.long x.toInt64), .second, .unset, .unset, .unset, .unset, .unset] [])) (fun t_ kt_ => XS.lstoreN X0.here hx rfl (hb hby d17_12) rfl (l' := #[.val (.long x.toInt64), .second, .val (.int i), .val (.long x.toInt64), .second, .unset, .unset, .unset, .unset, .unset]) rfl kt_) ?_
    refine own_go (T' := s₁) (g' := (mkF mI 14 #[.val (.long x.toInt64), .second, .val (.int i), .val (.long x.toInt64), .second, .unset, .unset, .unset, .unset, .unset] [(.long x.toInt64)])) (fun t_ kt_ => XS.lloadN X0.here hx rfl (hb hby d17_13) rfl kt_) ?_
    refine own_go (T' := s₁) (g' := (mkF mI 15 #[.val (.long x.toInt64), .second, .val (.int i), .val (.long x.toInt64), .second, .unset, .unset, .unset, .unset, .unset] [(.long (0 : Int64)), (.long x.toInt64)])) (fun t_ kt_ => XS.lconst X0.here hx rfl (hb hby d17_14) kt_) ?_
    refine own_go (T' := s₁) (g' := (mkF mI 16 #[.val (.long x.toInt64), .second, .val (.int i), .val (.long x.toInt64), .second, .unset, .unset, .unset, .unset, .unset] [(.int (lcmpW x.toInt64 (0 : Int64)))])) (fun t_ kt_ => XS.lcmp X0.here hx rfl (hb hby d17_15) rfl kt_) ?_
    refine own_go (T' := s₁) (g' := (mkF mI 23 #[.val (.long x.toInt64), .second, .val (.int i), .val (.long x.toInt64), .second, .unset, .unset, .unset, .unset, .unset] [])) (fun t_ kt_ => XS.ifYes X0.here hx rfl (pc0 := 16) (pc' := 23) rfl (hb hby d17_16) rfl (XT.ll_ge_t (hc3_Jd1 : ¬ (x.toInt64 < (0 : Int64)))) (by decide) (by decide) kt_) ?_
    refine own_go (T' := s₁) (g' := (mkF mI 24 #[.val (.long x.toInt64), .second, .val (.int i), .val (.long x.toInt64), .second, .unset, .unset, .unset, .unset, .unset] [(.int (0 : Int32))])) (fun t_ kt_ => XS.iconst X0.here hx rfl (hb hby d17_23) kt_) ?_
    refine own_go (T' := s₁) (g' := (mkF mI 26 #[.val (.long x.toInt64), .second, .val (.int i), .val (.long x.toInt64), .second, .val (.int (0 : Int32)), .unset, .unset, .unset, .unset] [])) (fun t_ kt_ => XS.istore X0.here hx rfl (hb hby d17_24) rfl (l' := #[.val (.long x.toInt64), .second, .val (.int i), .val (.long x.toInt64), .second, .val (.int (0 : Int32)), .unset, .unset, .unset, .unset]) rfl kt_) ?_
    refine own_go (T' := s₁) (g' := (mkF mI 27 #[.val (.long x.toInt64), .second, .val (.int i), .val (.long x.toInt64), .second, .val (.int (0 : Int32)), .unset, .unset, .unset, .unset] [(.int i)])) (fun t_ kt_ => XS.iloadN X0.here hx rfl (hb hby d17_26) rfl kt_) ?_
    refine own_go (T' := s₁) (g' := (mkF mI 29 #[.val (.long x.toInt64), .second, .val (.int i), .val (.long x.toInt64), .second, .val (.int (0 : Int32)), .unset, .unset, .unset, .unset] [(.int (0 : Int32)), (.int i)])) (fun t_ kt_ => XS.iload X0.here hx rfl (hb hby d17_27) rfl kt_) ?_
    refine own_go (T' := s₁) (g' := (mkF mI 35 #[.val (.long x.toInt64), .second, .val (.int i), .val (.long x.toInt64), .second, .val (.int (0 : Int32)), .unset, .unset, .unset, .unset] [])) (fun t_ kt_ => XS.icmpYes X0.here hx rfl (pc0 := 29) (pc' := 35) rfl (hb hby d17_29) rfl (flt (hi0 : ¬ (i < (0 : Int32)))).2.1 (by decide) (by decide) kt_) ?_
    refine own_go (T' := s₁) (g' := (mkF mI 36 #[.val (.long x.toInt64), .second, .val (.int i), .val (.long x.toInt64), .second, .val (.int (0 : Int32)), .unset, .unset, .unset, .unset] [(.int i)])) (fun t_ kt_ => XS.iloadN X0.here hx rfl (hb hby d17_35) rfl kt_) ?_
    refine own_go (T' := s₁) (g' := (mkF mI 38 #[.val (.long x.toInt64), .second, .val (.int i), .val (.long x.toInt64), .second, .val (.int (0 : Int32)), .unset, .unset, .unset, .unset] [(.int (0 : Int32)), (.int i)])) (fun t_ kt_ => XS.iload X0.here hx rfl (hb hby d17_36) rfl kt_) ?_
    refine own_go (T' := s₁) (g' := (mkF mI 39 #[.val (.long x.toInt64), .second, .val (.int i), .val (.long x.toInt64), .second, .val (.int (0 : Int32)), .unset, .unset, .unset, .unset] [(.int (i - (0 : Int32)))])) (fun t_ kt_ => XS.isub X0.here hx rfl (hb hby d17_38) rfl kt_) ?_
    refine own_go (T' := s₁) (g' := (mkF mI 41 #[.val (.long x.toInt64), .second, .val (.int i), .val (.long x.toInt64), .second, .val (.int (0 : Int32)), .val (.int (i - (0 : Int32))), .unset, .unset, .unset] [])) (fun t_ kt_ => XS.istore X0.here hx rfl (hb hby d17_39) rfl (l' := #[.val (.long x.toInt64), .second, .val (.int i), .val (.long x.toInt64), .second, .val (.int (0 : Int32)), .val (.int (i - (0 : Int32))), .unset, .unset, .unset]) rfl kt_) ?_
    refine own_go (T' := s₁) (g' := (mkF mI 42 #[.val (.long x.toInt64), .second, .val (.int i), .val (.long x.toInt64), .second, .val (.int (0 : Int32)), .val (.int (i - (0 : Int32))), .unset, .unset, .unset] [(.long x.toInt64)])) (fun t_ kt_ => XS.lloadN X0.here hx rfl (hb hby d17_41) rfl kt_) ?_
    refine own_callS own_closed X0 hx hZ (y := (⟨"com/example/planfold/planfold/rules/FiguresYearSpanPinLaw", "digitCount", "(J)I"⟩ : MethodName)) hown (hw _ (List.mem_of_getElem? (i := 4) rfl)) (hw _ (List.mem_of_getElem? (i := 5) rfl)) (by decide) (rl_dc l Z a0 hw [] h0 x.toInt64) (hw _ (List.mem_of_getElem? (i := 6) rfl)) (hw _ (List.mem_of_getElem? (i := 2) rfl)) e0 (pc := 42) (Ls := #[.val (.long x.toInt64), .second, .val (.int i), .val (.long x.toInt64), .second, .val (.int (0 : Int32)), .val (.int (i - (0 : Int32))), .unset, .unset, .unset]) (argsL := [(.long x.toInt64)]) (rest := []) (by rw [hml]; rfl) (lenOf pd_19 rfl) (W := 0) (Nat.le_of_eq rfl) (by decide) (by decide) (by decide) (by decide) (hb hby d17_42) rfl rfl ?_
    intro TJd6 LJd6 vJd6 XJd6 hQJd6
    obtain ⟨rfl, rfl, eJd6⟩ := hQJd6
    show own_Ends pP eE bB sS _ _ TJd6 (mkF mI 45 #[.val (.long x.toInt64), .second, .val (.int i), .val (.long x.toInt64), .second, .val (.int (0 : Int32)), .val (.int (i - (0 : Int32))), .unset, .unset, .unset] [(.int (own_dc x.toInt64))])
    refine own_go (T' := TJd6) (g' := (mkF mI 47 #[.val (.long x.toInt64), .second, .val (.int i), .val (.long x.toInt64), .second, .val (.int (0 : Int32)), .val (.int (i - (0 : Int32))), .val (.int (own_dc x.toInt64)), .unset, .unset] [])) (fun t_ kt_ => XS.istore XJd6.here hx rfl (hb hby d17_45) rfl (l' := #[.val (.long x.toInt64), .second, .val (.int i), .val (.long x.toInt64), .second, .val (.int (0 : Int32)), .val (.int (i - (0 : Int32))), .val (.int (own_dc x.toInt64)), .unset, .unset]) rfl kt_) ?_
    refine own_go (T' := TJd6) (g' := (mkF mI 49 #[.val (.long x.toInt64), .second, .val (.int i), .val (.long x.toInt64), .second, .val (.int (0 : Int32)), .val (.int (i - (0 : Int32))), .val (.int (own_dc x.toInt64)), .unset, .unset] [(.int (own_dc x.toInt64))])) (fun t_ kt_ => XS.iload XJd6.here hx rfl (hb hby d17_47) rfl kt_) ?_
    refine own_go (T' := TJd6) (g' := (mkF mI 50 #[.val (.long x.toInt64), .second, .val (.int i), .val (.long x.toInt64), .second, .val (.int (0 : Int32)), .val (.int (i - (0 : Int32))), .val (.int (own_dc x.toInt64)), .unset, .unset] [(.int (1 : Int32)), (.int (own_dc x.toInt64))])) (fun t_ kt_ => XS.iconst XJd6.here hx rfl (hb hby d17_49) kt_) ?_
    refine own_go (T' := TJd6) (g' := (mkF mI 51 #[.val (.long x.toInt64), .second, .val (.int i), .val (.long x.toInt64), .second, .val (.int (0 : Int32)), .val (.int (i - (0 : Int32))), .val (.int (own_dc x.toInt64)), .unset, .unset] [(.int ((own_dc x.toInt64) - (1 : Int32)))])) (fun t_ kt_ => XS.isub XJd6.here hx rfl (hb hby d17_50) rfl kt_) ?_
    refine own_go (T' := TJd6) (g' := (mkF mI 53 #[.val (.long x.toInt64), .second, .val (.int i), .val (.long x.toInt64), .second, .val (.int (0 : Int32)), .val (.int (i - (0 : Int32))), .val (.int (own_dc x.toInt64)), .unset, .unset] [(.int (i - (0 : Int32))), (.int ((own_dc x.toInt64) - (1 : Int32)))])) (fun t_ kt_ => XS.iload XJd6.here hx rfl (hb hby d17_51) rfl kt_) ?_
    refine own_go (T' := TJd6) (g' := (mkF mI 54 #[.val (.long x.toInt64), .second, .val (.int i), .val (.long x.toInt64), .second, .val (.int (0 : Int32)), .val (.int (i - (0 : Int32))), .val (.int (own_dc x.toInt64)), .unset, .unset] [(.int (((own_dc x.toInt64) - (1 : Int32)) - (i - (0 : Int32))))])) (fun t_ kt_ => XS.isub XJd6.here hx rfl (hb hby d17_53) rfl kt_) ?_
    obtain ⟨wJd7, h9a, h9b, h9c, hw0, hres⟩ := own_digC (x := x) (i := i) (c := c) (m := x.toInt64) (sg := (0 : Int32)) ((own_x64 x).2.1 (fun q => hc3_Jd1 ((own_x64 x).1.mpr q))) (own_sg0 (fun q => hc3_Jd1 ((own_x64 x).1.mpr q))) hi0 hi0 hc
    refine own_callS own_closed XJd6 hx hZ (y := (⟨"com/example/planfold/planfold/rules/FiguresYearSpanPinLaw", "pow10", "(I)J"⟩ : MethodName)) hown (hw _ (List.mem_of_getElem? (i := 79) rfl)) (hw _ (List.mem_of_getElem? (i := 80) rfl)) (by decide) (rl_pow l Z a0 hw [] h0 n0 Z0 (((own_dc x.toInt64) - (1 : Int32)) - (i - (0 : Int32))) wJd7 h9a h9b h9c) (hw _ (List.mem_of_getElem? (i := 81) rfl)) (hw _ (List.mem_of_getElem? (i := 2) rfl)) eJd6 (pc := 54) (Ls := #[.val (.long x.toInt64), .second, .val (.int i), .val (.long x.toInt64), .second, .val (.int (0 : Int32)), .val (.int (i - (0 : Int32))), .val (.int (own_dc x.toInt64)), .unset, .unset]) (argsL := [(.int (((own_dc x.toInt64) - (1 : Int32)) - (i - (0 : Int32))))]) (rest := []) (by rw [hml]; rfl) (lenOf pd_22 rfl) (W := 0) (Nat.le_of_eq rfl) (by decide) (by decide) (by decide) (by decide) (hb hby d17_54) rfl rfl ?_
    intro TJd8 LJd8 vJd8 XJd8 hQJd8
    obtain ⟨rfl, NJd8, KJd8⟩ := hQJd8
    have NJd8a := Fr.app (Fr.nil n0) NJd8
    show own_Ends pP eE bB sS _ _ TJd8 (mkF mI 57 #[.val (.long x.toInt64), .second, .val (.int i), .val (.long x.toInt64), .second, .val (.int (0 : Int32)), .val (.int (i - (0 : Int32))), .val (.int (own_dc x.toInt64)), .unset, .unset] [(.long wJd7)])
    refine own_go (T' := TJd8) (g' := (mkF mI 59 #[.val (.long x.toInt64), .second, .val (.int i), .val (.long x.toInt64), .second, .val (.int (0 : Int32)), .val (.int (i - (0 : Int32))), .val (.int (own_dc x.toInt64)), .val (.long wJd7), .second] [])) (fun t_ kt_ => XS.lstore XJd8.here hx rfl (hb hby d17_57) rfl (l' := #[.val (.long x.toInt64), .second, .val (.int i), .val (.long x.toInt64), .second, .val (.int (0 : Int32)), .val (.int (i - (0 : Int32))), .val (.int (own_dc x.toInt64)), .val (.long wJd7), .second]) rfl kt_) ?_
    refine own_go (T' := TJd8) (g' := (mkF mI 61 #[.val (.long x.toInt64), .second, .val (.int i), .val (.long x.toInt64), .second, .val (.int (0 : Int32)), .val (.int (i - (0 : Int32))), .val (.int (own_dc x.toInt64)), .val (.long wJd7), .second] [(.int (48 : Int32))])) (fun t_ kt_ => XS.bipush XJd8.here hx rfl (hb hby d17_59) kt_) ?_
    refine own_go (T' := TJd8) (g' := (mkF mI 62 #[.val (.long x.toInt64), .second, .val (.int i), .val (.long x.toInt64), .second, .val (.int (0 : Int32)), .val (.int (i - (0 : Int32))), .val (.int (own_dc x.toInt64)), .val (.long wJd7), .second] [(.long x.toInt64), (.int (48 : Int32))])) (fun t_ kt_ => XS.lloadN XJd8.here hx rfl (hb hby d17_61) rfl kt_) ?_
    refine own_go (T' := TJd8) (g' := (mkF mI 64 #[.val (.long x.toInt64), .second, .val (.int i), .val (.long x.toInt64), .second, .val (.int (0 : Int32)), .val (.int (i - (0 : Int32))), .val (.int (own_dc x.toInt64)), .val (.long wJd7), .second] [(.long wJd7), (.long x.toInt64), (.int (48 : Int32))])) (fun t_ kt_ => XS.lload XJd8.here hx rfl (hb hby d17_62) rfl kt_) ?_
    refine own_go (T' := TJd8) (g' := (mkF mI 65 #[.val (.long x.toInt64), .second, .val (.int i), .val (.long x.toInt64), .second, .val (.int (0 : Int32)), .val (.int (i - (0 : Int32))), .val (.int (own_dc x.toInt64)), .val (.long wJd7), .second] [(.long (x.toInt64 / wJd7)), (.int (48 : Int32))])) (fun t_ kt_ => XS.ldiv XJd8.here hx rfl (hb hby d17_64) rfl hw0 kt_) ?_
    refine own_go (T' := TJd8) (g' := (mkF mI 68 #[.val (.long x.toInt64), .second, .val (.int i), .val (.long x.toInt64), .second, .val (.int (0 : Int32)), .val (.int (i - (0 : Int32))), .val (.int (own_dc x.toInt64)), .val (.long wJd7), .second] [(.long (10 : Int64)), (.long (x.toInt64 / wJd7)), (.int (48 : Int32))])) (fun t_ kt_ => ldc2J XJd8 hx hown (mvT hZ (hw _ (List.mem_of_getElem? (i := 7) rfl))) rfl (hb hby d17_65) kt_) ?_
    refine own_go (T' := TJd8) (g' := (mkF mI 69 #[.val (.long x.toInt64), .second, .val (.int i), .val (.long x.toInt64), .second, .val (.int (0 : Int32)), .val (.int (i - (0 : Int32))), .val (.int (own_dc x.toInt64)), .val (.long wJd7), .second] [(.long ((x.toInt64 / wJd7) % (10 : Int64))), (.int (48 : Int32))])) (fun t_ kt_ => own_lremM XJd8 hx rfl (hb hby d17_68) rfl (by decide) kt_) ?_
    refine own_go (T' := TJd8) (g' := (mkF mI 70 #[.val (.long x.toInt64), .second, .val (.int i), .val (.long x.toInt64), .second, .val (.int (0 : Int32)), .val (.int (i - (0 : Int32))), .val (.int (own_dc x.toInt64)), .val (.long wJd7), .second] [(.int (((x.toInt64 / wJd7) % (10 : Int64)).toInt32)), (.int (48 : Int32))])) (fun t_ kt_ => XS.l2i XJd8.here hx rfl (hb hby d17_69) rfl kt_) ?_
    refine own_go (T' := TJd8) (g' := (mkF mI 71 #[.val (.long x.toInt64), .second, .val (.int i), .val (.long x.toInt64), .second, .val (.int (0 : Int32)), .val (.int (i - (0 : Int32))), .val (.int (own_dc x.toInt64)), .val (.long wJd7), .second] [(.int ((48 : Int32) + (((x.toInt64 / wJd7) % (10 : Int64)).toInt32)))])) (fun t_ kt_ => XS.iadd XJd8.here hx rfl (hb hby d17_70) rfl kt_) ?_
    refine own_go (T' := TJd8) (g' := (mkF mI 72 #[.val (.long x.toInt64), .second, .val (.int i), .val (.long x.toInt64), .second, .val (.int (0 : Int32)), .val (.int (i - (0 : Int32))), .val (.int (own_dc x.toInt64)), .val (.long wJd7), .second] [(.int (((48 : Int32) + (((x.toInt64 / wJd7) % (10 : Int64)).toInt32)).toUInt32.toUInt16.toUInt32.toInt32))])) (fun t_ kt_ => XS.i2c XJd8.here hx rfl (hb hby d17_71) rfl kt_) ?_
    refine own_retN XJd8 hx hlk (t := .char) hret (by simp) (hb hby d17_72) hres (by decide) (by decide) ?_
    exact ⟨rfl, NJd8a, KJd8⟩
def own_ys (x y : Int32) : List Value := if x = y then own_dec y else (own_dec x ++ [(.int (32 : Int32)), (.int (116 : Int32)), (.int (104 : Int32)), (.int (114 : Int32)), (.int (111 : Int32)), (.int (117 : Int32)), (.int (103 : Int32)), (.int (104 : Int32)), (.int (32 : Int32))]) ++ own_dec y
def own_QY (Z : State) (h0 : Heap) (n0 : Nat) (vs : List Value) (v : Option Value) (h : Heap) (L : List Loc) : Prop := ∃ (a d : Addr) (k : ClassId) (n : Int32), v = some (.ref a) ∧ Fr n0 L ∧ Keep h0 h [] ∧ own_St Z h a d k n vs ∧ n.toInt = vs.length
theorem d3_0 : decode prog_15_method_11_code 0 = .ok (.iload_n 0, 1) := by decide +kernel
theorem d3_1 : decode prog_15_method_11_code 1 = .ok (.iload_n 1, 1) := by decide +kernel
theorem d3_2 : decode prog_15_method_11_code 2 = .ok (.if_icmp .ne 10, 3) := by decide +kernel
theorem d3_5 : decode prog_15_method_11_code 5 = .ok (.iload_n 1, 1) := by decide +kernel
theorem d3_6 : decode prog_15_method_11_code 6 = .ok (.invokestatic 110, 3) := by decide +kernel
theorem d3_9 : decode prog_15_method_11_code 9 = .ok (.goto 26, 3) := by decide +kernel
theorem d3_12 : decode prog_15_method_11_code 12 = .ok (.new 43, 3) := by decide +kernel
theorem d3_15 : decode prog_15_method_11_code 15 = .ok (.dup, 1) := by decide +kernel
theorem d3_16 : decode prog_15_method_11_code 16 = .ok (.invokespecial 45, 3) := by decide +kernel
theorem d3_19 : decode prog_15_method_11_code 19 = .ok (.iload_n 0, 1) := by decide +kernel
theorem d3_20 : decode prog_15_method_11_code 20 = .ok (.invokevirtual 52, 3) := by decide +kernel
theorem d3_23 : decode prog_15_method_11_code 23 = .ok (.ldc 115, 2) := by decide +kernel
theorem d3_25 : decode prog_15_method_11_code 25 = .ok (.invokevirtual 48, 3) := by decide +kernel
theorem d3_28 : decode prog_15_method_11_code 28 = .ok (.iload_n 1, 1) := by decide +kernel
theorem d3_29 : decode prog_15_method_11_code 29 = .ok (.invokevirtual 52, 3) := by decide +kernel
theorem d3_32 : decode prog_15_method_11_code 32 = .ok (.invokevirtual 55, 3) := by decide +kernel
theorem d3_35 : decode prog_15_method_11_code 35 = .ok (.areturn, 1) := by decide +kernel
theorem rl_ys_pn : plainFor (⟨"com/example/planfold/planfold/rules/Figures", "yearSpan", "(II)Ljava/lang/String;"⟩ : MethodName) = true := plainFor_of_name (show plainName "com/example/planfold/planfold/rules/Figures" = true by first | (simp [plainName, overriddenIn]; done) | decide +kernel)
theorem rl_ys_ef (mI : MethodId) (x : Int32) (y : Int32) : entryFrame mI #[(.int x), (.int y)] 2 = mkF mI 0 #[.val (.int x), .val (.int y)] [] := by first | (simp [entryFrame, mkF, argsToLocals, Value.category]; done) | rfl
set_option maxRecDepth 65536 in
set_option maxHeartbeats 40000000 in
theorem rl_ys (l : Launch) (Z : State) (a0 : Array Value) (hw : ∀ d ∈ tables_1, d.before a0 Z = true) (ws : List Jvm.Cond) (h0 : Heap) (n0 : Nat) (O : Old Z n0 h0) (cs : Int32) (Scs : Sta Z Z.heap "java/lang/String" "COMPACT_STRINGS" "Z" (.int cs)) (hcs : ¬ cs = 0) (hEL : EW Z a0 [("com/example/planfold/planfold/rules/Figures", 115), ("com/example/planfold/planfold/rules/FiguresYearSpanPinLaw", 42)]) (hStr : ∀ a ∈ Bundle.stringAtoms, a.before a0 Z = true) (Z0 : n0 ≤ h0.size) (x y : Int32) (sT d1 d2 : Addr) (D1 D2 : Cell) (TB : own_Tb Z sT d1 d2 D1 D2) :
    own_MetS l Z [("com/example/planfold/planfold/rules/Figures", 115), ("com/example/planfold/planfold/rules/FiguresYearSpanPinLaw", 42)] (⟨"com/example/planfold/planfold/rules/Figures", "yearSpan", "(II)Ljava/lang/String;"⟩ : MethodName) prog_15_method_11_code 2 (some (.object "java/lang/String")) ws ({ frames := 6, cells := 9, slots := 1264, locals := 106 } : Room) #[(.int x), (.int y)] h0 (own_QY Z h0 n0 (own_ys x y)) := by
  refine own_metS rl_ys_pn ?_
  intro pP eE sS mI bB mT cC s₁ hx hby hml hown hnm hret hlk hZ X0 e0 hS hk C0 hh0
  replace hown : (sS.setVm sS.vm).vm.findClass "com/example/planfold/planfold/rules/Figures" = some mI.cls := hown
  refine own_castS (rl_ys_ef mI x y) ?_
  refine own_goS (T' := s₁) (g' := (mkF mI 1 #[.val (.int x), .val (.int y)] [(.int x)])) (fun t_ kt_ => XS.iloadN X0.here hx rfl (hb hby d3_0) rfl kt_) ?_
  refine own_goS (T' := s₁) (g' := (mkF mI 2 #[.val (.int x), .val (.int y)] [(.int y), (.int x)])) (fun t_ kt_ => XS.iloadN X0.here hx rfl (hb hby d3_1) rfl kt_) ?_
  by_cases hc2_Ka1 : x = y
  · skip
    refine own_goS (T' := s₁) (g' := (mkF mI 5 #[.val (.int x), .val (.int y)] [])) (fun t_ kt_ => XS.icmpNo X0.here hx rfl (hb hby d3_2) rfl (teq hc2_Ka1).2 kt_) ?_
    refine own_goS (T' := s₁) (g' := (mkF mI 6 #[.val (.int x), .val (.int y)] [(.int y)])) (fun t_ kt_ => XS.iloadN X0.here hx rfl (hb hby d3_5) rfl kt_) ?_
    refine own_callS own_closedS X0 hx hZ (y := (⟨"java/lang/Integer", "toString", "(I)Ljava/lang/String;"⟩ : MethodName)) hown (hw _ (List.mem_of_getElem? (i := 13) rfl)) (hw _ (List.mem_of_getElem? (i := 14) rfl)) (by decide) (rj_itoa l Z a0 hw [] h0 n0 O cs Scs hcs Z0 y (Int32.ofNat (own_dec y).length) rfl (own_nnL (own_decLe20 y)) sT d1 d2 D1 D2 TB) (hw _ (List.mem_of_getElem? (i := 16) rfl)) (hw _ (List.mem_of_getElem? (i := 15) rfl)) e0 (pc := 6) (Ls := #[.val (.int x), .val (.int y)]) (argsL := [(.int y)]) (rest := []) (by rw [hml]; rfl) (lenOf pd_23 rfl) (W := 0) (Nat.le_of_eq rfl) (by decide) (by decide) (by decide) (by decide) (hb hby d3_6) rfl rfl ?_
    intro TKa2 LKa2 vKa2 XKa2 hQKa2
    obtain ⟨aKa2, dKa2, kKa2, rfl, NKa2, KKa2, SKa2, haKa2, hdKa2⟩ := hQKa2
    have CKa2 := own_ck C0 KKa2 all0
    replace hk := Nat.le_trans hk KKa2.1
    show own_EndsS _ _ pP eE bB sS _ _ TKa2 (mkF mI 9 #[.val (.int x), .val (.int y)] [(.ref aKa2)])
    refine own_goS (T' := TKa2) (g' := (mkF mI 35 #[.val (.int x), .val (.int y)] [(.ref aKa2)])) (fun t_ kt_ => XS.goto XKa2.here hx rfl (pc0 := 9) (pc' := 35) rfl (hb hby d3_9) (by decide) (by decide) kt_) ?_
    refine own_leaveS XKa2 hlk (some (.ref aKa2)) (fun h => by rw [hret] at h; cases h) hS rfl hk hZ hEL CKa2 (by decide) (by decide) ?_ (fun fs hr => retOut XKa2 hx hret rfl (Or.inr (Or.inr (Or.inr (Or.inr ⟨rfl, rfl, rfl⟩)))) (hb hby d3_35) hr)
    exact ⟨aKa2, dKa2, kKa2, _, rfl, Fr.app (Fr.nil n0) NKa2, KKa2, by rw [own_ys, if_pos hc2_Ka1]; exact SKa2, by rw [own_ys, if_pos hc2_Ka1]; exact (own_zsN rfl (own_decLe20 y)).2⟩
  · skip
    refine own_goS (T' := s₁) (g' := (mkF mI 12 #[.val (.int x), .val (.int y)] [])) (fun t_ kt_ => XS.icmpYes X0.here hx rfl (pc0 := 2) (pc' := 12) rfl (hb hby d3_2) rfl (feq hc2_Ka1).2 (by decide) (by decide) kt_) ?_
    obtain ⟨TKa3, hKa3, XKa3, eKa3, ExKa3, AKa3, DKa3, -, stKa3⟩ := newO X0 hx hZ hown (hw _ (List.mem_of_getElem? (i := 91) rfl)) (hw _ (List.mem_of_getElem? (i := 92) rfl)) (hw _ (List.mem_of_getElem? (i := 93) rfl)) e0 (g := (mkF mI 12 #[.val (.int x), .val (.int y)] [])) rfl (hb hby d3_12) (by decide) (by decide)
    obtain ⟨bKa3, gKa3⟩ : ∃ z, z = h0.size := ⟨_, rfl⟩
    rw [← gKa3] at AKa3 DKa3 stKa3
    have g_bKa3 : n0 ≤ bKa3 := Nat.le_trans Z0 (Nat.le_of_eq gKa3.symm)
    have sz_bKa3 : h0.size ≤ bKa3 := Nat.le_trans (Keep.refl h0 []).1 (Nat.le_of_eq gKa3.symm)
    have ZKa6 : n0 ≤ hKa3.size := Nat.le_trans Z0 ExKa3.1
    have KKa7 : Keep h0 hKa3 [] := (Keep.refl h0 []).ext ExKa3
    have OKa8 : Old Z n0 hKa3 := Old.ext O ExKa3
    have CKa9 := own_ce C0 ExKa3
    replace hk := Nat.le_trans hk ExKa3.1
    have F_value_bKa3 : Fld Z hKa3 bKa3 "java/lang/AbstractStringBuilder" "value" "[B" .null := DKa3 (Or.inl (hw _ (List.mem_of_getElem? (i := 106) rfl))) (ty := (.array .byte)) (by decide)
    have F_coder_bKa3 : Fld Z hKa3 bKa3 "java/lang/AbstractStringBuilder" "coder" "B" (.int (0 : Int32)) := DKa3 (Or.inl (hw _ (List.mem_of_getElem? (i := 108) rfl))) (ty := .byte) (by decide)
    have F_count_bKa3 : Fld Z hKa3 bKa3 "java/lang/AbstractStringBuilder" "count" "I" (.int (0 : Int32)) := DKa3 (Or.inl (hw _ (List.mem_of_getElem? (i := 120) rfl))) (ty := .int) (by decide)
    refine own_goS (T' := TKa3) (g' := (mkF mI 15 #[.val (.int x), .val (.int y)] [(.ref bKa3)])) (fun t_ kt_ => stKa3 _ kt_) ?_
    refine own_goS (T' := TKa3) (g' := (mkF mI 16 #[.val (.int x), .val (.int y)] [(.ref bKa3), (.ref bKa3)])) (fun t_ kt_ => XS.dup XKa3.here hx rfl (hb hby d3_15) rfl rfl kt_) ?_
    refine own_callI own_closedS XKa3 hx hZ (y := (⟨"java/lang/StringBuilder", "<init>", "()V"⟩ : MethodName)) rfl hown (hw _ (List.mem_of_getElem? (i := 94) rfl)) (hw _ (List.mem_of_getElem? (i := 95) rfl)) (by decide) (rj_sbInit l Z a0 hw [] hKa3 n0 OKa8 cs Scs hcs ZKa6 bKa3 AKa3 F_value_bKa3 F_coder_bKa3 F_count_bKa3 g_bKa3) (hw _ (List.mem_of_getElem? (i := 96) rfl)) (hw _ (List.mem_of_getElem? (i := 93) rfl)) (b := bKa3) eKa3 (pc := 16) (Ls := #[.val (.int x), .val (.int y)]) (argsL := []) (rest := [(.ref bKa3)]) (by rw [hml]; rfl) (lenOf pd_24 rfl) (W := 1) (Nat.le_of_eq rfl) (by decide) (by decide) (by decide) (by decide) (hb hby d3_16) rfl rfl ?_
    intro TKa10 LKa10 vKa10 XKa10 hQKa10
    obtain ⟨rfl, NKa10, KKa10, daKa10, kKa10, BKa10, hdaKa10⟩ := hQKa10
    have CKa10 := own_ck CKa9 KKa10 (allS (own_sb hZ.alike AKa3) all0)
    have SFKa10 := own_sk CKa9 KKa10 (allS (own_sb hZ.alike AKa3) all0) (Safe.new hdaKa10)
    have OKa10 : Old Z n0 TKa10.heap := OKa8.keep KKa10 (allS g_bKa3 all0)
    have ZKa10 : n0 ≤ TKa10.heap.size := Nat.le_trans ZKa6 KKa10.1
    have KxKa10 : Keep h0 TKa10.heap [] := KKa7.trans KKa10 (allS (Or.inr sz_bKa3) all0)
    have g_dKa10 : n0 ≤ daKa10 := Nat.le_trans ZKa6 hdaKa10
    have szKa10 : h0.size ≤ daKa10 := Nat.le_trans KKa7.1 hdaKa10
    have NKa10a := Fr.app (Fr.nil n0) NKa10
    replace hk := Nat.le_trans hk KKa10.1
    show own_EndsS _ _ pP eE bB sS _ _ TKa10 (mkF mI 19 #[.val (.int x), .val (.int y)] [(.ref bKa3)])
    refine own_goS (T' := TKa10) (g' := (mkF mI 20 #[.val (.int x), .val (.int y)] [(.int x), (.ref bKa3)])) (fun t_ kt_ => XS.iloadN XKa10.here hx rfl (hb hby d3_19) rfl kt_) ?_
    have ubKa11 : ((own_dec x) : List Value).length ≤ 11 := own_decLe x
    have sdKa11 := own_side (n := (0 : Int32)) (z := (16 : Int32)) (vs := ([] : List Value)) (us := (own_dec x)) (by decide) (by decide) (by have h1 := (show ([] : List Value).length ≤ 0 from Nat.le_refl 0); have h2 := ubKa11; omega)
    refine own_callV own_closedS XKa10 hx hZ (y := (⟨"java/lang/StringBuilder", "append", "(I)Ljava/lang/StringBuilder;"⟩ : MethodName)) (z := (⟨"java/lang/StringBuilder", "append", "(I)Ljava/lang/StringBuilder;"⟩ : MethodName)) hown (hw _ (List.mem_of_getElem? (i := 109) rfl)) (hw _ (List.mem_of_getElem? (i := 110) rfl)) (hw _ (List.mem_of_getElem? (i := 112) rfl)) (hw _ (List.mem_of_getElem? (i := 111) rfl)) (hw _ (List.mem_of_getElem? (i := 112) rfl)) rfl (by decide) (rj_appI l Z a0 hw [] TKa10.heap n0 OKa10 cs Scs hcs ZKa10 bKa3 x daKa10 kKa10 (16 : Int32) (Int32.ofNat (own_dec x).length) (0 : Int32) (Int32.ofNat (([] : List Value).length + ((own_dec x) : List Value).length)) ([] : List Value) BKa10 g_bKa3 g_dKa10 sdKa11.1 sdKa11.2.1 (by decide) sdKa11.2.2.1 sdKa11.2.2.2.1 sdKa11.2.2.2.2.1 rfl sdKa11.2.2.2.2.2.1 sdKa11.2.2.2.2.2.2.1 sdKa11.2.2.2.2.2.2.2.1 sdKa11.2.2.2.2.2.2.2.2.1 sT d1 d2 D1 D2 TB) (hw _ (List.mem_of_getElem? (i := 113) rfl)) (hw _ (List.mem_of_getElem? (i := 93) rfl)) rfl BKa10.1 (pc := 20) (Ls := #[.val (.int x), .val (.int y)]) (argsL := [(.int x)]) (rest := []) (by rw [hml]; rfl) (lenOf pd_25 rfl) (W := 0) (Nat.le_of_eq rfl) (by decide) (by decide) (by decide) (by decide) (hb hby d3_20) rfl rfl ?_
    intro TKa12 LKa12 vKa12 XKa12 hQKa12
    obtain ⟨rfl, NKa12, KKa12, daKa12, kKa12, zKa12, BKa12, hdaKa12, hzaKa12, hzbKa12⟩ := hQKa12
    have CKa12 := own_ck CKa10 KKa12 (allS (own_sb hZ.alike BKa10.1) (allS SFKa10 all0))
    have SFKa12 := own_sn CKa10 KKa12 (allS (own_sb hZ.alike BKa10.1) (allS SFKa10 all0)) SFKa10 hdaKa12
    have OKa12 : Old Z n0 TKa12.heap := OKa10.keep KKa12 (allS g_bKa3 (allS g_dKa10 all0))
    have ZKa12 : n0 ≤ TKa12.heap.size := Nat.le_trans ZKa10 KKa12.1
    have KxKa12 : Keep h0 TKa12.heap [] := KxKa10.trans KKa12 (allS (Or.inr sz_bKa3) (allS (Or.inr szKa10) all0))
    have g_dKa12 : n0 ≤ daKa12 := hdaKa12.elim (fun q => by rw [q]; exact g_dKa10) (fun q => Nat.le_trans ZKa10 q)
    have szKa12 : h0.size ≤ daKa12 := hdaKa12.elim (fun q => by rw [q]; exact szKa10) (fun q => Nat.le_trans KxKa10.1 q)
    have NKa12a := Fr.app NKa10a NKa12
    replace hk := Nat.le_trans hk KKa12.1
    have hiKa12 := sdKa11.2.2.2.2.2.2.2.2.2
    obtain ⟨wKa12, hwKa12⟩ : ∃ w : List Value, w = ([] : List Value) ++ (own_dec x) := ⟨_, rfl⟩
    rw [← hwKa12] at BKa12 hiKa12
    obtain ⟨mKa12, hmKa12⟩ : ∃ m, m = (Int32.ofNat (([] : List Value).length + ((own_dec x) : List Value).length)) := ⟨_, rfl⟩
    rw [← hmKa12] at BKa12 hiKa12 hzaKa12
    have hlKa12 : wKa12.length ≤ 11 := by rw [hwKa12, List.length_append]; have h1 := (show ([] : List Value).length ≤ 0 from Nat.le_refl 0); have h2 := ubKa11; omega
    show own_EndsS _ _ pP eE bB sS _ _ TKa12 (mkF mI 23 #[.val (.int x), .val (.int y)] [(.ref bKa3)])
    obtain ⟨aKa13, TKa13, hKa13, vmKa13, kKa13, bKa13, kkKa13, XKa13, eKa13, ExKa13, hS, hk, hZ, hown, EKa13, FcKa13, FvKa13, VKa13, CKa13, CsKa13, sfKa13, stKa13⟩ := own_ldc XKa12 hx hZ hown (hw _ (List.mem_of_getElem? (i := 134) rfl)) hStr rfl hS hk hEL (List.mem_of_getElem? (i := 0) rfl) CKa12 (vs := [(.int (32 : Int32)), (.int (116 : Int32)), (.int (104 : Int32)), (.int (114 : Int32)), (.int (111 : Int32)), (.int (117 : Int32)), (.int (103 : Int32)), (.int (104 : Int32)), (.int (32 : Int32))]) (z := 9) ⟨by decide, by decide⟩ (by decide) rfl (g := (mkF mI 23 #[.val (.int x), .val (.int y)] [(.ref bKa3)])) rfl (hb hby d3_23) (n := 36) (by decide) (by decide) (by decide) (by decide)
    have BKa13 := BKa12.ext ExKa13
    have SFKa13 := CsKa13.safe BKa12.2.2.2.2.1.lt SFKa12
    have qbKa13 := sfKa13 bKa3 (own_sb hZ.alike BKa13.1)
    have qdKa13 := sfKa13 daKa12 SFKa13
    have OKa13 := Old.ext OKa12 ExKa13
    have ZKa13 : n0 ≤ hKa13.size := Nat.le_trans ZKa12 ExKa13.1
    have KxKa13 : Keep h0 hKa13 [] := KxKa12.ext ExKa13
    refine own_goS (T' := TKa13) (g' := (mkF mI 25 #[.val (.int x), .val (.int y)] [(.ref aKa13), (.ref bKa3)])) (fun t_ kt_ => stKa13 _ kt_) ?_
    have ubKa14 : ([(.int (32 : Int32)), (.int (116 : Int32)), (.int (104 : Int32)), (.int (114 : Int32)), (.int (111 : Int32)), (.int (117 : Int32)), (.int (103 : Int32)), (.int (104 : Int32)), (.int (32 : Int32))] : List Value).length ≤ 9 := Nat.le_refl 9
    have sdKa14 := own_side (n := mKa12) (z := zKa12) (vs := wKa12) (us := [(.int (32 : Int32)), (.int (116 : Int32)), (.int (104 : Int32)), (.int (114 : Int32)), (.int (111 : Int32)), (.int (117 : Int32)), (.int (103 : Int32)), (.int (104 : Int32)), (.int (32 : Int32))]) hiKa12 hzaKa12 (by have h1 := hlKa12; have h2 := ubKa14; omega)
    refine own_callV own_closedS XKa13 hx hZ (y := (⟨"java/lang/StringBuilder", "append", "(Ljava/lang/String;)Ljava/lang/StringBuilder;"⟩ : MethodName)) (z := (⟨"java/lang/StringBuilder", "append", "(Ljava/lang/String;)Ljava/lang/StringBuilder;"⟩ : MethodName)) hown (hw _ (List.mem_of_getElem? (i := 137) rfl)) (hw _ (List.mem_of_getElem? (i := 138) rfl)) (hw _ (List.mem_of_getElem? (i := 140) rfl)) (hw _ (List.mem_of_getElem? (i := 139) rfl)) (hw _ (List.mem_of_getElem? (i := 140) rfl)) rfl (by decide) (rj_appS l Z a0 hw [] hKa13 n0 OKa13 cs Scs hcs ZKa13 bKa3 aKa13 daKa12 bKa13 kKa12 kkKa13 zKa12 9 mKa12 (Int32.ofNat (wKa12.length + ([(.int (32 : Int32)), (.int (116 : Int32)), (.int (104 : Int32)), (.int (114 : Int32)), (.int (111 : Int32)), (.int (117 : Int32)), (.int (103 : Int32)), (.int (104 : Int32)), (.int (32 : Int32))] : List Value).length)) wKa12 [(.int (32 : Int32)), (.int (116 : Int32)), (.int (104 : Int32)), (.int (114 : Int32)), (.int (111 : Int32)), (.int (117 : Int32)), (.int (103 : Int32)), (.int (104 : Int32)), (.int (32 : Int32))] BKa13 ⟨EKa13, FcKa13, FvKa13, VKa13⟩ g_bKa3 g_dKa12 (Ne.symm qbKa13.1) (Ne.symm qbKa13.2) (Ne.symm qdKa13.2) sdKa14.1 sdKa14.2.1 hzbKa12 sdKa14.2.2.1 sdKa14.2.2.2.1 sdKa14.2.2.2.2.1 (by decide) rfl sdKa14.2.2.2.2.2.1 sdKa14.2.2.2.2.2.2.1 sdKa14.2.2.2.2.2.2.2.1 sdKa14.2.2.2.2.2.2.2.2.1) (hw _ (List.mem_of_getElem? (i := 141) rfl)) (hw _ (List.mem_of_getElem? (i := 93) rfl)) eKa13 BKa13.1 (pc := 25) (Ls := #[.val (.int x), .val (.int y)]) (argsL := [(.ref aKa13)]) (rest := []) (by rw [hml]; rfl) (lenOf pd_26 rfl) (W := 0) (Nat.le_of_eq rfl) (by decide) (by decide) (by decide) (by decide) (hb hby d3_25) rfl rfl ?_
    intro TKa15 LKa15 vKa15 XKa15 hQKa15
    obtain ⟨rfl, NKa15, KKa15, daKa15, kKa15, zKa15, BKa15, hdaKa15, hzaKa15, hzbKa15⟩ := hQKa15
    have CKa15 := own_ck CKa13 KKa15 (allS (own_sb hZ.alike BKa13.1) (allS SFKa13 all0))
    have SFKa15 := own_sn CKa13 KKa15 (allS (own_sb hZ.alike BKa13.1) (allS SFKa13 all0)) SFKa13 hdaKa15
    have OKa15 : Old Z n0 TKa15.heap := OKa13.keep KKa15 (allS g_bKa3 (allS g_dKa12 all0))
    have ZKa15 : n0 ≤ TKa15.heap.size := Nat.le_trans ZKa13 KKa15.1
    have KxKa15 : Keep h0 TKa15.heap [] := KxKa13.trans KKa15 (allS (Or.inr sz_bKa3) (allS (Or.inr szKa12) all0))
    have g_dKa15 : n0 ≤ daKa15 := hdaKa15.elim (fun q => by rw [q]; exact g_dKa12) (fun q => Nat.le_trans ZKa13 q)
    have szKa15 : h0.size ≤ daKa15 := hdaKa15.elim (fun q => by rw [q]; exact szKa12) (fun q => Nat.le_trans KxKa13.1 q)
    have NKa15a := Fr.app NKa12a NKa15
    replace hk := Nat.le_trans hk KKa15.1
    have hiKa15 := sdKa14.2.2.2.2.2.2.2.2.2
    obtain ⟨wKa15, hwKa15⟩ : ∃ w : List Value, w = wKa12 ++ [(.int (32 : Int32)), (.int (116 : Int32)), (.int (104 : Int32)), (.int (114 : Int32)), (.int (111 : Int32)), (.int (117 : Int32)), (.int (103 : Int32)), (.int (104 : Int32)), (.int (32 : Int32))] := ⟨_, rfl⟩
    rw [← hwKa15] at BKa15 hiKa15
    obtain ⟨mKa15, hmKa15⟩ : ∃ m, m = (Int32.ofNat (wKa12.length + ([(.int (32 : Int32)), (.int (116 : Int32)), (.int (104 : Int32)), (.int (114 : Int32)), (.int (111 : Int32)), (.int (117 : Int32)), (.int (103 : Int32)), (.int (104 : Int32)), (.int (32 : Int32))] : List Value).length)) := ⟨_, rfl⟩
    rw [← hmKa15] at BKa15 hiKa15 hzaKa15
    have hlKa15 : wKa15.length ≤ 20 := by rw [hwKa15, List.length_append]; have h1 := hlKa12; have h2 := ubKa14; omega
    show own_EndsS _ _ pP eE bB sS _ _ TKa15 (mkF mI 28 #[.val (.int x), .val (.int y)] [(.ref bKa3)])
    refine own_goS (T' := TKa15) (g' := (mkF mI 29 #[.val (.int x), .val (.int y)] [(.int y), (.ref bKa3)])) (fun t_ kt_ => XS.iloadN XKa15.here hx rfl (hb hby d3_28) rfl kt_) ?_
    have ubKa16 : ((own_dec y) : List Value).length ≤ 11 := own_decLe y
    have sdKa16 := own_side (n := mKa15) (z := zKa15) (vs := wKa15) (us := (own_dec y)) hiKa15 hzaKa15 (by have h1 := hlKa15; have h2 := ubKa16; omega)
    refine own_callV own_closedS XKa15 hx hZ (y := (⟨"java/lang/StringBuilder", "append", "(I)Ljava/lang/StringBuilder;"⟩ : MethodName)) (z := (⟨"java/lang/StringBuilder", "append", "(I)Ljava/lang/StringBuilder;"⟩ : MethodName)) hown (hw _ (List.mem_of_getElem? (i := 109) rfl)) (hw _ (List.mem_of_getElem? (i := 110) rfl)) (hw _ (List.mem_of_getElem? (i := 112) rfl)) (hw _ (List.mem_of_getElem? (i := 111) rfl)) (hw _ (List.mem_of_getElem? (i := 112) rfl)) rfl (by decide) (rj_appI l Z a0 hw [] TKa15.heap n0 OKa15 cs Scs hcs ZKa15 bKa3 y daKa15 kKa15 zKa15 (Int32.ofNat (own_dec y).length) mKa15 (Int32.ofNat (wKa15.length + ((own_dec y) : List Value).length)) wKa15 BKa15 g_bKa3 g_dKa15 sdKa16.1 sdKa16.2.1 hzbKa15 sdKa16.2.2.1 sdKa16.2.2.2.1 sdKa16.2.2.2.2.1 rfl sdKa16.2.2.2.2.2.1 sdKa16.2.2.2.2.2.2.1 sdKa16.2.2.2.2.2.2.2.1 sdKa16.2.2.2.2.2.2.2.2.1 sT d1 d2 D1 D2 TB) (hw _ (List.mem_of_getElem? (i := 113) rfl)) (hw _ (List.mem_of_getElem? (i := 93) rfl)) rfl BKa15.1 (pc := 29) (Ls := #[.val (.int x), .val (.int y)]) (argsL := [(.int y)]) (rest := []) (by rw [hml]; rfl) (lenOf pd_25 rfl) (W := 0) (Nat.le_of_eq rfl) (by decide) (by decide) (by decide) (by decide) (hb hby d3_29) rfl rfl ?_
    intro TKa17 LKa17 vKa17 XKa17 hQKa17
    obtain ⟨rfl, NKa17, KKa17, daKa17, kKa17, zKa17, BKa17, hdaKa17, hzaKa17, hzbKa17⟩ := hQKa17
    have CKa17 := own_ck CKa15 KKa17 (allS (own_sb hZ.alike BKa15.1) (allS SFKa15 all0))
    have SFKa17 := own_sn CKa15 KKa17 (allS (own_sb hZ.alike BKa15.1) (allS SFKa15 all0)) SFKa15 hdaKa17
    have OKa17 : Old Z n0 TKa17.heap := OKa15.keep KKa17 (allS g_bKa3 (allS g_dKa15 all0))
    have ZKa17 : n0 ≤ TKa17.heap.size := Nat.le_trans ZKa15 KKa17.1
    have KxKa17 : Keep h0 TKa17.heap [] := KxKa15.trans KKa17 (allS (Or.inr sz_bKa3) (allS (Or.inr szKa15) all0))
    have g_dKa17 : n0 ≤ daKa17 := hdaKa17.elim (fun q => by rw [q]; exact g_dKa15) (fun q => Nat.le_trans ZKa15 q)
    have szKa17 : h0.size ≤ daKa17 := hdaKa17.elim (fun q => by rw [q]; exact szKa15) (fun q => Nat.le_trans KxKa15.1 q)
    have NKa17a := Fr.app NKa15a NKa17
    replace hk := Nat.le_trans hk KKa17.1
    have hiKa17 := sdKa16.2.2.2.2.2.2.2.2.2
    obtain ⟨wKa17, hwKa17⟩ : ∃ w : List Value, w = wKa15 ++ (own_dec y) := ⟨_, rfl⟩
    rw [← hwKa17] at BKa17 hiKa17
    obtain ⟨mKa17, hmKa17⟩ : ∃ m, m = (Int32.ofNat (wKa15.length + ((own_dec y) : List Value).length)) := ⟨_, rfl⟩
    rw [← hmKa17] at BKa17 hiKa17 hzaKa17
    have hlKa17 : wKa17.length ≤ 31 := by rw [hwKa17, List.length_append]; have h1 := hlKa15; have h2 := ubKa16; omega
    show own_EndsS _ _ pP eE bB sS _ _ TKa17 (mkF mI 32 #[.val (.int x), .val (.int y)] [(.ref bKa3)])
    have seKa18 := own_side2 (n := mKa17) (z := zKa17) (vs := wKa17) hiKa17 hzaKa17 (by have h1 := hlKa17; omega)
    refine own_callV own_closedS XKa17 hx hZ (y := (⟨"java/lang/StringBuilder", "toString", "()Ljava/lang/String;"⟩ : MethodName)) (z := (⟨"java/lang/StringBuilder", "toString", "()Ljava/lang/String;"⟩ : MethodName)) hown (hw _ (List.mem_of_getElem? (i := 167) rfl)) (hw _ (List.mem_of_getElem? (i := 168) rfl)) (hw _ (List.mem_of_getElem? (i := 170) rfl)) (hw _ (List.mem_of_getElem? (i := 169) rfl)) (hw _ (List.mem_of_getElem? (i := 170) rfl)) rfl (by decide) (rj_toStr l Z a0 hw [] TKa17.heap n0 OKa17 cs Scs hcs ZKa17 bKa3 daKa17 kKa17 zKa17 mKa17 wKa17 BKa17 seKa18.1 seKa18.2.1 seKa18.2.2.1 seKa18.2.2.2) (hw _ (List.mem_of_getElem? (i := 171) rfl)) (hw _ (List.mem_of_getElem? (i := 93) rfl)) rfl BKa17.1 (pc := 32) (Ls := #[.val (.int x), .val (.int y)]) (argsL := []) (rest := []) (by rw [hml]; rfl) (lenOf pd_27 rfl) (W := 0) (Nat.le_of_eq rfl) (by decide) (by decide) (by decide) (by decide) (hb hby d3_32) rfl rfl ?_
    intro TKa19 LKa19 vKa19 XKa19 hQKa19
    obtain ⟨aKa19, dKa19, kKa19, rfl, NKa19, KKa19, SKa19, haKa19, hdKa19⟩ := hQKa19
    have CKa19 := own_ck CKa17 KKa19 all0
    replace hk := Nat.le_trans hk KKa19.1
    have NKa19a := Fr.app NKa17a NKa19
    have KxKa19 : Keep h0 TKa19.heap [] := KxKa17.trans KKa19 all0
    have hfin : wKa17 = own_ys x y := by rw [own_ys, if_neg hc2_Ka1, hwKa17, hwKa15, hwKa12]; rfl
    show own_EndsS _ _ pP eE bB sS _ _ TKa19 (mkF mI 35 #[.val (.int x), .val (.int y)] [(.ref aKa19)])
    refine own_leaveS XKa19 hlk (some (.ref aKa19)) (fun h => by rw [hret] at h; cases h) hS rfl hk hZ hEL CKa19 (by decide) (by decide) ?_ (fun fs hr => retOut XKa19 hx hret rfl (Or.inr (Or.inr (Or.inr (Or.inr ⟨rfl, rfl, rfl⟩)))) (hb hby d3_35) hr)
    exact ⟨aKa19, dKa19, kKa19, _, rfl, NKa19a, KxKa19, by rw [← hfin]; exact SKa19, by rw [← hfin]; exact hiKa17⟩
theorem own_rem (x n : Int32) (hx : 0 ≤ x.toInt) (hn : 1 ≤ n.toInt) : 0 ≤ (x % n).toInt ∧ (x % n).toInt < n.toInt := by
  have e := (c_irem x n n.toInt rfl).1 hx
  rw [e]
  exact ⟨Int.emod_nonneg _ (by omega), Int.emod_lt_of_pos _ (by omega)⟩
theorem own_dlI (x : Int32) : (own_dl x.toInt64).toInt = (own_dec x).length ∧ (own_dec x).length ≤ 11 ∧ 1 ≤ (own_dec x).length := by
  have h := own_decLe x
  rw [own_dlE]
  refine ⟨Int32.toInt_ofNat_small (by omega), h, ?_⟩
  rw [own_decLen]
  have : 1 ≤ SBG.digits (own_mag x) := by unfold SBG.digits; (repeat' split) <;> omega
  omega
theorem own_ysL {x y : Int32} (h : ¬ x = y) : own_ys x y = (own_dec x ++ [(.int (32 : Int32)), (.int (116 : Int32)), (.int (104 : Int32)), (.int (114 : Int32)), (.int (111 : Int32)), (.int (117 : Int32)), (.int (103 : Int32)), (.int (104 : Int32)), (.int (32 : Int32))]) ++ own_dec y := if_neg h
theorem own_ysLen (x y : Int32) : 1 ≤ (own_ys x y).length ∧ (own_ys x y).length ≤ 31 := by
  obtain ⟨-, a1, a2⟩ := own_dlI x
  obtain ⟨-, b1, b2⟩ := own_dlI y
  unfold own_ys
  split
  · omega
  · simp only [List.length_append, List.length_cons, List.length_nil]; omega
theorem own_ysA {x y i c : Int32} (hne : ¬ x = y) (hi0 : ¬ i < 0) (hi : i < own_dl x.toInt64) (hc : (own_ys x y)[i.toNatClampNeg]? = some (.int c)) : (own_dec x)[i.toNatClampNeg]? = some (.int c) := by
  obtain ⟨a0, a1, a2⟩ := own_dlI x
  rw [Int32.lt_iff_toInt_lt, a0] at hi
  rw [Int32.lt_iff_toInt_lt, show (0 : Int32).toInt = 0 from by decide] at hi0
  have hI : i.toNatClampNeg < (own_dec x).length := by simp only [Int32.toNatClampNeg]; omega
  rw [own_ysL hne, List.append_assoc, List.getElem?_append_left hI] at hc
  exact hc
theorem own_ysN {x y i c : Int32} (hi0 : ¬ i < 0) (h1 : ¬ i < own_dl x.toInt64) (hc : (own_ys x y)[i.toNatClampNeg]? = some (.int c)) : (i.toNatClampNeg : Int) = i.toInt ∧ i.toNatClampNeg < 31 ∧ (own_dec x).length ≤ i.toNatClampNeg ∧ (i - own_dl x.toInt64).toInt = i.toInt - (own_dec x).length := by
  obtain ⟨a0, a1, a2⟩ := own_dlI x
  obtain ⟨-, b⟩ := own_ysLen x y
  have hlt := (List.getElem?_eq_some_iff.mp hc).1
  rw [Int32.lt_iff_toInt_lt, a0] at h1
  rw [Int32.lt_iff_toInt_lt, show (0 : Int32).toInt = 0 from by decide] at hi0
  have e : (i.toNatClampNeg : Int) = i.toInt := own_toN (by omega)
  refine ⟨e, by omega, by omega, ?_⟩
  rw [Int32.toInt_sub, a0]; exact Int.bmod_eq_of_le (by omega) (by omega)
theorem own_ysB {x y i c : Int32} (hne : ¬ x = y) (hi0 : ¬ i < 0) (h1 : ¬ i < own_dl x.toInt64) (h2 : i < own_dl x.toInt64 + 9) (hc : (own_ys x y)[i.toNatClampNeg]? = some (.int c)) : ¬ (i - own_dl x.toInt64) < 0 ∧ (i - own_dl x.toInt64) < 9 ∧ ([(.int (32 : Int32)), (.int (116 : Int32)), (.int (104 : Int32)), (.int (114 : Int32)), (.int (111 : Int32)), (.int (117 : Int32)), (.int (103 : Int32)), (.int (104 : Int32)), (.int (32 : Int32))] : List Value).getD (i - own_dl x.toInt64).toNatClampNeg (.int 0) = .int c := by
  obtain ⟨a0, a1, a2⟩ := own_dlI x
  obtain ⟨e, e1, e2, e3⟩ := own_ysN hi0 h1 hc
  have z9 : (9 : Int32).toInt = 9 := by decide
  have z0 : (0 : Int32).toInt = 0 := by decide
  have e4 : (own_dl x.toInt64 + 9).toInt = (own_dec x).length + 9 := by rw [Int32.toInt_add, a0, z9]; exact Int.bmod_eq_of_le (by omega) (by omega)
  rw [Int32.lt_iff_toInt_lt, e4] at h2
  have e5 : (i - own_dl x.toInt64).toNatClampNeg = i.toNatClampNeg - (own_dec x).length := by
    have : ((i - own_dl x.toInt64).toNatClampNeg : Int) = (i - own_dl x.toInt64).toInt := own_toN (by omega)
    omega
  refine ⟨by rw [Int32.lt_iff_toInt_lt, e3, z0]; omega, by rw [Int32.lt_iff_toInt_lt, e3, z9]; omega, ?_⟩
  rw [own_ysL hne, List.append_assoc, List.getElem?_append_right e2, List.getElem?_append_left (by simp only [List.length_cons, List.length_nil]; omega)] at hc
  rw [List.getD_eq_getElem?_getD, e5, hc]; rfl
theorem own_ysC {x y i c : Int32} (hne : ¬ x = y) (hi0 : ¬ i < 0) (h1 : ¬ i < own_dl x.toInt64) (h2 : ¬ i < own_dl x.toInt64 + 9) (hc : (own_ys x y)[i.toNatClampNeg]? = some (.int c)) : ¬ ((i - own_dl x.toInt64) - 9) < 0 ∧ (own_dec y)[((i - own_dl x.toInt64) - 9).toNatClampNeg]? = some (.int c) := by
  obtain ⟨a0, a1, a2⟩ := own_dlI x
  obtain ⟨e, e1, e2, e3⟩ := own_ysN hi0 h1 hc
  have z9 : (9 : Int32).toInt = 9 := by decide
  have z0 : (0 : Int32).toInt = 0 := by decide
  have e4 : (own_dl x.toInt64 + 9).toInt = (own_dec x).length + 9 := by rw [Int32.toInt_add, a0, z9]; exact Int.bmod_eq_of_le (by omega) (by omega)
  rw [Int32.lt_iff_toInt_lt, e4] at h2
  have e6 : ((i - own_dl x.toInt64) - 9).toInt = i.toInt - (own_dec x).length - 9 := by rw [Int32.toInt_sub, e3, z9]; exact Int.bmod_eq_of_le (by omega) (by omega)
  have e5 : ((i - own_dl x.toInt64) - 9).toNatClampNeg = i.toNatClampNeg - (own_dec x ++ ([(.int (32 : Int32)), (.int (116 : Int32)), (.int (104 : Int32)), (.int (114 : Int32)), (.int (111 : Int32)), (.int (117 : Int32)), (.int (103 : Int32)), (.int (104 : Int32)), (.int (32 : Int32))] : List Value)).length := by
    have : (((i - own_dl x.toInt64) - 9).toNatClampNeg : Int) = ((i - own_dl x.toInt64) - 9).toInt := own_toN (by omega)
    simp only [List.length_append, List.length_cons, List.length_nil]
    omega
  refine ⟨by rw [Int32.lt_iff_toInt_lt, e6, z0]; omega, ?_⟩
  rw [own_ysL hne, List.getElem?_append_right (by simp only [List.length_append, List.length_cons, List.length_nil]; omega)] at hc
  rw [e5]; exact hc
theorem own_chN : ∀ n, n < 128 → nar .char (Int32.ofNat n) = Int32.ofNat n ∧ Int32.ofNat n &&& 255 = Int32.ofNat n := by decide +kernel
theorem own_decIs (x : Int32) : ∀ v ∈ own_dec x, ∃ n, n < 128 ∧ v = .int (Int32.ofNat n) := by
  intro v hv
  unfold own_dec at hv
  rcases List.mem_append.mp hv with h | h
  · split at h
    · exact ⟨45, by decide, List.mem_singleton.mp h⟩
    · cases h
  · obtain ⟨i, -, rfl⟩ := List.mem_map.mp h
    exact ⟨_, by have := Nat.mod_lt (own_mag x / 10 ^ (SBG.digits (own_mag x) - 1 - i)) (show 0 < 10 by decide); omega, rfl⟩
theorem own_ysIs (x y : Int32) : ∀ v ∈ own_ys x y, ∃ n, n < 128 ∧ v = .int (Int32.ofNat n) := by
  intro v hv
  unfold own_ys at hv
  split at hv
  · exact own_decIs y v hv
  · rcases List.mem_append.mp hv with h | h
    · rcases List.mem_append.mp h with h | h
      · exact own_decIs x v h
      · simp only [List.mem_cons, List.not_mem_nil, or_false] at h
        rcases h with rfl | rfl | rfl | rfl | rfl | rfl | rfl | rfl | rfl
        · exact ⟨32, by decide, rfl⟩
        · exact ⟨116, by decide, rfl⟩
        · exact ⟨104, by decide, rfl⟩
        · exact ⟨114, by decide, rfl⟩
        · exact ⟨111, by decide, rfl⟩
        · exact ⟨117, by decide, rfl⟩
        · exact ⟨103, by decide, rfl⟩
        · exact ⟨104, by decide, rfl⟩
        · exact ⟨32, by decide, rfl⟩
    · exact own_decIs y v h
theorem own_ysEx {x y ix ln : Int32} (hl : ln.toInt = (own_ys x y).length) (h0 : 0 ≤ ix.toInt) (h1 : ix.toInt < ln.toInt) : ∃ c, (own_ys x y)[ix.toNatClampNeg]? = some (.int c) ∧ nar .char c = c ∧ c &&& 255 = c := by
  have e : (ix.toNatClampNeg : Int) = ix.toInt := own_toN h0
  have hlt : ix.toNatClampNeg < (own_ys x y).length := by omega
  obtain ⟨n, hn, hv⟩ := own_ysIs x y _ (List.getElem_mem hlt)
  exact ⟨Int32.ofNat n, by rw [List.getElem?_eq_getElem hlt, hv], own_chN n hn⟩
theorem own_lnA {x y : Int32} (h : x = y) : (own_dl x.toInt64).toInt = (own_ys x y).length := by
  rw [(own_dlI x).1, own_ys, if_pos h, h]
theorem own_lnB {x y : Int32} (h : ¬ x = y) : ((own_dl x.toInt64 + 9) + own_dl y.toInt64).toInt = (own_ys x y).length := by
  obtain ⟨a0, a1, a2⟩ := own_dlI x
  obtain ⟨b0, b1, b2⟩ := own_dlI y
  have e4 : (own_dl x.toInt64 + 9).toInt = (own_dec x).length + 9 := by rw [Int32.toInt_add, a0, show (9 : Int32).toInt = 9 from by decide]; exact Int.bmod_eq_of_le (by omega) (by omega)
  rw [own_ysL h, Int32.toInt_add, e4, b0, Int.bmod_eq_of_le (by omega) (by omega)]
  simp only [List.length_append, List.length_cons, List.length_nil]; omega
theorem own_ln0 {x y ln : Int32} (h : ln.toInt = (own_ys x y).length) : ¬ ln = 0 := fun q => by
  have := (own_ysLen x y).1
  rw [q, show (0 : Int32).toInt = 0 from by decide] at h; omega
theorem d16_0 : decode method_6_code 0 = .ok (.iload_n 0, 1) := by decide +kernel
theorem d16_1 : decode method_6_code 1 = .ok (.iload_n 1, 1) := by decide +kernel
theorem d16_2 : decode method_6_code 2 = .ok (.if_icmp .ne 10, 3) := by decide +kernel
theorem d16_5 : decode method_6_code 5 = .ok (.iload_n 0, 1) := by decide +kernel
theorem d16_6 : decode method_6_code 6 = .ok (.i2l, 1) := by decide +kernel
theorem d16_7 : decode method_6_code 7 = .ok (.iload_n 2, 1) := by decide +kernel
theorem d16_8 : decode method_6_code 8 = .ok (.invokestatic 35, 3) := by decide +kernel
theorem d16_11 : decode method_6_code 11 = .ok (.ireturn, 1) := by decide +kernel
theorem d16_12 : decode method_6_code 12 = .ok (.iload_n 0, 1) := by decide +kernel
theorem d16_13 : decode method_6_code 13 = .ok (.i2l, 1) := by decide +kernel
theorem d16_14 : decode method_6_code 14 = .ok (.invokestatic 39, 3) := by decide +kernel
theorem d16_17 : decode method_6_code 17 = .ok (.istore_n 3, 1) := by decide +kernel
theorem d16_18 : decode method_6_code 18 = .ok (.iload_n 2, 1) := by decide +kernel
theorem d16_19 : decode method_6_code 19 = .ok (.iload_n 3, 1) := by decide +kernel
theorem d16_20 : decode method_6_code 20 = .ok (.if_icmp .ge 10, 3) := by decide +kernel
theorem d16_23 : decode method_6_code 23 = .ok (.iload_n 0, 1) := by decide +kernel
theorem d16_24 : decode method_6_code 24 = .ok (.i2l, 1) := by decide +kernel
theorem d16_25 : decode method_6_code 25 = .ok (.iload_n 2, 1) := by decide +kernel
theorem d16_26 : decode method_6_code 26 = .ok (.invokestatic 35, 3) := by decide +kernel
theorem d16_29 : decode method_6_code 29 = .ok (.ireturn, 1) := by decide +kernel
theorem d16_30 : decode method_6_code 30 = .ok (.iload_n 2, 1) := by decide +kernel
theorem d16_31 : decode method_6_code 31 = .ok (.iload_n 3, 1) := by decide +kernel
theorem d16_32 : decode method_6_code 32 = .ok (.bipush 9, 2) := by decide +kernel
theorem d16_34 : decode method_6_code 34 = .ok (.iadd, 1) := by decide +kernel
theorem d16_35 : decode method_6_code 35 = .ok (.if_icmp .ge 12, 3) := by decide +kernel
theorem d16_38 : decode method_6_code 38 = .ok (.ldc 42, 2) := by decide +kernel
theorem d16_40 : decode method_6_code 40 = .ok (.iload_n 2, 1) := by decide +kernel
theorem d16_41 : decode method_6_code 41 = .ok (.iload_n 3, 1) := by decide +kernel
theorem d16_42 : decode method_6_code 42 = .ok (.isub, 1) := by decide +kernel
theorem d16_43 : decode method_6_code 43 = .ok (.invokevirtual 44, 3) := by decide +kernel
theorem d16_46 : decode method_6_code 46 = .ok (.ireturn, 1) := by decide +kernel
theorem d16_47 : decode method_6_code 47 = .ok (.iload_n 1, 1) := by decide +kernel
theorem d16_48 : decode method_6_code 48 = .ok (.i2l, 1) := by decide +kernel
theorem d16_49 : decode method_6_code 49 = .ok (.iload_n 2, 1) := by decide +kernel
theorem d16_50 : decode method_6_code 50 = .ok (.iload_n 3, 1) := by decide +kernel
theorem d16_51 : decode method_6_code 51 = .ok (.isub, 1) := by decide +kernel
theorem d16_52 : decode method_6_code 52 = .ok (.bipush 9, 2) := by decide +kernel
theorem d16_54 : decode method_6_code 54 = .ok (.isub, 1) := by decide +kernel
theorem d16_55 : decode method_6_code 55 = .ok (.invokestatic 35, 3) := by decide +kernel
theorem d16_58 : decode method_6_code 58 = .ok (.ireturn, 1) := by decide +kernel
theorem rl_ec_pn : plainFor (⟨"com/example/planfold/planfold/rules/FiguresYearSpanPinLaw", "expectedChar", "(III)C"⟩ : MethodName) = true := plainFor_of_name (show plainName "com/example/planfold/planfold/rules/FiguresYearSpanPinLaw" = true by first | (simp [plainName, overriddenIn]; done) | decide +kernel)
theorem rl_ec_ef (mI : MethodId) (x : Int32) (y : Int32) (i : Int32) : entryFrame mI #[(.int x), (.int y), (.int i)] 4 = mkF mI 0 #[.val (.int x), .val (.int y), .val (.int i), .unset] [] := by first | (simp [entryFrame, mkF, argsToLocals, Value.category]; done) | rfl
set_option maxRecDepth 65536 in
set_option maxHeartbeats 40000000 in
theorem rl_ec (l : Launch) (Z : State) (a0 : Array Value) (hw : ∀ d ∈ tables_1, d.before a0 Z = true) (ws : List Jvm.Cond) (h0 : Heap) (n0 : Nat) (O : Old Z n0 h0) (cs : Int32) (Scs : Sta Z Z.heap "java/lang/String" "COMPACT_STRINGS" "Z" (.int cs)) (hcs : ¬ cs = 0) (fo : Value) (hfo : fo.isRef = true) (Sfo : Sta Z Z.heap "jdk/internal/util/Preconditions" "SIOOBE_FORMATTER" "Ljava/util/function/BiFunction;" fo) (hEL : EW Z a0 [("com/example/planfold/planfold/rules/Figures", 115), ("com/example/planfold/planfold/rules/FiguresYearSpanPinLaw", 42)]) (hStr : ∀ a ∈ Bundle.stringAtoms, a.before a0 Z = true) (Z0 : n0 ≤ h0.size) (x y i c : Int32) (hi0 : ¬ i < 0) (hc : (own_ys x y)[i.toNatClampNeg]? = some (.int c)) (hcn : nar .char c = c) (hcm : c &&& 255 = c) :
    own_MetS l Z [("com/example/planfold/planfold/rules/Figures", 115), ("com/example/planfold/planfold/rules/FiguresYearSpanPinLaw", 42)] (⟨"com/example/planfold/planfold/rules/FiguresYearSpanPinLaw", "expectedChar", "(III)C"⟩ : MethodName) method_6_code 4 (some .char) ws ({ frames := 4, cells := 2, slots := 40, locals := 53 } : Room) #[(.int x), (.int y), (.int i)] h0 (own_QG h0 n0 (some (.int c))) := by
  refine own_metS rl_ec_pn ?_
  intro pP eE sS mI bB mT cC s₁ hx hby hml hown hnm hret hlk hZ X0 e0 hS hk C0 hh0
  replace hown : (sS.setVm sS.vm).vm.findClass "com/example/planfold/planfold/rules/FiguresYearSpanPinLaw" = some mI.cls := hown
  refine own_castS (rl_ec_ef mI x y i) ?_
  refine own_goS (T' := s₁) (g' := (mkF mI 1 #[.val (.int x), .val (.int y), .val (.int i), .unset] [(.int x)])) (fun t_ kt_ => XS.iloadN X0.here hx rfl (hb hby d16_0) rfl kt_) ?_
  refine own_goS (T' := s₁) (g' := (mkF mI 2 #[.val (.int x), .val (.int y), .val (.int i), .unset] [(.int y), (.int x)])) (fun t_ kt_ => XS.iloadN X0.here hx rfl (hb hby d16_1) rfl kt_) ?_
  by_cases hc2_Kb1 : x = y
  · skip
    refine own_goS (T' := s₁) (g' := (mkF mI 5 #[.val (.int x), .val (.int y), .val (.int i), .unset] [])) (fun t_ kt_ => XS.icmpNo X0.here hx rfl (hb hby d16_2) rfl (teq hc2_Kb1).2 kt_) ?_
    refine own_goS (T' := s₁) (g' := (mkF mI 6 #[.val (.int x), .val (.int y), .val (.int i), .unset] [(.int x)])) (fun t_ kt_ => XS.iloadN X0.here hx rfl (hb hby d16_5) rfl kt_) ?_
    refine own_goS (T' := s₁) (g' := (mkF mI 7 #[.val (.int x), .val (.int y), .val (.int i), .unset] [(.long (x.toInt64))])) (fun t_ kt_ => XS.i2l X0.here hx rfl (hb hby d16_6) rfl kt_) ?_
    refine own_goS (T' := s₁) (g' := (mkF mI 8 #[.val (.int x), .val (.int y), .val (.int i), .unset] [(.int i), (.long (x.toInt64))])) (fun t_ kt_ => XS.iloadN X0.here hx rfl (hb hby d16_7) rfl kt_) ?_
    refine own_callS own_closedS X0 hx hZ (y := (⟨"com/example/planfold/planfold/rules/FiguresYearSpanPinLaw", "decChar", "(JI)C"⟩ : MethodName)) hown (hw _ (List.mem_of_getElem? (i := 76) rfl)) (hw _ (List.mem_of_getElem? (i := 77) rfl)) (by decide) (rl_dchr l Z a0 hw [] h0 n0 Z0 x i c hi0 (by have q := hc; rw [own_ys, if_pos hc2_Kb1, ← hc2_Kb1] at q; exact q)) (hw _ (List.mem_of_getElem? (i := 78) rfl)) (hw _ (List.mem_of_getElem? (i := 2) rfl)) e0 (pc := 8) (Ls := #[.val (.int x), .val (.int y), .val (.int i), .unset]) (argsL := [(.long (x.toInt64)), (.int i)]) (rest := []) (by rw [hml]; rfl) (lenOf pd_28 rfl) (W := 0) (Nat.le_of_eq rfl) (by decide) (by decide) (by decide) (by decide) (hb hby d16_8) rfl rfl ?_
    intro TKb2 LKb2 vKb2 XKb2 hQKb2
    obtain ⟨rfl, NKb2, KKb2⟩ := hQKb2
    have CKb2 := own_ck C0 KKb2 all0
    replace hk := Nat.le_trans hk KKb2.1
    have NKb2a := Fr.app (Fr.nil n0) NKb2
    have KxKb2 : Keep h0 TKb2.heap [] := (Keep.refl h0 []).trans KKb2 all0
    show own_EndsS _ _ pP eE bB sS _ _ TKb2 (mkF mI 11 #[.val (.int x), .val (.int y), .val (.int i), .unset] [(.int c)])
    refine own_leaveS XKb2 hlk (some (.int (nar .char c))) (fun h => by rw [hret] at h; cases h) hS rfl hk hZ hEL CKb2 (by decide) (by decide) ?_ (fun fs hr => retN XKb2 hx (t := .char) hret (by simp) (hb hby d16_11) hr)
    exact ⟨by rw [hcn], NKb2a, by exact KxKb2⟩
  · skip
    refine own_goS (T' := s₁) (g' := (mkF mI 12 #[.val (.int x), .val (.int y), .val (.int i), .unset] [])) (fun t_ kt_ => XS.icmpYes X0.here hx rfl (pc0 := 2) (pc' := 12) rfl (hb hby d16_2) rfl (feq hc2_Kb1).2 (by decide) (by decide) kt_) ?_
    refine own_goS (T' := s₁) (g' := (mkF mI 13 #[.val (.int x), .val (.int y), .val (.int i), .unset] [(.int x)])) (fun t_ kt_ => XS.iloadN X0.here hx rfl (hb hby d16_12) rfl kt_) ?_
    refine own_goS (T' := s₁) (g' := (mkF mI 14 #[.val (.int x), .val (.int y), .val (.int i), .unset] [(.long (x.toInt64))])) (fun t_ kt_ => XS.i2l X0.here hx rfl (hb hby d16_13) rfl kt_) ?_
    refine own_callS own_closedS X0 hx hZ (y := (⟨"com/example/planfold/planfold/rules/FiguresYearSpanPinLaw", "decLen", "(J)I"⟩ : MethodName)) hown (hw _ (List.mem_of_getElem? (i := 0) rfl)) (hw _ (List.mem_of_getElem? (i := 1) rfl)) (by decide) (rl_dl l Z a0 hw [] h0 x.toInt64) (hw _ (List.mem_of_getElem? (i := 3) rfl)) (hw _ (List.mem_of_getElem? (i := 2) rfl)) e0 (pc := 14) (Ls := #[.val (.int x), .val (.int y), .val (.int i), .unset]) (argsL := [(.long (x.toInt64))]) (rest := []) (by rw [hml]; rfl) (lenOf pd_19 rfl) (W := 0) (Nat.le_of_eq rfl) (by decide) (by decide) (by decide) (by decide) (hb hby d16_14) rfl rfl ?_
    intro TKb3 LKb3 vKb3 XKb3 hQKb3
    obtain ⟨rfl, rfl, eKb3⟩ := hQKb3
    have NKb3z := Fr.app (Fr.nil n0) (Fr.nil n0)
    show own_EndsS _ _ pP eE bB sS _ _ TKb3 (mkF mI 17 #[.val (.int x), .val (.int y), .val (.int i), .unset] [(.int (own_dl x.toInt64))])
    refine own_goS (T' := TKb3) (g' := (mkF mI 18 #[.val (.int x), .val (.int y), .val (.int i), .val (.int (own_dl x.toInt64))] [])) (fun t_ kt_ => XS.istoreN XKb3.here hx rfl (hb hby d16_17) rfl (l' := #[.val (.int x), .val (.int y), .val (.int i), .val (.int (own_dl x.toInt64))]) rfl kt_) ?_
    refine own_goS (T' := TKb3) (g' := (mkF mI 19 #[.val (.int x), .val (.int y), .val (.int i), .val (.int (own_dl x.toInt64))] [(.int i)])) (fun t_ kt_ => XS.iloadN XKb3.here hx rfl (hb hby d16_18) rfl kt_) ?_
    refine own_goS (T' := TKb3) (g' := (mkF mI 20 #[.val (.int x), .val (.int y), .val (.int i), .val (.int (own_dl x.toInt64))] [(.int (own_dl x.toInt64)), (.int i)])) (fun t_ kt_ => XS.iloadN XKb3.here hx rfl (hb hby d16_19) rfl kt_) ?_
    by_cases hc20_Kb4 : i < (own_dl x.toInt64)
    · skip
      refine own_goS (T' := TKb3) (g' := (mkF mI 23 #[.val (.int x), .val (.int y), .val (.int i), .val (.int (own_dl x.toInt64))] [])) (fun t_ kt_ => XS.icmpNo XKb3.here hx rfl (hb hby d16_20) rfl (tlt hc20_Kb4).2.1 kt_) ?_
      refine own_goS (T' := TKb3) (g' := (mkF mI 24 #[.val (.int x), .val (.int y), .val (.int i), .val (.int (own_dl x.toInt64))] [(.int x)])) (fun t_ kt_ => XS.iloadN XKb3.here hx rfl (hb hby d16_23) rfl kt_) ?_
      refine own_goS (T' := TKb3) (g' := (mkF mI 25 #[.val (.int x), .val (.int y), .val (.int i), .val (.int (own_dl x.toInt64))] [(.long (x.toInt64))])) (fun t_ kt_ => XS.i2l XKb3.here hx rfl (hb hby d16_24) rfl kt_) ?_
      refine own_goS (T' := TKb3) (g' := (mkF mI 26 #[.val (.int x), .val (.int y), .val (.int i), .val (.int (own_dl x.toInt64))] [(.int i), (.long (x.toInt64))])) (fun t_ kt_ => XS.iloadN XKb3.here hx rfl (hb hby d16_25) rfl kt_) ?_
      refine own_callS own_closedS XKb3 hx hZ (y := (⟨"com/example/planfold/planfold/rules/FiguresYearSpanPinLaw", "decChar", "(JI)C"⟩ : MethodName)) hown (hw _ (List.mem_of_getElem? (i := 76) rfl)) (hw _ (List.mem_of_getElem? (i := 77) rfl)) (by decide) (rl_dchr l Z a0 hw [] h0 n0 Z0 x i c hi0 (own_ysA hc2_Kb1 hi0 hc20_Kb4 hc)) (hw _ (List.mem_of_getElem? (i := 78) rfl)) (hw _ (List.mem_of_getElem? (i := 2) rfl)) eKb3 (pc := 26) (Ls := #[.val (.int x), .val (.int y), .val (.int i), .val (.int (own_dl x.toInt64))]) (argsL := [(.long (x.toInt64)), (.int i)]) (rest := []) (by rw [hml]; rfl) (lenOf pd_28 rfl) (W := 0) (Nat.le_of_eq rfl) (by decide) (by decide) (by decide) (by decide) (hb hby d16_26) rfl rfl ?_
      intro TKb5 LKb5 vKb5 XKb5 hQKb5
      obtain ⟨rfl, NKb5, KKb5⟩ := hQKb5
      have CKb5 := own_ck C0 KKb5 all0
      replace hk := Nat.le_trans hk KKb5.1
      have NKb5a := Fr.app NKb3z NKb5
      have KxKb5 : Keep h0 TKb5.heap [] := (Keep.refl h0 []).trans KKb5 all0
      show own_EndsS _ _ pP eE bB sS _ _ TKb5 (mkF mI 29 #[.val (.int x), .val (.int y), .val (.int i), .val (.int (own_dl x.toInt64))] [(.int c)])
      refine own_leaveS XKb5 hlk (some (.int (nar .char c))) (fun h => by rw [hret] at h; cases h) hS rfl hk hZ hEL CKb5 (by decide) (by decide) ?_ (fun fs hr => retN XKb5 hx (t := .char) hret (by simp) (hb hby d16_29) hr)
      exact ⟨by rw [hcn], NKb5a, by exact KxKb5⟩
    · skip
      refine own_goS (T' := TKb3) (g' := (mkF mI 30 #[.val (.int x), .val (.int y), .val (.int i), .val (.int (own_dl x.toInt64))] [])) (fun t_ kt_ => XS.icmpYes XKb3.here hx rfl (pc0 := 20) (pc' := 30) rfl (hb hby d16_20) rfl (flt hc20_Kb4).2.1 (by decide) (by decide) kt_) ?_
      refine own_goS (T' := TKb3) (g' := (mkF mI 31 #[.val (.int x), .val (.int y), .val (.int i), .val (.int (own_dl x.toInt64))] [(.int i)])) (fun t_ kt_ => XS.iloadN XKb3.here hx rfl (hb hby d16_30) rfl kt_) ?_
      refine own_goS (T' := TKb3) (g' := (mkF mI 32 #[.val (.int x), .val (.int y), .val (.int i), .val (.int (own_dl x.toInt64))] [(.int (own_dl x.toInt64)), (.int i)])) (fun t_ kt_ => XS.iloadN XKb3.here hx rfl (hb hby d16_31) rfl kt_) ?_
      refine own_goS (T' := TKb3) (g' := (mkF mI 34 #[.val (.int x), .val (.int y), .val (.int i), .val (.int (own_dl x.toInt64))] [(.int (9 : Int32)), (.int (own_dl x.toInt64)), (.int i)])) (fun t_ kt_ => XS.bipush XKb3.here hx rfl (hb hby d16_32) kt_) ?_
      refine own_goS (T' := TKb3) (g' := (mkF mI 35 #[.val (.int x), .val (.int y), .val (.int i), .val (.int (own_dl x.toInt64))] [(.int ((own_dl x.toInt64) + (9 : Int32))), (.int i)])) (fun t_ kt_ => XS.iadd XKb3.here hx rfl (hb hby d16_34) rfl kt_) ?_
      by_cases hc35_Kb6 : i < ((own_dl x.toInt64) + (9 : Int32))
      · skip
        refine own_goS (T' := TKb3) (g' := (mkF mI 38 #[.val (.int x), .val (.int y), .val (.int i), .val (.int (own_dl x.toInt64))] [])) (fun t_ kt_ => XS.icmpNo XKb3.here hx rfl (hb hby d16_35) rfl (tlt hc35_Kb6).2.1 kt_) ?_
        obtain ⟨aKb7, TKb7, hKb7, vmKb7, kKb7, bKb7, kkKb7, XKb7, eKb7, ExKb7, hS, hk, hZ, hown, EKb7, FcKb7, FvKb7, VKb7, CKb7, CsKb7, sfKb7, stKb7⟩ := own_ldc XKb3 hx hZ hown (hw _ (List.mem_of_getElem? (i := 208) rfl)) hStr eKb3 hS hk hEL (List.mem_of_getElem? (i := 1) rfl) C0 (vs := [(.int (32 : Int32)), (.int (116 : Int32)), (.int (104 : Int32)), (.int (114 : Int32)), (.int (111 : Int32)), (.int (117 : Int32)), (.int (103 : Int32)), (.int (104 : Int32)), (.int (32 : Int32))]) (z := 9) ⟨by decide, by decide⟩ (by decide) rfl (g := (mkF mI 38 #[.val (.int x), .val (.int y), .val (.int i), .val (.int (own_dl x.toInt64))] [])) rfl (hb hby d16_38) (n := 36) (by decide) (by decide) (by decide) (by decide)
        have OKb7 := Old.ext O ExKb7
        have ZKb7 : n0 ≤ hKb7.size := Nat.le_trans Z0 ExKb7.1
        have KxKb7 : Keep h0 hKb7 [] := (Keep.refl h0 []).ext ExKb7
        refine own_goS (T' := TKb7) (g' := (mkF mI 40 #[.val (.int x), .val (.int y), .val (.int i), .val (.int (own_dl x.toInt64))] [(.ref aKb7)])) (fun t_ kt_ => stKb7 _ kt_) ?_
        refine own_goS (T' := TKb7) (g' := (mkF mI 41 #[.val (.int x), .val (.int y), .val (.int i), .val (.int (own_dl x.toInt64))] [(.int i), (.ref aKb7)])) (fun t_ kt_ => XS.iloadN XKb7.here hx rfl (hb hby d16_40) rfl kt_) ?_
        refine own_goS (T' := TKb7) (g' := (mkF mI 42 #[.val (.int x), .val (.int y), .val (.int i), .val (.int (own_dl x.toInt64))] [(.int (own_dl x.toInt64)), (.int i), (.ref aKb7)])) (fun t_ kt_ => XS.iloadN XKb7.here hx rfl (hb hby d16_41) rfl kt_) ?_
        refine own_goS (T' := TKb7) (g' := (mkF mI 43 #[.val (.int x), .val (.int y), .val (.int i), .val (.int (own_dl x.toInt64))] [(.int (i - (own_dl x.toInt64))), (.ref aKb7)])) (fun t_ kt_ => XS.isub XKb7.here hx rfl (hb hby d16_42) rfl kt_) ?_
        obtain ⟨h9aKb8, h9bKb8, h9cKb8⟩ := own_ysB hc2_Kb1 hi0 hc20_Kb4 hc35_Kb6 hc
        refine own_callV own_closedS XKb7 hx hZ (y := (⟨"java/lang/String", "charAt", "(I)C"⟩ : MethodName)) (z := (⟨"java/lang/String", "charAt", "(I)C"⟩ : MethodName)) hown (hw _ (List.mem_of_getElem? (i := 51) rfl)) (hw _ (List.mem_of_getElem? (i := 52) rfl)) (hw _ (List.mem_of_getElem? (i := 54) rfl)) (hw _ (List.mem_of_getElem? (i := 53) rfl)) (hw _ (List.mem_of_getElem? (i := 54) rfl)) rfl (by decide) (rj_cha l Z a0 hw [] hKb7 n0 OKb7 cs Scs hcs fo hfo Sfo aKb7 (i - (own_dl x.toInt64)) bKb7 kkKb7 9 [(.int (32 : Int32)), (.int (116 : Int32)), (.int (104 : Int32)), (.int (114 : Int32)), (.int (111 : Int32)), (.int (117 : Int32)), (.int (103 : Int32)), (.int (104 : Int32)), (.int (32 : Int32))] EKb7 FcKb7 FvKb7 c VKb7 h9aKb8 h9bKb8 h9cKb8 hcm) (hw _ (List.mem_of_getElem? (i := 55) rfl)) (hw _ (List.mem_of_getElem? (i := 21) rfl)) eKb7 EKb7 (pc := 43) (Ls := #[.val (.int x), .val (.int y), .val (.int i), .val (.int (own_dl x.toInt64))]) (argsL := [(.int (i - (own_dl x.toInt64)))]) (rest := []) (by rw [hml]; rfl) (lenOf pd_29 rfl) (W := 0) (Nat.le_of_eq rfl) (by decide) (by decide) (by decide) (by decide) (hb hby d16_43) rfl rfl ?_
        intro TKb9 LKb9 vKb9 XKb9 hQKb9
        obtain ⟨rfl, rfl, eKb9⟩ := hQKb9
        have NKb9z := Fr.app NKb3z (Fr.nil n0)
        show own_EndsS _ _ pP eE bB sS _ _ TKb9 (mkF mI 46 #[.val (.int x), .val (.int y), .val (.int i), .val (.int (own_dl x.toInt64))] [(.int c)])
        refine own_leaveS XKb9 hlk (some (.int (nar .char c))) (fun h => by rw [hret] at h; cases h) hS eKb9 hk hZ hEL CKb7 (by decide) (by decide) ?_ (fun fs hr => retN XKb9 hx (t := .char) hret (by simp) (hb hby d16_46) hr)
        exact ⟨by rw [hcn], NKb9z, by exact KxKb7⟩
      · skip
        refine own_goS (T' := TKb3) (g' := (mkF mI 47 #[.val (.int x), .val (.int y), .val (.int i), .val (.int (own_dl x.toInt64))] [])) (fun t_ kt_ => XS.icmpYes XKb3.here hx rfl (pc0 := 35) (pc' := 47) rfl (hb hby d16_35) rfl (flt hc35_Kb6).2.1 (by decide) (by decide) kt_) ?_
        refine own_goS (T' := TKb3) (g' := (mkF mI 48 #[.val (.int x), .val (.int y), .val (.int i), .val (.int (own_dl x.toInt64))] [(.int y)])) (fun t_ kt_ => XS.iloadN XKb3.here hx rfl (hb hby d16_47) rfl kt_) ?_
        refine own_goS (T' := TKb3) (g' := (mkF mI 49 #[.val (.int x), .val (.int y), .val (.int i), .val (.int (own_dl x.toInt64))] [(.long (y.toInt64))])) (fun t_ kt_ => XS.i2l XKb3.here hx rfl (hb hby d16_48) rfl kt_) ?_
        refine own_goS (T' := TKb3) (g' := (mkF mI 50 #[.val (.int x), .val (.int y), .val (.int i), .val (.int (own_dl x.toInt64))] [(.int i), (.long (y.toInt64))])) (fun t_ kt_ => XS.iloadN XKb3.here hx rfl (hb hby d16_49) rfl kt_) ?_
        refine own_goS (T' := TKb3) (g' := (mkF mI 51 #[.val (.int x), .val (.int y), .val (.int i), .val (.int (own_dl x.toInt64))] [(.int (own_dl x.toInt64)), (.int i), (.long (y.toInt64))])) (fun t_ kt_ => XS.iloadN XKb3.here hx rfl (hb hby d16_50) rfl kt_) ?_
        refine own_goS (T' := TKb3) (g' := (mkF mI 52 #[.val (.int x), .val (.int y), .val (.int i), .val (.int (own_dl x.toInt64))] [(.int (i - (own_dl x.toInt64))), (.long (y.toInt64))])) (fun t_ kt_ => XS.isub XKb3.here hx rfl (hb hby d16_51) rfl kt_) ?_
        refine own_goS (T' := TKb3) (g' := (mkF mI 54 #[.val (.int x), .val (.int y), .val (.int i), .val (.int (own_dl x.toInt64))] [(.int (9 : Int32)), (.int (i - (own_dl x.toInt64))), (.long (y.toInt64))])) (fun t_ kt_ => XS.bipush XKb3.here hx rfl (hb hby d16_52) kt_) ?_
        refine own_goS (T' := TKb3) (g' := (mkF mI 55 #[.val (.int x), .val (.int y), .val (.int i), .val (.int (own_dl x.toInt64))] [(.int ((i - (own_dl x.toInt64)) - (9 : Int32))), (.long (y.toInt64))])) (fun t_ kt_ => XS.isub XKb3.here hx rfl (hb hby d16_54) rfl kt_) ?_
        refine own_callS own_closedS XKb3 hx hZ (y := (⟨"com/example/planfold/planfold/rules/FiguresYearSpanPinLaw", "decChar", "(JI)C"⟩ : MethodName)) hown (hw _ (List.mem_of_getElem? (i := 76) rfl)) (hw _ (List.mem_of_getElem? (i := 77) rfl)) (by decide) (rl_dchr l Z a0 hw [] h0 n0 Z0 y ((i - (own_dl x.toInt64)) - (9 : Int32)) c (own_ysC hc2_Kb1 hi0 hc20_Kb4 hc35_Kb6 hc).1 (own_ysC hc2_Kb1 hi0 hc20_Kb4 hc35_Kb6 hc).2) (hw _ (List.mem_of_getElem? (i := 78) rfl)) (hw _ (List.mem_of_getElem? (i := 2) rfl)) eKb3 (pc := 55) (Ls := #[.val (.int x), .val (.int y), .val (.int i), .val (.int (own_dl x.toInt64))]) (argsL := [(.long (y.toInt64)), (.int ((i - (own_dl x.toInt64)) - (9 : Int32)))]) (rest := []) (by rw [hml]; rfl) (lenOf pd_28 rfl) (W := 0) (Nat.le_of_eq rfl) (by decide) (by decide) (by decide) (by decide) (hb hby d16_55) rfl rfl ?_
        intro TKb10 LKb10 vKb10 XKb10 hQKb10
        obtain ⟨rfl, NKb10, KKb10⟩ := hQKb10
        have CKb10 := own_ck C0 KKb10 all0
        replace hk := Nat.le_trans hk KKb10.1
        have NKb10a := Fr.app NKb3z NKb10
        have KxKb10 : Keep h0 TKb10.heap [] := (Keep.refl h0 []).trans KKb10 all0
        show own_EndsS _ _ pP eE bB sS _ _ TKb10 (mkF mI 58 #[.val (.int x), .val (.int y), .val (.int i), .val (.int (own_dl x.toInt64))] [(.int c)])
        refine own_leaveS XKb10 hlk (some (.int (nar .char c))) (fun h => by rw [hret] at h; cases h) hS rfl hk hZ hEL CKb10 (by decide) (by decide) ?_ (fun fs hr => retN XKb10 hx (t := .char) hret (by simp) (hb hby d16_58) hr)
        exact ⟨by rw [hcn], NKb10a, by exact KxKb10⟩
def own_Q1 (n0 : Nat) (v : Option Value) (h : Heap) (L : List Loc) : Prop := v = some (.int 1) ∧ Fr n0 L
theorem rm0_pn : plainFor x = true := plainFor_of_name (show plainName "com/example/planfold/planfold/rules/FiguresYearSpanPinLaw" = true by first | (simp [plainName, overriddenIn]; done) | decide +kernel)
theorem rm0_ef (mI : MethodId) (xa : Int32) (yb : Int32) (i : Int32) (j : Int32) : entryFrame mI #[(.int xa), (.int yb), (.int i), (.int j)] maxLocals = mkF mI 0 #[.val (.int xa), .val (.int yb), .val (.int i), .val (.int j), .unset, .unset, .unset, .unset, .unset] [] := by first | (simp [entryFrame, mkF, argsToLocals, Value.category, maxLocals]; done) | rfl
set_option maxRecDepth 65536 in
set_option maxHeartbeats 40000000 in
theorem rm0 (l : Launch) (Z : State) (a0 : Array Value) (hw : ∀ d ∈ tables_1, d.before a0 Z = true) (ws : List Jvm.Cond) (h0 : Heap) (n0 : Nat) (O : Old Z n0 h0) (cs : Int32) (Scs : Sta Z Z.heap "java/lang/String" "COMPACT_STRINGS" "Z" (.int cs)) (hcs : ¬ cs = 0) (fo : Value) (hfo : fo.isRef = true) (Sfo : Sta Z Z.heap "jdk/internal/util/Preconditions" "SIOOBE_FORMATTER" "Ljava/util/function/BiFunction;" fo) (hEL : EW Z a0 [("com/example/planfold/planfold/rules/Figures", 115), ("com/example/planfold/planfold/rules/FiguresYearSpanPinLaw", 42)]) (hStr : ∀ a ∈ Bundle.stringAtoms, a.before a0 Z = true) (Z0 : n0 ≤ h0.size) (xa yb i j : Int32) (sT d1 d2 : Addr) (D1 D2 : Cell) (TB : own_Tb Z sT d1 d2 D1 D2) :
    own_MetS l Z [("com/example/planfold/planfold/rules/Figures", 115), ("com/example/planfold/planfold/rules/FiguresYearSpanPinLaw", 42)] x code maxLocals ret ws room_1 #[(.int xa), (.int yb), (.int i), (.int j)] h0 (own_Q1 n0) := by
  refine own_metS rm0_pn ?_
  intro pP eE sS mI bB mT cC s₁ hx hby hml hown hnm hret hlk hZ X0 e0 hS hk C0 hh0
  replace hown : (sS.setVm sS.vm).vm.findClass "com/example/planfold/planfold/rules/FiguresYearSpanPinLaw" = some mI.cls := hown
  replace hml : cC.maxLocals = 9 := hml
  replace hret : mT.sig.returnType = (some .boolean) := hret
  refine own_castS (rm0_ef mI xa yb i j) ?_
  refine own_goS (T' := s₁) (g' := (mkF mI 1 #[.val (.int xa), .val (.int yb), .val (.int i), .val (.int j), .unset, .unset, .unset, .unset, .unset] [(.int xa)])) (fun t_ kt_ => XS.iloadN X0.here hx rfl (hb hby at_0) rfl kt_) ?_
  refine own_goS (T' := s₁) (g' := (mkF mI 3 #[.val (.int xa), .val (.int yb), .val (.int i), .val (.int j), .val (.int xa), .unset, .unset, .unset, .unset] [])) (fun t_ kt_ => XS.istore X0.here hx rfl (hb hby at_1) rfl (l' := #[.val (.int xa), .val (.int yb), .val (.int i), .val (.int j), .val (.int xa), .unset, .unset, .unset, .unset]) rfl kt_) ?_
  refine own_goS (T' := s₁) (g' := (mkF mI 4 #[.val (.int xa), .val (.int yb), .val (.int i), .val (.int j), .val (.int xa), .unset, .unset, .unset, .unset] [(.int j)])) (fun t_ kt_ => XS.iloadN X0.here hx rfl (hb hby at_3) rfl kt_) ?_
  refine own_goS (T' := s₁) (g' := (mkF mI 5 #[.val (.int xa), .val (.int yb), .val (.int i), .val (.int j), .val (.int xa), .unset, .unset, .unset, .unset] [(.int (1 : Int32)), (.int j)])) (fun t_ kt_ => XS.iconst X0.here hx rfl (hb hby at_4) kt_) ?_
  refine own_goS (T' := s₁) (g' := (mkF mI 6 #[.val (.int xa), .val (.int yb), .val (.int i), .val (.int j), .val (.int xa), .unset, .unset, .unset, .unset] [(.int (j &&& (1 : Int32)))])) (fun t_ kt_ => XS.iand X0.here hx rfl (hb hby at_5) rfl kt_) ?_
  by_cases hc6_Kc1 : (j &&& (1 : Int32)) = (0 : Int32)
  · skip
    refine own_goS (T' := s₁) (g' := (mkF mI 13 #[.val (.int xa), .val (.int yb), .val (.int i), .val (.int j), .val (.int xa), .unset, .unset, .unset, .unset] [])) (fun t_ kt_ => XS.ifYes X0.here hx rfl (pc0 := 6) (pc' := 13) rfl (hb hby at_6) rfl ((if0 _ _).trans (teq hc6_Kc1).1) (by decide) (by decide) kt_) ?_
    refine own_goS (T' := s₁) (g' := (mkF mI 14 #[.val (.int xa), .val (.int yb), .val (.int i), .val (.int j), .val (.int xa), .unset, .unset, .unset, .unset] [(.int yb)])) (fun t_ kt_ => XS.iloadN X0.here hx rfl (hb hby at_13) rfl kt_) ?_
    refine own_goS (T' := s₁) (g' := (mkF mI 16 #[.val (.int xa), .val (.int yb), .val (.int i), .val (.int j), .val (.int xa), .val (.int yb), .unset, .unset, .unset] [])) (fun t_ kt_ => XS.istore X0.here hx rfl (hb hby at_14) rfl (l' := #[.val (.int xa), .val (.int yb), .val (.int i), .val (.int j), .val (.int xa), .val (.int yb), .unset, .unset, .unset]) rfl kt_) ?_
    refine own_goS (T' := s₁) (g' := (mkF mI 18 #[.val (.int xa), .val (.int yb), .val (.int i), .val (.int j), .val (.int xa), .val (.int yb), .unset, .unset, .unset] [(.int xa)])) (fun t_ kt_ => XS.iload X0.here hx rfl (hb hby at_16) rfl kt_) ?_
    refine own_goS (T' := s₁) (g' := (mkF mI 20 #[.val (.int xa), .val (.int yb), .val (.int i), .val (.int j), .val (.int xa), .val (.int yb), .unset, .unset, .unset] [(.int yb), (.int xa)])) (fun t_ kt_ => XS.iload X0.here hx rfl (hb hby at_18) rfl kt_) ?_
    by_cases hc20_Kc2 : xa = yb
    · skip
      refine own_goS (T' := s₁) (g' := (mkF mI 23 #[.val (.int xa), .val (.int yb), .val (.int i), .val (.int j), .val (.int xa), .val (.int yb), .unset, .unset, .unset] [])) (fun t_ kt_ => XS.icmpNo X0.here hx rfl (hb hby at_20) rfl (teq hc20_Kc2).2 kt_) ?_
      refine own_goS (T' := s₁) (g' := (mkF mI 25 #[.val (.int xa), .val (.int yb), .val (.int i), .val (.int j), .val (.int xa), .val (.int yb), .unset, .unset, .unset] [(.int xa)])) (fun t_ kt_ => XS.iload X0.here hx rfl (hb hby at_23) rfl kt_) ?_
      refine own_goS (T' := s₁) (g' := (mkF mI 26 #[.val (.int xa), .val (.int yb), .val (.int i), .val (.int j), .val (.int xa), .val (.int yb), .unset, .unset, .unset] [(.long (xa.toInt64))])) (fun t_ kt_ => XS.i2l X0.here hx rfl (hb hby at_25) rfl kt_) ?_
      refine own_callS own_closedS X0 hx hZ (y := (⟨"com/example/planfold/planfold/rules/FiguresYearSpanPinLaw", "decLen", "(J)I"⟩ : MethodName)) hown (hw _ (List.mem_of_getElem? (i := 0) rfl)) (hw _ (List.mem_of_getElem? (i := 1) rfl)) (by decide) (rl_dl l Z a0 hw [] h0 xa.toInt64) (hw _ (List.mem_of_getElem? (i := 3) rfl)) (hw _ (List.mem_of_getElem? (i := 2) rfl)) e0 (pc := 26) (Ls := #[.val (.int xa), .val (.int yb), .val (.int i), .val (.int j), .val (.int xa), .val (.int yb), .unset, .unset, .unset]) (argsL := [(.long (xa.toInt64))]) (rest := []) (by rw [hml]; rfl) (lenOf pd_19 rfl) (W := 0) (Nat.le_of_eq rfl) (by decide) (by decide) (by decide) (by decide) (hb hby at_26) rfl rfl ?_
      intro TKc3 LKc3 vKc3 XKc3 hQKc3
      obtain ⟨rfl, rfl, eKc3⟩ := hQKc3
      have NKc3z := Fr.app (Fr.nil n0) (Fr.nil n0)
      show own_EndsS _ _ pP eE bB sS _ _ TKc3 (mkF mI 29 #[.val (.int xa), .val (.int yb), .val (.int i), .val (.int j), .val (.int xa), .val (.int yb), .unset, .unset, .unset] [(.int (own_dl xa.toInt64))])
      refine own_goS (T' := TKc3) (g' := (mkF mI 48 #[.val (.int xa), .val (.int yb), .val (.int i), .val (.int j), .val (.int xa), .val (.int yb), .unset, .unset, .unset] [(.int (own_dl xa.toInt64))])) (fun t_ kt_ => XS.goto XKc3.here hx rfl (pc0 := 29) (pc' := 48) rfl (hb hby at_29) (by decide) (by decide) kt_) ?_
      obtain ⟨ln, hln⟩ : ∃ z, z = (own_dl xa.toInt64) := ⟨_, rfl⟩
      rw [← hln]
      have hl : ln.toInt = (own_ys xa yb).length := by rw [hln]; exact own_lnA hc20_Kc2
      have hl0 : ¬ ln = 0 := own_ln0 hl
      refine own_goS (T' := TKc3) (g' := (mkF mI 50 #[.val (.int xa), .val (.int yb), .val (.int i), .val (.int j), .val (.int xa), .val (.int yb), .val (.int ln), .unset, .unset] [])) (fun t_ kt_ => XS.istore XKc3.here hx rfl (hb hby at_48) rfl (l' := #[.val (.int xa), .val (.int yb), .val (.int i), .val (.int j), .val (.int xa), .val (.int yb), .val (.int ln), .unset, .unset]) rfl kt_) ?_
      refine own_goS (T' := TKc3) (g' := (mkF mI 51 #[.val (.int xa), .val (.int yb), .val (.int i), .val (.int j), .val (.int xa), .val (.int yb), .val (.int ln), .unset, .unset] [(.int i)])) (fun t_ kt_ => XS.iloadN XKc3.here hx rfl (hb hby at_50) rfl kt_) ?_
      refine own_goS (T' := TKc3) (g' := (mkF mI 53 #[.val (.int xa), .val (.int yb), .val (.int i), .val (.int j), .val (.int xa), .val (.int yb), .val (.int ln), .unset, .unset] [(.int (2147483647 : Int32)), (.int i)])) (fun t_ kt_ => ldcI XKc3 hx hown (mvT hZ (hw _ (List.mem_of_getElem? (i := 8) rfl))) rfl (hb hby at_51) kt_) ?_
      refine own_goS (T' := TKc3) (g' := (mkF mI 54 #[.val (.int xa), .val (.int yb), .val (.int i), .val (.int j), .val (.int xa), .val (.int yb), .val (.int ln), .unset, .unset] [(.int (i &&& (2147483647 : Int32)))])) (fun t_ kt_ => XS.iand XKc3.here hx rfl (hb hby at_53) rfl kt_) ?_
      refine own_goS (T' := TKc3) (g' := (mkF mI 56 #[.val (.int xa), .val (.int yb), .val (.int i), .val (.int j), .val (.int xa), .val (.int yb), .val (.int ln), .unset, .unset] [(.int ln), (.int (i &&& (2147483647 : Int32)))])) (fun t_ kt_ => XS.iload XKc3.here hx rfl (hb hby at_54) rfl kt_) ?_
      refine own_goS (T' := TKc3) (g' := (mkF mI 57 #[.val (.int xa), .val (.int yb), .val (.int i), .val (.int j), .val (.int xa), .val (.int yb), .val (.int ln), .unset, .unset] [(.int ((i &&& (2147483647 : Int32)) % ln))])) (fun t_ kt_ => iremM XKc3 hx rfl (hb hby at_56) rfl hl0 kt_) ?_
      obtain ⟨ix, hix⟩ : ∃ z, z = ((i &&& (2147483647 : Int32)) % ln) := ⟨_, rfl⟩
      rw [← hix]
      have bx : 0 ≤ ix.toInt ∧ ix.toInt < ln.toInt := by rw [hix]; exact own_rem _ ln (by rw [Jvm.Kit.i32_mask i 2147483647 (k := 31) (by decide) (by decide)]; omega) (by rw [hl]; exact_mod_cast (own_ysLen xa yb).1)
      have hx0 : ¬ ix < 0 := own_nn bx.1
      have hxl : ix < ln := own_lt bx.2
      obtain ⟨c, hc, hcn, hcm⟩ := own_ysEx hl bx.1 bx.2
      refine own_goS (T' := TKc3) (g' := (mkF mI 59 #[.val (.int xa), .val (.int yb), .val (.int i), .val (.int j), .val (.int xa), .val (.int yb), .val (.int ln), .val (.int ix), .unset] [])) (fun t_ kt_ => XS.istore XKc3.here hx rfl (hb hby at_57) rfl (l' := #[.val (.int xa), .val (.int yb), .val (.int i), .val (.int j), .val (.int xa), .val (.int yb), .val (.int ln), .val (.int ix), .unset]) rfl kt_) ?_
      refine own_goS (T' := TKc3) (g' := (mkF mI 61 #[.val (.int xa), .val (.int yb), .val (.int i), .val (.int j), .val (.int xa), .val (.int yb), .val (.int ln), .val (.int ix), .unset] [(.int xa)])) (fun t_ kt_ => XS.iload XKc3.here hx rfl (hb hby at_59) rfl kt_) ?_
      refine own_goS (T' := TKc3) (g' := (mkF mI 63 #[.val (.int xa), .val (.int yb), .val (.int i), .val (.int j), .val (.int xa), .val (.int yb), .val (.int ln), .val (.int ix), .unset] [(.int yb), (.int xa)])) (fun t_ kt_ => XS.iload XKc3.here hx rfl (hb hby at_61) rfl kt_) ?_
      refine own_callSS XKc3 hx hZ (y := (⟨"com/example/planfold/planfold/rules/Figures", "yearSpan", "(II)Ljava/lang/String;"⟩ : MethodName)) hown (hw _ (List.mem_of_getElem? (i := 9) rfl)) (hw _ (List.mem_of_getElem? (i := 10) rfl)) (by decide) (rl_ys l Z a0 hw [] h0 n0 O cs Scs hcs hEL hStr Z0 xa yb sT d1 d2 D1 D2 TB) (hw _ (List.mem_of_getElem? (i := 12) rfl)) (hw _ (List.mem_of_getElem? (i := 11) rfl)) eKc3 hS hk hEL C0 (pc := 63) (Ls := #[.val (.int xa), .val (.int yb), .val (.int i), .val (.int j), .val (.int xa), .val (.int yb), .val (.int ln), .val (.int ix), .unset]) (argsL := [(.int xa), (.int yb)]) (rest := []) (by rw [hml]; rfl) (lenOf pd_30 rfl) (W := 0) (Nat.le_of_eq rfl) (by decide) (by decide) (by decide) (by decide) (hb hby at_63) rfl rfl ?_
      intro TKc4 LKc4 vKc4 vmKc4 k1Kc4 XKc4 hQKc4 hS hk hZ hown CKc4
      obtain ⟨aKc4, dKc4, kKc4, nKc4, rfl, NKc4, KKc4, SKc4, hnKc4⟩ := hQKc4
      have OKc4 : Old Z n0 TKc4.heap := O.keep KKc4 all0
      have ZKc4 : n0 ≤ TKc4.heap.size := Nat.le_trans Z0 KKc4.1
      have NKc4a := Fr.app NKc3z NKc4
      have heKc4 : nKc4 = ln := Int32.toInt_inj.mp (hnKc4.trans hl.symm)
      show own_EndsS _ _ pP eE bB sS _ _ TKc4 (mkF mI 66 #[.val (.int xa), .val (.int yb), .val (.int i), .val (.int j), .val (.int xa), .val (.int yb), .val (.int ln), .val (.int ix), .unset] [(.ref aKc4)])
      refine own_goS (T' := TKc4) (g' := (mkF mI 68 #[.val (.int xa), .val (.int yb), .val (.int i), .val (.int j), .val (.int xa), .val (.int yb), .val (.int ln), .val (.int ix), .val (.ref aKc4)] [])) (fun t_ kt_ => XS.astore XKc4.here hx rfl (hb hby at_66) rfl rfl (l' := #[.val (.int xa), .val (.int yb), .val (.int i), .val (.int j), .val (.int xa), .val (.int yb), .val (.int ln), .val (.int ix), .val (.ref aKc4)]) rfl kt_) ?_
      refine own_goS (T' := TKc4) (g' := (mkF mI 70 #[.val (.int xa), .val (.int yb), .val (.int i), .val (.int j), .val (.int xa), .val (.int yb), .val (.int ln), .val (.int ix), .val (.ref aKc4)] [(.ref aKc4)])) (fun t_ kt_ => XS.aload XKc4.here hx rfl (hb hby at_68) rfl rfl kt_) ?_
      refine own_callV own_closedS XKc4 hx hZ (y := (⟨"java/lang/String", "length", "()I"⟩ : MethodName)) (z := (⟨"java/lang/String", "length", "()I"⟩ : MethodName)) hown (hw _ (List.mem_of_getElem? (i := 40) rfl)) (hw _ (List.mem_of_getElem? (i := 41) rfl)) (hw _ (List.mem_of_getElem? (i := 43) rfl)) (hw _ (List.mem_of_getElem? (i := 42) rfl)) (hw _ (List.mem_of_getElem? (i := 43) rfl)) rfl (by decide) (rj_len l Z a0 hw [] TKc4.heap n0 OKc4 cs Scs hcs aKc4 dKc4 _ nKc4 _ SKc4.1 SKc4.2.1 SKc4.2.2.1 SKc4.2.2.2) (hw _ (List.mem_of_getElem? (i := 44) rfl)) (hw _ (List.mem_of_getElem? (i := 21) rfl)) rfl SKc4.1 (pc := 70) (Ls := #[.val (.int xa), .val (.int yb), .val (.int i), .val (.int j), .val (.int xa), .val (.int yb), .val (.int ln), .val (.int ix), .val (.ref aKc4)]) (argsL := []) (rest := []) (by rw [hml]; rfl) (lenOf pd_11 rfl) (W := 0) (Nat.le_of_eq rfl) (by decide) (by decide) (by decide) (by decide) (hb hby at_70) rfl rfl ?_
      intro TKc5 LKc5 vKc5 XKc5 hQKc5
      obtain ⟨rfl, rfl, eKc5⟩ := hQKc5
      show own_EndsS _ _ pP eE bB sS _ _ TKc5 (mkF mI 73 #[.val (.int xa), .val (.int yb), .val (.int i), .val (.int j), .val (.int xa), .val (.int yb), .val (.int ln), .val (.int ix), .val (.ref aKc4)] [(.int nKc4)])
      have NKc6z := Fr.app NKc4a (Fr.nil n0)
      refine own_goS (T' := TKc5) (g' := (mkF mI 75 #[.val (.int xa), .val (.int yb), .val (.int i), .val (.int j), .val (.int xa), .val (.int yb), .val (.int ln), .val (.int ix), .val (.ref aKc4)] [(.int ln), (.int nKc4)])) (fun t_ kt_ => XS.iload XKc5.here hx rfl (hb hby at_73) rfl kt_) ?_
      refine own_goS (T' := TKc5) (g' := (mkF mI 78 #[.val (.int xa), .val (.int yb), .val (.int i), .val (.int j), .val (.int xa), .val (.int yb), .val (.int ln), .val (.int ix), .val (.ref aKc4)] [])) (fun t_ kt_ => XS.icmpNo XKc5.here hx rfl (hb hby at_75) rfl (teq (heKc4 : nKc4 = ln)).2 kt_) ?_
      refine own_goS (T' := TKc5) (g' := (mkF mI 80 #[.val (.int xa), .val (.int yb), .val (.int i), .val (.int j), .val (.int xa), .val (.int yb), .val (.int ln), .val (.int ix), .val (.ref aKc4)] [(.ref aKc4)])) (fun t_ kt_ => XS.aload XKc5.here hx rfl (hb hby at_78) rfl rfl kt_) ?_
      refine own_goS (T' := TKc5) (g' := (mkF mI 82 #[.val (.int xa), .val (.int yb), .val (.int i), .val (.int j), .val (.int xa), .val (.int yb), .val (.int ln), .val (.int ix), .val (.ref aKc4)] [(.int ix), (.ref aKc4)])) (fun t_ kt_ => XS.iload XKc5.here hx rfl (hb hby at_80) rfl kt_) ?_
      refine own_callV own_closedS XKc5 hx hZ (y := (⟨"java/lang/String", "charAt", "(I)C"⟩ : MethodName)) (z := (⟨"java/lang/String", "charAt", "(I)C"⟩ : MethodName)) hown (hw _ (List.mem_of_getElem? (i := 51) rfl)) (hw _ (List.mem_of_getElem? (i := 52) rfl)) (hw _ (List.mem_of_getElem? (i := 54) rfl)) (hw _ (List.mem_of_getElem? (i := 53) rfl)) (hw _ (List.mem_of_getElem? (i := 54) rfl)) rfl (by decide) (rj_cha l Z a0 hw [] TKc4.heap n0 OKc4 cs Scs hcs fo hfo Sfo aKc4 ix dKc4 kKc4 nKc4 (own_ys xa yb) SKc4.1 SKc4.2.1 SKc4.2.2.1 c SKc4.2.2.2 hx0 (by rw [heKc4]; exact hxl) (by rw [List.getD_eq_getElem?_getD, hc]; rfl) hcm) (hw _ (List.mem_of_getElem? (i := 55) rfl)) (hw _ (List.mem_of_getElem? (i := 21) rfl)) eKc5 SKc4.1 (pc := 82) (Ls := #[.val (.int xa), .val (.int yb), .val (.int i), .val (.int j), .val (.int xa), .val (.int yb), .val (.int ln), .val (.int ix), .val (.ref aKc4)]) (argsL := [(.int ix)]) (rest := []) (by rw [hml]; rfl) (lenOf pd_29 rfl) (W := 0) (Nat.le_of_eq rfl) (by decide) (by decide) (by decide) (by decide) (hb hby at_82) rfl rfl ?_
      intro TKc7 LKc7 vKc7 XKc7 hQKc7
      obtain ⟨rfl, rfl, eKc7⟩ := hQKc7
      have NKc7z := Fr.app NKc6z (Fr.nil n0)
      show own_EndsS _ _ pP eE bB sS _ _ TKc7 (mkF mI 85 #[.val (.int xa), .val (.int yb), .val (.int i), .val (.int j), .val (.int xa), .val (.int yb), .val (.int ln), .val (.int ix), .val (.ref aKc4)] [(.int c)])
      refine own_goS (T' := TKc7) (g' := (mkF mI 87 #[.val (.int xa), .val (.int yb), .val (.int i), .val (.int j), .val (.int xa), .val (.int yb), .val (.int ln), .val (.int ix), .val (.ref aKc4)] [(.int xa), (.int c)])) (fun t_ kt_ => XS.iload XKc7.here hx rfl (hb hby at_85) rfl kt_) ?_
      refine own_goS (T' := TKc7) (g' := (mkF mI 89 #[.val (.int xa), .val (.int yb), .val (.int i), .val (.int j), .val (.int xa), .val (.int yb), .val (.int ln), .val (.int ix), .val (.ref aKc4)] [(.int yb), (.int xa), (.int c)])) (fun t_ kt_ => XS.iload XKc7.here hx rfl (hb hby at_87) rfl kt_) ?_
      refine own_goS (T' := TKc7) (g' := (mkF mI 91 #[.val (.int xa), .val (.int yb), .val (.int i), .val (.int j), .val (.int xa), .val (.int yb), .val (.int ln), .val (.int ix), .val (.ref aKc4)] [(.int ix), (.int yb), (.int xa), (.int c)])) (fun t_ kt_ => XS.iload XKc7.here hx rfl (hb hby at_89) rfl kt_) ?_
      refine own_callSS XKc7 hx hZ (y := (⟨"com/example/planfold/planfold/rules/FiguresYearSpanPinLaw", "expectedChar", "(III)C"⟩ : MethodName)) hown (hw _ (List.mem_of_getElem? (i := 73) rfl)) (hw _ (List.mem_of_getElem? (i := 74) rfl)) (by decide) (rl_ec l Z a0 hw [] TKc4.heap n0 OKc4 cs Scs hcs fo hfo Sfo hEL hStr ZKc4 xa yb ix c hx0 hc hcn hcm) (hw _ (List.mem_of_getElem? (i := 75) rfl)) (hw _ (List.mem_of_getElem? (i := 2) rfl)) eKc7 hS hk hEL CKc4 (pc := 91) (Ls := #[.val (.int xa), .val (.int yb), .val (.int i), .val (.int j), .val (.int xa), .val (.int yb), .val (.int ln), .val (.int ix), .val (.ref aKc4)]) (argsL := [(.int xa), (.int yb), (.int ix)]) (rest := [(.int c)]) (by rw [hml]; rfl) (lenOf pd_31 rfl) (W := 1) (Nat.le_of_eq rfl) (by decide) (by decide) (by decide) (by decide) (hb hby at_91) rfl rfl ?_
      intro TKc8 LKc8 vKc8 vmKc8 k1Kc8 XKc8 hQKc8 hS hk hZ hown CKc8
      obtain ⟨rfl, NKc8, KKc8⟩ := hQKc8
      have OKc8 : Old Z n0 TKc8.heap := OKc4.keep KKc8 all0
      have ZKc8 : n0 ≤ TKc8.heap.size := Nat.le_trans ZKc4 KKc8.1
      have NKc8a := Fr.app NKc7z NKc8
      show own_EndsS _ _ pP eE bB sS _ _ TKc8 (mkF mI 94 #[.val (.int xa), .val (.int yb), .val (.int i), .val (.int j), .val (.int xa), .val (.int yb), .val (.int ln), .val (.int ix), .val (.ref aKc4)] [(.int c), (.int c)])
      refine own_goS (T' := TKc8) (g' := (mkF mI 97 #[.val (.int xa), .val (.int yb), .val (.int i), .val (.int j), .val (.int xa), .val (.int yb), .val (.int ln), .val (.int ix), .val (.ref aKc4)] [])) (fun t_ kt_ => XS.icmpNo XKc8.here hx rfl (hb hby at_94) rfl (teq (rfl : c = c)).2 kt_) ?_
      refine own_goS (T' := TKc8) (g' := (mkF mI 98 #[.val (.int xa), .val (.int yb), .val (.int i), .val (.int j), .val (.int xa), .val (.int yb), .val (.int ln), .val (.int ix), .val (.ref aKc4)] [(.int (1 : Int32))])) (fun t_ kt_ => XS.iconst XKc8.here hx rfl (hb hby at_97) kt_) ?_
      refine own_goS (T' := TKc8) (g' := (mkF mI 102 #[.val (.int xa), .val (.int yb), .val (.int i), .val (.int j), .val (.int xa), .val (.int yb), .val (.int ln), .val (.int ix), .val (.ref aKc4)] [(.int (1 : Int32))])) (fun t_ kt_ => XS.goto XKc8.here hx rfl (pc0 := 98) (pc' := 102) rfl (hb hby at_98) (by decide) (by decide) kt_) ?_
      refine own_leaveS XKc8 hlk (some (.int (nar .boolean (1 : Int32)))) (fun h => by rw [hret] at h; cases h) hS rfl hk hZ hEL CKc8 (by decide) (by decide) ?_ (fun fs hr => retN XKc8 hx (t := .boolean) hret (by simp) (hb hby at_102) hr)
      exact ⟨rfl, NKc8a⟩
    · skip
      refine own_goS (T' := s₁) (g' := (mkF mI 32 #[.val (.int xa), .val (.int yb), .val (.int i), .val (.int j), .val (.int xa), .val (.int yb), .unset, .unset, .unset] [])) (fun t_ kt_ => XS.icmpYes X0.here hx rfl (pc0 := 20) (pc' := 32) rfl (hb hby at_20) rfl (feq hc20_Kc2).2 (by decide) (by decide) kt_) ?_
      refine own_goS (T' := s₁) (g' := (mkF mI 34 #[.val (.int xa), .val (.int yb), .val (.int i), .val (.int j), .val (.int xa), .val (.int yb), .unset, .unset, .unset] [(.int xa)])) (fun t_ kt_ => XS.iload X0.here hx rfl (hb hby at_32) rfl kt_) ?_
      refine own_goS (T' := s₁) (g' := (mkF mI 35 #[.val (.int xa), .val (.int yb), .val (.int i), .val (.int j), .val (.int xa), .val (.int yb), .unset, .unset, .unset] [(.long (xa.toInt64))])) (fun t_ kt_ => XS.i2l X0.here hx rfl (hb hby at_34) rfl kt_) ?_
      refine own_callS own_closedS X0 hx hZ (y := (⟨"com/example/planfold/planfold/rules/FiguresYearSpanPinLaw", "decLen", "(J)I"⟩ : MethodName)) hown (hw _ (List.mem_of_getElem? (i := 0) rfl)) (hw _ (List.mem_of_getElem? (i := 1) rfl)) (by decide) (rl_dl l Z a0 hw [] h0 xa.toInt64) (hw _ (List.mem_of_getElem? (i := 3) rfl)) (hw _ (List.mem_of_getElem? (i := 2) rfl)) e0 (pc := 35) (Ls := #[.val (.int xa), .val (.int yb), .val (.int i), .val (.int j), .val (.int xa), .val (.int yb), .unset, .unset, .unset]) (argsL := [(.long (xa.toInt64))]) (rest := []) (by rw [hml]; rfl) (lenOf pd_19 rfl) (W := 0) (Nat.le_of_eq rfl) (by decide) (by decide) (by decide) (by decide) (hb hby at_35) rfl rfl ?_
      intro TKc9 LKc9 vKc9 XKc9 hQKc9
      obtain ⟨rfl, rfl, eKc9⟩ := hQKc9
      have NKc9z := Fr.app (Fr.nil n0) (Fr.nil n0)
      show own_EndsS _ _ pP eE bB sS _ _ TKc9 (mkF mI 38 #[.val (.int xa), .val (.int yb), .val (.int i), .val (.int j), .val (.int xa), .val (.int yb), .unset, .unset, .unset] [(.int (own_dl xa.toInt64))])
      refine own_goS (T' := TKc9) (g' := (mkF mI 40 #[.val (.int xa), .val (.int yb), .val (.int i), .val (.int j), .val (.int xa), .val (.int yb), .unset, .unset, .unset] [(.int (9 : Int32)), (.int (own_dl xa.toInt64))])) (fun t_ kt_ => XS.bipush XKc9.here hx rfl (hb hby at_38) kt_) ?_
      refine own_goS (T' := TKc9) (g' := (mkF mI 41 #[.val (.int xa), .val (.int yb), .val (.int i), .val (.int j), .val (.int xa), .val (.int yb), .unset, .unset, .unset] [(.int ((own_dl xa.toInt64) + (9 : Int32)))])) (fun t_ kt_ => XS.iadd XKc9.here hx rfl (hb hby at_40) rfl kt_) ?_
      refine own_goS (T' := TKc9) (g' := (mkF mI 43 #[.val (.int xa), .val (.int yb), .val (.int i), .val (.int j), .val (.int xa), .val (.int yb), .unset, .unset, .unset] [(.int yb), (.int ((own_dl xa.toInt64) + (9 : Int32)))])) (fun t_ kt_ => XS.iload XKc9.here hx rfl (hb hby at_41) rfl kt_) ?_
      refine own_goS (T' := TKc9) (g' := (mkF mI 44 #[.val (.int xa), .val (.int yb), .val (.int i), .val (.int j), .val (.int xa), .val (.int yb), .unset, .unset, .unset] [(.long (yb.toInt64)), (.int ((own_dl xa.toInt64) + (9 : Int32)))])) (fun t_ kt_ => XS.i2l XKc9.here hx rfl (hb hby at_43) rfl kt_) ?_
      refine own_callS own_closedS XKc9 hx hZ (y := (⟨"com/example/planfold/planfold/rules/FiguresYearSpanPinLaw", "decLen", "(J)I"⟩ : MethodName)) hown (hw _ (List.mem_of_getElem? (i := 0) rfl)) (hw _ (List.mem_of_getElem? (i := 1) rfl)) (by decide) (rl_dl l Z a0 hw [] h0 yb.toInt64) (hw _ (List.mem_of_getElem? (i := 3) rfl)) (hw _ (List.mem_of_getElem? (i := 2) rfl)) eKc9 (pc := 44) (Ls := #[.val (.int xa), .val (.int yb), .val (.int i), .val (.int j), .val (.int xa), .val (.int yb), .unset, .unset, .unset]) (argsL := [(.long (yb.toInt64))]) (rest := [(.int ((own_dl xa.toInt64) + (9 : Int32)))]) (by rw [hml]; rfl) (lenOf pd_19 rfl) (W := 1) (Nat.le_of_eq rfl) (by decide) (by decide) (by decide) (by decide) (hb hby at_44) rfl rfl ?_
      intro TKc10 LKc10 vKc10 XKc10 hQKc10
      obtain ⟨rfl, rfl, eKc10⟩ := hQKc10
      have NKc10z := Fr.app NKc9z (Fr.nil n0)
      show own_EndsS _ _ pP eE bB sS _ _ TKc10 (mkF mI 47 #[.val (.int xa), .val (.int yb), .val (.int i), .val (.int j), .val (.int xa), .val (.int yb), .unset, .unset, .unset] [(.int (own_dl yb.toInt64)), (.int ((own_dl xa.toInt64) + (9 : Int32)))])
      refine own_goS (T' := TKc10) (g' := (mkF mI 48 #[.val (.int xa), .val (.int yb), .val (.int i), .val (.int j), .val (.int xa), .val (.int yb), .unset, .unset, .unset] [(.int (((own_dl xa.toInt64) + (9 : Int32)) + (own_dl yb.toInt64)))])) (fun t_ kt_ => XS.iadd XKc10.here hx rfl (hb hby at_47) rfl kt_) ?_
      obtain ⟨ln, hln⟩ : ∃ z, z = (((own_dl xa.toInt64) + (9 : Int32)) + (own_dl yb.toInt64)) := ⟨_, rfl⟩
      rw [← hln]
      have hl : ln.toInt = (own_ys xa yb).length := by rw [hln]; exact own_lnB hc20_Kc2
      have hl0 : ¬ ln = 0 := own_ln0 hl
      refine own_goS (T' := TKc10) (g' := (mkF mI 50 #[.val (.int xa), .val (.int yb), .val (.int i), .val (.int j), .val (.int xa), .val (.int yb), .val (.int ln), .unset, .unset] [])) (fun t_ kt_ => XS.istore XKc10.here hx rfl (hb hby at_48) rfl (l' := #[.val (.int xa), .val (.int yb), .val (.int i), .val (.int j), .val (.int xa), .val (.int yb), .val (.int ln), .unset, .unset]) rfl kt_) ?_
      refine own_goS (T' := TKc10) (g' := (mkF mI 51 #[.val (.int xa), .val (.int yb), .val (.int i), .val (.int j), .val (.int xa), .val (.int yb), .val (.int ln), .unset, .unset] [(.int i)])) (fun t_ kt_ => XS.iloadN XKc10.here hx rfl (hb hby at_50) rfl kt_) ?_
      refine own_goS (T' := TKc10) (g' := (mkF mI 53 #[.val (.int xa), .val (.int yb), .val (.int i), .val (.int j), .val (.int xa), .val (.int yb), .val (.int ln), .unset, .unset] [(.int (2147483647 : Int32)), (.int i)])) (fun t_ kt_ => ldcI XKc10 hx hown (mvT hZ (hw _ (List.mem_of_getElem? (i := 8) rfl))) rfl (hb hby at_51) kt_) ?_
      refine own_goS (T' := TKc10) (g' := (mkF mI 54 #[.val (.int xa), .val (.int yb), .val (.int i), .val (.int j), .val (.int xa), .val (.int yb), .val (.int ln), .unset, .unset] [(.int (i &&& (2147483647 : Int32)))])) (fun t_ kt_ => XS.iand XKc10.here hx rfl (hb hby at_53) rfl kt_) ?_
      refine own_goS (T' := TKc10) (g' := (mkF mI 56 #[.val (.int xa), .val (.int yb), .val (.int i), .val (.int j), .val (.int xa), .val (.int yb), .val (.int ln), .unset, .unset] [(.int ln), (.int (i &&& (2147483647 : Int32)))])) (fun t_ kt_ => XS.iload XKc10.here hx rfl (hb hby at_54) rfl kt_) ?_
      refine own_goS (T' := TKc10) (g' := (mkF mI 57 #[.val (.int xa), .val (.int yb), .val (.int i), .val (.int j), .val (.int xa), .val (.int yb), .val (.int ln), .unset, .unset] [(.int ((i &&& (2147483647 : Int32)) % ln))])) (fun t_ kt_ => iremM XKc10 hx rfl (hb hby at_56) rfl hl0 kt_) ?_
      obtain ⟨ix, hix⟩ : ∃ z, z = ((i &&& (2147483647 : Int32)) % ln) := ⟨_, rfl⟩
      rw [← hix]
      have bx : 0 ≤ ix.toInt ∧ ix.toInt < ln.toInt := by rw [hix]; exact own_rem _ ln (by rw [Jvm.Kit.i32_mask i 2147483647 (k := 31) (by decide) (by decide)]; omega) (by rw [hl]; exact_mod_cast (own_ysLen xa yb).1)
      have hx0 : ¬ ix < 0 := own_nn bx.1
      have hxl : ix < ln := own_lt bx.2
      obtain ⟨c, hc, hcn, hcm⟩ := own_ysEx hl bx.1 bx.2
      refine own_goS (T' := TKc10) (g' := (mkF mI 59 #[.val (.int xa), .val (.int yb), .val (.int i), .val (.int j), .val (.int xa), .val (.int yb), .val (.int ln), .val (.int ix), .unset] [])) (fun t_ kt_ => XS.istore XKc10.here hx rfl (hb hby at_57) rfl (l' := #[.val (.int xa), .val (.int yb), .val (.int i), .val (.int j), .val (.int xa), .val (.int yb), .val (.int ln), .val (.int ix), .unset]) rfl kt_) ?_
      refine own_goS (T' := TKc10) (g' := (mkF mI 61 #[.val (.int xa), .val (.int yb), .val (.int i), .val (.int j), .val (.int xa), .val (.int yb), .val (.int ln), .val (.int ix), .unset] [(.int xa)])) (fun t_ kt_ => XS.iload XKc10.here hx rfl (hb hby at_59) rfl kt_) ?_
      refine own_goS (T' := TKc10) (g' := (mkF mI 63 #[.val (.int xa), .val (.int yb), .val (.int i), .val (.int j), .val (.int xa), .val (.int yb), .val (.int ln), .val (.int ix), .unset] [(.int yb), (.int xa)])) (fun t_ kt_ => XS.iload XKc10.here hx rfl (hb hby at_61) rfl kt_) ?_
      refine own_callSS XKc10 hx hZ (y := (⟨"com/example/planfold/planfold/rules/Figures", "yearSpan", "(II)Ljava/lang/String;"⟩ : MethodName)) hown (hw _ (List.mem_of_getElem? (i := 9) rfl)) (hw _ (List.mem_of_getElem? (i := 10) rfl)) (by decide) (rl_ys l Z a0 hw [] h0 n0 O cs Scs hcs hEL hStr Z0 xa yb sT d1 d2 D1 D2 TB) (hw _ (List.mem_of_getElem? (i := 12) rfl)) (hw _ (List.mem_of_getElem? (i := 11) rfl)) eKc10 hS hk hEL C0 (pc := 63) (Ls := #[.val (.int xa), .val (.int yb), .val (.int i), .val (.int j), .val (.int xa), .val (.int yb), .val (.int ln), .val (.int ix), .unset]) (argsL := [(.int xa), (.int yb)]) (rest := []) (by rw [hml]; rfl) (lenOf pd_30 rfl) (W := 0) (Nat.le_of_eq rfl) (by decide) (by decide) (by decide) (by decide) (hb hby at_63) rfl rfl ?_
      intro TKc11 LKc11 vKc11 vmKc11 k1Kc11 XKc11 hQKc11 hS hk hZ hown CKc11
      obtain ⟨aKc11, dKc11, kKc11, nKc11, rfl, NKc11, KKc11, SKc11, hnKc11⟩ := hQKc11
      have OKc11 : Old Z n0 TKc11.heap := O.keep KKc11 all0
      have ZKc11 : n0 ≤ TKc11.heap.size := Nat.le_trans Z0 KKc11.1
      have NKc11a := Fr.app NKc10z NKc11
      have heKc11 : nKc11 = ln := Int32.toInt_inj.mp (hnKc11.trans hl.symm)
      show own_EndsS _ _ pP eE bB sS _ _ TKc11 (mkF mI 66 #[.val (.int xa), .val (.int yb), .val (.int i), .val (.int j), .val (.int xa), .val (.int yb), .val (.int ln), .val (.int ix), .unset] [(.ref aKc11)])
      refine own_goS (T' := TKc11) (g' := (mkF mI 68 #[.val (.int xa), .val (.int yb), .val (.int i), .val (.int j), .val (.int xa), .val (.int yb), .val (.int ln), .val (.int ix), .val (.ref aKc11)] [])) (fun t_ kt_ => XS.astore XKc11.here hx rfl (hb hby at_66) rfl rfl (l' := #[.val (.int xa), .val (.int yb), .val (.int i), .val (.int j), .val (.int xa), .val (.int yb), .val (.int ln), .val (.int ix), .val (.ref aKc11)]) rfl kt_) ?_
      refine own_goS (T' := TKc11) (g' := (mkF mI 70 #[.val (.int xa), .val (.int yb), .val (.int i), .val (.int j), .val (.int xa), .val (.int yb), .val (.int ln), .val (.int ix), .val (.ref aKc11)] [(.ref aKc11)])) (fun t_ kt_ => XS.aload XKc11.here hx rfl (hb hby at_68) rfl rfl kt_) ?_
      refine own_callV own_closedS XKc11 hx hZ (y := (⟨"java/lang/String", "length", "()I"⟩ : MethodName)) (z := (⟨"java/lang/String", "length", "()I"⟩ : MethodName)) hown (hw _ (List.mem_of_getElem? (i := 40) rfl)) (hw _ (List.mem_of_getElem? (i := 41) rfl)) (hw _ (List.mem_of_getElem? (i := 43) rfl)) (hw _ (List.mem_of_getElem? (i := 42) rfl)) (hw _ (List.mem_of_getElem? (i := 43) rfl)) rfl (by decide) (rj_len l Z a0 hw [] TKc11.heap n0 OKc11 cs Scs hcs aKc11 dKc11 _ nKc11 _ SKc11.1 SKc11.2.1 SKc11.2.2.1 SKc11.2.2.2) (hw _ (List.mem_of_getElem? (i := 44) rfl)) (hw _ (List.mem_of_getElem? (i := 21) rfl)) rfl SKc11.1 (pc := 70) (Ls := #[.val (.int xa), .val (.int yb), .val (.int i), .val (.int j), .val (.int xa), .val (.int yb), .val (.int ln), .val (.int ix), .val (.ref aKc11)]) (argsL := []) (rest := []) (by rw [hml]; rfl) (lenOf pd_11 rfl) (W := 0) (Nat.le_of_eq rfl) (by decide) (by decide) (by decide) (by decide) (hb hby at_70) rfl rfl ?_
      intro TKc12 LKc12 vKc12 XKc12 hQKc12
      obtain ⟨rfl, rfl, eKc12⟩ := hQKc12
      show own_EndsS _ _ pP eE bB sS _ _ TKc12 (mkF mI 73 #[.val (.int xa), .val (.int yb), .val (.int i), .val (.int j), .val (.int xa), .val (.int yb), .val (.int ln), .val (.int ix), .val (.ref aKc11)] [(.int nKc11)])
      have NKc13z := Fr.app NKc11a (Fr.nil n0)
      refine own_goS (T' := TKc12) (g' := (mkF mI 75 #[.val (.int xa), .val (.int yb), .val (.int i), .val (.int j), .val (.int xa), .val (.int yb), .val (.int ln), .val (.int ix), .val (.ref aKc11)] [(.int ln), (.int nKc11)])) (fun t_ kt_ => XS.iload XKc12.here hx rfl (hb hby at_73) rfl kt_) ?_
      refine own_goS (T' := TKc12) (g' := (mkF mI 78 #[.val (.int xa), .val (.int yb), .val (.int i), .val (.int j), .val (.int xa), .val (.int yb), .val (.int ln), .val (.int ix), .val (.ref aKc11)] [])) (fun t_ kt_ => XS.icmpNo XKc12.here hx rfl (hb hby at_75) rfl (teq (heKc11 : nKc11 = ln)).2 kt_) ?_
      refine own_goS (T' := TKc12) (g' := (mkF mI 80 #[.val (.int xa), .val (.int yb), .val (.int i), .val (.int j), .val (.int xa), .val (.int yb), .val (.int ln), .val (.int ix), .val (.ref aKc11)] [(.ref aKc11)])) (fun t_ kt_ => XS.aload XKc12.here hx rfl (hb hby at_78) rfl rfl kt_) ?_
      refine own_goS (T' := TKc12) (g' := (mkF mI 82 #[.val (.int xa), .val (.int yb), .val (.int i), .val (.int j), .val (.int xa), .val (.int yb), .val (.int ln), .val (.int ix), .val (.ref aKc11)] [(.int ix), (.ref aKc11)])) (fun t_ kt_ => XS.iload XKc12.here hx rfl (hb hby at_80) rfl kt_) ?_
      refine own_callV own_closedS XKc12 hx hZ (y := (⟨"java/lang/String", "charAt", "(I)C"⟩ : MethodName)) (z := (⟨"java/lang/String", "charAt", "(I)C"⟩ : MethodName)) hown (hw _ (List.mem_of_getElem? (i := 51) rfl)) (hw _ (List.mem_of_getElem? (i := 52) rfl)) (hw _ (List.mem_of_getElem? (i := 54) rfl)) (hw _ (List.mem_of_getElem? (i := 53) rfl)) (hw _ (List.mem_of_getElem? (i := 54) rfl)) rfl (by decide) (rj_cha l Z a0 hw [] TKc11.heap n0 OKc11 cs Scs hcs fo hfo Sfo aKc11 ix dKc11 kKc11 nKc11 (own_ys xa yb) SKc11.1 SKc11.2.1 SKc11.2.2.1 c SKc11.2.2.2 hx0 (by rw [heKc11]; exact hxl) (by rw [List.getD_eq_getElem?_getD, hc]; rfl) hcm) (hw _ (List.mem_of_getElem? (i := 55) rfl)) (hw _ (List.mem_of_getElem? (i := 21) rfl)) eKc12 SKc11.1 (pc := 82) (Ls := #[.val (.int xa), .val (.int yb), .val (.int i), .val (.int j), .val (.int xa), .val (.int yb), .val (.int ln), .val (.int ix), .val (.ref aKc11)]) (argsL := [(.int ix)]) (rest := []) (by rw [hml]; rfl) (lenOf pd_29 rfl) (W := 0) (Nat.le_of_eq rfl) (by decide) (by decide) (by decide) (by decide) (hb hby at_82) rfl rfl ?_
      intro TKc14 LKc14 vKc14 XKc14 hQKc14
      obtain ⟨rfl, rfl, eKc14⟩ := hQKc14
      have NKc14z := Fr.app NKc13z (Fr.nil n0)
      show own_EndsS _ _ pP eE bB sS _ _ TKc14 (mkF mI 85 #[.val (.int xa), .val (.int yb), .val (.int i), .val (.int j), .val (.int xa), .val (.int yb), .val (.int ln), .val (.int ix), .val (.ref aKc11)] [(.int c)])
      refine own_goS (T' := TKc14) (g' := (mkF mI 87 #[.val (.int xa), .val (.int yb), .val (.int i), .val (.int j), .val (.int xa), .val (.int yb), .val (.int ln), .val (.int ix), .val (.ref aKc11)] [(.int xa), (.int c)])) (fun t_ kt_ => XS.iload XKc14.here hx rfl (hb hby at_85) rfl kt_) ?_
      refine own_goS (T' := TKc14) (g' := (mkF mI 89 #[.val (.int xa), .val (.int yb), .val (.int i), .val (.int j), .val (.int xa), .val (.int yb), .val (.int ln), .val (.int ix), .val (.ref aKc11)] [(.int yb), (.int xa), (.int c)])) (fun t_ kt_ => XS.iload XKc14.here hx rfl (hb hby at_87) rfl kt_) ?_
      refine own_goS (T' := TKc14) (g' := (mkF mI 91 #[.val (.int xa), .val (.int yb), .val (.int i), .val (.int j), .val (.int xa), .val (.int yb), .val (.int ln), .val (.int ix), .val (.ref aKc11)] [(.int ix), (.int yb), (.int xa), (.int c)])) (fun t_ kt_ => XS.iload XKc14.here hx rfl (hb hby at_89) rfl kt_) ?_
      refine own_callSS XKc14 hx hZ (y := (⟨"com/example/planfold/planfold/rules/FiguresYearSpanPinLaw", "expectedChar", "(III)C"⟩ : MethodName)) hown (hw _ (List.mem_of_getElem? (i := 73) rfl)) (hw _ (List.mem_of_getElem? (i := 74) rfl)) (by decide) (rl_ec l Z a0 hw [] TKc11.heap n0 OKc11 cs Scs hcs fo hfo Sfo hEL hStr ZKc11 xa yb ix c hx0 hc hcn hcm) (hw _ (List.mem_of_getElem? (i := 75) rfl)) (hw _ (List.mem_of_getElem? (i := 2) rfl)) eKc14 hS hk hEL CKc11 (pc := 91) (Ls := #[.val (.int xa), .val (.int yb), .val (.int i), .val (.int j), .val (.int xa), .val (.int yb), .val (.int ln), .val (.int ix), .val (.ref aKc11)]) (argsL := [(.int xa), (.int yb), (.int ix)]) (rest := [(.int c)]) (by rw [hml]; rfl) (lenOf pd_31 rfl) (W := 1) (Nat.le_of_eq rfl) (by decide) (by decide) (by decide) (by decide) (hb hby at_91) rfl rfl ?_
      intro TKc15 LKc15 vKc15 vmKc15 k1Kc15 XKc15 hQKc15 hS hk hZ hown CKc15
      obtain ⟨rfl, NKc15, KKc15⟩ := hQKc15
      have OKc15 : Old Z n0 TKc15.heap := OKc11.keep KKc15 all0
      have ZKc15 : n0 ≤ TKc15.heap.size := Nat.le_trans ZKc11 KKc15.1
      have NKc15a := Fr.app NKc14z NKc15
      show own_EndsS _ _ pP eE bB sS _ _ TKc15 (mkF mI 94 #[.val (.int xa), .val (.int yb), .val (.int i), .val (.int j), .val (.int xa), .val (.int yb), .val (.int ln), .val (.int ix), .val (.ref aKc11)] [(.int c), (.int c)])
      refine own_goS (T' := TKc15) (g' := (mkF mI 97 #[.val (.int xa), .val (.int yb), .val (.int i), .val (.int j), .val (.int xa), .val (.int yb), .val (.int ln), .val (.int ix), .val (.ref aKc11)] [])) (fun t_ kt_ => XS.icmpNo XKc15.here hx rfl (hb hby at_94) rfl (teq (rfl : c = c)).2 kt_) ?_
      refine own_goS (T' := TKc15) (g' := (mkF mI 98 #[.val (.int xa), .val (.int yb), .val (.int i), .val (.int j), .val (.int xa), .val (.int yb), .val (.int ln), .val (.int ix), .val (.ref aKc11)] [(.int (1 : Int32))])) (fun t_ kt_ => XS.iconst XKc15.here hx rfl (hb hby at_97) kt_) ?_
      refine own_goS (T' := TKc15) (g' := (mkF mI 102 #[.val (.int xa), .val (.int yb), .val (.int i), .val (.int j), .val (.int xa), .val (.int yb), .val (.int ln), .val (.int ix), .val (.ref aKc11)] [(.int (1 : Int32))])) (fun t_ kt_ => XS.goto XKc15.here hx rfl (pc0 := 98) (pc' := 102) rfl (hb hby at_98) (by decide) (by decide) kt_) ?_
      refine own_leaveS XKc15 hlk (some (.int (nar .boolean (1 : Int32)))) (fun h => by rw [hret] at h; cases h) hS rfl hk hZ hEL CKc15 (by decide) (by decide) ?_ (fun fs hr => retN XKc15 hx (t := .boolean) hret (by simp) (hb hby at_102) hr)
      exact ⟨rfl, NKc15a⟩
  · skip
    refine own_goS (T' := s₁) (g' := (mkF mI 9 #[.val (.int xa), .val (.int yb), .val (.int i), .val (.int j), .val (.int xa), .unset, .unset, .unset, .unset] [])) (fun t_ kt_ => XS.ifNo X0.here hx rfl (hb hby at_6) rfl ((if0 _ _).trans (feq hc6_Kc1).1) kt_) ?_
    refine own_goS (T' := s₁) (g' := (mkF mI 10 #[.val (.int xa), .val (.int yb), .val (.int i), .val (.int j), .val (.int xa), .unset, .unset, .unset, .unset] [(.int xa)])) (fun t_ kt_ => XS.iloadN X0.here hx rfl (hb hby at_9) rfl kt_) ?_
    refine own_goS (T' := s₁) (g' := (mkF mI 14 #[.val (.int xa), .val (.int yb), .val (.int i), .val (.int j), .val (.int xa), .unset, .unset, .unset, .unset] [(.int xa)])) (fun t_ kt_ => XS.goto X0.here hx rfl (pc0 := 10) (pc' := 14) rfl (hb hby at_10) (by decide) (by decide) kt_) ?_
    refine own_goS (T' := s₁) (g' := (mkF mI 16 #[.val (.int xa), .val (.int yb), .val (.int i), .val (.int j), .val (.int xa), .val (.int xa), .unset, .unset, .unset] [])) (fun t_ kt_ => XS.istore X0.here hx rfl (hb hby at_14) rfl (l' := #[.val (.int xa), .val (.int yb), .val (.int i), .val (.int j), .val (.int xa), .val (.int xa), .unset, .unset, .unset]) rfl kt_) ?_
    refine own_goS (T' := s₁) (g' := (mkF mI 18 #[.val (.int xa), .val (.int yb), .val (.int i), .val (.int j), .val (.int xa), .val (.int xa), .unset, .unset, .unset] [(.int xa)])) (fun t_ kt_ => XS.iload X0.here hx rfl (hb hby at_16) rfl kt_) ?_
    refine own_goS (T' := s₁) (g' := (mkF mI 20 #[.val (.int xa), .val (.int yb), .val (.int i), .val (.int j), .val (.int xa), .val (.int xa), .unset, .unset, .unset] [(.int xa), (.int xa)])) (fun t_ kt_ => XS.iload X0.here hx rfl (hb hby at_18) rfl kt_) ?_
    refine own_goS (T' := s₁) (g' := (mkF mI 23 #[.val (.int xa), .val (.int yb), .val (.int i), .val (.int j), .val (.int xa), .val (.int xa), .unset, .unset, .unset] [])) (fun t_ kt_ => XS.icmpNo X0.here hx rfl (hb hby at_20) rfl (teq (rfl : xa = xa)).2 kt_) ?_
    refine own_goS (T' := s₁) (g' := (mkF mI 25 #[.val (.int xa), .val (.int yb), .val (.int i), .val (.int j), .val (.int xa), .val (.int xa), .unset, .unset, .unset] [(.int xa)])) (fun t_ kt_ => XS.iload X0.here hx rfl (hb hby at_23) rfl kt_) ?_
    refine own_goS (T' := s₁) (g' := (mkF mI 26 #[.val (.int xa), .val (.int yb), .val (.int i), .val (.int j), .val (.int xa), .val (.int xa), .unset, .unset, .unset] [(.long (xa.toInt64))])) (fun t_ kt_ => XS.i2l X0.here hx rfl (hb hby at_25) rfl kt_) ?_
    refine own_callS own_closedS X0 hx hZ (y := (⟨"com/example/planfold/planfold/rules/FiguresYearSpanPinLaw", "decLen", "(J)I"⟩ : MethodName)) hown (hw _ (List.mem_of_getElem? (i := 0) rfl)) (hw _ (List.mem_of_getElem? (i := 1) rfl)) (by decide) (rl_dl l Z a0 hw [] h0 xa.toInt64) (hw _ (List.mem_of_getElem? (i := 3) rfl)) (hw _ (List.mem_of_getElem? (i := 2) rfl)) e0 (pc := 26) (Ls := #[.val (.int xa), .val (.int yb), .val (.int i), .val (.int j), .val (.int xa), .val (.int xa), .unset, .unset, .unset]) (argsL := [(.long (xa.toInt64))]) (rest := []) (by rw [hml]; rfl) (lenOf pd_19 rfl) (W := 0) (Nat.le_of_eq rfl) (by decide) (by decide) (by decide) (by decide) (hb hby at_26) rfl rfl ?_
    intro TKc16 LKc16 vKc16 XKc16 hQKc16
    obtain ⟨rfl, rfl, eKc16⟩ := hQKc16
    have NKc16z := Fr.app (Fr.nil n0) (Fr.nil n0)
    show own_EndsS _ _ pP eE bB sS _ _ TKc16 (mkF mI 29 #[.val (.int xa), .val (.int yb), .val (.int i), .val (.int j), .val (.int xa), .val (.int xa), .unset, .unset, .unset] [(.int (own_dl xa.toInt64))])
    refine own_goS (T' := TKc16) (g' := (mkF mI 48 #[.val (.int xa), .val (.int yb), .val (.int i), .val (.int j), .val (.int xa), .val (.int xa), .unset, .unset, .unset] [(.int (own_dl xa.toInt64))])) (fun t_ kt_ => XS.goto XKc16.here hx rfl (pc0 := 29) (pc' := 48) rfl (hb hby at_29) (by decide) (by decide) kt_) ?_
    obtain ⟨ln, hln⟩ : ∃ z, z = (own_dl xa.toInt64) := ⟨_, rfl⟩
    rw [← hln]
    have hl : ln.toInt = (own_ys xa xa).length := by rw [hln]; exact own_lnA rfl
    have hl0 : ¬ ln = 0 := own_ln0 hl
    refine own_goS (T' := TKc16) (g' := (mkF mI 50 #[.val (.int xa), .val (.int yb), .val (.int i), .val (.int j), .val (.int xa), .val (.int xa), .val (.int ln), .unset, .unset] [])) (fun t_ kt_ => XS.istore XKc16.here hx rfl (hb hby at_48) rfl (l' := #[.val (.int xa), .val (.int yb), .val (.int i), .val (.int j), .val (.int xa), .val (.int xa), .val (.int ln), .unset, .unset]) rfl kt_) ?_
    refine own_goS (T' := TKc16) (g' := (mkF mI 51 #[.val (.int xa), .val (.int yb), .val (.int i), .val (.int j), .val (.int xa), .val (.int xa), .val (.int ln), .unset, .unset] [(.int i)])) (fun t_ kt_ => XS.iloadN XKc16.here hx rfl (hb hby at_50) rfl kt_) ?_
    refine own_goS (T' := TKc16) (g' := (mkF mI 53 #[.val (.int xa), .val (.int yb), .val (.int i), .val (.int j), .val (.int xa), .val (.int xa), .val (.int ln), .unset, .unset] [(.int (2147483647 : Int32)), (.int i)])) (fun t_ kt_ => ldcI XKc16 hx hown (mvT hZ (hw _ (List.mem_of_getElem? (i := 8) rfl))) rfl (hb hby at_51) kt_) ?_
    refine own_goS (T' := TKc16) (g' := (mkF mI 54 #[.val (.int xa), .val (.int yb), .val (.int i), .val (.int j), .val (.int xa), .val (.int xa), .val (.int ln), .unset, .unset] [(.int (i &&& (2147483647 : Int32)))])) (fun t_ kt_ => XS.iand XKc16.here hx rfl (hb hby at_53) rfl kt_) ?_
    refine own_goS (T' := TKc16) (g' := (mkF mI 56 #[.val (.int xa), .val (.int yb), .val (.int i), .val (.int j), .val (.int xa), .val (.int xa), .val (.int ln), .unset, .unset] [(.int ln), (.int (i &&& (2147483647 : Int32)))])) (fun t_ kt_ => XS.iload XKc16.here hx rfl (hb hby at_54) rfl kt_) ?_
    refine own_goS (T' := TKc16) (g' := (mkF mI 57 #[.val (.int xa), .val (.int yb), .val (.int i), .val (.int j), .val (.int xa), .val (.int xa), .val (.int ln), .unset, .unset] [(.int ((i &&& (2147483647 : Int32)) % ln))])) (fun t_ kt_ => iremM XKc16 hx rfl (hb hby at_56) rfl hl0 kt_) ?_
    obtain ⟨ix, hix⟩ : ∃ z, z = ((i &&& (2147483647 : Int32)) % ln) := ⟨_, rfl⟩
    rw [← hix]
    have bx : 0 ≤ ix.toInt ∧ ix.toInt < ln.toInt := by rw [hix]; exact own_rem _ ln (by rw [Jvm.Kit.i32_mask i 2147483647 (k := 31) (by decide) (by decide)]; omega) (by rw [hl]; exact_mod_cast (own_ysLen xa xa).1)
    have hx0 : ¬ ix < 0 := own_nn bx.1
    have hxl : ix < ln := own_lt bx.2
    obtain ⟨c, hc, hcn, hcm⟩ := own_ysEx hl bx.1 bx.2
    refine own_goS (T' := TKc16) (g' := (mkF mI 59 #[.val (.int xa), .val (.int yb), .val (.int i), .val (.int j), .val (.int xa), .val (.int xa), .val (.int ln), .val (.int ix), .unset] [])) (fun t_ kt_ => XS.istore XKc16.here hx rfl (hb hby at_57) rfl (l' := #[.val (.int xa), .val (.int yb), .val (.int i), .val (.int j), .val (.int xa), .val (.int xa), .val (.int ln), .val (.int ix), .unset]) rfl kt_) ?_
    refine own_goS (T' := TKc16) (g' := (mkF mI 61 #[.val (.int xa), .val (.int yb), .val (.int i), .val (.int j), .val (.int xa), .val (.int xa), .val (.int ln), .val (.int ix), .unset] [(.int xa)])) (fun t_ kt_ => XS.iload XKc16.here hx rfl (hb hby at_59) rfl kt_) ?_
    refine own_goS (T' := TKc16) (g' := (mkF mI 63 #[.val (.int xa), .val (.int yb), .val (.int i), .val (.int j), .val (.int xa), .val (.int xa), .val (.int ln), .val (.int ix), .unset] [(.int xa), (.int xa)])) (fun t_ kt_ => XS.iload XKc16.here hx rfl (hb hby at_61) rfl kt_) ?_
    refine own_callSS XKc16 hx hZ (y := (⟨"com/example/planfold/planfold/rules/Figures", "yearSpan", "(II)Ljava/lang/String;"⟩ : MethodName)) hown (hw _ (List.mem_of_getElem? (i := 9) rfl)) (hw _ (List.mem_of_getElem? (i := 10) rfl)) (by decide) (rl_ys l Z a0 hw [] h0 n0 O cs Scs hcs hEL hStr Z0 xa xa sT d1 d2 D1 D2 TB) (hw _ (List.mem_of_getElem? (i := 12) rfl)) (hw _ (List.mem_of_getElem? (i := 11) rfl)) eKc16 hS hk hEL C0 (pc := 63) (Ls := #[.val (.int xa), .val (.int yb), .val (.int i), .val (.int j), .val (.int xa), .val (.int xa), .val (.int ln), .val (.int ix), .unset]) (argsL := [(.int xa), (.int xa)]) (rest := []) (by rw [hml]; rfl) (lenOf pd_30 rfl) (W := 0) (Nat.le_of_eq rfl) (by decide) (by decide) (by decide) (by decide) (hb hby at_63) rfl rfl ?_
    intro TKc17 LKc17 vKc17 vmKc17 k1Kc17 XKc17 hQKc17 hS hk hZ hown CKc17
    obtain ⟨aKc17, dKc17, kKc17, nKc17, rfl, NKc17, KKc17, SKc17, hnKc17⟩ := hQKc17
    have OKc17 : Old Z n0 TKc17.heap := O.keep KKc17 all0
    have ZKc17 : n0 ≤ TKc17.heap.size := Nat.le_trans Z0 KKc17.1
    have NKc17a := Fr.app NKc16z NKc17
    have heKc17 : nKc17 = ln := Int32.toInt_inj.mp (hnKc17.trans hl.symm)
    show own_EndsS _ _ pP eE bB sS _ _ TKc17 (mkF mI 66 #[.val (.int xa), .val (.int yb), .val (.int i), .val (.int j), .val (.int xa), .val (.int xa), .val (.int ln), .val (.int ix), .unset] [(.ref aKc17)])
    refine own_goS (T' := TKc17) (g' := (mkF mI 68 #[.val (.int xa), .val (.int yb), .val (.int i), .val (.int j), .val (.int xa), .val (.int xa), .val (.int ln), .val (.int ix), .val (.ref aKc17)] [])) (fun t_ kt_ => XS.astore XKc17.here hx rfl (hb hby at_66) rfl rfl (l' := #[.val (.int xa), .val (.int yb), .val (.int i), .val (.int j), .val (.int xa), .val (.int xa), .val (.int ln), .val (.int ix), .val (.ref aKc17)]) rfl kt_) ?_
    refine own_goS (T' := TKc17) (g' := (mkF mI 70 #[.val (.int xa), .val (.int yb), .val (.int i), .val (.int j), .val (.int xa), .val (.int xa), .val (.int ln), .val (.int ix), .val (.ref aKc17)] [(.ref aKc17)])) (fun t_ kt_ => XS.aload XKc17.here hx rfl (hb hby at_68) rfl rfl kt_) ?_
    refine own_callV own_closedS XKc17 hx hZ (y := (⟨"java/lang/String", "length", "()I"⟩ : MethodName)) (z := (⟨"java/lang/String", "length", "()I"⟩ : MethodName)) hown (hw _ (List.mem_of_getElem? (i := 40) rfl)) (hw _ (List.mem_of_getElem? (i := 41) rfl)) (hw _ (List.mem_of_getElem? (i := 43) rfl)) (hw _ (List.mem_of_getElem? (i := 42) rfl)) (hw _ (List.mem_of_getElem? (i := 43) rfl)) rfl (by decide) (rj_len l Z a0 hw [] TKc17.heap n0 OKc17 cs Scs hcs aKc17 dKc17 _ nKc17 _ SKc17.1 SKc17.2.1 SKc17.2.2.1 SKc17.2.2.2) (hw _ (List.mem_of_getElem? (i := 44) rfl)) (hw _ (List.mem_of_getElem? (i := 21) rfl)) rfl SKc17.1 (pc := 70) (Ls := #[.val (.int xa), .val (.int yb), .val (.int i), .val (.int j), .val (.int xa), .val (.int xa), .val (.int ln), .val (.int ix), .val (.ref aKc17)]) (argsL := []) (rest := []) (by rw [hml]; rfl) (lenOf pd_11 rfl) (W := 0) (Nat.le_of_eq rfl) (by decide) (by decide) (by decide) (by decide) (hb hby at_70) rfl rfl ?_
    intro TKc18 LKc18 vKc18 XKc18 hQKc18
    obtain ⟨rfl, rfl, eKc18⟩ := hQKc18
    show own_EndsS _ _ pP eE bB sS _ _ TKc18 (mkF mI 73 #[.val (.int xa), .val (.int yb), .val (.int i), .val (.int j), .val (.int xa), .val (.int xa), .val (.int ln), .val (.int ix), .val (.ref aKc17)] [(.int nKc17)])
    have NKc19z := Fr.app NKc17a (Fr.nil n0)
    refine own_goS (T' := TKc18) (g' := (mkF mI 75 #[.val (.int xa), .val (.int yb), .val (.int i), .val (.int j), .val (.int xa), .val (.int xa), .val (.int ln), .val (.int ix), .val (.ref aKc17)] [(.int ln), (.int nKc17)])) (fun t_ kt_ => XS.iload XKc18.here hx rfl (hb hby at_73) rfl kt_) ?_
    refine own_goS (T' := TKc18) (g' := (mkF mI 78 #[.val (.int xa), .val (.int yb), .val (.int i), .val (.int j), .val (.int xa), .val (.int xa), .val (.int ln), .val (.int ix), .val (.ref aKc17)] [])) (fun t_ kt_ => XS.icmpNo XKc18.here hx rfl (hb hby at_75) rfl (teq (heKc17 : nKc17 = ln)).2 kt_) ?_
    refine own_goS (T' := TKc18) (g' := (mkF mI 80 #[.val (.int xa), .val (.int yb), .val (.int i), .val (.int j), .val (.int xa), .val (.int xa), .val (.int ln), .val (.int ix), .val (.ref aKc17)] [(.ref aKc17)])) (fun t_ kt_ => XS.aload XKc18.here hx rfl (hb hby at_78) rfl rfl kt_) ?_
    refine own_goS (T' := TKc18) (g' := (mkF mI 82 #[.val (.int xa), .val (.int yb), .val (.int i), .val (.int j), .val (.int xa), .val (.int xa), .val (.int ln), .val (.int ix), .val (.ref aKc17)] [(.int ix), (.ref aKc17)])) (fun t_ kt_ => XS.iload XKc18.here hx rfl (hb hby at_80) rfl kt_) ?_
    refine own_callV own_closedS XKc18 hx hZ (y := (⟨"java/lang/String", "charAt", "(I)C"⟩ : MethodName)) (z := (⟨"java/lang/String", "charAt", "(I)C"⟩ : MethodName)) hown (hw _ (List.mem_of_getElem? (i := 51) rfl)) (hw _ (List.mem_of_getElem? (i := 52) rfl)) (hw _ (List.mem_of_getElem? (i := 54) rfl)) (hw _ (List.mem_of_getElem? (i := 53) rfl)) (hw _ (List.mem_of_getElem? (i := 54) rfl)) rfl (by decide) (rj_cha l Z a0 hw [] TKc17.heap n0 OKc17 cs Scs hcs fo hfo Sfo aKc17 ix dKc17 kKc17 nKc17 (own_ys xa xa) SKc17.1 SKc17.2.1 SKc17.2.2.1 c SKc17.2.2.2 hx0 (by rw [heKc17]; exact hxl) (by rw [List.getD_eq_getElem?_getD, hc]; rfl) hcm) (hw _ (List.mem_of_getElem? (i := 55) rfl)) (hw _ (List.mem_of_getElem? (i := 21) rfl)) eKc18 SKc17.1 (pc := 82) (Ls := #[.val (.int xa), .val (.int yb), .val (.int i), .val (.int j), .val (.int xa), .val (.int xa), .val (.int ln), .val (.int ix), .val (.ref aKc17)]) (argsL := [(.int ix)]) (rest := []) (by rw [hml]; rfl) (lenOf pd_29 rfl) (W := 0) (Nat.le_of_eq rfl) (by decide) (by decide) (by decide) (by decide) (hb hby at_82) rfl rfl ?_
    intro TKc20 LKc20 vKc20 XKc20 hQKc20
    obtain ⟨rfl, rfl, eKc20⟩ := hQKc20
    have NKc20z := Fr.app NKc19z (Fr.nil n0)
    show own_EndsS _ _ pP eE bB sS _ _ TKc20 (mkF mI 85 #[.val (.int xa), .val (.int yb), .val (.int i), .val (.int j), .val (.int xa), .val (.int xa), .val (.int ln), .val (.int ix), .val (.ref aKc17)] [(.int c)])
    refine own_goS (T' := TKc20) (g' := (mkF mI 87 #[.val (.int xa), .val (.int yb), .val (.int i), .val (.int j), .val (.int xa), .val (.int xa), .val (.int ln), .val (.int ix), .val (.ref aKc17)] [(.int xa), (.int c)])) (fun t_ kt_ => XS.iload XKc20.here hx rfl (hb hby at_85) rfl kt_) ?_
    refine own_goS (T' := TKc20) (g' := (mkF mI 89 #[.val (.int xa), .val (.int yb), .val (.int i), .val (.int j), .val (.int xa), .val (.int xa), .val (.int ln), .val (.int ix), .val (.ref aKc17)] [(.int xa), (.int xa), (.int c)])) (fun t_ kt_ => XS.iload XKc20.here hx rfl (hb hby at_87) rfl kt_) ?_
    refine own_goS (T' := TKc20) (g' := (mkF mI 91 #[.val (.int xa), .val (.int yb), .val (.int i), .val (.int j), .val (.int xa), .val (.int xa), .val (.int ln), .val (.int ix), .val (.ref aKc17)] [(.int ix), (.int xa), (.int xa), (.int c)])) (fun t_ kt_ => XS.iload XKc20.here hx rfl (hb hby at_89) rfl kt_) ?_
    refine own_callSS XKc20 hx hZ (y := (⟨"com/example/planfold/planfold/rules/FiguresYearSpanPinLaw", "expectedChar", "(III)C"⟩ : MethodName)) hown (hw _ (List.mem_of_getElem? (i := 73) rfl)) (hw _ (List.mem_of_getElem? (i := 74) rfl)) (by decide) (rl_ec l Z a0 hw [] TKc17.heap n0 OKc17 cs Scs hcs fo hfo Sfo hEL hStr ZKc17 xa xa ix c hx0 hc hcn hcm) (hw _ (List.mem_of_getElem? (i := 75) rfl)) (hw _ (List.mem_of_getElem? (i := 2) rfl)) eKc20 hS hk hEL CKc17 (pc := 91) (Ls := #[.val (.int xa), .val (.int yb), .val (.int i), .val (.int j), .val (.int xa), .val (.int xa), .val (.int ln), .val (.int ix), .val (.ref aKc17)]) (argsL := [(.int xa), (.int xa), (.int ix)]) (rest := [(.int c)]) (by rw [hml]; rfl) (lenOf pd_31 rfl) (W := 1) (Nat.le_of_eq rfl) (by decide) (by decide) (by decide) (by decide) (hb hby at_91) rfl rfl ?_
    intro TKc21 LKc21 vKc21 vmKc21 k1Kc21 XKc21 hQKc21 hS hk hZ hown CKc21
    obtain ⟨rfl, NKc21, KKc21⟩ := hQKc21
    have OKc21 : Old Z n0 TKc21.heap := OKc17.keep KKc21 all0
    have ZKc21 : n0 ≤ TKc21.heap.size := Nat.le_trans ZKc17 KKc21.1
    have NKc21a := Fr.app NKc20z NKc21
    show own_EndsS _ _ pP eE bB sS _ _ TKc21 (mkF mI 94 #[.val (.int xa), .val (.int yb), .val (.int i), .val (.int j), .val (.int xa), .val (.int xa), .val (.int ln), .val (.int ix), .val (.ref aKc17)] [(.int c), (.int c)])
    refine own_goS (T' := TKc21) (g' := (mkF mI 97 #[.val (.int xa), .val (.int yb), .val (.int i), .val (.int j), .val (.int xa), .val (.int xa), .val (.int ln), .val (.int ix), .val (.ref aKc17)] [])) (fun t_ kt_ => XS.icmpNo XKc21.here hx rfl (hb hby at_94) rfl (teq (rfl : c = c)).2 kt_) ?_
    refine own_goS (T' := TKc21) (g' := (mkF mI 98 #[.val (.int xa), .val (.int yb), .val (.int i), .val (.int j), .val (.int xa), .val (.int xa), .val (.int ln), .val (.int ix), .val (.ref aKc17)] [(.int (1 : Int32))])) (fun t_ kt_ => XS.iconst XKc21.here hx rfl (hb hby at_97) kt_) ?_
    refine own_goS (T' := TKc21) (g' := (mkF mI 102 #[.val (.int xa), .val (.int yb), .val (.int i), .val (.int j), .val (.int xa), .val (.int xa), .val (.int ln), .val (.int ix), .val (.ref aKc17)] [(.int (1 : Int32))])) (fun t_ kt_ => XS.goto XKc21.here hx rfl (pc0 := 98) (pc' := 102) rfl (hb hby at_98) (by decide) (by decide) kt_) ?_
    refine own_leaveS XKc21 hlk (some (.int (nar .boolean (1 : Int32)))) (fun h => by rw [hret] at h; cases h) hS rfl hk hZ hEL CKc21 (by decide) (by decide) ?_ (fun fs hr => retN XKc21 hx (t := .boolean) hret (by simp) (hb hby at_102) hr)
    exact ⟨rfl, NKc21a⟩
set_option maxRecDepth 65536 in
set_option maxHeartbeats 40000000 in
theorem comes_1 {Post : Tables → Env → Array Value → State → Outcome → State → Prop} (hpost : ∀ tb e args s v u, (limb_1_1.after args s (.returned v) u = true ∧ limb_1_2.after args s (.returned v) u = true ∧ True) → ReturnedEndW s (.returned v) u (Jvm.fieldLocs frame_1_writes args s ++ Jvm.arrayLocs frame_1_arrays args s ++ Jvm.staticLocs frame_1_statics s) 24 2368 → Post tb e args s (.returned v) u) :
    ArmFor flags0 classFile x code maxLocals ret World_1 tables_1 room_1 Calls_1 rest_1 Pre_1 Post := by
  intro l hfl _ _ p e ha hc hk s m args below hf hA hF happ hP
  obtain ⟨hcalls, hrest, hpre⟩ := hP
  obtain ⟨-, -, -, hnamed, -, -, -, hat⟩ := (Spec.applies_iff hf).mp happ
  obtain ⟨hg, hn⟩ := and_e (Cond.before_iff.mp (show (Jvm.Cond.and given_1 narrow_1).before args s = true from hpre))
  obtain ⟨hg0, hgr0⟩ := and_e hg
  obtain ⟨hg1, hgr1⟩ := and_e hgr0
  obtain ⟨hg2, hgr2⟩ := and_e hgr1
  obtain ⟨hg3, hgr3⟩ := and_e hgr2
  obtain ⟨w0, w1, w2, w3, rfl⟩ : ∃ w0 w1 w2 w3 : Value, args = #[w0, w1, w2, w3] := by
    have hs : args.size = 4 := by simpa [Cond.value, given_1] using hg0
    obtain ⟨L⟩ := args
    match L, hs with
    | [w0, w1, w2, w3], _ => exact ⟨w0, w1, w2, w3, rfl⟩
  have hw := fun d (hd : d ∈ tables_1) => atoms_spec (ws := Jvm.Cond.code x code maxLocals ret :: tables_1) hat d (List.mem_cons_of_mem _ hd)
  have hfit : Fit s := fun {y c} hc i hi => by
    obtain ⟨ha, rfl⟩ := Array.getElem?_eq_some_iff.mp hc
    have q := List.all_eq_true.mp ((Array.all_eq_true_iff_forall_mem.mp hF) _ (Array.getElem_mem ha)) i (List.mem_range.mpr hi)
    simpa [Array.getElem?_eq_getElem hi] using q
  obtain ⟨hsets, hown0⟩ := atoms_of _ (rest_1_c_eq ▸ (show rest_1_c.before _ s = true from hrest))
  obtain ⟨i0, ei0⟩ := is_v hg1
  obtain rfl : w0 = (.int i0) := Option.some.inj ei0
  obtain ⟨i1, ei1⟩ := is_v hg2
  obtain rfl : w1 = (.int i1) := Option.some.inj ei1
  obtain ⟨i2, ei2⟩ := is_v hg3
  obtain rfl : w2 = (.int i2) := Option.some.inj ei2
  obtain ⟨i3, ei3⟩ := is_v hgr3
  obtain rfl : w3 = (.int i3) := Option.some.inj ei3
  have c0 := Cond.before_iff.mp (hsets _ (List.mem_of_getElem? (i := 1) rfl))
  obtain ⟨cs, ev_cs⟩ := is_v c0
  have S_cs := Sta.start ev_cs (Or.inl (hsets _ (List.mem_of_getElem? (i := 0) rfl)))
  have hcs : ¬ cs = 0 := fun q => by
    have w := Cond.before_iff.mp (hsets _ (List.mem_of_getElem? (i := 2) rfl))
    have w2 := not_v w
    rw [eq_i ev_cs (Term.int_eval (0)) (by rw [q])] at w2
    cases w2
  obtain ⟨fo, ev_fo, hfo⟩ := isR_v (Cond.before_iff.mp (hsets _ (List.mem_of_getElem? (i := 8) rfl)))
  have S_fo := Sta.start ev_fo (Or.inl (hsets _ (List.mem_of_getElem? (i := 7) rfl)))
  obtain ⟨sT, d1, d2, D1, D2, TB⟩ := own_tb (hsets _ (List.mem_of_getElem? (i := 9) rfl)) (hw _ (List.mem_of_getElem? (i := 22) rfl)) (hsets _ (List.mem_of_getElem? (i := 10) rfl)) (hsets _ (List.mem_of_getElem? (i := 12) rfl)) (hsets _ (List.mem_of_getElem? (i := 13) rfl)) (hsets _ (List.mem_of_getElem? (i := 14) rfl)) (hsets _ (List.mem_of_getElem? (i := 15) rfl)) (hsets _ (List.mem_of_getElem? (i := 17) rfl)) (hsets _ (List.mem_of_getElem? (i := 18) rfl)) (hsets _ (List.mem_of_getElem? (i := 19) rfl))
  have hEL : EW s _ [("com/example/planfold/planfold/rules/Figures", 115), ("com/example/planfold/planfold/rules/FiguresYearSpanPinLaw", 42)] := EW.cons (hw _ (List.mem_of_getElem? (i := 134) rfl)) (by decide) (EW.cons (hw _ (List.mem_of_getElem? (i := 208) rfl)) (by decide) EW.nil)
  have hCH : CHv s [("com/example/planfold/planfold/rules/Figures", 115), ("com/example/planfold/planfold/rules/FiguresYearSpanPinLaw", 42)] s.vm s.heap := CHv.start hEL (fun p hp => hcalls.1 p hp) (hsets _ (List.mem_of_getElem? (i := 2) rfl)) (hw _ (List.mem_of_getElem? (i := 22) rfl)) (hw _ (List.mem_of_getElem? (i := 28) rfl))
  have hStr : ∀ a ∈ Bundle.stringAtoms, a.before _ s = true := fun a ha => by
    simp only [Bundle.stringAtoms, Bundle.sN, List.mem_cons, List.not_mem_nil, or_false] at ha
    rcases ha with rfl | rfl | rfl | rfl | rfl | rfl | rfl
    · exact (hw _ (List.mem_of_getElem? (i := 21) rfl))
    · exact (hw _ (List.mem_of_getElem? (i := 28) rfl))
    · exact (hw _ (List.mem_of_getElem? (i := 22) rfl))
    · exact (hw _ (List.mem_of_getElem? (i := 37) rfl))
    · exact (hw _ (List.mem_of_getElem? (i := 39) rfl))
    · exact (hw _ (List.mem_of_getElem? (i := 135) rfl))
    · exact (hw _ (List.mem_of_getElem? (i := 136) rfl))
  obtain ⟨n, o, h1, h2, h3, _, L, rfl, ⟨rfl, N⟩, -, hq⟩ := rm0 l s _ hw tables_1 s.heap s.heap.size (Old.start s) cs S_cs hcs fo hfo S_fo hEL hStr (Nat.le_refl _) i0 i1 i2 i3 sT d1 d2 D1 D2 TB p e ha hc hk s m _ below hf ((Spec.applies_iff_loose hf).mp happ).1 ⟨rfl, State.Warmed39.refl s, rfl, hCH⟩ trivial
  exact ⟨n, _, h1, h2, h3, hpost _ _ _ _ _ _ ⟨Cond.after_iff.mpr rfl, Cond.after_iff.mpr (eq_i res_at (Term.int_eval (1)) rfl), trivial⟩ ⟨hq.1, hq.2.1, hq.2.2.1, (hq.2.2.2.sift fun y hy => Or.inr (N y hy)).mono (by decide) (by decide)⟩⟩
theorem main_1_1 : Claimed_1_1 := comes_1 fun _ _ _ _ _ _ h hF => ⟨h.1, hF⟩
theorem main_1_2 : Claimed_1_2 := comes_1 fun _ _ _ _ _ _ h hF => ⟨h.2.1, hF⟩
end Jvm.Pilot.@@N@@
namespace Jvm.Pilot.@@N@@
open Jvm Jvm.ClassFile Sem Op Lib Jvm.Free Jvm.Stand Jvm.Pilot.@@N@@.Jvm.D
/-! MADE BY PROGRAM (witnessworld.py) out of the Statement's table words and the real class files: 27 classes; the members and pool entries that the words name. The judged class is class 1, her method 6. -/
namespace start1
open Jvm.ClassFile
def u (s : String) : CpInfo := .utf8 (stringToUtf16 s)
/-- a pool by its gaps: so many unusable entries, then the entry; so many at the end -/
def gap : Nat → List CpInfo → List CpInfo
  | 0, r => r
  | n + 1, r => .unusable :: gap n r
def poolList (es : List (Nat × CpInfo)) (last : Nat) : List CpInfo := es.foldr (fun e r => gap e.1 (e.2 :: r)) (gap last [])
def pool (es : List (Nat × CpInfo)) (last : Nat) : Array CpInfo := ⟨poolList es last⟩
def fileOf (pool : Array CpInfo) (this : Nat) (attrs : Array Attribute := #[]) (ms : Array MethodInfo := #[]) (fl : Nat := 33) (sup : Nat := 0) (ifs : Array Nat := #[]) (fds : Array FieldInfo := #[]) : ClassFile where
  minorVersion := 0
  majorVersion := 65
  constantPool := pool
  accessFlags := fl
  thisClass := this
  superClass := sup
  interfaces := ifs
  fields := fds
  methods := ms
  attributes := attrs
def plain (name : String) (sup : Option ClassId) : Class where
  name := name
  kind := .ordinary
  loader := none
  accessFlags := 33
  super := sup
  interfaces := #[]
  cf := none
  fields := #[]
  methods := #[]
  instanceTypes := #[]
  staticTypes := #[]
  resolved := #[]
  callSites := []
  init := .initialized
  statics := none
  mirror := none

def pool0 : Array CpInfo := pool [(5, u "<init>"), (0, u "()V"), (1, .class_ 10), (1, u "java/lang/Object"), (85, u "clone"), (0, u "()Ljava/lang/Object;")] 26

def k0c0 : Code := { maxStack := 0, maxLocals := 1, code := object_method_1_code, exceptionTable := #[], attributes := #[] }
def k0m0 : Method := { name := "<init>", desc := "()V", sig := { parameters := [], returnType := none }, accessFlags := 1, code := some k0c0 }
def k0m1 : Method := { name := "clone", desc := "()Ljava/lang/Object;", sig := { parameters := [], returnType := some (.object "java/lang/Object") }, accessFlags := 260, code := none }
/-- java/lang/Object -/
def k0 : Class := { plain "java/lang/Object" none with
  accessFlags := 33
  interfaces := #[]
  cf := some (fileOf pool0 8 #[] #[{ accessFlags := 1, nameIndex := 5, descriptorIndex := 6, attributes := #[] }, { accessFlags := 260, nameIndex := 96, descriptorIndex := 97, attributes := #[] }] 33 0 #[] #[])
  fields := #[]
  methods := #[k0m0, k0m1]
  instanceTypes := #[]
  staticTypes := #[]
  resolved := Array.replicate 124 none
  statics := none }

def pool1 : Array CpInfo := pool [(2, .class_ 4), (1, u "java/lang/Object"), (0, u "<init>"), (0, u "()V"), (0, .long 10), (1, .long 100), (1, .long 1000), (1, .long 10000), (1, .long 100000), (1, .long 1000000), (1, .long 10000000), (1, .long 100000000), (1, .long 1000000000), (1, .methodref 26 27), (0, .class_ 28), (0, .nameAndType 29 30), (0, u "com/example/planfold/planfold/rules/FiguresYearSpanPinLaw"), (0, u "digitCount"), (0, u "(J)I"), (0, .methodref 26 32), (0, .nameAndType 33 34), (0, u "pow10"), (0, u "(I)J"), (0, .methodref 26 36), (0, .nameAndType 37 38), (0, u "decChar"), (0, u "(JI)C"), (0, .methodref 26 40), (0, .nameAndType 41 30), (0, u "decLen"), (0, .string 43), (0, u " through "), (0, .methodref 45 46), (0, .class_ 47), (0, .nameAndType 48 49), (0, u "java/lang/String"), (0, u "charAt"), (0, u "(I)C"), (0, .integer 2147483647), (0, .methodref 52 53), (0, .class_ 54), (0, .nameAndType 55 56), (0, u "com/example/planfold/planfold/rules/Figures"), (0, u "yearSpan"), (0, u "(II)Ljava/lang/String;"), (0, .methodref 45 58), (0, .nameAndType 59 60), (0, u "length"), (0, u "()I"), (0, .methodref 26 62), (0, .nameAndType 63 64), (0, u "expectedChar"), (0, u "(III)C"), (3, u "law"), (0, u "(IIII)Z")] 2

def k1m0 : Method := { name := "<init>", desc := "()V", sig := { parameters := [], returnType := none }, accessFlags := 1, code := none }
def k1c1 : Code := { maxStack := 5, maxLocals := 2, code := method_2_code, exceptionTable := #[], attributes := #[] }
def k1m1 : Method := { name := "pow10", desc := "(I)J", sig := { parameters := [.int], returnType := some .long }, accessFlags := 10, code := some k1c1 }
def k1c2 : Code := { maxStack := 4, maxLocals := 2, code := method_3_code, exceptionTable := #[], attributes := #[] }
def k1m2 : Method := { name := "digitCount", desc := "(J)I", sig := { parameters := [.long], returnType := some .int }, accessFlags := 10, code := some k1c2 }
def k1c3 : Code := { maxStack := 4, maxLocals := 4, code := method_4_code, exceptionTable := #[], attributes := #[] }
def k1m3 : Method := { name := "decLen", desc := "(J)I", sig := { parameters := [.long], returnType := some .int }, accessFlags := 10, code := some k1c3 }
def k1c4 : Code := { maxStack := 5, maxLocals := 10, code := method_5_code, exceptionTable := #[], attributes := #[] }
def k1m4 : Method := { name := "decChar", desc := "(JI)C", sig := { parameters := [.long, .int], returnType := some .char }, accessFlags := 10, code := some k1c4 }
def k1c5 : Code := { maxStack := 4, maxLocals := 4, code := method_6_code, exceptionTable := #[], attributes := #[] }
def k1m5 : Method := { name := "expectedChar", desc := "(III)C", sig := { parameters := [.int, .int, .int], returnType := some .char }, accessFlags := 10, code := some k1c5 }
def k1c6 : Code := { maxStack := 4, maxLocals := 9, code := code, exceptionTable := #[], attributes := #[] }
def k1m6 : Method := { name := "law", desc := "(IIII)Z", sig := { parameters := [.int, .int, .int, .int], returnType := some .boolean }, accessFlags := 9, code := some k1c6 }
/-- com/example/planfold/planfold/rules/FiguresYearSpanPinLaw -/
def k1 : Class := { plain "com/example/planfold/planfold/rules/FiguresYearSpanPinLaw" (some 0) with
  accessFlags := 49
  interfaces := #[]
  cf := some (fileOf pool1 26 #[] #[{ accessFlags := 1, nameIndex := 5, descriptorIndex := 6, attributes := #[] }, { accessFlags := 10, nameIndex := 33, descriptorIndex := 34, attributes := #[] }, { accessFlags := 10, nameIndex := 29, descriptorIndex := 30, attributes := #[] }, { accessFlags := 10, nameIndex := 41, descriptorIndex := 30, attributes := #[] }, { accessFlags := 10, nameIndex := 37, descriptorIndex := 38, attributes := #[] }, { accessFlags := 10, nameIndex := 63, descriptorIndex := 64, attributes := #[] }, { accessFlags := 9, nameIndex := 68, descriptorIndex := 69, attributes := #[] }] 49 2 #[] #[])
  fields := #[]
  methods := #[k1m0, k1m1, k1m2, k1m3, k1m4, k1m5, k1m6]
  instanceTypes := #[]
  staticTypes := #[]
  resolved := Array.replicate 72 none
  statics := none }

def pool2 : Array CpInfo := pool [(2, .class_ 4), (0, .nameAndType 5 6), (0, u "java/lang/Object"), (0, u "<init>"), (0, u "()V"), (4, .class_ 13), (1, u "com/example/planfold/planfold/rules/Figures"), (0, u "figures"), (0, u "Ljava/util/Map;"), (18, .nameAndType 36 37), (1, u "toString"), (0, u "()Ljava/lang/String;"), (5, .class_ 44), (0, u "java/lang/StringBuilder"), (0, .methodref 43 3), (2, .methodref 43 49), (0, .nameAndType 50 51), (0, u "append"), (0, u "(Ljava/lang/String;)Ljava/lang/StringBuilder;"), (0, .methodref 43 53), (0, .nameAndType 50 54), (0, u "(I)Ljava/lang/StringBuilder;"), (0, .methodref 43 34), (54, .methodref 111 112), (0, .class_ 113), (0, .nameAndType 36 114), (0, u "java/lang/Integer"), (0, u "(I)Ljava/lang/String;"), (0, .string 116), (0, u " through "), (40, .class_ 158), (0, u "com/example/planfold/planfold/rules/Figures$Figure"), (94, u "yearSpan"), (0, u "(II)Ljava/lang/String;")] 12

def k2m0 : Method := { name := "<init>", desc := "()V", sig := { parameters := [], returnType := none }, accessFlags := 1, code := none }
def k2c1 : Code := { maxStack := 2, maxLocals := 2, code := prog_15_method_11_code, exceptionTable := #[], attributes := #[] }
def k2m1 : Method := { name := "yearSpan", desc := "(II)Ljava/lang/String;", sig := { parameters := [.int, .int], returnType := some (.object "java/lang/String") }, accessFlags := 9, code := some k2c1 }
/-- com/example/planfold/planfold/rules/Figures -/
def k2 : Class := { plain "com/example/planfold/planfold/rules/Figures" (some 0) with
  accessFlags := 49
  interfaces := #[]
  cf := some (fileOf pool2 11 #[.nestMembers #[157]] #[{ accessFlags := 1, nameIndex := 5, descriptorIndex := 6, attributes := #[] }, { accessFlags := 9, nameIndex := 253, descriptorIndex := 254, attributes := #[] }] 49 2 #[] #[{ accessFlags := 18, nameIndex := 14, descriptorIndex := 15, attributes := #[] }])
  fields := #[{ name := "figures", type := (.object "java/util/Map"), accessFlags := 18, slot := 0, constantValue := 0 }]
  methods := #[k2m0, k2m1]
  instanceTypes := #[(.object "java/util/Map")]
  staticTypes := #[]
  resolved := Array.replicate 267 none
  statics := none }

def pool3 : Array CpInfo := pool [(1, .class_ 2), (0, u "java/io/Serializable"), (0, .class_ 4), (0, u "java/lang/Object")] 2

/-- java/io/Serializable -/
def k3 : Class := { plain "java/io/Serializable" (some 0) with
  accessFlags := 1537
  interfaces := #[]
  cf := some (fileOf pool3 1 #[] #[] 1537 3 #[] #[])
  fields := #[]
  methods := #[]
  instanceTypes := #[]
  staticTypes := #[]
  resolved := Array.replicate 7 none
  statics := none }

def pool4 : Array CpInfo := pool [(2, .class_ 4), (1, u "java/lang/Object"), (0, u "<init>"), (0, u "()V"), (1, .class_ 10), (1, u "java/lang/Number"), (2, .class_ 14), (0, u "java/io/Serializable"), (0, u "serialVersionUID"), (0, u "J")] 20

def k4m0 : Method := { name := "<init>", desc := "()V", sig := { parameters := [], returnType := none }, accessFlags := 1, code := none }
/-- java/lang/Number -/
def k4 : Class := { plain "java/lang/Number" (some 0) with
  accessFlags := 1057
  interfaces := #[3]
  cf := some (fileOf pool4 8 #[] #[{ accessFlags := 1, nameIndex := 5, descriptorIndex := 6, attributes := #[] }] 1057 2 #[13] #[{ accessFlags := 26, nameIndex := 15, descriptorIndex := 16, attributes := #[] }])
  fields := #[{ name := "serialVersionUID", type := .long, accessFlags := 26, slot := 0, constantValue := 0 }]
  methods := #[k4m0]
  instanceTypes := #[]
  staticTypes := #[.long]
  resolved := Array.replicate 37 none
  statics := none }

def pool5 : Array CpInfo := pool [(1, .class_ 2), (0, u "java/lang/Comparable"), (0, .class_ 4), (0, u "java/lang/Object")] 7

/-- java/lang/Comparable -/
def k5 : Class := { plain "java/lang/Comparable" (some 0) with
  accessFlags := 1537
  interfaces := #[]
  cf := some (fileOf pool5 1 #[] #[] 1537 3 #[] #[])
  fields := #[]
  methods := #[]
  instanceTypes := #[]
  staticTypes := #[]
  resolved := Array.replicate 12 none
  statics := none }

def pool6 : Array CpInfo := pool [(1, .class_ 2), (0, u "java/lang/constant/Constable"), (0, .class_ 4), (0, u "java/lang/Object")] 6

/-- java/lang/constant/Constable -/
def k6 : Class := { plain "java/lang/constant/Constable" (some 0) with
  accessFlags := 1537
  interfaces := #[]
  cf := some (fileOf pool6 1 #[] #[] 1537 3 #[] #[])
  fields := #[]
  methods := #[]
  instanceTypes := #[]
  staticTypes := #[]
  resolved := Array.replicate 11 none
  statics := none }

def pool7 : Array CpInfo := pool [(1, .class_ 2), (0, u "java/lang/constant/ConstantDesc"), (0, .class_ 4), (0, u "java/lang/Object")] 32

/-- java/lang/constant/ConstantDesc -/
def k7 : Class := { plain "java/lang/constant/ConstantDesc" (some 0) with
  accessFlags := 1537
  interfaces := #[]
  cf := some (fileOf pool7 1 #[] #[] 1537 3 #[] #[])
  fields := #[]
  methods := #[]
  instanceTypes := #[]
  staticTypes := #[]
  resolved := Array.replicate 37 none
  statics := none }

def pool8 : Array CpInfo := pool [(1, .class_ 2), (0, u "java/lang/Integer"), (2, .class_ 6), (0, u "java/lang/String"), (4, u "toString"), (0, u "(I)Ljava/lang/String;"), (0, .fieldref 5 14), (0, .nameAndType 15 16), (0, u "COMPACT_STRINGS"), (0, u "Z"), (2, u "digits"), (0, u "[C"), (33, u "(I)I"), (10, .methodref 5 66), (0, .nameAndType 67 68), (0, u "<init>"), (0, u "([BB)V"), (3, .methodref 1 73), (0, .nameAndType 74 54), (0, u "stringSize"), (0, .methodref 1 76), (0, .nameAndType 77 78), (0, u "getChars"), (0, u "(II[B)I"), (4, .fieldref 1 84), (0, .nameAndType 85 86), (0, u "DigitOnes"), (0, u "[B"), (0, .fieldref 1 88), (0, .nameAndType 89 86), (0, u "DigitTens"), (99, .class_ 190), (0, u "java/lang/Integer$IntegerCache"), (3, u "I"), (8, .class_ 204), (0, u "java/lang/Number"), (2, u "value"), (94, u "TYPE"), (0, u "Ljava/lang/Class;"), (0, .class_ 305), (0, u "java/lang/Comparable"), (0, .class_ 307), (0, u "java/lang/constant/Constable"), (0, .class_ 309), (0, u "java/lang/constant/ConstantDesc"), (0, u "MIN_VALUE"), (1, u "MAX_VALUE"), (3, u "SIZE"), (1, u "BYTES"), (1, u "serialVersionUID"), (0, u "J")] 131

def k8c0 : Code := { maxStack := 4, maxLocals := 3, code := jdk_33_method_10_code, exceptionTable := #[], attributes := #[] }
def k8m0 : Method := { name := "toString", desc := "(I)Ljava/lang/String;", sig := { parameters := [.int], returnType := some (.object "java/lang/String") }, accessFlags := 9, code := some k8c0 }
def k8c1 : Code := { maxStack := 4, maxLocals := 7, code := jdk_33_method_12_code, exceptionTable := #[], attributes := #[] }
def k8m1 : Method := { name := "getChars", desc := "(II[B)I", sig := { parameters := [.int, .int, (.array .byte)], returnType := some .int }, accessFlags := 8, code := some k8c1 }
def k8c2 : Code := { maxStack := 2, maxLocals := 4, code := jdk_33_method_13_code, exceptionTable := #[], attributes := #[] }
def k8m2 : Method := { name := "stringSize", desc := "(I)I", sig := { parameters := [.int], returnType := some .int }, accessFlags := 8, code := some k8c2 }
/-- java/lang/Integer -/
def k8 : Class := { plain "java/lang/Integer" (some 4) with
  accessFlags := 49
  interfaces := #[5, 6, 7]
  cf := some (fileOf pool8 1 #[.nestMembers #[189]] #[{ accessFlags := 9, nameIndex := 11, descriptorIndex := 12, attributes := #[] }, { accessFlags := 8, nameIndex := 77, descriptorIndex := 78, attributes := #[] }, { accessFlags := 8, nameIndex := 74, descriptorIndex := 54, attributes := #[] }] 49 203 #[304, 306, 308] #[{ accessFlags := 25, nameIndex := 310, descriptorIndex := 194, attributes := #[] }, { accessFlags := 25, nameIndex := 312, descriptorIndex := 194, attributes := #[] }, { accessFlags := 25, nameIndex := 302, descriptorIndex := 303, attributes := #[] }, { accessFlags := 24, nameIndex := 19, descriptorIndex := 20, attributes := #[] }, { accessFlags := 24, nameIndex := 89, descriptorIndex := 86, attributes := #[] }, { accessFlags := 24, nameIndex := 85, descriptorIndex := 86, attributes := #[] }, { accessFlags := 18, nameIndex := 207, descriptorIndex := 194, attributes := #[] }, { accessFlags := 25, nameIndex := 316, descriptorIndex := 194, attributes := #[] }, { accessFlags := 25, nameIndex := 318, descriptorIndex := 194, attributes := #[] }, { accessFlags := 26, nameIndex := 320, descriptorIndex := 321, attributes := #[] }])
  fields := #[{ name := "MIN_VALUE", type := .int, accessFlags := 25, slot := 0, constantValue := 0 }, { name := "MAX_VALUE", type := .int, accessFlags := 25, slot := 1, constantValue := 0 }, { name := "TYPE", type := (.object "java/lang/Class"), accessFlags := 25, slot := 2, constantValue := 0 }, { name := "digits", type := (.array .char), accessFlags := 24, slot := 3, constantValue := 0 }, { name := "DigitTens", type := (.array .byte), accessFlags := 24, slot := 4, constantValue := 0 }, { name := "DigitOnes", type := (.array .byte), accessFlags := 24, slot := 5, constantValue := 0 }, { name := "value", type := .int, accessFlags := 18, slot := 0, constantValue := 0 }, { name := "SIZE", type := .int, accessFlags := 25, slot := 6, constantValue := 0 }, { name := "BYTES", type := .int, accessFlags := 25, slot := 7, constantValue := 0 }, { name := "serialVersionUID", type := .long, accessFlags := 26, slot := 8, constantValue := 0 }]
  methods := #[k8m0, k8m1, k8m2]
  instanceTypes := #[.int]
  staticTypes := #[.int, .int, (.object "java/lang/Class"), (.array .char), (.array .byte), (.array .byte), .int, .int, .long]
  resolved := Array.replicate 453 none
  statics := some 0 }

def pool9 : Array CpInfo := pool [(2, .class_ 4), (1, u "java/lang/CharSequence"), (42, .class_ 48), (0, u "java/lang/CharSequence$1CodePointIterator"), (10, .class_ 60), (0, u "java/lang/CharSequence$1CharIterator"), (5, .class_ 67), (0, u "java/lang/Object")] 63

/-- java/lang/CharSequence -/
def k9 : Class := { plain "java/lang/CharSequence" (some 0) with
  accessFlags := 1537
  interfaces := #[]
  cf := some (fileOf pool9 2 #[.nestMembers #[47, 59]] #[] 1537 66 #[] #[])
  fields := #[]
  methods := #[]
  instanceTypes := #[]
  staticTypes := #[]
  resolved := Array.replicate 131 none
  statics := none }

def pool10 : Array CpInfo := pool [(1, .methodref 2 3), (0, .class_ 4), (0, .nameAndType 5 6), (0, u "java/lang/Object"), (0, u "<init>"), (0, u "()V"), (2, .fieldref 10 11), (0, .class_ 12), (0, .nameAndType 13 14), (0, u "java/lang/String"), (0, u "value"), (0, u "[B"), (0, .fieldref 10 16), (0, .nameAndType 17 18), (0, u "coder"), (0, u "B"), (2, u "hash"), (0, u "I"), (2, u "hashIsZero"), (0, u "Z"), (11, .fieldref 10 39), (0, .nameAndType 40 26), (0, u "COMPACT_STRINGS"), (13, .methodref 55 56), (0, .class_ 57), (0, .nameAndType 58 59), (0, u "java/util/Arrays"), (0, u "copyOfRange"), (0, u "([BII)[B"), (47, .class_ 109), (1, u "java/lang/StringLatin1"), (32, u "()Z"), (50, .class_ 195), (1, u "java/lang/System"), (15, u "([BB)V"), (0, .methodref 193 213), (0, .nameAndType 214 215), (0, u "arraycopy"), (0, u "(Ljava/lang/Object;ILjava/lang/Object;II)V"), (118, u "()I"), (0, .methodref 10 336), (0, .nameAndType 17 337), (0, u "()B"), (2, u "()[B"), (22, u "([BI)C"), (27, u "(II)V"), (35, u "(I)C"), (61, .methodref 10 490), (0, .nameAndType 5 491), (0, u "(Ljava/lang/AbstractStringBuilder;Ljava/lang/Void;)V"), (0, .methodref 10 493), (0, .nameAndType 494 142), (0, u "isLatin1"), (0, .methodref 107 496), (0, .nameAndType 497 363), (0, u "charAt"), (3, u "checkIndex"), (4, .nameAndType 507 334), (0, u "length"), (24, u "getBytes"), (16, .methodref 550 506), (0, .class_ 551), (0, u "java/lang/AbstractStringBuilder"), (0, .methodref 550 553), (0, .nameAndType 554 340), (0, u "getValue"), (20, .class_ 576), (0, u "java/lang/CharSequence"), (22, u "CASE_INSENSITIVE_ORDER"), (0, u "Ljava/util/Comparator;"), (220, u "([BIB)V"), (225, .methodref 550 493), (5, .fieldref 1054 1055), (0, .class_ 1056), (0, .nameAndType 1057 1058), (0, u "jdk/internal/util/Preconditions"), (0, u "SIOOBE_FORMATTER"), (0, u "Ljava/util/function/BiFunction;"), (0, .methodref 1054 1060), (0, .nameAndType 501 1061), (0, u "(IILjava/util/function/BiFunction;)I"), (39, u "serialPersistentFields"), (0, u "[Ljava/io/ObjectStreamField;"), (0, .class_ 1104), (0, u "java/lang/String$CaseInsensitiveComparator"), (1, .class_ 1107), (0, u "java/io/Serializable"), (0, .class_ 1109), (0, u "java/lang/Comparable"), (0, .class_ 1111), (0, u "java/lang/constant/Constable"), (0, .class_ 1113), (0, u "java/lang/constant/ConstantDesc"), (2, u "serialVersionUID"), (0, u "J"), (3, u "REPL"), (0, u "C"), (2, u "LATIN1"), (1, u "UTF16"), (105, u "(Ljava/lang/StringBuilder;)V")] 217

def k10m0 : Method := { name := "<init>", desc := "()V", sig := { parameters := [], returnType := none }, accessFlags := 1, code := none }
def k10c1 : Code := { maxStack := 3, maxLocals := 2, code := jdk_42_method_53_code, exceptionTable := #[], attributes := #[] }
def k10m1 : Method := { name := "<init>", desc := "(Ljava/lang/StringBuilder;)V", sig := { parameters := [(.object "java/lang/StringBuilder")], returnType := none }, accessFlags := 1, code := some k10c1 }
def k10c2 : Code := { maxStack := 2, maxLocals := 1, code := jdk_42_method_54_code, exceptionTable := #[], attributes := #[] }
def k10m2 : Method := { name := "length", desc := "()I", sig := { parameters := [], returnType := some .int }, accessFlags := 1, code := some k10c2 }
def k10c3 : Code := { maxStack := 2, maxLocals := 2, code := jdk_42_method_56_code, exceptionTable := #[], attributes := #[] }
def k10m3 : Method := { name := "charAt", desc := "(I)C", sig := { parameters := [.int], returnType := some .char }, accessFlags := 1, code := some k10c3 }
def k10c4 : Code := { maxStack := 5, maxLocals := 4, code := jdk_42_method_147_code, exceptionTable := #[], attributes := #[] }
def k10m4 : Method := { name := "getBytes", desc := "([BIB)V", sig := { parameters := [(.array .byte), .int, .byte], returnType := none }, accessFlags := 0, code := some k10c4 }
def k10c5 : Code := { maxStack := 5, maxLocals := 5, code := jdk_42_method_150_code, exceptionTable := #[], attributes := #[] }
def k10m5 : Method := { name := "<init>", desc := "(Ljava/lang/AbstractStringBuilder;Ljava/lang/Void;)V", sig := { parameters := [(.object "java/lang/AbstractStringBuilder"), (.object "java/lang/Void")], returnType := none }, accessFlags := 0, code := some k10c5 }
def k10c6 : Code := { maxStack := 2, maxLocals := 3, code := jdk_42_method_151_code, exceptionTable := #[], attributes := #[] }
def k10m6 : Method := { name := "<init>", desc := "([BB)V", sig := { parameters := [(.array .byte), .byte], returnType := none }, accessFlags := 0, code := some k10c6 }
def k10c7 : Code := { maxStack := 1, maxLocals := 1, code := jdk_42_method_152_code, exceptionTable := #[], attributes := #[] }
def k10m7 : Method := { name := "coder", desc := "()B", sig := { parameters := [], returnType := some .byte }, accessFlags := 0, code := some k10c7 }
def k10c8 : Code := { maxStack := 1, maxLocals := 1, code := jdk_42_method_154_code, exceptionTable := #[], attributes := #[] }
def k10m8 : Method := { name := "isLatin1", desc := "()Z", sig := { parameters := [], returnType := some .boolean }, accessFlags := 0, code := some k10c8 }
def k10c9 : Code := { maxStack := 3, maxLocals := 2, code := jdk_42_method_155_code, exceptionTable := #[], attributes := #[] }
def k10m9 : Method := { name := "checkIndex", desc := "(II)V", sig := { parameters := [.int, .int], returnType := none }, accessFlags := 8, code := some k10c9 }
/-- java/lang/String -/
def k10 : Class := { plain "java/lang/String" (some 0) with
  accessFlags := 49
  interfaces := #[3, 5, 9, 6, 7]
  cf := some (fileOf pool10 10 #[.nestMembers #[1103]] #[{ accessFlags := 1, nameIndex := 5, descriptorIndex := 6, attributes := #[] }, { accessFlags := 1, nameIndex := 5, descriptorIndex := 1233, attributes := #[] }, { accessFlags := 1, nameIndex := 507, descriptorIndex := 334, attributes := #[] }, { accessFlags := 1, nameIndex := 497, descriptorIndex := 427, attributes := #[] }, { accessFlags := 0, nameIndex := 532, descriptorIndex := 821, attributes := #[] }, { accessFlags := 0, nameIndex := 5, descriptorIndex := 491, attributes := #[] }, { accessFlags := 0, nameIndex := 5, descriptorIndex := 211, attributes := #[] }, { accessFlags := 0, nameIndex := 17, descriptorIndex := 337, attributes := #[] }, { accessFlags := 0, nameIndex := 494, descriptorIndex := 142, attributes := #[] }, { accessFlags := 8, nameIndex := 501, descriptorIndex := 391, attributes := #[] }] 49 2 #[1106, 1108, 575, 1110, 1112] #[{ accessFlags := 18, nameIndex := 13, descriptorIndex := 14, attributes := #[] }, { accessFlags := 18, nameIndex := 17, descriptorIndex := 18, attributes := #[] }, { accessFlags := 2, nameIndex := 21, descriptorIndex := 22, attributes := #[] }, { accessFlags := 2, nameIndex := 25, descriptorIndex := 26, attributes := #[] }, { accessFlags := 26, nameIndex := 1116, descriptorIndex := 1117, attributes := #[] }, { accessFlags := 24, nameIndex := 40, descriptorIndex := 26, attributes := #[] }, { accessFlags := 26, nameIndex := 1101, descriptorIndex := 1102, attributes := #[] }, { accessFlags := 26, nameIndex := 1121, descriptorIndex := 1122, attributes := #[] }, { accessFlags := 25, nameIndex := 599, descriptorIndex := 600, attributes := #[] }, { accessFlags := 24, nameIndex := 1125, descriptorIndex := 18, attributes := #[] }, { accessFlags := 24, nameIndex := 1127, descriptorIndex := 18, attributes := #[] }])
  fields := #[{ name := "value", type := (.array .byte), accessFlags := 18, slot := 0, constantValue := 0 }, { name := "coder", type := .byte, accessFlags := 18, slot := 1, constantValue := 0 }, { name := "hash", type := .int, accessFlags := 2, slot := 2, constantValue := 0 }, { name := "hashIsZero", type := .boolean, accessFlags := 2, slot := 3, constantValue := 0 }, { name := "serialVersionUID", type := .long, accessFlags := 26, slot := 0, constantValue := 0 }, { name := "COMPACT_STRINGS", type := .boolean, accessFlags := 24, slot := 1, constantValue := 0 }, { name := "serialPersistentFields", type := (.array (.object "java/io/ObjectStreamField")), accessFlags := 26, slot := 2, constantValue := 0 }, { name := "REPL", type := .char, accessFlags := 26, slot := 3, constantValue := 0 }, { name := "CASE_INSENSITIVE_ORDER", type := (.object "java/util/Comparator"), accessFlags := 25, slot := 4, constantValue := 0 }, { name := "LATIN1", type := .byte, accessFlags := 24, slot := 5, constantValue := 0 }, { name := "UTF16", type := .byte, accessFlags := 24, slot := 6, constantValue := 0 }]
  methods := #[k10m0, k10m1, k10m2, k10m3, k10m4, k10m5, k10m6, k10m7, k10m8, k10m9]
  instanceTypes := #[(.array .byte), .byte, .int, .boolean]
  staticTypes := #[.long, .boolean, (.array (.object "java/io/ObjectStreamField")), .char, (.object "java/util/Comparator"), .byte, .byte]
  resolved := Array.replicate 1451 none
  statics := some 1 }

def pool11 : Array CpInfo := pool [(1, .class_ 2), (0, u "java/lang/String"), (1, .class_ 6), (1, u "java/lang/Object"), (0, u "<init>"), (0, u "()V"), (0, .methodref 1 10), (0, .nameAndType 11 12), (0, u "checkIndex"), (0, u "(II)V"), (1, .class_ 16), (1, u "java/lang/StringLatin1"), (36, u "([BI)C"), (67, u "$assertionsDisabled"), (0, u "Z"), (98, .class_ 223), (1, u "java/lang/StringLatin1$LinesSpliterator"), (28, u "charAt"), (137, .class_ 391), (0, u "java/lang/StringLatin1$CharsSpliterator")] 3

def k11m0 : Method := { name := "<init>", desc := "()V", sig := { parameters := [], returnType := none }, accessFlags := 0, code := none }
def k11c1 : Code := { maxStack := 2, maxLocals := 2, code := jdk_43_method_2_code, exceptionTable := #[], attributes := #[] }
def k11m1 : Method := { name := "charAt", desc := "([BI)C", sig := { parameters := [(.array .byte), .int], returnType := some .char }, accessFlags := 9, code := some k11c1 }
/-- java/lang/StringLatin1 -/
def k11 : Class := { plain "java/lang/StringLatin1" (some 0) with
  accessFlags := 48
  interfaces := #[]
  cf := some (fileOf pool11 14 #[.nestMembers #[390, 221]] #[{ accessFlags := 0, nameIndex := 7, descriptorIndex := 8, attributes := #[] }, { accessFlags := 9, nameIndex := 252, descriptorIndex := 53, attributes := #[] }] 48 4 #[] #[{ accessFlags := 4120, nameIndex := 121, descriptorIndex := 122, attributes := #[] }])
  fields := #[{ name := "$assertionsDisabled", type := .boolean, accessFlags := 4120, slot := 0, constantValue := 0 }]
  methods := #[k11m0, k11m1]
  instanceTypes := #[]
  staticTypes := #[.boolean]
  resolved := Array.replicate 395 none
  statics := none }

def pool12 : Array CpInfo := pool [(2, .class_ 4), (1, u "java/lang/Object"), (0, u "<init>"), (0, u "()V"), (17, .class_ 26), (1, u "jdk/internal/util/Preconditions"), (6, u "checkIndex"), (21, .class_ 56), (0, u "jdk/internal/util/Preconditions$4"), (57, .class_ 115), (0, u "jdk/internal/util/Preconditions$1"), (7, u "SIOOBE_FORMATTER"), (0, u "Ljava/util/function/BiFunction;"), (0, .class_ 126), (0, u "jdk/internal/util/Preconditions$2"), (3, u "AIOOBE_FORMATTER"), (0, .class_ 132), (0, u "jdk/internal/util/Preconditions$3"), (3, u "IOOBE_FORMATTER"), (41, u "(IILjava/util/function/BiFunction;)I")] 15

def k12m0 : Method := { name := "<init>", desc := "()V", sig := { parameters := [], returnType := none }, accessFlags := 1, code := none }
def k12c1 : Code := { maxStack := 3, maxLocals := 3, code := jdk_41_method_11_code, exceptionTable := #[], attributes := #[] }
def k12m1 : Method := { name := "checkIndex", desc := "(IILjava/util/function/BiFunction;)I", sig := { parameters := [.int, .int, (.object "java/util/function/BiFunction")], returnType := some .int }, accessFlags := 9, code := some k12c1 }
/-- jdk/internal/util/Preconditions -/
def k12 : Class := { plain "jdk/internal/util/Preconditions" (some 0) with
  accessFlags := 33
  interfaces := #[]
  cf := some (fileOf pool12 24 #[.nestMembers #[55, 131, 125, 114]] #[{ accessFlags := 1, nameIndex := 5, descriptorIndex := 6, attributes := #[] }, { accessFlags := 9, nameIndex := 33, descriptorIndex := 178, attributes := #[] }] 33 2 #[] #[{ accessFlags := 25, nameIndex := 123, descriptorIndex := 124, attributes := #[] }, { accessFlags := 25, nameIndex := 130, descriptorIndex := 124, attributes := #[] }, { accessFlags := 25, nameIndex := 136, descriptorIndex := 124, attributes := #[] }])
  fields := #[{ name := "SIOOBE_FORMATTER", type := (.object "java/util/function/BiFunction"), accessFlags := 25, slot := 0, constantValue := 0 }, { name := "AIOOBE_FORMATTER", type := (.object "java/util/function/BiFunction"), accessFlags := 25, slot := 1, constantValue := 0 }, { name := "IOOBE_FORMATTER", type := (.object "java/util/function/BiFunction"), accessFlags := 25, slot := 2, constantValue := 0 }]
  methods := #[k12m0, k12m1]
  instanceTypes := #[]
  staticTypes := #[(.object "java/util/function/BiFunction"), (.object "java/util/function/BiFunction"), (.object "java/util/function/BiFunction")]
  resolved := Array.replicate 194 none
  statics := some 2 }

def pool13 : Array CpInfo := pool [(1, .class_ 2), (0, u "java/lang/Appendable"), (0, .class_ 4), (0, u "java/lang/Object")] 9

/-- java/lang/Appendable -/
def k13 : Class := { plain "java/lang/Appendable" (some 0) with
  accessFlags := 1537
  interfaces := #[]
  cf := some (fileOf pool13 1 #[] #[] 1537 3 #[] #[])
  fields := #[]
  methods := #[]
  instanceTypes := #[]
  staticTypes := #[]
  resolved := Array.replicate 14 none
  statics := none }

def pool14 : Array CpInfo := pool [(1, .class_ 2), (0, u "java/lang/String"), (0, .methodref 4 5), (0, .class_ 6), (0, .nameAndType 7 8), (0, u "java/lang/Object"), (0, u "<init>"), (0, u "()V"), (1, .class_ 12), (1, u "java/lang/AbstractStringBuilder"), (0, u "EMPTYVALUE"), (0, u "[B"), (0, .fieldref 10 16), (0, .nameAndType 17 14), (0, u "value"), (0, .fieldref 1 19), (0, .nameAndType 20 21), (0, u "COMPACT_STRINGS"), (0, u "Z"), (0, .fieldref 10 23), (0, .nameAndType 24 25), (0, u "coder"), (0, u "B"), (6, .methodref 1 33), (0, .nameAndType 34 35), (0, u "length"), (0, u "()I"), (0, .class_ 37), (0, u "java/lang/Integer"), (1, .integer 2147483647), (0, .methodref 1 41), (0, .nameAndType 24 42), (0, u "()B"), (2, u "append"), (0, u "(Ljava/lang/String;)Ljava/lang/AbstractStringBuilder;"), (1, .class_ 49), (0, u "java/lang/CharSequence"), (19, u "(Ljava/lang/String;)V"), (5, u "maybeLatin1"), (3, .fieldref 10 80), (0, .nameAndType 81 82), (0, u "count"), (0, u "I"), (0, .methodref 10 84), (0, .nameAndType 85 86), (0, u "isLatin1"), (0, u "()Z"), (13, .methodref 10 101), (0, .nameAndType 102 103), (0, u "ensureCapacityInternal"), (0, u "(I)V"), (0, .methodref 10 105), (0, .nameAndType 106 107), (0, u "newCapacity"), (0, u "(I)I"), (0, .methodref 109 110), (0, .class_ 111), (0, .nameAndType 112 113), (0, u "java/util/Arrays"), (0, u "copyOf"), (0, u "([BI)[B"), (0, .methodref 115 116), (0, .class_ 117), (0, .nameAndType 118 119), (0, u "jdk/internal/util/ArraysSupport"), (0, u "newLength"), (0, u "(III)I"), (68, u "getChars"), (19, .methodref 10 209), (0, .nameAndType 210 211), (0, u "putStringAt"), (0, u "(ILjava/lang/String;)V"), (5, u "inflateIfNeededFor"), (2, .nameAndType 221 222), (0, u "getBytes"), (0, u "([BIB)V"), (22, .methodref 36 246), (0, .nameAndType 247 107), (0, u "stringSize"), (0, .methodref 36 249), (0, .nameAndType 188 250), (0, u "(II[B)I"), (146, .methodref 10 398), (0, .nameAndType 217 69), (0, .methodref 1 220), (3, u "()[B"), (40, .class_ 445), (0, u "java/lang/Appendable"), (65, u "(I)Ljava/lang/AbstractStringBuilder;"), (40, u "getValue")] 56

def k14m0 : Method := { name := "<init>", desc := "()V", sig := { parameters := [], returnType := none }, accessFlags := 0, code := none }
def k14c1 : Code := { maxStack := 2, maxLocals := 2, code := jdk_68_method_2_code, exceptionTable := #[], attributes := #[] }
def k14m1 : Method := { name := "<init>", desc := "(I)V", sig := { parameters := [.int], returnType := none }, accessFlags := 0, code := some k14c1 }
def k14c2 : Code := { maxStack := 1, maxLocals := 1, code := jdk_68_method_6_code, exceptionTable := #[], attributes := #[] }
def k14m2 : Method := { name := "length", desc := "()I", sig := { parameters := [], returnType := some .int }, accessFlags := 1, code := some k14c2 }
def k14c3 : Code := { maxStack := 4, maxLocals := 3, code := jdk_68_method_9_code, exceptionTable := #[], attributes := #[] }
def k14m3 : Method := { name := "ensureCapacityInternal", desc := "(I)V", sig := { parameters := [.int], returnType := none }, accessFlags := 2, code := some k14c3 }
def k14c4 : Code := { maxStack := 5, maxLocals := 6, code := jdk_68_method_10_code, exceptionTable := #[], attributes := #[] }
def k14m4 : Method := { name := "newCapacity", desc := "(I)I", sig := { parameters := [.int], returnType := some .int }, accessFlags := 2, code := some k14c4 }
def k14c5 : Code := { maxStack := 3, maxLocals := 3, code := jdk_68_method_22_code, exceptionTable := #[], attributes := #[] }
def k14m5 : Method := { name := "append", desc := "(Ljava/lang/String;)Ljava/lang/AbstractStringBuilder;", sig := { parameters := [(.object "java/lang/String")], returnType := some (.object "java/lang/AbstractStringBuilder") }, accessFlags := 1, code := some k14c5 }
def k14c6 : Code := { maxStack := 4, maxLocals := 4, code := jdk_68_method_32_code, exceptionTable := #[], attributes := #[] }
def k14m6 : Method := { name := "append", desc := "(I)Ljava/lang/AbstractStringBuilder;", sig := { parameters := [.int], returnType := some (.object "java/lang/AbstractStringBuilder") }, accessFlags := 1, code := some k14c6 }
def k14c7 : Code := { maxStack := 1, maxLocals := 1, code := jdk_68_method_64_code, exceptionTable := #[], attributes := #[] }
def k14m7 : Method := { name := "getValue", desc := "()[B", sig := { parameters := [], returnType := some (.array .byte) }, accessFlags := 16, code := some k14c7 }
def k14c8 : Code := { maxStack := 1, maxLocals := 1, code := jdk_68_method_68_code, exceptionTable := #[], attributes := #[] }
def k14m8 : Method := { name := "isLatin1", desc := "()Z", sig := { parameters := [], returnType := some .boolean }, accessFlags := 16, code := some k14c8 }
def k14c9 : Code := { maxStack := 2, maxLocals := 2, code := jdk_68_method_71_code, exceptionTable := #[], attributes := #[] }
def k14m9 : Method := { name := "inflateIfNeededFor", desc := "(Ljava/lang/String;)V", sig := { parameters := [(.object "java/lang/String")], returnType := none }, accessFlags := 2, code := some k14c9 }
def k14c10 : Code := { maxStack := 4, maxLocals := 3, code := jdk_68_method_73_code, exceptionTable := #[], attributes := #[] }
def k14m10 : Method := { name := "putStringAt", desc := "(ILjava/lang/String;)V", sig := { parameters := [.int, (.object "java/lang/String")], returnType := none }, accessFlags := 2, code := some k14c10 }
/-- java/lang/AbstractStringBuilder -/
def k14 : Class := { plain "java/lang/AbstractStringBuilder" (some 0) with
  accessFlags := 1056
  interfaces := #[13, 9]
  cf := some (fileOf pool14 10 #[] #[{ accessFlags := 0, nameIndex := 7, descriptorIndex := 8, attributes := #[] }, { accessFlags := 0, nameIndex := 7, descriptorIndex := 103, attributes := #[] }, { accessFlags := 1, nameIndex := 34, descriptorIndex := 35, attributes := #[] }, { accessFlags := 2, nameIndex := 102, descriptorIndex := 103, attributes := #[] }, { accessFlags := 2, nameIndex := 106, descriptorIndex := 107, attributes := #[] }, { accessFlags := 1, nameIndex := 45, descriptorIndex := 46, attributes := #[] }, { accessFlags := 1, nameIndex := 45, descriptorIndex := 511, attributes := #[] }, { accessFlags := 16, nameIndex := 552, descriptorIndex := 403, attributes := #[] }, { accessFlags := 16, nameIndex := 85, descriptorIndex := 86, attributes := #[] }, { accessFlags := 2, nameIndex := 217, descriptorIndex := 69, attributes := #[] }, { accessFlags := 2, nameIndex := 210, descriptorIndex := 211, attributes := #[] }] 1056 4 #[444, 48] #[{ accessFlags := 0, nameIndex := 17, descriptorIndex := 14, attributes := #[] }, { accessFlags := 0, nameIndex := 24, descriptorIndex := 25, attributes := #[] }, { accessFlags := 0, nameIndex := 75, descriptorIndex := 21, attributes := #[] }, { accessFlags := 0, nameIndex := 81, descriptorIndex := 82, attributes := #[] }, { accessFlags := 26, nameIndex := 13, descriptorIndex := 14, attributes := #[] }])
  fields := #[{ name := "value", type := (.array .byte), accessFlags := 0, slot := 0, constantValue := 0 }, { name := "coder", type := .byte, accessFlags := 0, slot := 1, constantValue := 0 }, { name := "maybeLatin1", type := .boolean, accessFlags := 0, slot := 2, constantValue := 0 }, { name := "count", type := .int, accessFlags := 0, slot := 3, constantValue := 0 }, { name := "EMPTYVALUE", type := (.array .byte), accessFlags := 26, slot := 0, constantValue := 0 }]
  methods := #[k14m0, k14m1, k14m2, k14m3, k14m4, k14m5, k14m6, k14m7, k14m8, k14m9, k14m10]
  instanceTypes := #[(.array .byte), .byte, .boolean, .int]
  staticTypes := #[(.array .byte)]
  resolved := Array.replicate 609 none
  statics := none }

def pool15 : Array CpInfo := pool [(1, .methodref 2 3), (0, .class_ 4), (0, .nameAndType 5 6), (0, u "java/lang/AbstractStringBuilder"), (0, u "<init>"), (0, u "(I)V"), (11, .class_ 20), (1, u "java/lang/String"), (3, .class_ 26), (1, u "java/lang/StringBuilder"), (0, u "append"), (0, u "(Ljava/lang/String;)Ljava/lang/StringBuilder;"), (0, .methodref 2 30), (0, .nameAndType 27 31), (0, u "(Ljava/lang/String;)Ljava/lang/AbstractStringBuilder;"), (21, .methodref 2 54), (0, .nameAndType 27 55), (0, u "(I)Ljava/lang/AbstractStringBuilder;"), (81, .methodref 18 138), (0, .nameAndType 5 139), (0, u "(Ljava/lang/StringBuilder;)V"), (5, u "()V"), (10, u "()I"), (111, u "(I)Ljava/lang/StringBuilder;"), (74, .methodref 2 344), (0, .nameAndType 345 156), (0, u "length"), (3, .class_ 350), (0, u "java/lang/Appendable"), (0, .class_ 352), (0, u "java/io/Serializable"), (0, .class_ 354), (0, u "java/lang/Comparable"), (0, .class_ 356), (0, u "java/lang/CharSequence"), (0, u "serialVersionUID"), (0, u "J"), (40, u "toString"), (0, u "()Ljava/lang/String;")] 21

def k15c0 : Code := { maxStack := 2, maxLocals := 1, code := jdk_67_method_1_code, exceptionTable := #[], attributes := #[] }
def k15m0 : Method := { name := "<init>", desc := "()V", sig := { parameters := [], returnType := none }, accessFlags := 1, code := some k15c0 }
def k15c1 : Code := { maxStack := 2, maxLocals := 2, code := jdk_67_method_7_code, exceptionTable := #[], attributes := #[] }
def k15m1 : Method := { name := "append", desc := "(Ljava/lang/String;)Ljava/lang/StringBuilder;", sig := { parameters := [(.object "java/lang/String")], returnType := some (.object "java/lang/StringBuilder") }, accessFlags := 1, code := some k15c1 }
def k15c2 : Code := { maxStack := 2, maxLocals := 2, code := jdk_67_method_15_code, exceptionTable := #[], attributes := #[] }
def k15m2 : Method := { name := "append", desc := "(I)Ljava/lang/StringBuilder;", sig := { parameters := [.int], returnType := some (.object "java/lang/StringBuilder") }, accessFlags := 1, code := some k15c2 }
def k15c3 : Code := { maxStack := 3, maxLocals := 1, code := jdk_67_method_42_code, exceptionTable := #[], attributes := #[] }
def k15m3 : Method := { name := "toString", desc := "()Ljava/lang/String;", sig := { parameters := [], returnType := some (.object "java/lang/String") }, accessFlags := 1, code := some k15c3 }
def k15c4 : Code := { maxStack := 1, maxLocals := 1, code := jdk_67_method_93_code, exceptionTable := #[], attributes := #[] }
def k15m4 : Method := { name := "length", desc := "()I", sig := { parameters := [], returnType := some .int }, accessFlags := 4161, code := some k15c4 }
/-- java/lang/StringBuilder -/
def k15 : Class := { plain "java/lang/StringBuilder" (some 14) with
  accessFlags := 49
  interfaces := #[13, 3, 5, 9]
  cf := some (fileOf pool15 24 #[] #[{ accessFlags := 1, nameIndex := 5, descriptorIndex := 145, attributes := #[] }, { accessFlags := 1, nameIndex := 27, descriptorIndex := 28, attributes := #[] }, { accessFlags := 1, nameIndex := 27, descriptorIndex := 268, attributes := #[] }, { accessFlags := 1, nameIndex := 399, descriptorIndex := 400, attributes := #[] }, { accessFlags := 4161, nameIndex := 345, descriptorIndex := 156, attributes := #[] }] 49 2 #[349, 351, 353, 355] #[{ accessFlags := 24, nameIndex := 357, descriptorIndex := 358, attributes := #[] }])
  fields := #[{ name := "serialVersionUID", type := .long, accessFlags := 24, slot := 0, constantValue := 0 }]
  methods := #[k15m0, k15m1, k15m2, k15m3, k15m4]
  instanceTypes := #[(.array .byte), .byte, .boolean, .int]
  staticTypes := #[.long]
  resolved := Array.replicate 422 none
  statics := none }

def pool16 : Array CpInfo := pool [(2, .class_ 4), (1, u "java/lang/Object"), (0, u "<init>"), (0, u "()V"), (1, .class_ 10), (1, u "java/lang/System"), (0, u "allowSecurityManager"), (0, u "I"), (16, u "cons"), (0, u "Ljava/io/Console;"), (77, .class_ 110), (1, u "java/lang/System$CallersHolder"), (43, u "initialErrStream"), (0, u "Ljava/io/PrintStream;"), (19, u "security"), (0, u "Ljava/lang/SecurityManager;"), (31, .class_ 209), (0, u "java/lang/System$1"), (7, u "props"), (0, u "Ljava/util/Properties;"), (2, u "lineSeparator"), (0, u "Ljava/lang/String;"), (96, .class_ 321), (1, u "java/lang/System$LoggerFinder"), (5, .class_ 328), (0, u "java/lang/System$Logger"), (67, u "err"), (2, u "out"), (91, u "notSupportedJnuEncoding"), (15, u "in"), (17, u "initialIn"), (0, u "Ljava/io/InputStream;"), (35, u "bootLayer"), (0, u "Ljava/lang/ModuleLayer;"), (99, .class_ 664), (0, u "java/lang/System$2"), (9, u "NEVER"), (2, u "MAYBE"), (49, u "arraycopy"), (0, u "(Ljava/lang/Object;ILjava/lang/Object;II)V"), (72, .class_ 802), (0, u "java/lang/System$Logger$Level")] 31

def k16m0 : Method := { name := "<init>", desc := "()V", sig := { parameters := [], returnType := none }, accessFlags := 2, code := none }
def k16m1 : Method := { name := "arraycopy", desc := "(Ljava/lang/Object;ILjava/lang/Object;II)V", sig := { parameters := [(.object "java/lang/Object"), .int, (.object "java/lang/Object"), .int, .int], returnType := none }, accessFlags := 265, code := none }
/-- java/lang/System -/
def k16 : Class := { plain "java/lang/System" (some 0) with
  accessFlags := 49
  interfaces := #[]
  cf := some (fileOf pool16 8 #[.nestMembers #[319, 327, 801, 108, 663, 208]] #[{ accessFlags := 2, nameIndex := 5, descriptorIndex := 6, attributes := #[] }, { accessFlags := 265, nameIndex := 727, descriptorIndex := 728, attributes := #[] }] 49 2 #[] #[{ accessFlags := 25, nameIndex := 507, descriptorIndex := 526, attributes := #[] }, { accessFlags := 25, nameIndex := 399, descriptorIndex := 155, attributes := #[] }, { accessFlags := 25, nameIndex := 396, descriptorIndex := 155, attributes := #[] }, { accessFlags := 10, nameIndex := 525, descriptorIndex := 526, attributes := #[] }, { accessFlags := 26, nameIndex := 674, descriptorIndex := 12, attributes := #[] }, { accessFlags := 26, nameIndex := 677, descriptorIndex := 12, attributes := #[] }, { accessFlags := 10, nameIndex := 11, descriptorIndex := 12, attributes := #[] }, { accessFlags := 74, nameIndex := 175, descriptorIndex := 176, attributes := #[] }, { accessFlags := 10, nameIndex := 491, descriptorIndex := 222, attributes := #[] }, { accessFlags := 74, nameIndex := 29, descriptorIndex := 30, attributes := #[] }, { accessFlags := 74, nameIndex := 154, descriptorIndex := 155, attributes := #[] }, { accessFlags := 10, nameIndex := 217, descriptorIndex := 218, attributes := #[] }, { accessFlags := 10, nameIndex := 221, descriptorIndex := 222, attributes := #[] }, { accessFlags := 8, nameIndex := 562, descriptorIndex := 563, attributes := #[] }])
  fields := #[{ name := "in", type := (.object "java/io/InputStream"), accessFlags := 25, slot := 0, constantValue := 0 }, { name := "out", type := (.object "java/io/PrintStream"), accessFlags := 25, slot := 1, constantValue := 0 }, { name := "err", type := (.object "java/io/PrintStream"), accessFlags := 25, slot := 2, constantValue := 0 }, { name := "initialIn", type := (.object "java/io/InputStream"), accessFlags := 10, slot := 3, constantValue := 0 }, { name := "NEVER", type := .int, accessFlags := 26, slot := 4, constantValue := 0 }, { name := "MAYBE", type := .int, accessFlags := 26, slot := 5, constantValue := 0 }, { name := "allowSecurityManager", type := .int, accessFlags := 10, slot := 6, constantValue := 0 }, { name := "security", type := (.object "java/lang/SecurityManager"), accessFlags := 74, slot := 7, constantValue := 0 }, { name := "notSupportedJnuEncoding", type := (.object "java/lang/String"), accessFlags := 10, slot := 8, constantValue := 0 }, { name := "cons", type := (.object "java/io/Console"), accessFlags := 74, slot := 9, constantValue := 0 }, { name := "initialErrStream", type := (.object "java/io/PrintStream"), accessFlags := 74, slot := 10, constantValue := 0 }, { name := "props", type := (.object "java/util/Properties"), accessFlags := 10, slot := 11, constantValue := 0 }, { name := "lineSeparator", type := (.object "java/lang/String"), accessFlags := 10, slot := 12, constantValue := 0 }, { name := "bootLayer", type := (.object "java/lang/ModuleLayer"), accessFlags := 8, slot := 13, constantValue := 0 }]
  methods := #[k16m0, k16m1]
  instanceTypes := #[]
  staticTypes := #[(.object "java/io/InputStream"), (.object "java/io/PrintStream"), (.object "java/io/PrintStream"), (.object "java/io/InputStream"), .int, .int, .int, (.object "java/lang/SecurityManager"), (.object "java/lang/String"), (.object "java/io/Console"), (.object "java/io/PrintStream"), (.object "java/util/Properties"), (.object "java/lang/String"), (.object "java/lang/ModuleLayer")]
  resolved := Array.replicate 834 none
  statics := none }

def pool17 : Array CpInfo := pool [(2, .class_ 4), (1, u "java/lang/Object"), (0, u "<init>"), (0, u "()V"), (7, .class_ 16), (1, u "java/util/Arrays"), (57, .class_ 76), (1, u "java/util/Arrays$NaturalOrder"), (32, u "()Ljava/lang/Object;"), (3, .class_ 115), (1, u "java/util/Arrays$LegacyMergeSort"), (1, u "Z"), (10, .nameAndType 129 109), (0, u "clone"), (9, u "copyOfRange"), (10, .methodref 151 152), (0, .class_ 153), (0, .nameAndType 154 155), (0, u "java/lang/System"), (0, u "arraycopy"), (0, u "(Ljava/lang/Object;ILjava/lang/Object;II)V"), (146, u "copyOf"), (1, .methodref 305 306), (0, .class_ 307), (0, .nameAndType 308 309), (0, u "java/lang/Math"), (0, u "min"), (0, u "(II)I"), (0, .methodref 311 128), (0, .class_ 312), (0, u "[B"), (26, .methodref 14 340), (0, .nameAndType 341 342), (0, u "copyOfRangeByte"), (0, u "([BII)[B"), (0, .methodref 14 344), (0, .nameAndType 345 346), (0, u "checkLength"), (0, u "(II)V"), (28, .class_ 376), (0, u "java/util/Arrays$ArrayList"), (68, u "$assertionsDisabled"), (269, u "MIN_ARRAY_SORT_GRAN"), (0, u "I"), (2, u "INSERTIONSORT_THRESHOLD"), (149, u "([BI)[B"), (105, .class_ 976), (0, u "java/util/Arrays$ArrayItr")] 52

def k17m0 : Method := { name := "<init>", desc := "()V", sig := { parameters := [], returnType := none }, accessFlags := 2, code := none }
def k17c1 : Code := { maxStack := 6, maxLocals := 3, code := jdk_65_method_121_code, exceptionTable := #[], attributes := #[] }
def k17m1 : Method := { name := "copyOf", desc := "([BI)[B", sig := { parameters := [(.array .byte), .int], returnType := some (.array .byte) }, accessFlags := 9, code := some k17c1 }
def k17c2 : Code := { maxStack := 4, maxLocals := 2, code := jdk_65_method_131_code, exceptionTable := #[], attributes := #[] }
def k17m2 : Method := { name := "checkLength", desc := "(II)V", sig := { parameters := [.int, .int], returnType := none }, accessFlags := 10, code := some k17c2 }
def k17c3 : Code := { maxStack := 3, maxLocals := 3, code := jdk_65_method_132_code, exceptionTable := #[], attributes := #[] }
def k17m3 : Method := { name := "copyOfRange", desc := "([BII)[B", sig := { parameters := [(.array .byte), .int, .int], returnType := some (.array .byte) }, accessFlags := 9, code := some k17c3 }
def k17c4 : Code := { maxStack := 6, maxLocals := 5, code := jdk_65_method_133_code, exceptionTable := #[], attributes := #[] }
def k17m4 : Method := { name := "copyOfRangeByte", desc := "([BII)[B", sig := { parameters := [(.array .byte), .int, .int], returnType := some (.array .byte) }, accessFlags := 10, code := some k17c4 }
/-- java/util/Arrays -/
def k17 : Class := { plain "java/util/Arrays" (some 0) with
  accessFlags := 49
  interfaces := #[]
  cf := some (fileOf pool17 14 #[.nestMembers #[975, 375, 113, 74]] #[{ accessFlags := 2, nameIndex := 5, descriptorIndex := 6, attributes := #[] }, { accessFlags := 9, nameIndex := 302, descriptorIndex := 869, attributes := #[] }, { accessFlags := 10, nameIndex := 345, descriptorIndex := 346, attributes := #[] }, { accessFlags := 9, nameIndex := 139, descriptorIndex := 342, attributes := #[] }, { accessFlags := 10, nameIndex := 341, descriptorIndex := 342, attributes := #[] }] 49 2 #[] #[{ accessFlags := 26, nameIndex := 715, descriptorIndex := 716, attributes := #[] }, { accessFlags := 26, nameIndex := 719, descriptorIndex := 716, attributes := #[] }, { accessFlags := 4120, nameIndex := 445, descriptorIndex := 117, attributes := #[] }])
  fields := #[{ name := "MIN_ARRAY_SORT_GRAN", type := .int, accessFlags := 26, slot := 0, constantValue := 0 }, { name := "INSERTIONSORT_THRESHOLD", type := .int, accessFlags := 26, slot := 1, constantValue := 0 }, { name := "$assertionsDisabled", type := .boolean, accessFlags := 4120, slot := 2, constantValue := 0 }]
  methods := #[k17m0, k17m1, k17m2, k17m3, k17m4]
  instanceTypes := #[]
  staticTypes := #[.int, .int, .boolean]
  resolved := Array.replicate 1029 none
  statics := none }

def pool18 : Array CpInfo := pool [(1, .class_ 2), (0, u "java/lang/Math"), (1, .class_ 6), (1, u "java/lang/Object"), (0, u "<init>"), (0, u "()V"), (89, .class_ 100), (1, u "java/lang/Math$RandomNumberGeneratorHolder"), (71, u "negativeZeroFloatBits"), (0, u "J"), (2, u "negativeZeroDoubleBits"), (21, u "max"), (2, u "min"), (43, u "$assertionsDisabled"), (0, u "Z"), (88, u "(II)I"), (2, u "twoToTheDoubleScaleDown"), (0, u "D"), (4, u "twoToTheDoubleScaleUp"), (9, u "E"), (3, u "PI"), (2, u "TAU"), (2, u "DEGREES_TO_RADIANS"), (0, u "RADIANS_TO_DEGREES")] 94

def k18m0 : Method := { name := "<init>", desc := "()V", sig := { parameters := [], returnType := none }, accessFlags := 2, code := none }
def k18c1 : Code := { maxStack := 2, maxLocals := 2, code := jdk_29_method_65_code, exceptionTable := #[], attributes := #[] }
def k18m1 : Method := { name := "max", desc := "(II)I", sig := { parameters := [.int, .int], returnType := some .int }, accessFlags := 9, code := some k18c1 }
def k18c2 : Code := { maxStack := 2, maxLocals := 2, code := jdk_29_method_69_code, exceptionTable := #[], attributes := #[] }
def k18m2 : Method := { name := "min", desc := "(II)I", sig := { parameters := [.int, .int], returnType := some .int }, accessFlags := 9, code := some k18c2 }
/-- java/lang/Math -/
def k18 : Class := { plain "java/lang/Math" (some 0) with
  accessFlags := 49
  interfaces := #[]
  cf := some (fileOf pool18 1 #[.nestMembers #[98]] #[{ accessFlags := 2, nameIndex := 7, descriptorIndex := 8, attributes := #[] }, { accessFlags := 9, nameIndex := 198, descriptorIndex := 335, attributes := #[] }, { accessFlags := 9, nameIndex := 201, descriptorIndex := 335, attributes := #[] }] 49 4 #[] #[{ accessFlags := 25, nameIndex := 354, descriptorIndex := 339, attributes := #[] }, { accessFlags := 25, nameIndex := 358, descriptorIndex := 339, attributes := #[] }, { accessFlags := 25, nameIndex := 361, descriptorIndex := 339, attributes := #[] }, { accessFlags := 26, nameIndex := 364, descriptorIndex := 339, attributes := #[] }, { accessFlags := 26, nameIndex := 365, descriptorIndex := 339, attributes := #[] }, { accessFlags := 26, nameIndex := 172, descriptorIndex := 173, attributes := #[] }, { accessFlags := 26, nameIndex := 176, descriptorIndex := 173, attributes := #[] }, { accessFlags := 8, nameIndex := 344, descriptorIndex := 339, attributes := #[] }, { accessFlags := 8, nameIndex := 338, descriptorIndex := 339, attributes := #[] }, { accessFlags := 4120, nameIndex := 245, descriptorIndex := 246, attributes := #[] }])
  fields := #[{ name := "E", type := .double, accessFlags := 25, slot := 0, constantValue := 0 }, { name := "PI", type := .double, accessFlags := 25, slot := 1, constantValue := 0 }, { name := "TAU", type := .double, accessFlags := 25, slot := 2, constantValue := 0 }, { name := "DEGREES_TO_RADIANS", type := .double, accessFlags := 26, slot := 3, constantValue := 0 }, { name := "RADIANS_TO_DEGREES", type := .double, accessFlags := 26, slot := 4, constantValue := 0 }, { name := "negativeZeroFloatBits", type := .long, accessFlags := 26, slot := 5, constantValue := 0 }, { name := "negativeZeroDoubleBits", type := .long, accessFlags := 26, slot := 6, constantValue := 0 }, { name := "twoToTheDoubleScaleUp", type := .double, accessFlags := 8, slot := 7, constantValue := 0 }, { name := "twoToTheDoubleScaleDown", type := .double, accessFlags := 8, slot := 8, constantValue := 0 }, { name := "$assertionsDisabled", type := .boolean, accessFlags := 4120, slot := 9, constantValue := 0 }]
  methods := #[k18m0, k18m1, k18m2]
  instanceTypes := #[]
  staticTypes := #[.double, .double, .double, .double, .double, .long, .long, .double, .double, .boolean]
  resolved := Array.replicate 460 none
  statics := none }

def pool19 : Array CpInfo := pool [(9, u "<init>"), (6, .class_ 18), (1, u "java/lang/Object"), (0, u "()V"), (1, .class_ 23), (1, u "jdk/internal/util/ArraysSupport"), (0, u "LOG2_ARRAY_LONG_INDEX_SCALE"), (0, u "I"), (2, u "U"), (0, u "Ljdk/internal/misc/Unsafe;"), (8, u "BIG_ENDIAN"), (0, u "Z"), (8, u "LOG2_BYTE_BIT_SIZE"), (4, u "LOG2_ARRAY_INT_INDEX_SCALE"), (54, u "JLA"), (0, u "Ljdk/internal/access/JavaLangAccess;"), (11, u "LOG2_ARRAY_BOOLEAN_INDEX_SCALE"), (9, u "LOG2_ARRAY_BYTE_INDEX_SCALE"), (5, u "LOG2_ARRAY_CHAR_INDEX_SCALE"), (5, u "LOG2_ARRAY_SHORT_INDEX_SCALE"), (18, u "LOG2_ARRAY_FLOAT_INDEX_SCALE"), (24, u "LOG2_ARRAY_DOUBLE_INDEX_SCALE"), (6, .methodref 195 196), (0, .class_ 197), (0, .nameAndType 198 199), (0, u "java/lang/Math"), (0, u "max"), (0, u "(II)I"), (0, .integer 2147483639), (76, u "T_BOOLEAN"), (2, u "T_CHAR"), (1, u "T_FLOAT"), (1, u "T_DOUBLE"), (1, u "T_BYTE"), (1, u "T_SHORT"), (1, u "T_INT"), (1, u "T_LONG"), (1, u "SOFT_MAX_ARRAY_LENGTH"), (56, u "newLength"), (0, u "(III)I")] 25

def k19m0 : Method := { name := "<init>", desc := "()V", sig := { parameters := [], returnType := none }, accessFlags := 2, code := none }
def k19c1 : Code := { maxStack := 3, maxLocals := 4, code := jdk_48_method_27_code, exceptionTable := #[], attributes := #[] }
def k19m1 : Method := { name := "newLength", desc := "(III)I", sig := { parameters := [.int, .int, .int], returnType := some .int }, accessFlags := 9, code := some k19c1 }
/-- jdk/internal/util/ArraysSupport -/
def k19 : Class := { plain "jdk/internal/util/ArraysSupport" (some 0) with
  accessFlags := 33
  interfaces := #[]
  cf := some (fileOf pool19 21 #[] #[{ accessFlags := 2, nameIndex := 9, descriptorIndex := 19, attributes := #[] }, { accessFlags := 9, nameIndex := 351, descriptorIndex := 352, attributes := #[] }] 33 16 #[] #[{ accessFlags := 24, nameIndex := 28, descriptorIndex := 29, attributes := #[] }, { accessFlags := 26, nameIndex := 38, descriptorIndex := 39, attributes := #[] }, { accessFlags := 25, nameIndex := 121, descriptorIndex := 25, attributes := #[] }, { accessFlags := 25, nameIndex := 131, descriptorIndex := 25, attributes := #[] }, { accessFlags := 25, nameIndex := 137, descriptorIndex := 25, attributes := #[] }, { accessFlags := 25, nameIndex := 143, descriptorIndex := 25, attributes := #[] }, { accessFlags := 25, nameIndex := 53, descriptorIndex := 25, attributes := #[] }, { accessFlags := 25, nameIndex := 24, descriptorIndex := 25, attributes := #[] }, { accessFlags := 25, nameIndex := 162, descriptorIndex := 25, attributes := #[] }, { accessFlags := 25, nameIndex := 187, descriptorIndex := 25, attributes := #[] }, { accessFlags := 26, nameIndex := 48, descriptorIndex := 25, attributes := #[] }, { accessFlags := 25, nameIndex := 277, descriptorIndex := 25, attributes := #[] }, { accessFlags := 25, nameIndex := 280, descriptorIndex := 25, attributes := #[] }, { accessFlags := 25, nameIndex := 282, descriptorIndex := 25, attributes := #[] }, { accessFlags := 25, nameIndex := 284, descriptorIndex := 25, attributes := #[] }, { accessFlags := 25, nameIndex := 286, descriptorIndex := 25, attributes := #[] }, { accessFlags := 25, nameIndex := 288, descriptorIndex := 25, attributes := #[] }, { accessFlags := 25, nameIndex := 290, descriptorIndex := 25, attributes := #[] }, { accessFlags := 25, nameIndex := 292, descriptorIndex := 25, attributes := #[] }, { accessFlags := 26, nameIndex := 108, descriptorIndex := 109, attributes := #[] }, { accessFlags := 25, nameIndex := 294, descriptorIndex := 25, attributes := #[] }])
  fields := #[{ name := "U", type := (.object "jdk/internal/misc/Unsafe"), accessFlags := 24, slot := 0, constantValue := 0 }, { name := "BIG_ENDIAN", type := .boolean, accessFlags := 26, slot := 1, constantValue := 0 }, { name := "LOG2_ARRAY_BOOLEAN_INDEX_SCALE", type := .int, accessFlags := 25, slot := 2, constantValue := 0 }, { name := "LOG2_ARRAY_BYTE_INDEX_SCALE", type := .int, accessFlags := 25, slot := 3, constantValue := 0 }, { name := "LOG2_ARRAY_CHAR_INDEX_SCALE", type := .int, accessFlags := 25, slot := 4, constantValue := 0 }, { name := "LOG2_ARRAY_SHORT_INDEX_SCALE", type := .int, accessFlags := 25, slot := 5, constantValue := 0 }, { name := "LOG2_ARRAY_INT_INDEX_SCALE", type := .int, accessFlags := 25, slot := 6, constantValue := 0 }, { name := "LOG2_ARRAY_LONG_INDEX_SCALE", type := .int, accessFlags := 25, slot := 7, constantValue := 0 }, { name := "LOG2_ARRAY_FLOAT_INDEX_SCALE", type := .int, accessFlags := 25, slot := 8, constantValue := 0 }, { name := "LOG2_ARRAY_DOUBLE_INDEX_SCALE", type := .int, accessFlags := 25, slot := 9, constantValue := 0 }, { name := "LOG2_BYTE_BIT_SIZE", type := .int, accessFlags := 26, slot := 10, constantValue := 0 }, { name := "T_BOOLEAN", type := .int, accessFlags := 25, slot := 11, constantValue := 0 }, { name := "T_CHAR", type := .int, accessFlags := 25, slot := 12, constantValue := 0 }, { name := "T_FLOAT", type := .int, accessFlags := 25, slot := 13, constantValue := 0 }, { name := "T_DOUBLE", type := .int, accessFlags := 25, slot := 14, constantValue := 0 }, { name := "T_BYTE", type := .int, accessFlags := 25, slot := 15, constantValue := 0 }, { name := "T_SHORT", type := .int, accessFlags := 25, slot := 16, constantValue := 0 }, { name := "T_INT", type := .int, accessFlags := 25, slot := 17, constantValue := 0 }, { name := "T_LONG", type := .int, accessFlags := 25, slot := 18, constantValue := 0 }, { name := "JLA", type := (.object "jdk/internal/access/JavaLangAccess"), accessFlags := 26, slot := 19, constantValue := 0 }, { name := "SOFT_MAX_ARRAY_LENGTH", type := .int, accessFlags := 25, slot := 20, constantValue := 0 }]
  methods := #[k19m0, k19m1]
  instanceTypes := #[]
  staticTypes := #[(.object "jdk/internal/misc/Unsafe"), .boolean, .int, .int, .int, .int, .int, .int, .int, .int, .int, .int, .int, .int, .int, .int, .int, .int, .int, (.object "jdk/internal/access/JavaLangAccess"), .int]
  resolved := Array.replicate 378 none
  statics := none }

def pool20 : Array CpInfo := pool [(1, .class_ 2), (0, u "java/lang/Cloneable"), (0, .class_ 4), (0, u "java/lang/Object")] 2

/-- java/lang/Cloneable -/
def k20 : Class := { plain "java/lang/Cloneable" (some 0) with
  accessFlags := 1537
  interfaces := #[]
  cf := some (fileOf pool20 1 #[] #[] 1537 3 #[] #[])
  fields := #[]
  methods := #[]
  instanceTypes := #[]
  staticTypes := #[]
  resolved := Array.replicate 7 none
  statics := none }

/-- the primitive byte -/
def k21 : Class := { plain "byte" none with kind := .primitive 'B', accessFlags := 0x411 }
/-- [B -/
def k22 : Class := { plain "[B" (some 0) with kind := .array 21 .byte, interfaces := #[20, 3], accessFlags := 1041 }

/-- the primitive int -/
def k23 : Class := { plain "int" none with kind := .primitive 'I', accessFlags := 0x411 }
/-- [I -/
def k24 : Class := { plain "[I" (some 0) with kind := .array 23 .int, interfaces := #[20, 3], accessFlags := 1041 }

/-- the primitive long -/
def k25 : Class := { plain "long" none with kind := .primitive 'J', accessFlags := 0x411 }
/-- [J -/
def k26 : Class := { plain "[J" (some 0) with kind := .array 25 .long, interfaces := #[20, 3], accessFlags := 1041 }

def heap : Heap := #[{ cls := 8, slots := #[.int 0, .int 0, .null, .null, .ref 4, .ref 3, .int 0, .int 0, .long 0], vm := .statics 8 },
  { cls := 10, slots := #[.long 0, .int 1, .null, .int 0, .null, .int 0, .int 0], vm := .statics 10 },
  { cls := 12, slots := #[.null, .null, .null], vm := .statics 12 },
  { cls := 22, slots := #[.int 48, .int 49, .int 50, .int 51, .int 52, .int 53, .int 54, .int 55, .int 56, .int 57, .int 48, .int 49, .int 50, .int 51, .int 52, .int 53, .int 54, .int 55, .int 56, .int 57, .int 48, .int 49, .int 50, .int 51, .int 52, .int 53, .int 54, .int 55, .int 56, .int 57, .int 48, .int 49, .int 50, .int 51, .int 52, .int 53, .int 54, .int 55, .int 56, .int 57, .int 48, .int 49, .int 50, .int 51, .int 52, .int 53, .int 54, .int 55, .int 56, .int 57, .int 48, .int 49, .int 50, .int 51, .int 52, .int 53, .int 54, .int 55, .int 56, .int 57, .int 48, .int 49, .int 50, .int 51, .int 52, .int 53, .int 54, .int 55, .int 56, .int 57, .int 48, .int 49, .int 50, .int 51, .int 52, .int 53, .int 54, .int 55, .int 56, .int 57, .int 48, .int 49, .int 50, .int 51, .int 52, .int 53, .int 54, .int 55, .int 56, .int 57, .int 48, .int 49, .int 50, .int 51, .int 52, .int 53, .int 54, .int 55, .int 56, .int 57], vm := .none },
  { cls := 22, slots := #[.int 48, .int 48, .int 48, .int 48, .int 48, .int 48, .int 48, .int 48, .int 48, .int 48, .int 49, .int 49, .int 49, .int 49, .int 49, .int 49, .int 49, .int 49, .int 49, .int 49, .int 50, .int 50, .int 50, .int 50, .int 50, .int 50, .int 50, .int 50, .int 50, .int 50, .int 51, .int 51, .int 51, .int 51, .int 51, .int 51, .int 51, .int 51, .int 51, .int 51, .int 52, .int 52, .int 52, .int 52, .int 52, .int 52, .int 52, .int 52, .int 52, .int 52, .int 53, .int 53, .int 53, .int 53, .int 53, .int 53, .int 53, .int 53, .int 53, .int 53, .int 54, .int 54, .int 54, .int 54, .int 54, .int 54, .int 54, .int 54, .int 54, .int 54, .int 55, .int 55, .int 55, .int 55, .int 55, .int 55, .int 55, .int 55, .int 55, .int 55, .int 56, .int 56, .int 56, .int 56, .int 56, .int 56, .int 56, .int 56, .int 56, .int 56, .int 57, .int 57, .int 57, .int 57, .int 57, .int 57, .int 57, .int 57, .int 57, .int 57], vm := .none }]
def classes : Array Class := #[k0, k1, k2, k3, k4, k5, k6, k7, k8, k9, k10, k11, k12, k13, k14, k15, k16, k17, k18, k19, k20, k21, k22, k23, k24, k25, k26]
def interned : List (Array UInt16 × Addr) := []
def slotsUsed : Nat := 219
def theMethod : MethodId := ⟨1, 6⟩
def args0 : Array Value := #[.int 5, .int 3, .int 1, .int 7]
def aboutOver (below : List Frame) : State where
  vm := { classes := classes, interned := interned.toArray }
  heap := heap
  slotsUsed := slotsUsed
  threads := #[{ frames := .invoking theMethod args0 :: below }]
def below0 : List Frame := [.native { method := ⟨0, 0⟩, args := #[] }]
def about1 : State := aboutOver below0
def p0 : Program := .bare "" "" ""
def e0 : Env := launch0.env 0 0 0
theorem w_frames : about1.frames = Frame.invoking theMethod args0 :: below0 := rfl
set_option maxRecDepth 65536 in
theorem w_args : argsFit about1.vm theMethod args0 = true := by decide +kernel
set_option maxRecDepth 65536 in
theorem w_heap : heapFits about1 = true := by decide +kernel
set_option maxRecDepth 65536 in
theorem w_runnable : about1.curStatus? = some .runnable := by decide +kernel
set_option maxRecDepth 65536 in
theorem w_alone : about1.alone = true := by decide +kernel
set_option maxRecDepth 65536 in
theorem w_named : about1.methodNamed? x = some theMethod := by decide +kernel
set_option maxRecDepth 65536 in
theorem w_hears : about1.hears theMethod below0 = true := by decide +kernel
set_option maxRecDepth 65536 in
theorem w_ripe : about1.ripe theMethod args0 below0 = true := by decide +kernel
theorem w_running : about1.status = .running := rfl
set_option maxRecDepth 65536 in
theorem w_room : about1.hasRoom e0.platform room_1 = true :=
  launch0.hasRoom_least _ room_1 (by decide +kernel) (by decide +kernel) (by decide +kernel) (by decide +kernel) (by decide +kernel) (by decide +kernel)
theorem allAtoms_all (ts : List Jvm.Cond) (a : Array Jvm.Value) (st : Jvm.State) : (allAtoms ts).before a st = ts.all (fun c => c.before a st) := by
  induction ts with
  | nil => rfl
  | cons c t ih =>
    show (Jvm.Cond.and c (allAtoms t)).before a st = _
    rw [Jvm.Cond.before_and, ih, List.all_cons]
def words1 : List Jvm.Cond := Jvm.Cond.code x code maxLocals ret :: tables_1
/-- a 'code' word, met by the world's own term for the bytes: nothing is compared byte by byte -/
theorem code_word {y : MethodName} {bytes : ByteArray} {mx : Nat} {rt : Option FieldType} {a : Array Value} {s : State} {m : MethodId} {meth : Method} {c : Code} (h1 : s.methodNamed? y = some m) (h2 : s.vm.method? m = some meth) (h3 : meth.code = some c) (h4 : c.code = bytes)
    (h5 : (c.maxLocals == mx && c.exceptionTable.isEmpty && decide (c.maxStack ≤ mostOperands) && decide (meth.sig.returnType = rt) && !meth.locks && decide (parseMethodDescriptor y.desc = some meth.sig)) = true) : (Jvm.Cond.code y bytes mx rt).before a s = true := by
  simp only [Bool.and_eq_true, beq_iff_eq, Bool.not_eq_true', decide_eq_true_eq] at h5
  obtain ⟨⟨⟨⟨⟨g1, g2⟩, g3⟩, g4⟩, g5⟩, g6⟩ := h5
  simp [Cond.before, Cond.holds, Cond.value, h1, h2, h3, h4, g1, g2, g3, g4, g5, g6]
def isCode : Jvm.Cond → Bool
  | .code _ _ _ _ => true
  | _ => false
theorem all_split {L : List Jvm.Cond} {P : Jvm.Cond → Bool} (h1 : L.all (fun c => isCode c || P c) = true) (h2 : ∀ c ∈ L.filter isCode, P c = true) : L.all P = true := by
  refine List.all_eq_true.mpr fun c hc => ?_
  have h := List.all_eq_true.mp h1 c hc
  rcases Bool.eq_false_or_eq_true (isCode c) with hi | hi
  · exact h2 c (List.mem_filter.mpr ⟨hc, hi⟩)
  · simpa [hi] using h
set_option maxRecDepth 65536 in
theorem w_c0 : (Jvm.Cond.code x code maxLocals ret).before args0 about1 = true := code_word (m := ⟨1, 6⟩) (meth := k1m6) (c := k1c6) (by decide +kernel) rfl rfl rfl (by decide +kernel)
set_option maxRecDepth 65536 in
theorem w_c1 : (Jvm.Cond.code ({ cls := "com/example/planfold/planfold/rules/FiguresYearSpanPinLaw", name := "decLen", desc := "(J)I" } : Jvm.MethodName) method_4_code (4 : Nat) (Option.some Jvm.ClassFile.FieldType.int)).before args0 about1 = true := code_word (m := ⟨1, 3⟩) (meth := k1m3) (c := k1c3) (by decide +kernel) rfl rfl rfl (by decide +kernel)
set_option maxRecDepth 65536 in
theorem w_c2 : (Jvm.Cond.code ({ cls := "com/example/planfold/planfold/rules/FiguresYearSpanPinLaw", name := "digitCount", desc := "(J)I" } : Jvm.MethodName) method_3_code (2 : Nat) (Option.some Jvm.ClassFile.FieldType.int)).before args0 about1 = true := code_word (m := ⟨1, 2⟩) (meth := k1m2) (c := k1c2) (by decide +kernel) rfl rfl rfl (by decide +kernel)
set_option maxRecDepth 65536 in
theorem w_c3 : (Jvm.Cond.code ({ cls := "com/example/planfold/planfold/rules/Figures", name := "yearSpan", desc := "(II)Ljava/lang/String;" } : Jvm.MethodName) prog_15_method_11_code (2 : Nat) (Option.some (Jvm.ClassFile.FieldType.object "java/lang/String"))).before args0 about1 = true := code_word (m := ⟨2, 1⟩) (meth := k2m1) (c := k2c1) (by decide +kernel) rfl rfl rfl (by decide +kernel)
set_option maxRecDepth 65536 in
theorem w_c4 : (Jvm.Cond.code ({ cls := "java/lang/Integer", name := "toString", desc := "(I)Ljava/lang/String;" } : Jvm.MethodName) jdk_33_method_10_code (3 : Nat) (Option.some (Jvm.ClassFile.FieldType.object "java/lang/String"))).before args0 about1 = true := code_word (m := ⟨8, 0⟩) (meth := k8m0) (c := k8c0) (by decide +kernel) rfl rfl rfl (by decide +kernel)
set_option maxRecDepth 65536 in
theorem w_c5 : (Jvm.Cond.code ({ cls := "java/lang/Integer", name := "stringSize", desc := "(I)I" } : Jvm.MethodName) jdk_33_method_13_code (4 : Nat) (Option.some Jvm.ClassFile.FieldType.int)).before args0 about1 = true := code_word (m := ⟨8, 2⟩) (meth := k8m2) (c := k8c2) (by decide +kernel) rfl rfl rfl (by decide +kernel)
set_option maxRecDepth 65536 in
theorem w_c6 : (Jvm.Cond.code ({ cls := "java/lang/Integer", name := "getChars", desc := "(II[B)I" } : Jvm.MethodName) jdk_33_method_12_code (7 : Nat) (Option.some Jvm.ClassFile.FieldType.int)).before args0 about1 = true := code_word (m := ⟨8, 1⟩) (meth := k8m1) (c := k8c1) (by decide +kernel) rfl rfl rfl (by decide +kernel)
set_option maxRecDepth 65536 in
theorem w_c7 : (Jvm.Cond.code ({ cls := "java/lang/String", name := "<init>", desc := "([BB)V" } : Jvm.MethodName) jdk_42_method_151_code (3 : Nat) (Option.none : Option Jvm.ClassFile.FieldType)).before args0 about1 = true := code_word (m := ⟨10, 6⟩) (meth := k10m6) (c := k10c6) (by decide +kernel) rfl rfl rfl (by decide +kernel)
set_option maxRecDepth 65536 in
theorem w_c8 : (Jvm.Cond.code ({ cls := "java/lang/Object", name := "<init>", desc := "()V" } : Jvm.MethodName) object_method_1_code (1 : Nat) (Option.none : Option Jvm.ClassFile.FieldType)).before args0 about1 = true := code_word (m := ⟨0, 0⟩) (meth := k0m0) (c := k0c0) (by decide +kernel) rfl rfl rfl (by decide +kernel)
set_option maxRecDepth 65536 in
theorem w_c9 : (Jvm.Cond.code ({ cls := "java/lang/String", name := "length", desc := "()I" } : Jvm.MethodName) jdk_42_method_54_code (1 : Nat) (Option.some Jvm.ClassFile.FieldType.int)).before args0 about1 = true := code_word (m := ⟨10, 2⟩) (meth := k10m2) (c := k10c2) (by decide +kernel) rfl rfl rfl (by decide +kernel)
set_option maxRecDepth 65536 in
theorem w_c10 : (Jvm.Cond.code ({ cls := "java/lang/String", name := "coder", desc := "()B" } : Jvm.MethodName) jdk_42_method_152_code (1 : Nat) (Option.some Jvm.ClassFile.FieldType.byte)).before args0 about1 = true := code_word (m := ⟨10, 7⟩) (meth := k10m7) (c := k10c7) (by decide +kernel) rfl rfl rfl (by decide +kernel)
set_option maxRecDepth 65536 in
theorem w_c11 : (Jvm.Cond.code ({ cls := "java/lang/String", name := "charAt", desc := "(I)C" } : Jvm.MethodName) jdk_42_method_56_code (2 : Nat) (Option.some Jvm.ClassFile.FieldType.char)).before args0 about1 = true := code_word (m := ⟨10, 3⟩) (meth := k10m3) (c := k10c3) (by decide +kernel) rfl rfl rfl (by decide +kernel)
set_option maxRecDepth 65536 in
theorem w_c12 : (Jvm.Cond.code ({ cls := "java/lang/String", name := "isLatin1", desc := "()Z" } : Jvm.MethodName) jdk_42_method_154_code (1 : Nat) (Option.some Jvm.ClassFile.FieldType.boolean)).before args0 about1 = true := code_word (m := ⟨10, 8⟩) (meth := k10m8) (c := k10c8) (by decide +kernel) rfl rfl rfl (by decide +kernel)
set_option maxRecDepth 65536 in
theorem w_c13 : (Jvm.Cond.code ({ cls := "java/lang/StringLatin1", name := "charAt", desc := "([BI)C" } : Jvm.MethodName) jdk_43_method_2_code (2 : Nat) (Option.some Jvm.ClassFile.FieldType.char)).before args0 about1 = true := code_word (m := ⟨11, 1⟩) (meth := k11m1) (c := k11c1) (by decide +kernel) rfl rfl rfl (by decide +kernel)
set_option maxRecDepth 65536 in
theorem w_c14 : (Jvm.Cond.code ({ cls := "java/lang/String", name := "checkIndex", desc := "(II)V" } : Jvm.MethodName) jdk_42_method_155_code (2 : Nat) (Option.none : Option Jvm.ClassFile.FieldType)).before args0 about1 = true := code_word (m := ⟨10, 9⟩) (meth := k10m9) (c := k10c9) (by decide +kernel) rfl rfl rfl (by decide +kernel)
set_option maxRecDepth 65536 in
theorem w_c15 : (Jvm.Cond.code ({ cls := "jdk/internal/util/Preconditions", name := "checkIndex", desc := "(IILjava/util/function/BiFunction;)I" } : Jvm.MethodName) jdk_41_method_11_code (3 : Nat) (Option.some Jvm.ClassFile.FieldType.int)).before args0 about1 = true := code_word (m := ⟨12, 1⟩) (meth := k12m1) (c := k12c1) (by decide +kernel) rfl rfl rfl (by decide +kernel)
set_option maxRecDepth 65536 in
theorem w_c16 : (Jvm.Cond.code ({ cls := "com/example/planfold/planfold/rules/FiguresYearSpanPinLaw", name := "expectedChar", desc := "(III)C" } : Jvm.MethodName) method_6_code (4 : Nat) (Option.some Jvm.ClassFile.FieldType.char)).before args0 about1 = true := code_word (m := ⟨1, 5⟩) (meth := k1m5) (c := k1c5) (by decide +kernel) rfl rfl rfl (by decide +kernel)
set_option maxRecDepth 65536 in
theorem w_c17 : (Jvm.Cond.code ({ cls := "com/example/planfold/planfold/rules/FiguresYearSpanPinLaw", name := "decChar", desc := "(JI)C" } : Jvm.MethodName) method_5_code (10 : Nat) (Option.some Jvm.ClassFile.FieldType.char)).before args0 about1 = true := code_word (m := ⟨1, 4⟩) (meth := k1m4) (c := k1c4) (by decide +kernel) rfl rfl rfl (by decide +kernel)
set_option maxRecDepth 65536 in
theorem w_c18 : (Jvm.Cond.code ({ cls := "com/example/planfold/planfold/rules/FiguresYearSpanPinLaw", name := "pow10", desc := "(I)J" } : Jvm.MethodName) method_2_code (2 : Nat) (Option.some Jvm.ClassFile.FieldType.long)).before args0 about1 = true := code_word (m := ⟨1, 1⟩) (meth := k1m1) (c := k1c1) (by decide +kernel) rfl rfl rfl (by decide +kernel)
set_option maxRecDepth 65536 in
theorem w_c19 : (Jvm.Cond.code ({ cls := "java/lang/StringBuilder", name := "<init>", desc := "()V" } : Jvm.MethodName) jdk_67_method_1_code (1 : Nat) (Option.none : Option Jvm.ClassFile.FieldType)).before args0 about1 = true := code_word (m := ⟨15, 0⟩) (meth := k15m0) (c := k15c0) (by decide +kernel) rfl rfl rfl (by decide +kernel)
set_option maxRecDepth 65536 in
theorem w_c20 : (Jvm.Cond.code ({ cls := "java/lang/AbstractStringBuilder", name := "<init>", desc := "(I)V" } : Jvm.MethodName) jdk_68_method_2_code (2 : Nat) (Option.none : Option Jvm.ClassFile.FieldType)).before args0 about1 = true := code_word (m := ⟨14, 1⟩) (meth := k14m1) (c := k14c1) (by decide +kernel) rfl rfl rfl (by decide +kernel)
set_option maxRecDepth 65536 in
theorem w_c21 : (Jvm.Cond.code ({ cls := "java/lang/StringBuilder", name := "append", desc := "(I)Ljava/lang/StringBuilder;" } : Jvm.MethodName) jdk_67_method_15_code (2 : Nat) (Option.some (Jvm.ClassFile.FieldType.object "java/lang/StringBuilder"))).before args0 about1 = true := code_word (m := ⟨15, 2⟩) (meth := k15m2) (c := k15c2) (by decide +kernel) rfl rfl rfl (by decide +kernel)
set_option maxRecDepth 65536 in
theorem w_c22 : (Jvm.Cond.code ({ cls := "java/lang/AbstractStringBuilder", name := "append", desc := "(I)Ljava/lang/AbstractStringBuilder;" } : Jvm.MethodName) jdk_68_method_32_code (4 : Nat) (Option.some (Jvm.ClassFile.FieldType.object "java/lang/AbstractStringBuilder"))).before args0 about1 = true := code_word (m := ⟨14, 6⟩) (meth := k14m6) (c := k14c6) (by decide +kernel) rfl rfl rfl (by decide +kernel)
set_option maxRecDepth 65536 in
theorem w_c23 : (Jvm.Cond.code ({ cls := "java/lang/AbstractStringBuilder", name := "ensureCapacityInternal", desc := "(I)V" } : Jvm.MethodName) jdk_68_method_9_code (3 : Nat) (Option.none : Option Jvm.ClassFile.FieldType)).before args0 about1 = true := code_word (m := ⟨14, 3⟩) (meth := k14m3) (c := k14c3) (by decide +kernel) rfl rfl rfl (by decide +kernel)
set_option maxRecDepth 65536 in
theorem w_c24 : (Jvm.Cond.code ({ cls := "java/lang/AbstractStringBuilder", name := "isLatin1", desc := "()Z" } : Jvm.MethodName) jdk_68_method_68_code (1 : Nat) (Option.some Jvm.ClassFile.FieldType.boolean)).before args0 about1 = true := code_word (m := ⟨14, 8⟩) (meth := k14m8) (c := k14c8) (by decide +kernel) rfl rfl rfl (by decide +kernel)
set_option maxRecDepth 65536 in
theorem w_c25 : (Jvm.Cond.code ({ cls := "java/lang/StringBuilder", name := "append", desc := "(Ljava/lang/String;)Ljava/lang/StringBuilder;" } : Jvm.MethodName) jdk_67_method_7_code (2 : Nat) (Option.some (Jvm.ClassFile.FieldType.object "java/lang/StringBuilder"))).before args0 about1 = true := code_word (m := ⟨15, 1⟩) (meth := k15m1) (c := k15c1) (by decide +kernel) rfl rfl rfl (by decide +kernel)
set_option maxRecDepth 65536 in
theorem w_c26 : (Jvm.Cond.code ({ cls := "java/lang/AbstractStringBuilder", name := "append", desc := "(Ljava/lang/String;)Ljava/lang/AbstractStringBuilder;" } : Jvm.MethodName) jdk_68_method_22_code (3 : Nat) (Option.some (Jvm.ClassFile.FieldType.object "java/lang/AbstractStringBuilder"))).before args0 about1 = true := code_word (m := ⟨14, 5⟩) (meth := k14m5) (c := k14c5) (by decide +kernel) rfl rfl rfl (by decide +kernel)
set_option maxRecDepth 65536 in
theorem w_c27 : (Jvm.Cond.code ({ cls := "java/lang/AbstractStringBuilder", name := "putStringAt", desc := "(ILjava/lang/String;)V" } : Jvm.MethodName) jdk_68_method_73_code (3 : Nat) (Option.none : Option Jvm.ClassFile.FieldType)).before args0 about1 = true := code_word (m := ⟨14, 10⟩) (meth := k14m10) (c := k14c10) (by decide +kernel) rfl rfl rfl (by decide +kernel)
set_option maxRecDepth 65536 in
theorem w_c28 : (Jvm.Cond.code ({ cls := "java/lang/AbstractStringBuilder", name := "inflateIfNeededFor", desc := "(Ljava/lang/String;)V" } : Jvm.MethodName) jdk_68_method_71_code (2 : Nat) (Option.none : Option Jvm.ClassFile.FieldType)).before args0 about1 = true := code_word (m := ⟨14, 9⟩) (meth := k14m9) (c := k14c9) (by decide +kernel) rfl rfl rfl (by decide +kernel)
set_option maxRecDepth 65536 in
theorem w_c29 : (Jvm.Cond.code ({ cls := "java/lang/String", name := "getBytes", desc := "([BIB)V" } : Jvm.MethodName) jdk_42_method_147_code (4 : Nat) (Option.none : Option Jvm.ClassFile.FieldType)).before args0 about1 = true := code_word (m := ⟨10, 4⟩) (meth := k10m4) (c := k10c4) (by decide +kernel) rfl rfl rfl (by decide +kernel)
set_option maxRecDepth 65536 in
theorem w_c30 : (Jvm.Cond.code ({ cls := "java/lang/StringBuilder", name := "toString", desc := "()Ljava/lang/String;" } : Jvm.MethodName) jdk_67_method_42_code (1 : Nat) (Option.some (Jvm.ClassFile.FieldType.object "java/lang/String"))).before args0 about1 = true := code_word (m := ⟨15, 3⟩) (meth := k15m3) (c := k15c3) (by decide +kernel) rfl rfl rfl (by decide +kernel)
set_option maxRecDepth 65536 in
theorem w_c31 : (Jvm.Cond.code ({ cls := "java/lang/String", name := "<init>", desc := "(Ljava/lang/StringBuilder;)V" } : Jvm.MethodName) jdk_42_method_53_code (2 : Nat) (Option.none : Option Jvm.ClassFile.FieldType)).before args0 about1 = true := code_word (m := ⟨10, 1⟩) (meth := k10m1) (c := k10c1) (by decide +kernel) rfl rfl rfl (by decide +kernel)
set_option maxRecDepth 65536 in
theorem w_c32 : (Jvm.Cond.code ({ cls := "java/lang/String", name := "<init>", desc := "(Ljava/lang/AbstractStringBuilder;Ljava/lang/Void;)V" } : Jvm.MethodName) jdk_42_method_150_code (5 : Nat) (Option.none : Option Jvm.ClassFile.FieldType)).before args0 about1 = true := code_word (m := ⟨10, 5⟩) (meth := k10m5) (c := k10c5) (by decide +kernel) rfl rfl rfl (by decide +kernel)
set_option maxRecDepth 65536 in
theorem w_c33 : (Jvm.Cond.code ({ cls := "java/lang/AbstractStringBuilder", name := "getValue", desc := "()[B" } : Jvm.MethodName) jdk_68_method_64_code (1 : Nat) (Option.some (Jvm.ClassFile.FieldType.array Jvm.ClassFile.FieldType.byte))).before args0 about1 = true := code_word (m := ⟨14, 7⟩) (meth := k14m7) (c := k14c7) (by decide +kernel) rfl rfl rfl (by decide +kernel)
set_option maxRecDepth 65536 in
theorem w_c34 : (Jvm.Cond.code ({ cls := "java/lang/StringBuilder", name := "length", desc := "()I" } : Jvm.MethodName) jdk_67_method_93_code (1 : Nat) (Option.some Jvm.ClassFile.FieldType.int)).before args0 about1 = true := code_word (m := ⟨15, 4⟩) (meth := k15m4) (c := k15c4) (by decide +kernel) rfl rfl rfl (by decide +kernel)
set_option maxRecDepth 65536 in
theorem w_c35 : (Jvm.Cond.code ({ cls := "java/lang/AbstractStringBuilder", name := "length", desc := "()I" } : Jvm.MethodName) jdk_68_method_6_code (1 : Nat) (Option.some Jvm.ClassFile.FieldType.int)).before args0 about1 = true := code_word (m := ⟨14, 2⟩) (meth := k14m2) (c := k14c2) (by decide +kernel) rfl rfl rfl (by decide +kernel)
set_option maxRecDepth 65536 in
theorem w_c36 : (Jvm.Cond.code ({ cls := "java/util/Arrays", name := "copyOfRange", desc := "([BII)[B" } : Jvm.MethodName) jdk_65_method_132_code (3 : Nat) (Option.some (Jvm.ClassFile.FieldType.array Jvm.ClassFile.FieldType.byte))).before args0 about1 = true := code_word (m := ⟨17, 3⟩) (meth := k17m3) (c := k17c3) (by decide +kernel) rfl rfl rfl (by decide +kernel)
set_option maxRecDepth 65536 in
theorem w_c37 : (Jvm.Cond.code ({ cls := "java/util/Arrays", name := "copyOfRangeByte", desc := "([BII)[B" } : Jvm.MethodName) jdk_65_method_133_code (5 : Nat) (Option.some (Jvm.ClassFile.FieldType.array Jvm.ClassFile.FieldType.byte))).before args0 about1 = true := code_word (m := ⟨17, 4⟩) (meth := k17m4) (c := k17c4) (by decide +kernel) rfl rfl rfl (by decide +kernel)
set_option maxRecDepth 65536 in
theorem w_c38 : (Jvm.Cond.code ({ cls := "java/util/Arrays", name := "checkLength", desc := "(II)V" } : Jvm.MethodName) jdk_65_method_131_code (2 : Nat) (Option.none : Option Jvm.ClassFile.FieldType)).before args0 about1 = true := code_word (m := ⟨17, 2⟩) (meth := k17m2) (c := k17c2) (by decide +kernel) rfl rfl rfl (by decide +kernel)
set_option maxRecDepth 65536 in
theorem w_c39 : (Jvm.Cond.code ({ cls := "java/lang/Math", name := "min", desc := "(II)I" } : Jvm.MethodName) jdk_29_method_69_code (2 : Nat) (Option.some Jvm.ClassFile.FieldType.int)).before args0 about1 = true := code_word (m := ⟨18, 2⟩) (meth := k18m2) (c := k18c2) (by decide +kernel) rfl rfl rfl (by decide +kernel)
set_option maxRecDepth 65536 in
theorem w_c40 : (Jvm.Cond.code ({ cls := "java/lang/AbstractStringBuilder", name := "newCapacity", desc := "(I)I" } : Jvm.MethodName) jdk_68_method_10_code (6 : Nat) (Option.some Jvm.ClassFile.FieldType.int)).before args0 about1 = true := code_word (m := ⟨14, 4⟩) (meth := k14m4) (c := k14c4) (by decide +kernel) rfl rfl rfl (by decide +kernel)
set_option maxRecDepth 65536 in
theorem w_c41 : (Jvm.Cond.code ({ cls := "jdk/internal/util/ArraysSupport", name := "newLength", desc := "(III)I" } : Jvm.MethodName) jdk_48_method_27_code (4 : Nat) (Option.some Jvm.ClassFile.FieldType.int)).before args0 about1 = true := code_word (m := ⟨19, 1⟩) (meth := k19m1) (c := k19c1) (by decide +kernel) rfl rfl rfl (by decide +kernel)
set_option maxRecDepth 65536 in
theorem w_c42 : (Jvm.Cond.code ({ cls := "java/lang/Math", name := "max", desc := "(II)I" } : Jvm.MethodName) jdk_29_method_65_code (2 : Nat) (Option.some Jvm.ClassFile.FieldType.int)).before args0 about1 = true := code_word (m := ⟨18, 1⟩) (meth := k18m1) (c := k18c1) (by decide +kernel) rfl rfl rfl (by decide +kernel)
set_option maxRecDepth 65536 in
theorem w_c43 : (Jvm.Cond.code ({ cls := "java/util/Arrays", name := "copyOf", desc := "([BI)[B" } : Jvm.MethodName) jdk_65_method_121_code (3 : Nat) (Option.some (Jvm.ClassFile.FieldType.array Jvm.ClassFile.FieldType.byte))).before args0 about1 = true := code_word (m := ⟨17, 1⟩) (meth := k17m1) (c := k17c1) (by decide +kernel) rfl rfl rfl (by decide +kernel)
def codes1 : List Jvm.Cond := [Jvm.Cond.code x code maxLocals ret, Jvm.Cond.code ({ cls := "com/example/planfold/planfold/rules/FiguresYearSpanPinLaw", name := "decLen", desc := "(J)I" } : Jvm.MethodName) method_4_code (4 : Nat) (Option.some Jvm.ClassFile.FieldType.int), Jvm.Cond.code ({ cls := "com/example/planfold/planfold/rules/FiguresYearSpanPinLaw", name := "digitCount", desc := "(J)I" } : Jvm.MethodName) method_3_code (2 : Nat) (Option.some Jvm.ClassFile.FieldType.int), Jvm.Cond.code ({ cls := "com/example/planfold/planfold/rules/Figures", name := "yearSpan", desc := "(II)Ljava/lang/String;" } : Jvm.MethodName) prog_15_method_11_code (2 : Nat) (Option.some (Jvm.ClassFile.FieldType.object "java/lang/String")), Jvm.Cond.code ({ cls := "java/lang/Integer", name := "toString", desc := "(I)Ljava/lang/String;" } : Jvm.MethodName) jdk_33_method_10_code (3 : Nat) (Option.some (Jvm.ClassFile.FieldType.object "java/lang/String")), Jvm.Cond.code ({ cls := "java/lang/Integer", name := "stringSize", desc := "(I)I" } : Jvm.MethodName) jdk_33_method_13_code (4 : Nat) (Option.some Jvm.ClassFile.FieldType.int), Jvm.Cond.code ({ cls := "java/lang/Integer", name := "getChars", desc := "(II[B)I" } : Jvm.MethodName) jdk_33_method_12_code (7 : Nat) (Option.some Jvm.ClassFile.FieldType.int), Jvm.Cond.code ({ cls := "java/lang/String", name := "<init>", desc := "([BB)V" } : Jvm.MethodName) jdk_42_method_151_code (3 : Nat) (Option.none : Option Jvm.ClassFile.FieldType), Jvm.Cond.code ({ cls := "java/lang/Object", name := "<init>", desc := "()V" } : Jvm.MethodName) object_method_1_code (1 : Nat) (Option.none : Option Jvm.ClassFile.FieldType), Jvm.Cond.code ({ cls := "java/lang/String", name := "length", desc := "()I" } : Jvm.MethodName) jdk_42_method_54_code (1 : Nat) (Option.some Jvm.ClassFile.FieldType.int), Jvm.Cond.code ({ cls := "java/lang/String", name := "coder", desc := "()B" } : Jvm.MethodName) jdk_42_method_152_code (1 : Nat) (Option.some Jvm.ClassFile.FieldType.byte), Jvm.Cond.code ({ cls := "java/lang/String", name := "charAt", desc := "(I)C" } : Jvm.MethodName) jdk_42_method_56_code (2 : Nat) (Option.some Jvm.ClassFile.FieldType.char), Jvm.Cond.code ({ cls := "java/lang/String", name := "isLatin1", desc := "()Z" } : Jvm.MethodName) jdk_42_method_154_code (1 : Nat) (Option.some Jvm.ClassFile.FieldType.boolean), Jvm.Cond.code ({ cls := "java/lang/StringLatin1", name := "charAt", desc := "([BI)C" } : Jvm.MethodName) jdk_43_method_2_code (2 : Nat) (Option.some Jvm.ClassFile.FieldType.char), Jvm.Cond.code ({ cls := "java/lang/String", name := "checkIndex", desc := "(II)V" } : Jvm.MethodName) jdk_42_method_155_code (2 : Nat) (Option.none : Option Jvm.ClassFile.FieldType), Jvm.Cond.code ({ cls := "jdk/internal/util/Preconditions", name := "checkIndex", desc := "(IILjava/util/function/BiFunction;)I" } : Jvm.MethodName) jdk_41_method_11_code (3 : Nat) (Option.some Jvm.ClassFile.FieldType.int), Jvm.Cond.code ({ cls := "com/example/planfold/planfold/rules/FiguresYearSpanPinLaw", name := "expectedChar", desc := "(III)C" } : Jvm.MethodName) method_6_code (4 : Nat) (Option.some Jvm.ClassFile.FieldType.char), Jvm.Cond.code ({ cls := "com/example/planfold/planfold/rules/FiguresYearSpanPinLaw", name := "decChar", desc := "(JI)C" } : Jvm.MethodName) method_5_code (10 : Nat) (Option.some Jvm.ClassFile.FieldType.char), Jvm.Cond.code ({ cls := "com/example/planfold/planfold/rules/FiguresYearSpanPinLaw", name := "pow10", desc := "(I)J" } : Jvm.MethodName) method_2_code (2 : Nat) (Option.some Jvm.ClassFile.FieldType.long), Jvm.Cond.code ({ cls := "java/lang/StringBuilder", name := "<init>", desc := "()V" } : Jvm.MethodName) jdk_67_method_1_code (1 : Nat) (Option.none : Option Jvm.ClassFile.FieldType), Jvm.Cond.code ({ cls := "java/lang/AbstractStringBuilder", name := "<init>", desc := "(I)V" } : Jvm.MethodName) jdk_68_method_2_code (2 : Nat) (Option.none : Option Jvm.ClassFile.FieldType), Jvm.Cond.code ({ cls := "java/lang/StringBuilder", name := "append", desc := "(I)Ljava/lang/StringBuilder;" } : Jvm.MethodName) jdk_67_method_15_code (2 : Nat) (Option.some (Jvm.ClassFile.FieldType.object "java/lang/StringBuilder")), Jvm.Cond.code ({ cls := "java/lang/AbstractStringBuilder", name := "append", desc := "(I)Ljava/lang/AbstractStringBuilder;" } : Jvm.MethodName) jdk_68_method_32_code (4 : Nat) (Option.some (Jvm.ClassFile.FieldType.object "java/lang/AbstractStringBuilder")), Jvm.Cond.code ({ cls := "java/lang/AbstractStringBuilder", name := "ensureCapacityInternal", desc := "(I)V" } : Jvm.MethodName) jdk_68_method_9_code (3 : Nat) (Option.none : Option Jvm.ClassFile.FieldType), Jvm.Cond.code ({ cls := "java/lang/AbstractStringBuilder", name := "isLatin1", desc := "()Z" } : Jvm.MethodName) jdk_68_method_68_code (1 : Nat) (Option.some Jvm.ClassFile.FieldType.boolean), Jvm.Cond.code ({ cls := "java/lang/StringBuilder", name := "append", desc := "(Ljava/lang/String;)Ljava/lang/StringBuilder;" } : Jvm.MethodName) jdk_67_method_7_code (2 : Nat) (Option.some (Jvm.ClassFile.FieldType.object "java/lang/StringBuilder")), Jvm.Cond.code ({ cls := "java/lang/AbstractStringBuilder", name := "append", desc := "(Ljava/lang/String;)Ljava/lang/AbstractStringBuilder;" } : Jvm.MethodName) jdk_68_method_22_code (3 : Nat) (Option.some (Jvm.ClassFile.FieldType.object "java/lang/AbstractStringBuilder")), Jvm.Cond.code ({ cls := "java/lang/AbstractStringBuilder", name := "putStringAt", desc := "(ILjava/lang/String;)V" } : Jvm.MethodName) jdk_68_method_73_code (3 : Nat) (Option.none : Option Jvm.ClassFile.FieldType), Jvm.Cond.code ({ cls := "java/lang/AbstractStringBuilder", name := "inflateIfNeededFor", desc := "(Ljava/lang/String;)V" } : Jvm.MethodName) jdk_68_method_71_code (2 : Nat) (Option.none : Option Jvm.ClassFile.FieldType), Jvm.Cond.code ({ cls := "java/lang/String", name := "getBytes", desc := "([BIB)V" } : Jvm.MethodName) jdk_42_method_147_code (4 : Nat) (Option.none : Option Jvm.ClassFile.FieldType), Jvm.Cond.code ({ cls := "java/lang/StringBuilder", name := "toString", desc := "()Ljava/lang/String;" } : Jvm.MethodName) jdk_67_method_42_code (1 : Nat) (Option.some (Jvm.ClassFile.FieldType.object "java/lang/String")), Jvm.Cond.code ({ cls := "java/lang/String", name := "<init>", desc := "(Ljava/lang/StringBuilder;)V" } : Jvm.MethodName) jdk_42_method_53_code (2 : Nat) (Option.none : Option Jvm.ClassFile.FieldType), Jvm.Cond.code ({ cls := "java/lang/String", name := "<init>", desc := "(Ljava/lang/AbstractStringBuilder;Ljava/lang/Void;)V" } : Jvm.MethodName) jdk_42_method_150_code (5 : Nat) (Option.none : Option Jvm.ClassFile.FieldType), Jvm.Cond.code ({ cls := "java/lang/AbstractStringBuilder", name := "getValue", desc := "()[B" } : Jvm.MethodName) jdk_68_method_64_code (1 : Nat) (Option.some (Jvm.ClassFile.FieldType.array Jvm.ClassFile.FieldType.byte)), Jvm.Cond.code ({ cls := "java/lang/StringBuilder", name := "length", desc := "()I" } : Jvm.MethodName) jdk_67_method_93_code (1 : Nat) (Option.some Jvm.ClassFile.FieldType.int), Jvm.Cond.code ({ cls := "java/lang/AbstractStringBuilder", name := "length", desc := "()I" } : Jvm.MethodName) jdk_68_method_6_code (1 : Nat) (Option.some Jvm.ClassFile.FieldType.int), Jvm.Cond.code ({ cls := "java/util/Arrays", name := "copyOfRange", desc := "([BII)[B" } : Jvm.MethodName) jdk_65_method_132_code (3 : Nat) (Option.some (Jvm.ClassFile.FieldType.array Jvm.ClassFile.FieldType.byte)), Jvm.Cond.code ({ cls := "java/util/Arrays", name := "copyOfRangeByte", desc := "([BII)[B" } : Jvm.MethodName) jdk_65_method_133_code (5 : Nat) (Option.some (Jvm.ClassFile.FieldType.array Jvm.ClassFile.FieldType.byte)), Jvm.Cond.code ({ cls := "java/util/Arrays", name := "checkLength", desc := "(II)V" } : Jvm.MethodName) jdk_65_method_131_code (2 : Nat) (Option.none : Option Jvm.ClassFile.FieldType), Jvm.Cond.code ({ cls := "java/lang/Math", name := "min", desc := "(II)I" } : Jvm.MethodName) jdk_29_method_69_code (2 : Nat) (Option.some Jvm.ClassFile.FieldType.int), Jvm.Cond.code ({ cls := "java/lang/AbstractStringBuilder", name := "newCapacity", desc := "(I)I" } : Jvm.MethodName) jdk_68_method_10_code (6 : Nat) (Option.some Jvm.ClassFile.FieldType.int), Jvm.Cond.code ({ cls := "jdk/internal/util/ArraysSupport", name := "newLength", desc := "(III)I" } : Jvm.MethodName) jdk_48_method_27_code (4 : Nat) (Option.some Jvm.ClassFile.FieldType.int), Jvm.Cond.code ({ cls := "java/lang/Math", name := "max", desc := "(II)I" } : Jvm.MethodName) jdk_29_method_65_code (2 : Nat) (Option.some Jvm.ClassFile.FieldType.int), Jvm.Cond.code ({ cls := "java/util/Arrays", name := "copyOf", desc := "([BI)[B" } : Jvm.MethodName) jdk_65_method_121_code (3 : Nat) (Option.some (Jvm.ClassFile.FieldType.array Jvm.ClassFile.FieldType.byte))]
set_option maxRecDepth 65536 in
theorem codes_eq : words1.filter isCode = codes1 := rfl
theorem w_codes : ∀ c ∈ words1.filter isCode, c.before args0 about1 = true := by
  rw [codes_eq]
  intro c hc
  simp only [codes1, List.mem_cons, List.not_mem_nil, or_false] at hc
  rcases hc with rfl | rfl | rfl | rfl | rfl | rfl | rfl | rfl | rfl | rfl | rfl | rfl | rfl | rfl | rfl | rfl | rfl | rfl | rfl | rfl | rfl | rfl | rfl | rfl | rfl | rfl | rfl | rfl | rfl | rfl | rfl | rfl | rfl | rfl | rfl | rfl | rfl | rfl | rfl | rfl | rfl | rfl | rfl | rfl
  · exact w_c0
  · exact w_c1
  · exact w_c2
  · exact w_c3
  · exact w_c4
  · exact w_c5
  · exact w_c6
  · exact w_c7
  · exact w_c8
  · exact w_c9
  · exact w_c10
  · exact w_c11
  · exact w_c12
  · exact w_c13
  · exact w_c14
  · exact w_c15
  · exact w_c16
  · exact w_c17
  · exact w_c18
  · exact w_c19
  · exact w_c20
  · exact w_c21
  · exact w_c22
  · exact w_c23
  · exact w_c24
  · exact w_c25
  · exact w_c26
  · exact w_c27
  · exact w_c28
  · exact w_c29
  · exact w_c30
  · exact w_c31
  · exact w_c32
  · exact w_c33
  · exact w_c34
  · exact w_c35
  · exact w_c36
  · exact w_c37
  · exact w_c38
  · exact w_c39
  · exact w_c40
  · exact w_c41
  · exact w_c42
  · exact w_c43
set_option maxRecDepth 65536 in
theorem w_t1 : (words1.take 24).all (fun c => isCode c || c.before args0 about1) = true := by decide +kernel
set_option maxRecDepth 65536 in
theorem w_t2 : ((words1.drop 24).take 24).all (fun c => isCode c || c.before args0 about1) = true := by decide +kernel
set_option maxRecDepth 65536 in
theorem w_t3 : (((words1.drop 24).drop 24).take 24).all (fun c => isCode c || c.before args0 about1) = true := by decide +kernel
set_option maxRecDepth 65536 in
theorem w_t4 : ((((words1.drop 24).drop 24).drop 24).take 24).all (fun c => isCode c || c.before args0 about1) = true := by decide +kernel
set_option maxRecDepth 65536 in
theorem w_t5 : (((((words1.drop 24).drop 24).drop 24).drop 24).take 24).all (fun c => isCode c || c.before args0 about1) = true := by decide +kernel
set_option maxRecDepth 65536 in
theorem w_t6 : ((((((words1.drop 24).drop 24).drop 24).drop 24).drop 24).take 24).all (fun c => isCode c || c.before args0 about1) = true := by decide +kernel
set_option maxRecDepth 65536 in
theorem w_t7 : (((((((words1.drop 24).drop 24).drop 24).drop 24).drop 24).drop 24).take 24).all (fun c => isCode c || c.before args0 about1) = true := by decide +kernel
set_option maxRecDepth 65536 in
theorem w_t8 : ((((((((words1.drop 24).drop 24).drop 24).drop 24).drop 24).drop 24).drop 24).take 24).all (fun c => isCode c || c.before args0 about1) = true := by decide +kernel
set_option maxRecDepth 65536 in
theorem w_t9 : (((((((((words1.drop 24).drop 24).drop 24).drop 24).drop 24).drop 24).drop 24).drop 24).take 24).all (fun c => isCode c || c.before args0 about1) = true := by decide +kernel
set_option maxRecDepth 65536 in
theorem w_t10 : (((((((((words1.drop 24).drop 24).drop 24).drop 24).drop 24).drop 24).drop 24).drop 24).drop 24).all (fun c => isCode c || c.before args0 about1) = true := by decide +kernel
theorem w_tables : (allAtoms (Jvm.Cond.code x code maxLocals ret :: tables_1)).before args0 about1 = true := by
  rw [allAtoms_all]
  show words1.all (fun c => c.before args0 about1) = true
  refine all_split ?_ w_codes
  rw [← List.take_append_drop 24 words1, List.all_append, w_t1, ← List.take_append_drop 24 (words1.drop 24), List.all_append, w_t2, ← List.take_append_drop 24 ((words1.drop 24).drop 24), List.all_append, w_t3, ← List.take_append_drop 24 (((words1.drop 24).drop 24).drop 24), List.all_append, w_t4, ← List.take_append_drop 24 ((((words1.drop 24).drop 24).drop 24).drop 24), List.all_append, w_t5, ← List.take_append_drop 24 (((((words1.drop 24).drop 24).drop 24).drop 24).drop 24), List.all_append, w_t6, ← List.take_append_drop 24 ((((((words1.drop 24).drop 24).drop 24).drop 24).drop 24).drop 24), List.all_append, w_t7, ← List.take_append_drop 24 (((((((words1.drop 24).drop 24).drop 24).drop 24).drop 24).drop 24).drop 24), List.all_append, w_t8, ← List.take_append_drop 24 ((((((((words1.drop 24).drop 24).drop 24).drop 24).drop 24).drop 24).drop 24).drop 24), List.all_append, w_t9, w_t10]
  rfl
set_option maxRecDepth 65536 in
theorem w_rest : rest_1_c.before args0 about1 = true := by decide +kernel
set_option maxRecDepth 65536 in
theorem w_case : (Jvm.Cond.and given_1 narrow_1).before args0 about1 = true := by decide +kernel
set_option maxRecDepth 65536 in
theorem w_consts : constsHeld consts_1 about1 := Jvm.Lit.constsHeldB_iff.mp (by decide +kernel)
theorem w_applies : (headSpec (Jvm.Cond.code x code maxLocals ret :: tables_1) room_1).applies x e0.platform about1 = true :=
  (Spec.applies_iff w_frames).mpr ⟨w_running, w_runnable, w_alone, w_named, w_hears, w_ripe, w_room, w_tables⟩
theorem atStart : AtStart classFile x code maxLocals ret World_1 tables_1 room_1 Calls_1 rest_1 Pre_1 launch0 p0 e0 about1 theMethod args0 below0 :=
  ⟨lists_1, trivial, launch0.admits_env _ _ _, launch0.least_env, fairChoices_fair.cas, fairChoices_fair.clock, w_frames, w_args, w_heap, w_applies, ⟨w_consts, trivial⟩, w_rest, w_case⟩
end start1
theorem witness_1 : WitnessClaimed_1 := ⟨start1.p0, start1.e0, start1.about1, start1.theMethod, start1.args0, start1.below0, start1.atStart⟩
end Jvm.Pilot.@@N@@
