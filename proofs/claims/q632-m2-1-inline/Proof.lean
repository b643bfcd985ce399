import JvmDerived
import JvmDerived.Pilot.@@N@@Statement
import JvmDerived.Pilot.@@N@@Code
set_option linter.unusedVariables false
set_option linter.unusedSimpArgs false
@@BLOCK:NumsL.lean.txt@@
namespace Jvm.RoadKit
open Sem ClassFile Op Lib Jvm.Stand Jvm.Free Jvm.LawKit
section Own
variable {p : Program} {l : Launch} {e : Env} {R : Room} {s : State} {m : MethodId} {args : Array Value} {below : List Frame} {meth : Method} {c : Code} {T T' : State} {locs : List Loc} {cells slots : Nat} {Z : State} {h0 h : Heap} {a0 : Array Value} {Q Q' : Option Value → Heap → List Loc → Prop} {rm rm0 : Room}
/-- from here on the walk returns, and what it leaves is Q -/
def own_Ends (p : Program) (e : Env) (below : List Frame) (s : State) (Q : Option Value → Heap → List Loc → Prop) (rm : Room) (T : State) (g : JFrame) : Prop :=
  ∃ s₂ o, Steps p.tables e below (T.setTop g) s₂ ∧ s₂.status = .running ∧ Ended s₂ below o ∧ ∃ v L, o = .returned v ∧ Q v s₂.heap L ∧ FrameEnd s o s₂ L rm.cells rm.slots
theorem own_go {g g' : JFrame} (h : ∀ t, Steps p.tables e below (T'.setTop g') t → Steps p.tables e below (T.setTop g) t) (H : own_Ends p e below s Q rm T' g') : own_Ends p e below s Q rm T g := by
  obtain ⟨s₂, o, h1, r⟩ := H
  exact ⟨s₂, o, h _ h1, r⟩
/-- a goal that may be stepped back -/
def own_Closed (p : Program) (e : Env) (below : List Frame) (G : State → JFrame → Prop) : Prop := ∀ (T T' : State) (g g' : JFrame), (∀ t, Steps p.tables e below (T'.setTop g') t → Steps p.tables e below (T.setTop g) t) → G T' g' → G T g
theorem own_closed : own_Closed p e below (own_Ends p e below s Q rm) := fun _ _ _ _ h H => own_go h H
theorem own_cast {g g' : JFrame} (q : g = g') (H : own_Ends p e below s Q rm T g') : own_Ends p e below s Q rm T g := q ▸ H
/-- it gives r back, and the heap as it was -/
def own_QP (h0 : Heap) (r : Option Value) (v : Option Value) (h : Heap) (L : List Loc) : Prop := v = r ∧ L = [] ∧ h = h0
theorem own_lrem (x y : Int64) : x - (x / y) * y = x % y := by
  apply Int64.toInt_inj.mp
  have h1 := Int64.le_toInt (x % y)
  have h2 := Int64.toInt_lt (x % y)
  rw [Int64.toInt_sub, Int64.toInt_mul, Int64.toInt_div, Int.bmod_mul_bmod, Int.sub_bmod_bmod, Int.mul_comm (x.toInt.tdiv y.toInt), ← Int.tmod_def, ← Int64.toInt_mod]
  exact Int.bmod_eq_of_le_mul_two (by omega) (by omega)
theorem own_lremM {g : JFrame} {target : State} (X : Stand p l e R s m args below meth c T locs cells slots) (hx : p.tables.exec = Jvm.exec) (hg : g.method = m) {x y : Int64} {rest : List Value} (hd : decode c.code g.pc = .ok (.lrem, 1)) (hs : g.stack = .long y :: .long x :: rest) (hy : y ≠ 0)
    (hr : Steps p.tables e below (T.setTop { g with pc := g.pc + 1, stack := .long (x % y) :: rest }) target) : Steps p.tables e below (T.setTop g) target := by
  have q : x - x / y * y = x % y := own_lrem x y
  exact XS.lrem X.here hx hg hd hs hy (by rw [q]; exact hr)
/-- a body's contract -/
def own_Met (l : Launch) (Z : State) (y : MethodName) (bytes : ByteArray) (maxL : Nat) (ret : Option FieldType) (ws : List Cond) (rm : Room) (as' : Array Value) (h0 : Heap) (Q : Option Value → Heap → List Loc → Prop) : Prop :=
  MetFree l y (head1 (Cond.code y bytes maxL ret :: ws) rm) (fun a U => a = as' ∧ Z.Warmed39 U.vm ∧ U.heap = h0) (fun _ _ _ _ _ => True) (fun _ U o U' => ∃ v L, o = .returned v ∧ Q v U'.heap L ∧ FrameEnd U o U' L rm.cells rm.slots)
theorem own_met {y : MethodName} {bytes : ByteArray} {maxL : Nat} {ret : Option FieldType} {ws : List Cond} {as' : Array Value} (hy : plainFor y = true)
    (H : ∀ (p : Program) (e : Env) (s : State) (m : MethodId) (below : List Frame) (meth : Method) (c : Code) (s₁ : State), p.tables.exec = Jvm.exec → c.code = bytes → c.maxLocals = maxL → s.vm.findClass y.cls = some m.cls → meth.name = y.name → meth.sig.returnType = ret → meth.locks = false → Z.Warmed39 s.vm →
      Stand p l e rm s m as' below meth c s₁ [] 0 0 → s₁.heap = h0 → own_Ends p e below s Q rm s₁ (entryFrame m as' maxL)) : own_Met l Z y bytes maxL ret ws rm as' h0 Q := by
  refine MetFree.of_bodySF hy hisR ?_
  intro p e s m args below meth c s₁ Bd hml0 hP hK
  obtain ⟨rfl, hZ, hh⟩ := hP
  exact H p e s m below meth c s₁ Bd.exec Bd.bytes hml0 (findClass_of_methodNamed Bd.named) (name_of_methodNamed Bd.named Bd.method).1 Bd.returns Bd.notSynchronized hZ (Stand.of_body Bd) (by rw [← hh, Bd.state]; rfl)
theorem own_retI (X : Stand p l e R s m args below meth c T locs cells slots) (hx : p.tables.exec = Jvm.exec) (hlk : meth.locks = false) {pc : Nat} {Ls : Array Slot} {z : Int32} {rest : List Value} (hret : meth.sig.returnType = some .int) (hd : decode c.code pc = .ok (.ireturn, 1))
    (hk : cells ≤ rm.cells) (hn : slots ≤ rm.slots) (hq : Q (some (.int z)) T.heap locs) : own_Ends p e below s Q rm T (mkF m pc Ls (.int z :: rest)) := by
  obtain ⟨fs, hr, hrun, hended, hW, hsame⟩ := X.leave (v := some (.int z)) (fun h => by rw [hret] at h; cases h) hlk
  exact ⟨_, _, retOut X hx hret rfl (Or.inl ⟨rfl, Or.inl rfl, z, rfl⟩) hd hr, hrun, hended, _, _, rfl, hq, ⟨_, rfl⟩, hW, hsame.mono hk hn⟩
theorem own_retN (X : Stand p l e R s m args below meth c T locs cells slots) (hx : p.tables.exec = Jvm.exec) (hlk : meth.locks = false) {pc : Nat} {Ls : Array Slot} {z z' : Int32} {t : FieldType} {rest : List Value} (hret : meth.sig.returnType = some t) (ht : t = .boolean ∨ t = .byte ∨ t = .char ∨ t = .short) (hd : decode c.code pc = .ok (.ireturn, 1)) (hz : nar t z = z')
    (hk : cells ≤ rm.cells) (hn : slots ≤ rm.slots) (hq : Q (some (.int z')) T.heap locs) : own_Ends p e below s Q rm T (mkF m pc Ls (.int z :: rest)) := by
  subst hz
  obtain ⟨fs, hr, hrun, hended, hW, hsame⟩ := X.leave (v := some (.int (nar t z))) (fun h => by rw [hret] at h; cases h) hlk
  exact ⟨_, _, retN X hx hret ht hd hr, hrun, hended, _, _, rfl, hq, ⟨_, rfl⟩, hW, hsame.mono hk hn⟩
theorem own_retA (X : Stand p l e R s m args below meth c T locs cells slots) (hx : p.tables.exec = Jvm.exec) (hlk : meth.locks = false) {pc : Nat} {Ls : Array Slot} {w : Value} {t : FieldType} {rest : List Value} (hret : meth.sig.returnType = some t) (ht : t.isReference = true) (hw : w.isRef = true) (hd : decode c.code pc = .ok (.areturn, 1))
    (hk : cells ≤ rm.cells) (hn : slots ≤ rm.slots) (hq : Q (some w) T.heap locs) : own_Ends p e below s Q rm T (mkF m pc Ls (w :: rest)) := by
  obtain ⟨fs, hr, hrun, hended, hW, hsame⟩ := X.leave (v := some w) (fun h => by rw [hret] at h; cases h) hlk
  have hnw : narrow t w = w := by cases w <;> cases t <;> first | rfl | cases ht | cases hw
  exact ⟨_, _, retOut X hx hret hnw (Or.inr (Or.inr (Or.inr (Or.inr ⟨rfl, ht, hw⟩)))) hd hr, hrun, hended, _, _, rfl, hq, ⟨_, rfl⟩, hW, hsame.mono hk hn⟩
theorem own_retJ (X : Stand p l e R s m args below meth c T locs cells slots) (hx : p.tables.exec = Jvm.exec) (hlk : meth.locks = false) {pc : Nat} {Ls : Array Slot} {z : Int64} {rest : List Value} (hret : meth.sig.returnType = some .long) (hd : decode c.code pc = .ok (.lreturn, 1))
    (hk : cells ≤ rm.cells) (hn : slots ≤ rm.slots) (hq : Q (some (.long z)) T.heap locs) : own_Ends p e below s Q rm T (mkF m pc Ls (.long z :: rest)) := by
  obtain ⟨fs, hr, hrun, hended, hW, hsame⟩ := X.leave (v := some (.long z)) (fun h => by rw [hret] at h; cases h) hlk
  exact ⟨_, _, retOut X hx hret rfl (Or.inr (Or.inl ⟨rfl, rfl, z, rfl⟩)) hd hr, hrun, hended, _, _, rfl, hq, ⟨_, rfl⟩, hW, hsame.mono hk hn⟩
theorem own_retV (X : Stand p l e R s m args below meth c T locs cells slots) (hx : p.tables.exec = Jvm.exec) (hlk : meth.locks = false) {pc : Nat} {Ls : Array Slot} (hret : meth.sig.returnType = none) (hd : decode c.code pc = .ok (.return_, 1))
    (hk : cells ≤ rm.cells) (hn : slots ≤ rm.slots) (hq : Q none T.heap locs) : own_Ends p e below s Q rm T (mkF m pc Ls []) := by
  obtain ⟨fs, hr, hrun, hended, hW, hsame⟩ := X.leave (v := none) (fun _ => rfl) hlk
  exact ⟨_, _, X.returnOut hx hret hd hr, hrun, hended, _, _, rfl, hq, ⟨_, rfl⟩, hW, hsame.mono hk hn⟩
/-- what an instance method's words say besides: its own class declares it; that class is no interface; the look-up from there finds it -/
theorem own_decl {y : MethodName} {bytes : ByteArray} {maxL : Nat} {ret : Option FieldType} (w : (Cond.instanceMethod y).before a0 Z = true) (wc : (Cond.code y bytes maxL ret).before a0 Z = true) : (Cond.declares y).before a0 Z = true := by
  obtain ⟨mk, methM, hn, hm, hs, -⟩ := Cond.instanceMethod_spec w
  obtain ⟨m2, c, h1, -, -, -, -, -, -, hsig⟩ := Cond.code_spec hn wc
  cases hm.symm.trans h1
  simp [Cond.before, Cond.holds, Cond.value, hn, hm, hs, hsig]
theorem own_nf {C6 : String} {y y6 : MethodName} (w6 : (Cond.selects C6 y6 y6).before a0 Z = true) (h6 : y6.cls = y.cls) : NotFace Z y := fun r0 h0 => by
  obtain ⟨c2, r2, m2, q1, q2, q3, q4, kP, hkP, hkPi⟩ := Cond.selects_spec w6
  have e1 := findClass_of_methodNamed q3
  have e2 := findClass_of_methodNamed h0
  rw [h6] at e1
  have q := Option.some.inj (e1.symm.trans e2)
  exact ⟨kP, by rw [← q]; exact hkP, hkPi⟩
theorem own_same {C6 : String} {y y6 : MethodName} (w : (Cond.instanceMethod y).before a0 Z = true) (w6 : (Cond.selects C6 y6 y6).before a0 Z = true) (h6 : y6.cls = y.cls) (hy : y.cls ≠ "java/lang/invoke/MethodHandle" ∧ y.cls ≠ "java/lang/invoke/VarHandle") : (Cond.sameMethod y.cls y.cls y.name y.desc).before a0 Z = true := by
  obtain ⟨mk, methM, hn, hm, hs, -⟩ := Cond.instanceMethod_spec w
  obtain ⟨kr, hk, hi⟩ := own_nf w6 h6 _ hn
  have e1 := findClass_of_methodNamed hn
  have e2 := State.methodFound?_of_named hn hy
  simp [Cond.before, Cond.holds, Cond.value, e1, e2, hn, hk, hi]
/-- invokevirtual by the contract of the body that the receiver's class selects -/
theorem own_callV {G : State → JFrame → Prop} (hG : own_Closed p e below G) (X : Stand p l e R s m args below meth c T locs cells slots) (hx : p.tables.exec = Jvm.exec) (hZ : Z.Warmed39 s.vm) {own C : String} {index : Nat} {y z : MethodName} (hown : s.vm.findClass own = some m.cls)
    (w1 : (Cond.methodLink own index y).before a0 Z = true) (w2 : (Cond.declares y).before a0 Z = true) (w3 : (Cond.selects C y z).before a0 Z = true) (w4 : (Cond.instanceMethod z).before a0 Z = true) {C6 : String} {y6 : MethodName} (w6 : (Cond.selects C6 y6 y6).before a0 Z = true) (h6 : y6.cls = y.cls) (hy : y.cls ≠ "java/lang/invoke/MethodHandle" ∧ y.cls ≠ "java/lang/invoke/VarHandle")
    {bytes : ByteArray} {maxL : Nat} {ret : Option FieldType} {as' : Array Value} (hM : own_Met l Z z bytes maxL ret [] rm as' h Q') (wc : (Cond.code z bytes maxL ret).before a0 Z = true) (wz : (Cond.initialized z.cls).before a0 Z = true)
    {b : Addr} (eT : T.heap = h) (E : Exa Z h b C) {pc W : Nat} {Ls : Array Slot} {argsL rest : List Value} (hsize : Ls.size = c.maxLocals) (hlen : ∀ sig, parseMethodDescriptor y.desc = some sig → argsL.length = sig.parameters.length)
    (hW : (rest.map fun v => v.category).sum ≤ W) (hf : rm.frames + 1 ≤ R.frames) (hl : W + (maxL + 11) + rm.locals ≤ R.locals) (hc : cells + rm.cells ≤ R.cells) (hn : slots + rm.slots ≤ R.slots)
    (hdg : decode c.code pc = .ok (.invokevirtual index, 3)) (has : (Value.ref b :: argsL).toArray = as') {st : List Value} (hst : st = argsL.reverse ++ .ref b :: rest)
    (k : ∀ (T' : State) (L : List Loc) (v : Option Value), Stand p l e R s m args below meth c T' (locs ++ L) (cells + rm.cells) (slots + rm.slots) → Q' v T'.heap L → G T' (mkF m (pc + 3) Ls (v.toList ++ rest))) :
    G T (mkF m pc Ls st) := by
  subst hst
  obtain ⟨cq, kq, qa, qb, qc⟩ := isOf hZ eT E
  obtain ⟨v, _, ⟨T4, L4, k4, n4⟩, -, X4, ⟨Lc, hQ, l4, y4, z4⟩, st4⟩ := X.virtualBack hx (y := y) (z := z) hown (mvT hZ w1) (mvT hZ w2) (own_nf (a0 := #[]) (mvT hZ w6) h6) (mvT hZ w3) (mvT hZ w4) hy (backOf (W := W) hM hZ wc wz hf hl) qa qc (g := mkF m pc Ls (argsL.reverse ++ .ref b :: rest)) rfl hsize (Steps.refl _) (argsL := argsL) (rest := rest) hlen rfl (by simpa [JFrame.monitorRoom] using hW) hdg (fun _ _ => ⟨has, eT, hc, hn⟩)
  dsimp only [Pt.U, Pt.locs, Pt.cells, Pt.slots] at X4 l4 y4 z4 st4 hQ
  subst l4 y4 z4
  exact hG _ _ _ _ (fun t kt => st4.trans kt) (k _ _ _ X4 hQ)
/-- the same through a class that inherits the method -/
theorem own_callU {G : State → JFrame → Prop} (hG : own_Closed p e below G) (X : Stand p l e R s m args below meth c T locs cells slots) (hx : p.tables.exec = Jvm.exec) (hZ : Z.Warmed39 s.vm) {own C owner : String} {index : Nat} {y z : MethodName} (hown : s.vm.findClass own = some m.cls)
    (w1 : (Cond.methodLink own index y).before a0 Z = true) (w0 : (Cond.sameMethod y.cls owner y.name y.desc).before a0 Z = true) (w2 : (Cond.declares ⟨owner, y.name, y.desc⟩).before a0 Z = true) (w3 : (Cond.selects C y z).before a0 Z = true) (w4 : (Cond.instanceMethod z).before a0 Z = true) (hy : owner ≠ "java/lang/invoke/MethodHandle" ∧ owner ≠ "java/lang/invoke/VarHandle")
    {bytes : ByteArray} {maxL : Nat} {ret : Option FieldType} {as' : Array Value} (hM : own_Met l Z z bytes maxL ret [] rm as' h Q') (wc : (Cond.code z bytes maxL ret).before a0 Z = true) (wz : (Cond.initialized z.cls).before a0 Z = true)
    {b : Addr} (eT : T.heap = h) (E : Exa Z h b C) {pc W : Nat} {Ls : Array Slot} {argsL rest : List Value} (hsize : Ls.size = c.maxLocals) (hlen : ∀ sig, parseMethodDescriptor y.desc = some sig → argsL.length = sig.parameters.length)
    (hW : (rest.map fun v => v.category).sum ≤ W) (hf : rm.frames + 1 ≤ R.frames) (hl : W + (maxL + 11) + rm.locals ≤ R.locals) (hc : cells + rm.cells ≤ R.cells) (hn : slots + rm.slots ≤ R.slots)
    (hdg : decode c.code pc = .ok (.invokevirtual index, 3)) (has : (Value.ref b :: argsL).toArray = as') {st : List Value} (hst : st = argsL.reverse ++ .ref b :: rest)
    (k : ∀ (T' : State) (L : List Loc) (v : Option Value), Stand p l e R s m args below meth c T' (locs ++ L) (cells + rm.cells) (slots + rm.slots) → Q' v T'.heap L → G T' (mkF m (pc + 3) Ls (v.toList ++ rest))) :
    G T (mkF m pc Ls st) := by
  subst hst
  obtain ⟨cq, kq, qa, qb, qc⟩ := isOf hZ eT E
  obtain ⟨v, _, ⟨T4, L4, k4, n4⟩, -, X4, ⟨Lc, hQ, l4, y4, z4⟩, st4⟩ := X.virtualBackUp hx (x := y) (y := z) hown (mvT hZ w1) (mvT hZ w0) (mvT hZ w2) hy (mvT hZ w3) (mvT hZ w4) (backOf (W := W) hM hZ wc wz hf hl) qa qc (g := mkF m pc Ls (argsL.reverse ++ .ref b :: rest)) rfl hsize (Steps.refl _) (argsL := argsL) (rest := rest) hlen rfl (by simpa [JFrame.monitorRoom] using hW) hdg (fun _ _ => ⟨has, eT, hc, hn⟩)
  dsimp only [Pt.U, Pt.locs, Pt.cells, Pt.slots] at X4 l4 y4 z4 st4 hQ
  subst l4 y4 z4
  exact hG _ _ _ _ (fun t kt => st4.trans kt) (k _ _ _ X4 hQ)
/-- a constructor by its contract -/
theorem own_callI {G : State → JFrame → Prop} (hG : own_Closed p e below G) (X : Stand p l e R s m args below meth c T locs cells slots) (hx : p.tables.exec = Jvm.exec) (hZ : Z.Warmed39 s.vm) {own : String} {index : Nat} {y : MethodName} (hy1 : y.name = "<init>") (hown : s.vm.findClass own = some m.cls)
    (w1 : (Cond.methodLink own index y).before a0 Z = true) (w4 : (Cond.instanceMethod y).before a0 Z = true) (hy : y.cls ≠ "java/lang/invoke/MethodHandle" ∧ y.cls ≠ "java/lang/invoke/VarHandle")
    {bytes : ByteArray} {maxL : Nat} {as' : Array Value} (hM : own_Met l Z y bytes maxL none [] rm as' h Q') (wc : (Cond.code y bytes maxL none).before a0 Z = true) (wz : (Cond.initialized y.cls).before a0 Z = true)
    {b : Addr} (eT : T.heap = h) {pc W : Nat} {Ls : Array Slot} {argsL rest : List Value} (hsize : Ls.size = c.maxLocals) (hlen : ∀ sig, parseMethodDescriptor y.desc = some sig → argsL.length = sig.parameters.length)
    (hW : (rest.map fun v => v.category).sum ≤ W) (hf : rm.frames + 1 ≤ R.frames) (hl : W + (maxL + 11) + rm.locals ≤ R.locals) (hc : cells + rm.cells ≤ R.cells) (hn : slots + rm.slots ≤ R.slots)
    (hdg : decode c.code pc = .ok (.invokespecial index, 3)) (has : (Value.ref b :: argsL).toArray = as') {st : List Value} (hst : st = argsL.reverse ++ .ref b :: rest)
    (k : ∀ (T' : State) (L : List Loc) (v : Option Value), Stand p l e R s m args below meth c T' (locs ++ L) (cells + rm.cells) (slots + rm.slots) → Q' v T'.heap L → G T' (mkF m (pc + 3) Ls (v.toList ++ rest))) :
    G T (mkF m pc Ls st) := by
  subst hst
  obtain ⟨v, _, ⟨T4, L4, k4, n4⟩, -, X4, ⟨Lc, hQ, l4, y4, z4⟩, st4⟩ := X.specialBack hx (y := y) hy1 hown (mvT hZ w1) (mvT hZ w4) (mvT hZ wc) hy (backOf (W := W) hM hZ wc wz hf hl) (g := mkF m pc Ls (argsL.reverse ++ .ref b :: rest)) rfl hsize (Steps.refl _) (a := b) (argsL := argsL) (rest := rest) hlen rfl (by simpa [JFrame.monitorRoom] using hW) hdg (fun _ _ => ⟨has, eT, hc, hn⟩)
  dsimp only [Pt.U, Pt.locs, Pt.cells, Pt.slots] at X4 l4 y4 z4 st4 hQ
  subst l4 y4 z4
  exact hG _ _ _ _ (fun t kt => st4.trans kt) (k _ _ _ X4 hQ)
/-- super.m(..) by its contract -/
theorem own_callX {G : State → JFrame → Prop} (hG : own_Closed p e below G) (X : Stand p l e R s m args below meth c T locs cells slots) (hx : p.tables.exec = Jvm.exec) (hZ : Z.Warmed39 s.vm) {own C : String} {index : Nat} {y : MethodName} (hown : s.vm.findClass own = some m.cls)
    (w1 : (Cond.methodLink own index y).before a0 Z = true) (w4 : (Cond.instanceMethod y).before a0 Z = true) (w5 : (Cond.superclass own y.cls).before a0 Z = true) {C6 : String} {y6 : MethodName} (w6 : (Cond.selects C6 y6 y6).before a0 Z = true) (h6 : y6.cls = y.cls) (hy : y.cls ≠ "java/lang/invoke/MethodHandle" ∧ y.cls ≠ "java/lang/invoke/VarHandle") (hni : y.name ≠ "<init>")
    {bytes : ByteArray} {maxL : Nat} {ret : Option FieldType} {as' : Array Value} (hM : own_Met l Z y bytes maxL ret [] rm as' h Q') (wc : (Cond.code y bytes maxL ret).before a0 Z = true) (wz : (Cond.initialized y.cls).before a0 Z = true)
    {b : Addr} (eT : T.heap = h) (E : Exa Z h b C) {pc W : Nat} {Ls : Array Slot} {argsL rest : List Value} (hsize : Ls.size = c.maxLocals) (hlen : ∀ sig, parseMethodDescriptor y.desc = some sig → argsL.length = sig.parameters.length)
    (hW : (rest.map fun v => v.category).sum ≤ W) (hf : rm.frames + 1 ≤ R.frames) (hl : W + (maxL + 11) + rm.locals ≤ R.locals) (hc : cells + rm.cells ≤ R.cells) (hn : slots + rm.slots ≤ R.slots)
    (hdg : decode c.code pc = .ok (.invokespecial index, 3)) (has : (Value.ref b :: argsL).toArray = as') {st : List Value} (hst : st = argsL.reverse ++ .ref b :: rest)
    (k : ∀ (T' : State) (L : List Loc) (v : Option Value), Stand p l e R s m args below meth c T' (locs ++ L) (cells + rm.cells) (slots + rm.slots) → Q' v T'.heap L → G T' (mkF m (pc + 3) Ls (v.toList ++ rest))) :
    G T (mkF m pc Ls st) := by
  subst hst
  obtain ⟨v, _, ⟨T4, L4, k4, n4⟩, -, X4, ⟨Lc, hQ, l4, y4, z4⟩, st4⟩ := superBack X hx hZ (y := y) hown w1 (own_same w4 w6 h6 hy) w4 w5 hni (backOf (W := W) hM hZ wc wz hf hl) eT (Ins.self E) (g := mkF m pc Ls (argsL.reverse ++ .ref b :: rest)) rfl hsize wc (argsL := argsL) (rest := rest) hlen rfl (by simpa [JFrame.monitorRoom] using hW) hdg (fun _ _ => ⟨has, eT, hc, hn⟩)
  dsimp only [Pt.U, Pt.locs, Pt.cells, Pt.slots] at X4 l4 y4 z4 st4 hQ
  subst l4 y4 z4
  exact hG _ _ _ _ (fun t kt => st4.trans kt) (k _ _ _ X4 hQ)
/-- invokestatic by the callee's contract -/
theorem own_callS {G : State → JFrame → Prop} (hG : own_Closed p e below G) (X : Stand p l e R s m args below meth c T locs cells slots) (hx : p.tables.exec = Jvm.exec) (hZ : Z.Warmed39 s.vm) {own : String} {index : Nat} {y : MethodName} (hown : s.vm.findClass own = some m.cls)
    (w1 : (Cond.methodLink own index y).before a0 Z = true) (w2 : (Cond.static y).before a0 Z = true) (hy : y.cls ≠ "java/lang/invoke/MethodHandle" ∧ y.cls ≠ "java/lang/invoke/VarHandle")
    {bytes : ByteArray} {maxL : Nat} {ret : Option FieldType} {as' : Array Value} (hM : own_Met l Z y bytes maxL ret [] rm as' h Q') (wc : (Cond.code y bytes maxL ret).before a0 Z = true) (wz : (Cond.initialized y.cls).before a0 Z = true)
    (eT : T.heap = h) {pc W : Nat} {Ls : Array Slot} {argsL rest : List Value} (hsize : Ls.size = c.maxLocals) (hlen : ∀ sig, parseMethodDescriptor y.desc = some sig → argsL.length = sig.parameters.length)
    (hW : (rest.map fun v => v.category).sum ≤ W) (hf : rm.frames + 1 ≤ R.frames) (hl : W + (maxL + 11) + rm.locals ≤ R.locals) (hc : cells + rm.cells ≤ R.cells) (hn : slots + rm.slots ≤ R.slots)
    (hdg : decode c.code pc = .ok (.invokestatic index, 3)) (has : argsL.toArray = as') {st : List Value} (hst : st = argsL.reverse ++ rest)
    (k : ∀ (T' : State) (L : List Loc) (v : Option Value), Stand p l e R s m args below meth c T' (locs ++ L) (cells + rm.cells) (slots + rm.slots) → Q' v T'.heap L → G T' (mkF m (pc + 3) Ls (v.toList ++ rest))) :
    G T (mkF m pc Ls st) := by
  subst hst
  obtain ⟨v, _, ⟨T4, L4, k4, n4⟩, -, X4, ⟨Lc, hQ, l4, y4, z4⟩, st4⟩ := Jvm.LawKit.callS X hx (y := y) hown (mvT hZ w1) (mvT hZ w2) (mvT hZ wz) (mvT hZ wc) hy (backOf (W := W) hM hZ wc wz hf hl) (g := mkF m pc Ls (argsL.reverse ++ rest)) rfl hsize (argsL := argsL) (rest := rest) hlen rfl (by simpa [JFrame.monitorRoom] using hW) hdg (fun _ _ => ⟨has, eT, hc, hn⟩)
  dsimp only [Pt.U, Pt.locs, Pt.cells, Pt.slots] at X4 l4 y4 z4 st4 hQ
  subst l4 y4 z4
  exact hG _ _ _ _ (fun t kt => st4 t kt) (k _ _ _ X4 hQ)
/-- it gives r back; the heap has grown at the most -/
def own_QE (h0 : Heap) (r : Option Value) (v : Option Value) (h : Heap) (L : List Loc) : Prop := v = r ∧ L = [] ∧ Ext h0 h
theorem own_ext0 {h : Heap} : Ext h h := ⟨Nat.le_refl _, fun _ _ q => q⟩
theorem own_extT {h1 h2 h3 : Heap} (A : Ext h1 h2) (B : Ext h2 h3) : Ext h1 h3 := ⟨Nat.le_trans A.1 B.1, fun a c q => B.2 a c (A.2 a c q)⟩
theorem own_len (X : Stand p l e R s m args below meth c T locs cells slots) (hx : p.tables.exec = Jvm.exec) (hZ : Z.Warmed39 s.vm) (eT : T.heap = h) {a : Addr} {cl : Cell} {ty : FieldType} (A : Arr Z h a cl ty) {z : Int32} (hz : cl.slots.size.toInt32 = z) {g : JFrame} (hg : g.method = m) {rest : List Value} (hs : g.stack = .ref a :: rest) (hd : decode c.code g.pc = .ok (.arraylength, 1)) (t : State)
    (hr : Steps p.tables e below (T.setTop { g with pc := g.pc + 1, stack := .int z :: rest }) t) : Steps p.tables e below (T.setTop g) t := by
  subst hz
  exact X.arraylength hx (by rw [eT]; exact A.1) (State.isArrayOf_alike hZ.alike A.2.1) hg hs hd t hr
theorem own_aald (X : Stand p l e R s m args below meth c T locs cells slots) (hx : p.tables.exec = Jvm.exec) (hZ : Z.Warmed39 s.vm) (eT : T.heap = h) {a : Addr} {cl : Cell} {ty : FieldType} (A : Arr Z h a cl ty) (ht : ty.isReference = true) {j : Int32} {v : Value} (hin : ¬ (j < 0 ∨ cl.slots.size ≤ j.toNatClampNeg)) (hv : cl.slots[j.toNatClampNeg]? = some v) {g : JFrame} (hg : g.method = m) {rest : List Value} (hs : g.stack = .int j :: .ref a :: rest) (hd : decode c.code g.pc = .ok (.aaload, 1)) (t : State)
    (hr : Steps p.tables e below (T.setTop { g with pc := g.pc + 1, stack := v :: rest }) t) : Steps p.tables e below (T.setTop g) t :=
  X.aaload hx (by rw [eT]; exact A.1) (State.isArrayOf_alike hZ.alike A.2.1) ht A.2.2 hin hv hg hs hd t hr
theorem own_lald (X : Stand p l e R s m args below meth c T locs cells slots) (hx : p.tables.exec = Jvm.exec) (hZ : Z.Warmed39 s.vm) (eT : T.heap = h) {a : Addr} {cl : Cell} (A : Arr Z h a cl .long) {j : Int32} {v : Value} (hin : ¬ (j < 0 ∨ cl.slots.size ≤ j.toNatClampNeg)) (hv : cl.slots[j.toNatClampNeg]? = some v) {g : JFrame} (hg : g.method = m) {rest : List Value} (hs : g.stack = .int j :: .ref a :: rest) (hd : decode c.code g.pc = .ok (.laload, 1)) (t : State)
    (hr : Steps p.tables e below (T.setTop { g with pc := g.pc + 1, stack := v :: rest }) t) : Steps p.tables e below (T.setTop g) t :=
  X.laload hx (by rw [eT]; exact A.1) (State.isArrayOf_alike hZ.alike A.2.1) A.2.2 hin hv hg hs hd t hr
theorem own_bald (X : Stand p l e R s m args below meth c T locs cells slots) (hx : p.tables.exec = Jvm.exec) (hZ : Z.Warmed39 s.vm) (eT : T.heap = h) {a : Addr} {cl : Cell} (A : Arr Z h a cl .byte) {j : Int32} {v : Value} (hin : ¬ (j < 0 ∨ cl.slots.size ≤ j.toNatClampNeg)) (hv : cl.slots[j.toNatClampNeg]? = some v) {g : JFrame} (hg : g.method = m) {rest : List Value} (hs : g.stack = .int j :: .ref a :: rest) (hd : decode c.code g.pc = .ok (.baload, 1)) (t : State)
    (hr : Steps p.tables e below (T.setTop { g with pc := g.pc + 1, stack := v :: rest }) t) : Steps p.tables e below (T.setTop g) t :=
  X.baloadBytes hx (by rw [eT]; exact A.1) (State.isArrayOf_alike hZ.alike A.2.1) A.2.2 hin hv hg hs hd t hr
/-- a field that the case says holds what the other term holds -/
theorem own_fldR {t u : Term} {C n d : String} {a b : Addr} (ev : t.eval args s none [] s = some (.ref a)) (ev2 : u.eval args s none [] s = some (.ref b)) (hq : (Cond.eq (Term.field t C n d) u).value args s none s [] = some true) : Fld s s.heap a C n d (.ref b) := by
  obtain ⟨x, y, h1, h2, k1, k2⟩ := cmp_v (Or.inl hq)
  cases ev2.symm.trans h2
  have hx : x = .ref b := by
    cases x <;> simp [Kin, Value.isRef] at k1 k2
    · simp [Cond.value, h1, h2] at hq
    · simpa [Cond.value, h1, h2] using hq
  subst hx
  exact Fld.start ((fld_at ev).symm.trans h1)
/-- an element that the case says is what the other term is -/
theorem own_elemR {t u : Term} {k : Int32} {a b : Addr} {cl : Cell} (ev : t.eval args s none [] s = some (.ref a)) (hc : s.heap[a]? = some cl) (ev2 : u.eval args s none [] s = some (.ref b)) (hq : (Cond.eq (Term.elem t (Term.int k)) u).value args s none s [] = some true) : cl.slots[k.toNatClampNeg]? = some (.ref b) := by
  obtain ⟨x, y, h1, h2, k1, k2⟩ := cmp_v (Or.inl hq)
  cases ev2.symm.trans h2
  have hx : x = .ref b := by
    cases x <;> simp [Kin, Value.isRef] at k1 k2
    · simp [Cond.value, h1, h2] at hq
    · simpa [Cond.value, h1, h2] using hq
  subst hx
  exact (elem_in h1 ev rfl hc).2
/-- an element that the case says is this int -/
theorem own_elemI {t : Term} {k w : Int32} {a : Addr} {cl : Cell} (ev : t.eval args s none [] s = some (.ref a)) (hc : s.heap[a]? = some cl) (hq : (Cond.eq (Term.elem t (Term.int k)) (Term.int w)).value args s none s [] = some true) : cl.slots[k.toNatClampNeg]? = some (.int w) := by
  obtain ⟨x, y, h1, h2, k1, k2⟩ := cmp_v (Or.inl hq)
  have e2 : y = .int w := (Option.some.inj h2).symm
  subst e2
  obtain ⟨z, rfl⟩ : ∃ z, x = .int z := k2
  have e3 : z = w := by simpa [Cond.value, h1, h2] using hq
  subst e3
  exact (elem_in h1 ev rfl hc).2
/-- a length that the case says -/
theorem own_lenI {t : Term} {k : Int32} {a : Addr} {cl : Cell} {ty : FieldType} (ev : t.eval args s none [] s = some (.ref a)) (A : Arr s s.heap a cl ty) (hq : (Cond.eq (Term.length t) (Term.int k)).value args s none s [] = some true) (hk : ¬ k < 0) : cl.slots.size = k.toNatClampNeg := by
  obtain ⟨x, y, h1, h2, k1, k2⟩ := cmp_v (Or.inl hq)
  have e2 : y = .int k := (Option.some.inj h2).symm
  subst e2
  obtain ⟨z, rfl⟩ : ∃ z, x = .int z := k2
  have e3 : z = k := by simpa [Cond.value, h1, h2] using hq
  subst e3
  have ha : s.arrayAt? a = some cl := A.fin (Vm.Alike.refl _)
  by_cases hlt : cl.slots.size < 2 ^ 31
  · have q : cl.slots.size.toInt32 = z := by
      have h3 := len_f ev ha hlt
      rw [h1] at h3
      exact (Value.int.inj (Option.some.inj h3)).symm
    rw [← q]; simp only [Int32.toNatClampNeg, len_toInt hlt]; rfl
  · simp [Term.eval, ev, ha, hlt] at h1
/-- a field that the case says holds this int -/
theorem own_fldI {t : Term} {C n d : String} {k : Int32} {a : Addr} (ev : t.eval args s none [] s = some (.ref a)) (hq : (Cond.eq (Term.field t C n d) (Term.int k)).value args s none s [] = some true) : Fld s s.heap a C n d (.int k) := by
  obtain ⟨x, y, h1, h2, k1, k2⟩ := cmp_v (Or.inl hq)
  have e2 : y = .int k := (Option.some.inj h2).symm
  subst e2
  obtain ⟨z, rfl⟩ : ∃ z, x = .int z := k2
  have e3 : z = k := by simpa [Cond.value, h1, h2] using hq
  subst e3
  exact Fld.start ((fld_at ev).symm.trans h1)
end Own
end Jvm.RoadKit
namespace Jvm.RoadKit
open Sem ClassFile Op Lib Bundle Jvm.Stand Jvm.Free Jvm.LawKit
section OwnS
variable {p : Program} {l : Launch} {e : Env} {R : Room} {s : State} {m : MethodId} {args : Array Value} {below : List Frame} {meth : Method} {c : Code} {T T' : State} {locs : List Loc} {cells slots : Nat} {Z : State} {h0 h : Heap} {a0 : Array Value} {Q Q' : Option Value → Heap → List Loc → Prop} {rm rm0 : Room} {vm0 : Vm} {EL : List (String × Nat)}
/-- as own_Ends, where String constants may have been loaded on the way -/
def own_EndsS (Z : State) (EL : List (String × Nat)) (p : Program) (e : Env) (below : List Frame) (s : State) (Q : Option Value → Heap → List Loc → Prop) (rm : Room) (T : State) (g : JFrame) : Prop :=
  ∃ s₂ o, Steps p.tables e below (T.setTop g) s₂ ∧ s₂.status = .running ∧ Ended s₂ below o ∧ ∃ v L, o = .returned v ∧ Q v s₂.heap L ∧ CHr Z EL s.vm s.heap s₂.vm s₂.heap ∧ ReturnedEndW s o s₂ L rm.cells rm.slots
theorem own_goS {g g' : JFrame} (h : ∀ t, Steps p.tables e below (T'.setTop g') t → Steps p.tables e below (T.setTop g) t) (H : own_EndsS Z EL p e below s Q rm T' g') : own_EndsS Z EL p e below s Q rm T g := by
  obtain ⟨s₂, o, h1, r⟩ := H
  exact ⟨s₂, o, h _ h1, r⟩
theorem own_closedS : own_Closed p e below (own_EndsS Z EL p e below s Q rm) := fun _ _ _ _ h H => own_goS h H
theorem own_castS {g g' : JFrame} (q : g = g') (H : own_EndsS Z EL p e below s Q rm T g') : own_EndsS Z EL p e below s Q rm T g := q ▸ H
def own_MetS (l : Launch) (Z : State) (EL : List (String × Nat)) (y : MethodName) (bytes : ByteArray) (maxL : Nat) (ret : Option FieldType) (ws : List Cond) (rm : Room) (as' : Array Value) (h0 : Heap) (Q : Option Value → Heap → List Loc → Prop) : Prop :=
  MetFree l y (head1 (Cond.code y bytes maxL ret :: ws) rm) (fun a U => a = as' ∧ Z.Warmed39 U.vm ∧ U.heap = h0 ∧ CHv Z EL U.vm h0) (fun _ _ _ _ _ => True) (fun _ U o U' => ∃ v L, o = .returned v ∧ Q v U'.heap L ∧ CHr Z EL U.vm U.heap U'.vm U'.heap ∧ ReturnedEndW U o U' L rm.cells rm.slots)
theorem own_metS {y : MethodName} {bytes : ByteArray} {maxL : Nat} {ret : Option FieldType} {ws : List Cond} {as' : Array Value} (hy : plainFor y = true)
    (H : ∀ (p : Program) (e : Env) (s : State) (m : MethodId) (below : List Frame) (meth : Method) (c : Code) (s₁ : State), p.tables.exec = Jvm.exec → c.code = bytes → c.maxLocals = maxL → (s.setVm s.vm).vm.findClass y.cls = some m.cls → meth.name = y.name → meth.sig.returnType = ret → meth.locks = false → Z.Warmed39 (s.setVm s.vm).vm →
      Stand p l e rm (s.setVm s.vm) m as' below meth c s₁ [] 0 0 → s₁.heap = h0 → s.Since s.vm 0 → 0 ≤ h0.size → CHr Z EL s.vm s.heap s.vm h0 → s.heap = h0 → own_EndsS Z EL p e below s Q rm s₁ (entryFrame m as' maxL)) : own_MetS l Z EL y bytes maxL ret ws rm as' h0 Q := by
  refine MetFree.of_bodySF hy hisR ?_
  intro p e s m args below meth c s₁ Bd hml0 hP hK
  obtain ⟨rfl, hZ, hh, hC⟩ := hP
  have X : Stand p l e rm s m args below meth c s₁ [] 0 0 := Stand.of_body Bd
  have hC' : CHr Z EL s.vm s.heap s.vm h0 := by rw [hh]; exact CHr.refl hC
  exact H p e s m below meth c s₁ Bd.exec Bd.bytes hml0 (findClass_of_methodNamed Bd.named) (name_of_methodNamed Bd.named Bd.method).1 Bd.returns Bd.notSynchronized hZ X (by rw [← hh, Bd.state]; rfl) ((State.WarmedH.refl s).since 0) (Nat.zero_le _) hC' hh
theorem own_leaveS (X : Stand p l e R (s.setVm vm0) m args below meth c T locs cells slots) (hlk : meth.locks = false) (v : Option Value) (hv : meth.sig.returnType = none → v = none) {k0 : Nat} (hS : s.Since vm0 k0) (eT : T.heap = h) (hk : k0 ≤ h.size) (hZ : Z.Warmed39 (s.setVm vm0).vm) (hEL : EW Z a0 EL) (C : CHr Z EL s.vm s.heap vm0 h)
    (hkk : cells ≤ rm.cells) (hn : slots ≤ rm.slots) (hq : Q v h locs) {g : JFrame} (hst : ∀ fs, (∀ (f : JFrame) (acts : List Action), f.method = m → f.locked = none → f.entered = [] → (doReturn e (T.setTop f) acts v).1 = T.setFrames fs) → Steps p.tables e below (T.setTop g) (T.setFrames fs)) : own_EndsS Z EL p e below s Q rm T g := by
  subst eT
  obtain ⟨fs, hr, hrun, hended, h1, h2, h3, h4⟩ := X.leaveW hS hk hv hlk
  have hC := CHv.at X hZ hEL C.1
  exact ⟨_, _, hst fs hr, hrun, hended, _, _, rfl, hq, C.trans hC, h1, h2, h3, h4.mono hkk hn⟩
/-- a callee that loads no constant, in a walk that may have: Stand is over the re-based start; nothing else to say -/
theorem own_ldc (X : Stand p l e R (s.setVm vm0) m args below meth c T locs cells slots) (hx : p.tables.exec = Jvm.exec) (hZ : Z.Warmed39 (s.setVm vm0).vm) {own text : String} {index : Nat} (hown : (s.setVm vm0).vm.findClass own = some m.cls) (w : (Cond.stringLink own index text).before a0 Z = true) (wS : ∀ a ∈ Bundle.stringAtoms, a.before a0 Z = true)
    (eT : T.heap = h) {k0 : Nat} (hS : s.Since vm0 k0) (hk : k0 ≤ h.size) (hEL : EW Z a0 EL) (hmem : (own, index) ∈ EL) (C : CHr Z EL s.vm s.heap vm0 h)
    {vs : List Value} {z : Int32} (ht : (∀ c ∈ text.toList, c.toNat < 256) ∧ text.toList.map (fun c => Value.int (Jvm.Lit.byteI c.toNat.toUInt16)) = vs) (hz : ¬ z < 0) (hl : z.toNatClampNeg = vs.length)
    {g : JFrame} (hg : g.method = m) (hd : decode c.code g.pc = .ok (.ldc index, 2)) {n : Nat} (hn : 4 * text.toList.length ≤ n) (hbig : n ≤ 536870912) (hc : cells + 2 ≤ R.cells) (hl' : slots + (n + 4) ≤ R.slots) :
    ∃ (a : Addr) (T' : State) (h' : Heap) (vm1 : Vm) (k1 : Nat) (b : Addr) (k : ClassId), Stand p l e R (s.setVm vm1) m args below meth c T' locs (cells + 2) (slots + (n + 4)) ∧ T'.heap = h' ∧ Ext h h' ∧ s.Since vm1 k1 ∧ k1 ≤ h'.size ∧ Z.Warmed39 (s.setVm vm1).vm ∧ (s.setVm vm1).vm.findClass own = some m.cls ∧
      Exa Z h' a "java/lang/String" ∧ Fld Z h' a "java/lang/String" "coder" "B" (.int 0) ∧ Fld Z h' a "java/lang/String" "value" "[B" (.ref b) ∧ Arv Z h' b k .byte z vs (.int 0) ∧ CHr Z EL s.vm s.heap vm1 h' ∧ CHr Z EL vm0 h vm1 h' ∧ (∀ x, Safe Z EL vm1 h' x → x ≠ a ∧ x ≠ b) ∧
      ∀ target, Steps p.tables e below (T'.setTop { g with pc := g.pc + 2, stack := .ref a :: g.stack }) target → Steps p.tables e below (T.setTop g) target := by
  obtain ⟨a, T', h', k1, b, k, r1, r2, r3, r4, r5, r6, r7, r8, r9, r10, r11, -, -, r14, -, r16, r17⟩ := ldcCH X hx hZ hown w wS eT hS hk hEL hmem C.1 ht hz hl hg hd hn hbig hc hl'
  exact ⟨a, T', h', T'.vm, k1, b, k, r1, r2, r3, r4, r5, r6, r7, r8, r9, r10, r11, C.trans r14, r14, r16, r17⟩
/-- invokestatic of a callee that may load constants -/
theorem own_callSS (X : Stand p l e R (s.setVm vm0) m args below meth c T locs cells slots) (hx : p.tables.exec = Jvm.exec) (hZ : Z.Warmed39 (s.setVm vm0).vm) {own : String} {index : Nat} {y : MethodName} (hown : (s.setVm vm0).vm.findClass own = some m.cls)
    (w1 : (Cond.methodLink own index y).before a0 Z = true) (w2 : (Cond.static y).before a0 Z = true) (hy : y.cls ≠ "java/lang/invoke/MethodHandle" ∧ y.cls ≠ "java/lang/invoke/VarHandle")
    {bytes : ByteArray} {maxL : Nat} {ret : Option FieldType} {as' : Array Value} (hM : own_MetS l Z EL y bytes maxL ret [] rm0 as' h Q') (wc : (Cond.code y bytes maxL ret).before a0 Z = true) (wz : (Cond.initialized y.cls).before a0 Z = true)
    (eT : T.heap = h) {k0 : Nat} (hS : s.Since vm0 k0) (hk : k0 ≤ h.size) (hEL : EW Z a0 EL) (C : CHr Z EL s.vm s.heap vm0 h) {pc W : Nat} {Ls : Array Slot} {argsL rest : List Value} (hsize : Ls.size = c.maxLocals) (hlen : ∀ sig, parseMethodDescriptor y.desc = some sig → argsL.length = sig.parameters.length)
    (hW : (rest.map fun v => v.category).sum ≤ W) (hf : rm0.frames + 1 ≤ R.frames) (hl : W + (maxL + 11) + rm0.locals ≤ R.locals) (hc : cells + rm0.cells ≤ R.cells) (hn : slots + rm0.slots ≤ R.slots)
    (hdg : decode c.code pc = .ok (.invokestatic index, 3)) (has : argsL.toArray = as') {st : List Value} (hst : st = argsL.reverse ++ rest)
    (k : ∀ (T' : State) (L : List Loc) (v : Option Value) (vm1 : Vm) (k1 : Nat), Stand p l e R (s.setVm vm1) m args below meth c T' (locs ++ L) (cells + rm0.cells) (slots + rm0.slots) → Q' v T'.heap L → s.Since vm1 k1 → k1 ≤ T'.heap.size → Z.Warmed39 (s.setVm vm1).vm → (s.setVm vm1).vm.findClass own = some m.cls → CHr Z EL s.vm s.heap vm1 T'.heap → own_EndsS Z EL p e below s Q rm T' (mkF m (pc + 3) Ls (v.toList ++ rest))) :
    own_EndsS Z EL p e below s Q rm T (mkF m pc Ls st) := by
  subst hst
  obtain ⟨v, vm₁, ⟨T4, L4, k4, n4⟩, -, X4, hS4, hsz, ⟨Lc, hQ, l4, y4, z4, hC⟩, st4⟩ := callSS X hx (y := y) hown (mvT hZ w1) (mvT hZ w2) (mvT hZ wz) (mvT hZ wc) hy (backOfSH (W := W) hM hZ wc wz hf hl hEL C.1) (g := mkF m pc Ls (argsL.reverse ++ rest)) rfl hsize (argsL := argsL) (rest := rest) hlen rfl (by simpa [JFrame.monitorRoom] using hW) hdg (fun _ _ => ⟨has, eT, hc, hn⟩)
  dsimp only [Pt.U, Pt.locs, Pt.cells, Pt.slots] at X4 hS4 hsz l4 y4 z4 st4 hQ hC
  subst l4 y4 z4
  obtain ⟨X5, S5, Z5, o5⟩ := rebS hS hk X4 hS4 (by rw [← eT]; exact hsz) hZ hown
  exact own_goS (fun t kt => st4.trans kt) (k _ _ _ _ _ X5 hQ S5 (Nat.le_refl _) Z5 o5 (C.trans hC))
end OwnS
section OwnS2
variable {Z : State} {EL : List (String × Nat)} {vm vm1 : Vm} {h h1 h2 : Heap} {ws : List Addr} {x b da da' : Addr}
theorem own_ck (C : CHr Z EL vm h vm1 h1) (K : Keep h1 h2 ws) (hs : ∀ x ∈ ws, Safe Z EL vm1 h1 x) : CHr Z EL vm h vm1 h2 := C.trans (CHr.keep K hs C.1)
theorem own_ce (C : CHr Z EL vm h vm1 h1) (E : Ext h1 h2) : CHr Z EL vm h vm1 h2 := C.trans (CHr.ext E C.1)
theorem own_sk (C : CHr Z EL vm h vm1 h1) (K : Keep h1 h2 ws) (hs : ∀ x ∈ ws, Safe Z EL vm1 h1 x) (S : Safe Z EL vm1 h1 x) : Safe Z EL vm1 h2 x := Safe.keep K hs C.1 S
theorem own_sn (C : CHr Z EL vm h vm1 h1) (K : Keep h1 h2 ws) (hs : ∀ x ∈ ws, Safe Z EL vm1 h1 x) (S : Safe Z EL vm1 h1 da) (q : da' = da ∨ h1.size ≤ da') : Safe Z EL vm1 h2 da' := q.elim (fun e => by rw [e]; exact own_sk C K hs S) (fun e => own_sk C K hs (Safe.new e))
theorem own_sb (hal : Z.vm.Alike vm1) (E : Exa Z h1 b "java/lang/StringBuilder") : Safe Z EL vm1 h1 b := Safe.exa hal E (by decide) (by decide)
end OwnS2
end Jvm.RoadKit
namespace Jvm.RoadKit
open Sem ClassFile Op Lib Bundle Jvm.Stand Jvm.Free Jvm.LawKit
section OwnJ
theorem own_shr0 (z : Int32) : z >>> ((0 : Int32) &&& 31) = z := by
  have e : ((0 : Int32) &&& 31) = 0 := by decide
  rw [e]; simp
theorem own_sub0 (z : Int32) : z - (0 : Int32) = z := by simp
theorem own_shl0 (z : Int32) : z <<< ((0 : Int32) &&& 31) = z := by
  have e : ((0 : Int32) &&& 31) = 0 := by decide
  rw [e]; simp
def own_max (x y : Int32) : Int32 := if x < y then y else x
def own_min (x y : Int32) : Int32 := if y < x then y else x
theorem own_minL {x y : Int32} (h : x < y) : own_min x y = x := by
  unfold own_min
  have : ¬ y < x := by rw [Int32.lt_iff_toInt_lt] at h ⊢; omega
  simp [this]
theorem own_char (w : Int32) (hw : w &&& 255 = w) : w.toUInt32.toUInt16.toUInt32.toInt32 = w := by
  have q := i2c_mask w
  rw [hw] at q; exact q
/-- the list that a copy into fresh zeros leaves says what the elder says -/
theorem own_copyList {vs vd us : List Value} {dv : Value} {n : Nat} (hvd : vd = List.replicate n dv) (hus : us = (List.range n).map fun i => vs.getD (0 + i) dv) (hl : vs.length ≤ n) : ∀ i, vs.getD i dv = (vd.take 0 ++ us ++ vd.drop (0 + n)).getD i dv := by
  intro i
  subst hvd hus
  simp only [List.take_zero, List.nil_append, Nat.zero_add, List.drop_replicate, Nat.sub_self, List.replicate_zero, List.append_nil, List.getD_eq_getElem?_getD, List.getElem?_map]
  by_cases h : i < n
  · rw [List.getElem?_range h]; rfl
  · rw [List.getElem?_eq_none (show (List.range n).length ≤ i by simpa using Nat.le_of_not_lt h), List.getElem?_eq_none (Nat.le_trans hl (Nat.le_of_not_lt h))]; rfl
theorem own_toN {x : Int32} (h : 0 ≤ x.toInt) : (x.toNatClampNeg : Int) = x.toInt := by
  simp only [Int32.toNatClampNeg]; omega
theorem own_nn {x : Int32} (h : 0 ≤ x.toInt) : ¬ x < 0 := by
  rw [Int32.lt_iff_toInt_lt]; have : (0 : Int32).toInt = 0 := by decide
  omega
theorem own_clamp {x : Int32} {k : Nat} (h : x.toInt ≤ k) : x.toNatClampNeg ≤ k := by
  simp only [Int32.toNatClampNeg]; omega
theorem own_lt {x y : Int32} (h : x.toInt < y.toInt) : x < y := by rw [Int32.lt_iff_toInt_lt]; exact h
theorem own_nlt {x y : Int32} (h : y.toInt ≤ x.toInt) : ¬ x < y := by rw [Int32.lt_iff_toInt_lt]; omega
theorem own_ltN {z r : Int32} (h : z.toInt < r.toInt) (h0 : ¬ z < 0) : z.toNatClampNeg < r.toNatClampNeg := by
  rw [Int32.lt_iff_toInt_lt, show (0 : Int32).toInt = 0 from by decide] at h0
  simp only [Int32.toNatClampNeg]; omega
theorem own_neI {x y : Int32} (h : x.toInt < y.toInt) : ¬ x = y := fun q => by rw [q] at h; omega
theorem own_fit {n zs m z' : Int32} (hn0 : ¬ n < 0) (hs0 : ¬ zs < 0) (hmn : m.toInt = n.toInt + zs.toInt) (hzb : m.toInt ≤ z'.toInt) : n.toNatClampNeg + zs.toNatClampNeg ≤ z'.toNatClampNeg := by
  rw [Int32.lt_iff_toInt_lt, show (0 : Int32).toInt = 0 from by decide] at hn0 hs0
  simp only [Int32.toNatClampNeg]; omega
/-- how a builder's array grows -/
theorem own_capB (z mc : Int32) (h0 : 0 ≤ z.toInt) (h1 : z.toInt < mc.toInt) (h2 : mc.toInt ≤ 140) : z.toInt < (z + own_max (mc - z) (z + 2)).toInt ∧ mc.toInt ≤ (z + own_max (mc - z) (z + 2)).toInt ∧ (z + own_max (mc - z) (z + 2)).toInt ≤ 300 := by
  have c2 : (2 : Int32).toInt = 2 := by decide
  have e1 : (mc - z).toInt = mc.toInt - z.toInt := by rw [Int32.toInt_sub]; exact Int.bmod_eq_of_le (by omega) (by omega)
  have e2 : (z + 2).toInt = z.toInt + 2 := by rw [Int32.toInt_add, c2]; exact Int.bmod_eq_of_le (by omega) (by omega)
  unfold own_max
  split
  · rename_i h
    have e3 : (z + (z + 2)).toInt = z.toInt + (z.toInt + 2) := by rw [Int32.toInt_add, e2]; exact Int.bmod_eq_of_le (by omega) (by omega)
    rw [Int32.lt_iff_toInt_lt] at h
    omega
  · rename_i h
    have e3 : (z + (mc - z)).toInt = z.toInt + (mc.toInt - z.toInt) := by rw [Int32.toInt_add, e1]; exact Int.bmod_eq_of_le (by omega) (by omega)
    rw [Int32.lt_iff_toInt_lt] at h
    omega
/-- what lies in a byte[] behind a copy of us to the end of vs -/
theorem own_putList {vs us us' pad : List Value} {dv : Value} {p n : Nat} (hp : vs.length = p) (hn : us.length = n) (hpad : pad = List.replicate pad.length dv) (hus : us' = (List.range n).map fun i => us.getD (0 + i) dv) : ∀ i, (vs ++ us).getD i dv = ((vs ++ pad).take p ++ us' ++ (vs ++ pad).drop (p + n)).getD i dv := by
  intro i
  have e1 : us' = us := by
    subst hus
    apply List.ext_getElem?
    intro j
    rw [List.getElem?_map]
    by_cases h : j < n
    · rw [List.getElem?_range h]
      simp only [Option.map_some, Nat.zero_add, List.getD_eq_getElem?_getD]
      rw [List.getElem?_eq_getElem (by omega)]; rfl
    · rw [List.getElem?_eq_none (by simpa using Nat.le_of_not_lt h), List.getElem?_eq_none (by omega)]; rfl
  have e2 : (vs ++ pad).take p = vs := by rw [← hp, List.take_left']; rfl
  rw [e1, e2]
  simp only [List.getD_eq_getElem?_getD]
  by_cases h : i < (vs ++ us).length
  · rw [List.getElem?_append_left h]
  · rw [List.getElem?_eq_none (Nat.le_of_not_lt h), List.getElem?_append_right (Nat.le_of_not_lt h), List.getElem?_drop, List.getElem?_append_right (by simp at h ⊢; omega), hpad, List.getElem?_replicate]
    split <;> rfl
section
variable {Z : State} {h h' h0 : Heap} {ws ws' : List Addr}
theorem own_keepSub (K : Keep h h' ws) (q : ∀ x ∈ ws, x ∈ ws') : Keep h h' ws' := ⟨K.1, fun x c hx r => K.2.1 x c hx fun z => r (q x z), K.2.2⟩
/-- a StringBuilder b, its array da of z bytes that begin with vs, its count n -/
def own_SB (Z : State) (h : Heap) (b da : Addr) (k : ClassId) (z n : Int32) (vs : List Value) : Prop :=
  Exa Z h b "java/lang/StringBuilder" ∧ Fld Z h b "java/lang/AbstractStringBuilder" "value" "[B" (.ref da) ∧ Fld Z h b "java/lang/AbstractStringBuilder" "coder" "B" (.int 0) ∧ Fld Z h b "java/lang/AbstractStringBuilder" "count" "I" (.int n) ∧ Arv Z h da k .byte z vs (.int 0) ∧ Exa Z h da "[B"
/-- a String a, its array d of z bytes vs -/
def own_St (Z : State) (h : Heap) (a d : Addr) (k : ClassId) (z : Int32) (vs : List Value) : Prop :=
  Exa Z h a "java/lang/String" ∧ Fld Z h a "java/lang/String" "coder" "B" (.int 0) ∧ Fld Z h a "java/lang/String" "value" "[B" (.ref d) ∧ Arv Z h d k .byte z vs (.int 0)
theorem own_St.ext {a d : Addr} {k : ClassId} {z : Int32} {vs : List Value} (F : own_St Z h a d k z vs) (E : Ext h h') : own_St Z h' a d k z vs := ⟨F.1.ext E, F.2.1.ext E, F.2.2.1.ext E, F.2.2.2.ext E⟩
theorem own_St.keep {a d : Addr} {k : ClassId} {z : Int32} {vs : List Value} (F : own_St Z h a d k z vs) (K : Keep h h' ws) (q1 : a ∉ ws) (q2 : d ∉ ws) : own_St Z h' a d k z vs := ⟨F.1.keep K, F.2.1.keep K q1, F.2.2.1.keep K q1, F.2.2.2.keep K q2⟩
theorem own_SB.ext {b da : Addr} {k : ClassId} {z n : Int32} {vs : List Value} (F : own_SB Z h b da k z n vs) (E : Ext h h') : own_SB Z h' b da k z n vs := ⟨F.1.ext E, F.2.1.ext E, F.2.2.1.ext E, F.2.2.2.1.ext E, F.2.2.2.2.1.ext E, F.2.2.2.2.2.ext E⟩
theorem own_SB.keep {b da : Addr} {k : ClassId} {z n : Int32} {vs : List Value} (F : own_SB Z h b da k z n vs) (K : Keep h h' ws) (q1 : b ∉ ws) (q2 : da ∉ ws) : own_SB Z h' b da k z n vs := ⟨F.1.keep K, F.2.1.keep K q1, F.2.2.1.keep K q1, F.2.2.2.1.keep K q1, F.2.2.2.2.1.keep K q2, F.2.2.2.2.2.keep K⟩
end
end OwnJ
end Jvm.RoadKit
namespace Jvm.RoadKit
open Sem ClassFile Op Lib Jvm.Stand Jvm.Free Jvm.LawKit Jvm.Free.SBG
section OwnD
variable {p : Program} {l : Launch} {e : Env} {R : Room} {s : State} {m : MethodId} {args : Array Value} {below : List Frame} {meth : Method} {c : Code} {T T' : State} {locs : List Loc} {cells slots : Nat} {Z : State} {h0 h : Heap} {a0 : Array Value} {n0 : Nat} {k : ClassId} {z x : Int32} {vs : List Value} {st d1 d2 da : Addr} {D1 D2 : Cell}
theorem own_bytesW {a : Array Value} {s : State} {name : String} {rhs : Term} {F : Nat → Nat} (w3 : (Cond.eq (.length (Tof name)) (.int 100)).before a s = true) (w4 : (Cond.all (Tof name) (.eq (.elem (Tof name) (.index 0)) rhs)).before a s = true)
    (hrhs : ∀ r, r < 100 → rhs.eval a s none [r] s = some (.int (Int32.ofNat (F r)))) (hF : ∀ r, r < 100 → F r < 128) : (bytesC (Tof name)).before a s = true := by
  have hl := Cond.eq_int w3 rfl
  obtain ⟨d, D, hev, hat, hlen⟩ := Term.length_spec hl
  have h31 := length_lt hev hat hl
  have hsz : D.slots.size = 100 := by
    have e : (Term.length (Tof name)).eval a s none [] s = some (.int (Int32.ofNat D.slots.size)) := by simp [Term.eval, hev, hat, h31]
    have := congrArg Int32.toInt (Value.int.inj (Option.some.inj (e.symm.trans hl)))
    rw [Int32.toInt_ofNat_small h31, show (100 : Int32).toInt = 100 from by decide] at this; omega
  refine holds_of_value (Cond.all_intro (a := d) (cell := D) hev hat fun i hi => ?_)
  have h1 := Cond.eq_int (holds_of_value (Cond.all_elim hev hat (Jvm.Free.AList.val_of_holds w4) i hi)) (hrhs i (by omega))
  have hf := hF i (by omega)
  have q1 : (-128 : Int32) ≤ Int32.ofNat (F i) := by rw [Int32.le_iff_toInt_le, Int32.toInt_ofNat_small (by omega), show (-128 : Int32).toInt = -128 from by decide]; omega
  have q2 : Int32.ofNat (F i) ≤ 127 := by rw [Int32.le_iff_toInt_le, Int32.toInt_ofNat_small (by omega), show (127 : Int32).toInt = 127 from by decide]; omega
  have e1 : (Term.int (-128)).eval a s none [i] s = some (.int (-128)) := rfl
  have e2 : (Term.int 127).eval a s none [i] s = some (.int 127) := rfl
  simp [Cond.value, h1, e1, e2, q1, q2]
/-- Integer's two tables -/
def own_Tb (Z : State) (st d1 d2 : Addr) (D1 D2 : Cell) : Prop := Tbl Z "DigitOnes" st d1 D1 ∧ Tbl Z "DigitTens" st d2 D2 ∧ Ones D1 ∧ Tens D2
theorem own_tb {a : Array Value} {s : State} (hini : (Cond.initialized INT).before a s = true) (harr : (Cond.arrayClass .byte).before a s = true)
    (p1 : (Cond.laysStatic INT "DigitOnes" "[B").before a s = true) (p2 : (Cond.exactly (Tof "DigitOnes") "[B").before a s = true) (p3 : (Cond.eq (.length (Tof "DigitOnes")) (.int 100)).before a s = true) (p4 : onesW.before a s = true)
    (q1 : (Cond.laysStatic INT "DigitTens" "[B").before a s = true) (q2 : (Cond.exactly (Tof "DigitTens") "[B").before a s = true) (q3 : (Cond.eq (.length (Tof "DigitTens")) (.int 100)).before a s = true) (q4 : tensW.before a s = true) :
    ∃ (st d1 d2 : Addr) (D1 D2 : Cell), own_Tb s st d1 d2 D1 D2 := by
  have p5 : (bytesC (Tof "DigitOnes")).before a s = true := own_bytesW (F := fun r => 48 + r % 10) p3 p4 (fun r hr => by rw [← ones_num r hr]; rfl) (fun r hr => by omega)
  have q5 : (bytesC (Tof "DigitTens")).before a s = true := own_bytesW (F := fun r => 48 + r / 10) q3 q4 (fun r hr => by rw [← tens_num r hr]; rfl) (fun r hr => by omega)
  obtain ⟨c1, k1, st1, d1, D1, g1, g2, g3, T1, O1⟩ := ones_of_words (a := a) (s := s) (fun w hw => by simp [tblW] at hw; rcases hw with rfl | rfl | rfl | rfl <;> assumption) p4 hini harr
  obtain ⟨c2, k2, st2, d2, D2, f1, f2, f3, T2, O2⟩ := tens_of_words (a := a) (s := s) (fun w hw => by simp [tblW] at hw; rcases hw with rfl | rfl | rfl | rfl <;> assumption) q4 hini harr
  cases g1.symm.trans f1
  cases g2.symm.trans f2
  cases g3.symm.trans f3
  exact ⟨st1, d1, d2, D1, D2, T1, T2, O1, O2⟩
theorem own_tblLt {U : State} {name : String} {st d : Addr} {D : Cell} (h : Tbl U name st d D) : st < U.heap.size ∧ d < U.heap.size := by
  obtain ⟨cf, i, k, f, cellS, h1, h2, h3, h4, h5, h6, h7, h8, -⟩ := h
  exact ⟨(Array.getElem?_eq_some_iff.mp h5).1, (Array.getElem?_eq_some_iff.mp h8).1⟩
theorem own_tblMv {U : State} {name : String} {st d : Addr} {D : Cell} (hal : Z.vm.Alike U.vm) (E : Ext Z.heap U.heap) (h : Tbl Z name st d D) : Tbl U name st d D := by
  have h' := h
  obtain ⟨cf, i, k, f, cellS, h1, h2, h3, h4, h5, h6, h7, h8, -⟩ := h'
  exact Tbl.move hal (fun c q => E.2 _ _ q) (E.2 _ _ h8) h
def own_mag (x : Int32) : Nat := x.toInt.natAbs
theorem own_magLe (x : Int32) : own_mag x ≤ 2 ^ 31 := by
  have h1 := x.le_toInt; have h2 := x.toInt_lt
  unfold own_mag; omega
theorem own_magE (x : Int32) : (if x < 0 then x else -x) = negI (own_mag x) := by
  unfold negI own_mag
  split
  · rename_i h
    rw [Int32.lt_iff_toInt_lt, show (0 : Int32).toInt = 0 from by decide] at h
    rw [show (-((x.toInt.natAbs : Nat) : Int)) = x.toInt by omega, Int32.ofInt_toInt]
  · rename_i h
    rw [Int32.lt_iff_toInt_lt, show (0 : Int32).toInt = 0 from by decide] at h
    rw [show (-((x.toInt.natAbs : Nat) : Int)) = -x.toInt by omega, Int32.ofInt_neg, Int32.ofInt_toInt]
/-- what is written of a number -/
def own_dec (x : Int32) : List Value := (if x < 0 then [.int 45] else []) ++ (List.range (SBG.digits (own_mag x))).map fun i => .int (Int32.ofNat (48 + own_mag x / 10 ^ (SBG.digits (own_mag x) - 1 - i) % 10))
theorem own_decLen (x : Int32) : (own_dec x).length = SBG.digits (own_mag x) + GetChars.sgn x := by
  unfold own_dec GetChars.sgn
  split <;> simp <;> omega
theorem own_decHd {x : Int32} (h : x < 0) : (own_dec x)[0]? = some (.int 45) := by simp [own_dec, h]
theorem own_decAt (x : Int32) {i : Nat} (hi : i < SBG.digits (own_mag x)) : (own_dec x)[(own_dec x).length - 1 - i]? = some (.int (Int32.ofNat (48 + own_mag x / 10 ^ i % 10))) := by
  rw [own_decLen]
  have e3 : SBG.digits (own_mag x) - 1 - (SBG.digits (own_mag x) - 1 - i) = i := by omega
  unfold own_dec GetChars.sgn
  by_cases hx : x < 0
  · rw [if_pos hx, if_pos hx, show SBG.digits (own_mag x) + 1 - 1 - i = (SBG.digits (own_mag x) - 1 - i) + 1 by omega, List.singleton_append, List.getElem?_cons_succ, List.getElem?_map, List.getElem?_range (by omega), Option.map_some, e3]
  · rw [if_neg hx, if_neg hx, Nat.add_zero, List.nil_append, List.getElem?_map, List.getElem?_range (by omega), Option.map_some, e3]
theorem own_decSize (x : Int32) : strSizeOf x = Int32.ofNat (own_dec x).length := by
  rw [own_decLen]; exact strSizeOf_eq (own_magLe x) (own_magE x)
theorem own_digLe (n : Nat) : SBG.digits n ≤ 10 := by unfold SBG.digits; (repeat' split) <;> omega
theorem own_decLe (x : Int32) : (own_dec x).length ≤ 11 := by
  rw [own_decLen]; have := own_digLe (own_mag x); unfold GetChars.sgn; split <;> omega
theorem own_decFits (x : Int32) : ∀ v ∈ own_dec x, fits .byte v = true := by
  intro v hv
  unfold own_dec at hv
  rcases List.mem_append.mp hv with h | h
  · split at h
    · cases List.mem_singleton.mp h; decide
    · cases h
  · obtain ⟨i, -, rfl⟩ := List.mem_map.mp h
    have : ∀ d, d < 10 → fits .byte (.int (Int32.ofNat (48 + d))) = true := by decide
    exact this _ (Nat.mod_lt _ (by decide))
theorem own_decLe20 (x : Int32) : (own_dec x).length ≤ 30 := Nat.le_trans (own_decLe x) (by decide)
theorem own_zsN {zs : Int32} {L2 : Nat} (h2 : Int32.ofNat L2 = zs) (hL : L2 ≤ 30) : zs.toNatClampNeg = L2 ∧ zs.toInt = L2 := by
  subst h2
  have e := Int32.toInt_ofNat_small (show L2 < 2 ^ 31 by omega)
  simp only [Int32.toNatClampNeg]; omega
theorem own_appI {n zs m : Int32} {L1 L2 : Nat} (h1 : L1 = n.toNatClampNeg) (h0 : ¬ n < 0) (h2 : Int32.ofNat L2 = zs) (hL : L2 ≤ 30) (hm : m.toInt = n.toInt + zs.toInt) : m = Int32.ofNat (L1 + L2) ∧ m.toInt = L1 + L2 := by
  obtain ⟨-, e⟩ := own_zsN h2 hL
  rw [Int32.lt_iff_toInt_lt, show (0 : Int32).toInt = 0 from by decide] at h0
  have b := n.toInt_lt
  have b2 := m.toInt_lt
  simp only [Int32.toNatClampNeg] at h1
  refine ⟨?_, by omega⟩
  apply Int32.toInt_inj.mp
  rw [Int32.toInt_ofNat_small (by omega)]; omega
theorem own_nnL {L : Nat} (h : L ≤ 30) : ¬ Int32.ofNat L < 0 := by
  rw [Int32.lt_iff_toInt_lt, Int32.toInt_ofNat_small (by omega), show (0 : Int32).toInt = 0 from by decide]; omega
theorem own_side {n z : Int32} {vs us : List Value} (h1 : n.toInt = vs.length) (h2 : n.toInt ≤ z.toInt) (h3 : vs.length + us.length ≤ 140) :
    ¬ z < 0 ∧ 0 ≤ z.toInt ∧ vs.length ≤ z.toNatClampNeg ∧ ¬ n < 0 ∧ vs.length = n.toNatClampNeg ∧ n + Int32.ofNat us.length = Int32.ofNat (vs.length + us.length) ∧ 0 ≤ (Int32.ofNat (vs.length + us.length)).toInt ∧ (Int32.ofNat (vs.length + us.length)).toInt ≤ 140 ∧
      (Int32.ofNat (vs.length + us.length)).toInt = n.toInt + (Int32.ofNat us.length).toInt ∧ (Int32.ofNat (vs.length + us.length)).toInt = (vs ++ us).length := by
  have e1 : (Int32.ofNat (vs.length + us.length)).toInt = (vs.length + us.length : Nat) := Int32.toInt_ofNat_small (by omega)
  have e2 : (Int32.ofNat us.length).toInt = (us.length : Nat) := Int32.toInt_ofNat_small (by omega)
  have z3 : (0 : Int32).toInt = 0 := by decide
  refine ⟨by rw [Int32.lt_iff_toInt_lt, z3]; omega, by omega, by simp only [Int32.toNatClampNeg]; omega, by rw [Int32.lt_iff_toInt_lt, z3]; omega, by simp only [Int32.toNatClampNeg]; omega, ?_, by omega, by omega, by omega, by rw [List.length_append]; omega⟩
  apply Int32.toInt_inj.mp
  rw [e1, Int32.toInt_add, e2, h1, Int.bmod_eq_of_le (by omega) (by omega)]; omega
theorem own_side2 {n z : Int32} {vs : List Value} (h1 : n.toInt = vs.length) (h2 : n.toInt ≤ z.toInt) (h3 : vs.length ≤ 140) : vs.length = n.toNatClampNeg ∧ ¬ n < 0 ∧ n.toNatClampNeg ≤ 300 ∧ ¬ z < n := by
  rw [Int32.lt_iff_toInt_lt, Int32.lt_iff_toInt_lt, show (0 : Int32).toInt = 0 from by decide]
  simp only [Int32.toNatClampNeg]
  omega
/-- Integer.stringSize -/
theorem own_strSize {G : State → JFrame → Prop} (hG : own_Closed p e below G) (X : Stand p l e R s m args below meth c T locs cells slots) (hx : p.tables.exec = Jvm.exec) (hZ : Z.Warmed39 s.vm) {own : String} {index : Nat} (hown : s.vm.findClass own = some m.cls)
    (w1 : (Cond.methodLink own index StrSize.ssN).before a0 Z = true) (w2 : (Cond.static StrSize.ssN).before a0 Z = true) (wc : (Cond.code StrSize.ssN StrSize.ssB 4 (some .int)).before a0 Z = true) (wz : (Cond.initialized INT).before a0 Z = true)
    (eT : T.heap = h) {pc W : Nat} {Ls : Array Slot} {rest : List Value} (hsize : Ls.size = c.maxLocals) (hW : (rest.map fun v => v.category).sum ≤ W) (hf : 2 ≤ R.frames) (hl : W + 55 ≤ R.locals) (hc : cells ≤ R.cells) (hn : slots ≤ R.slots)
    (hdg : decode c.code pc = .ok (.invokestatic index, 3)) {y : Int32} (hy : strSizeOf x = y)
    (k : ∀ (T' : State), Stand p l e R s m args below meth c T' locs cells slots → T'.heap = h → G T' (mkF m (pc + 3) Ls (.int y :: rest))) : G T (mkF m pc Ls (.int x :: rest)) := by
  subst hy
  obtain ⟨v, vm₁, ⟨T4, L4, k4, n4⟩, hW1, X4, ⟨⟨u1, u2, u3, u4⟩, hv⟩, st4⟩ := Jvm.LawKit.callS X hx (own := own) (index := index) (y := StrSize.ssN) (bytes := StrSize.ssB) (maxL := 4) (ret := some .int) hown (mvT hZ w1) (mvT hZ w2) (mvT hZ wz) (mvT hZ wc) (by decide) (StrSize.pays (W := W) hf hl (mvT hZ wc) (mvT hZ wz))
    (g := mkF m pc Ls (.int x :: rest)) rfl hsize (argsL := [.int x]) (rest := rest) (fun sig h => by rw [show parseMethodDescriptor StrSize.ssN.desc = some ⟨[.int], some .int⟩ from by decide +kernel] at h; cases h; rfl) rfl (by simpa [JFrame.monitorRoom] using hW) hdg (fun vm₁ _ => ⟨hc, hn, x, rfl⟩)
  dsimp only [Pt.U, Pt.locs, Pt.cells, Pt.slots] at X4 u1 u2 u3 u4 st4 hv
  subst u2 u3 u4
  cases hv x rfl
  exact hG _ _ _ _ (fun t kt => st4 t kt) (k _ X4 (u1.trans eT))
/-- Integer.getChars -/
theorem own_getChars {G : State → JFrame → Prop} (hG : own_Closed p e below G) (X : Stand p l e R s m args below meth c T locs cells slots) (hx : p.tables.exec = Jvm.exec) (hZ : Z.Warmed39 s.vm) {own : String} {index : Nat} (hown : s.vm.findClass own = some m.cls)
    (w1 : (Cond.methodLink own index GetChars.gcN).before a0 Z = true) (w2 : (Cond.static GetChars.gcN).before a0 Z = true) (wc : (Cond.code GetChars.gcN GetChars.gcB 7 (some .int)).before a0 Z = true) (wf1 : (Cond.fieldLink INT 83 INT "DigitOnes" "[B").before a0 Z = true) (wf2 : (Cond.fieldLink INT 87 INT "DigitTens" "[B").before a0 Z = true) (wz : (Cond.initialized INT).before a0 Z = true)
    (eT : T.heap = h) (O : Old Z n0 h) (TB : own_Tb Z st d1 d2 D1 D2) (F : Arv Z h da k .byte z vs (.int 0)) (hda : n0 ≤ da) (hz : vs.length + (own_dec x).length ≤ z.toNatClampNeg)
    {pc W : Nat} {Ls : Array Slot} {rest : List Value} (hsize : Ls.size = c.maxLocals) (hW : (rest.map fun v => v.category).sum ≤ W) (hf : 2 ≤ R.frames) (hl : W + 78 ≤ R.locals) (hc : cells ≤ R.cells) (hn : slots ≤ R.slots)
    (hdg : decode c.code pc = .ok (.invokestatic index, 3)) {i : Int32} (hi : i = Int32.ofNat (vs.length + (own_dec x).length))
    (kk : ∀ (T' : State) (L : List Loc), Stand p l e R s m args below meth c T' (locs ++ L) cells slots → Arv Z T'.heap da k .byte z (vs ++ own_dec x) (.int 0) → Keep h T'.heap [da] → Fr n0 L → G T' (mkF m (pc + 3) Ls (.int (Int32.ofNat vs.length) :: rest))) : G T (mkF m pc Ls (.ref da :: .int i :: .int x :: rest)) := by
  subst hi
  obtain ⟨A, Ar, ek, es, hneg, hH, hfit⟩ := F
  obtain ⟨t1, t2, o1, o2⟩ := TB
  obtain ⟨l1, l2⟩ := own_tblLt t1
  obtain ⟨_, l3⟩ := own_tblLt t2
  have hlen := own_decLen x
  have hz31 : z.toNatClampNeg < 2 ^ 31 := by have := z.toInt_lt; simp only [Int32.toNatClampNeg]; omega
  have ne : ∀ q, q < Z.heap.size → da ≠ q := fun q hq => Nat.ne_of_gt (Nat.lt_of_lt_of_le (O.1 ▸ hq) hda)
  let g : GetChars.G := ⟨x, own_mag x, vs.length + (own_dec x).length, da, A, st, d1, D1, d2, D2⟩
  obtain ⟨v, vm₁, ⟨T4, L4, k4, n4⟩, hW1, X4, ⟨hv, h2, h3, h4, h5, h6, L, h7, h8⟩, st4⟩ := Jvm.LawKit.callS X hx (own := own) (index := index) (y := GetChars.gcN) (bytes := GetChars.gcB) (maxL := 7) (ret := some .int) hown (mvT hZ w1) (mvT hZ w2) (mvT hZ wz) (mvT hZ wc) (by decide) (GetChars.pays g W (by
      show (Cond.and _ (Cond.and _ _)).before _ _ = true
      rw [Cond.before_and, Cond.before_and, mvT hZ wc, mvT hZ wf1, mvT hZ wf2]; rfl) (mvT hZ wz) hf hl)
    (g := mkF m pc Ls (.ref da :: .int (Int32.ofNat (vs.length + (own_dec x).length)) :: .int x :: rest)) rfl hsize (argsL := [.int x, .int (Int32.ofNat (vs.length + (own_dec x).length)), .ref da]) (rest := rest) (fun sig h => by rw [show parseMethodDescriptor GetChars.gcN.desc = some ⟨[.int, .int, .array .byte], some .int⟩ from by decide +kernel] at h; cases h; rfl) rfl (by simpa [JFrame.monitorRoom] using hW) hdg (fun vm₁ hv1 => by
      have hal : Z.vm.Alike (T.setVm vm₁).vm := hZ.alike.trans hv1.alike
      have hE : Ext Z.heap (T.setVm vm₁).heap := by show Ext Z.heap T.heap; rw [eT]; exact O.2
      refine ⟨rfl, hc, hn, rfl, ?_, State.isArrayOf_alike hal Ar.2.1, Ar.2.2, by rw [es]; exact hz31, by rw [es]; exact hz, by show SBG.digits (own_mag x) + GetChars.sgn x ≤ vs.length + (own_dec x).length; omega, own_magLe x, own_magE x, own_tblMv hal hE t1, own_tblMv hal hE t2, ne _ l1, ne _ l2, ne _ l3⟩
      show T.heap[da]? = some A
      rw [eT]; exact Ar.1)
  dsimp only [Pt.U, Pt.locs, Pt.cells, Pt.slots] at X4 hv h2 h3 h4 h5 h6 h7 st4
  subst h7 h3 h4
  have hAs : ∀ j, j < A.slots.size → fits .byte (A.slots.getD j .null) = true := fun j hj => by
    have q := hH j hj
    rw [Array.getD_eq_getD_getElem?, q]; exact hfit j hj
  obtain ⟨f1, f2, f3, f4, f5⟩ := GetChars.outCell_facts g (own_magLe x) (by show SBG.digits (own_mag x) + GetChars.sgn x ≤ vs.length + (own_dec x).length; omega) hAs
  obtain ⟨b1, b2, b3⟩ := outCell_at g o1 o2 (own_magLe x) (by show SBG.digits (own_mag x) + GetChars.sgn x ≤ vs.length + (own_dec x).length; omega) (by show vs.length + (own_dec x).length ≤ A.slots.size; rw [es]; exact hz)
  have eT4 : (T.setVm vm₁).heap = h := eT
  rw [eT4] at h5 h6
  have hget : ∀ j, j < A.slots.size → (GetChars.outCell g).slots[j]? = some ((vs ++ own_dec x).getD j (.int 0)) := by
    intro j hj
    by_cases c1 : j < vs.length
    · rw [b3 j (Or.inl (by show j < vs.length + (own_dec x).length - (SBG.digits (own_mag x) + GetChars.sgn x); omega))]
      show A.slots[j]? = _
      rw [hH j hj, List.getD_eq_getElem?_getD, List.getD_eq_getElem?_getD, List.getElem?_append_left c1]
    · by_cases c2 : j < vs.length + (own_dec x).length
      · rw [List.getD_eq_getElem?_getD, List.getElem?_append_right (by omega)]
        by_cases c3 : j < vs.length + GetChars.sgn x
        · have hx0 : x < 0 := by
            by_cases hx0 : x < 0
            · exact hx0
            · rw [show GetChars.sgn x = 0 by simp [GetChars.sgn, hx0]] at c3; omega
          have hs : GetChars.sgn x = 1 := by simp [GetChars.sgn, hx0]
          have q := b2 hx0
          have ej : g.idx - SBG.digits g.n - 1 = j := by show vs.length + (own_dec x).length - SBG.digits (own_mag x) - 1 = j; omega
          rw [ej] at q
          rw [q, show j - vs.length = 0 by omega, own_decHd hx0]; rfl
        · have q := b1 (vs.length + (own_dec x).length - 1 - j) (by show _ < SBG.digits (own_mag x); omega)
          have ej : g.idx - 1 - (vs.length + (own_dec x).length - 1 - j) = j := by show vs.length + (own_dec x).length - 1 - (vs.length + (own_dec x).length - 1 - j) = j; omega
          rw [ej] at q
          have q2 := own_decAt x (i := vs.length + (own_dec x).length - 1 - j) (by omega)
          rw [show (own_dec x).length - 1 - (vs.length + (own_dec x).length - 1 - j) = j - vs.length by omega] at q2
          rw [q, q2]; rfl
      · rw [b3 j (Or.inr (by show vs.length + (own_dec x).length ≤ j; omega))]
        show A.slots[j]? = _
        rw [hH j hj, List.getD_eq_getElem?_getD, List.getD_eq_getElem?_getD, List.getElem?_eq_none (by omega), List.getElem?_eq_none (by rw [List.length_append]; omega)]
  have f1' : (GetChars.outCell g).cls = A.cls := f1
  have f2' : (GetChars.outCell g).vm = A.vm := f2
  have f3' : (GetChars.outCell g).slots.size = A.slots.size := f3
  obtain ⟨a1, kA, a2, comp, a3⟩ := Ar.2.1
  have er : g.idx - (SBG.digits g.n + GetChars.sgn g.x) = vs.length := by show vs.length + (own_dec x).length - (SBG.digits (own_mag x) + GetChars.sgn x) = vs.length; omega
  rw [er] at hv
  cases hv
  refine hG _ _ _ _ (fun t kt => st4 t kt) (kk _ _ X4 ⟨GetChars.outCell g, ⟨h2, ⟨by rw [f2']; exact a1, kA, by rw [f1']; exact a2, comp, a3⟩, by rw [f2']; exact Ar.2.2⟩, f1'.trans ek, f3'.trans es, hneg, fun j hj => hget j (f3' ▸ hj), fun j hj => ?_⟩ ⟨Nat.le_of_eq h5.symm, fun y cy hy hn => h6 y cy (fun q => hn (by rw [q]; exact List.mem_singleton.mpr rfl)) hy, fun y cy hy => ?_⟩ (fun w hw => by rw [h8 w hw]; exact hda))
  · have q := f4 j hj
    rw [Array.getD_eq_getD_getElem?, hget j (f3' ▸ hj)] at q
    exact q
  · by_cases q : y = da
    · subst q
      cases hy.symm.trans Ar.1
      exact ⟨_, h2, f1', f2', f3'⟩
    · exact ⟨cy, h6 y cy q hy, rfl, rfl, rfl⟩
end OwnD
end Jvm.RoadKit
namespace Jvm.RoadKit
open Sem ClassFile Op Lib Jvm.Stand Jvm.Free Jvm.LawKit Jvm.Free.SBG
section OwnL
variable {p : Program} {l : Launch} {e : Env} {R : Room} {s : State} {m : MethodId} {args : Array Value} {below : List Frame} {meth : Method} {c : Code} {T T' : State} {locs : List Loc} {cells slots : Nat} {Z : State} {h0 h : Heap} {a0 : Array Value} {n0 : Nat} {k : ClassId} {z : Int32} {x : Int64} {vs : List Value} {st d1 d2 da : Addr} {D1 D2 : Cell}
def own_magJ (x : Int64) : Nat := x.toInt.natAbs
theorem own_magJLe (x : Int64) : own_magJ x ≤ 2 ^ 63 := by
  have h1 := x.le_toInt; have h2 := x.toInt_lt
  unfold own_magJ; omega
theorem own_magJE (x : Int64) : (if x < 0 then x else -x) = negL (own_magJ x) := by
  unfold negL own_magJ
  split
  · rename_i h
    rw [Int64.lt_iff_toInt_lt, show (0 : Int64).toInt = 0 from by decide] at h
    rw [show (-((x.toInt.natAbs : Nat) : Int)) = x.toInt by omega, Int64.ofInt_toInt]
  · rename_i h
    rw [Int64.lt_iff_toInt_lt, show (0 : Int64).toInt = 0 from by decide] at h
    rw [show (-((x.toInt.natAbs : Nat) : Int)) = -x.toInt by omega, Int64.ofInt_neg, Int64.ofInt_toInt]
def own_decJ (x : Int64) : List Value := (if x < 0 then [.int 45] else []) ++ (List.range (SBG.digitsL (own_magJ x))).map fun i => .int (Int32.ofNat (48 + own_magJ x / 10 ^ (SBG.digitsL (own_magJ x) - 1 - i) % 10))
theorem own_decJLen (x : Int64) : (own_decJ x).length = SBG.digitsL (own_magJ x) + GetCharsL.sgnL x := by
  unfold own_decJ GetCharsL.sgnL
  split <;> simp <;> omega
theorem own_decJHd {x : Int64} (h : x < 0) : (own_decJ x)[0]? = some (.int 45) := by simp [own_decJ, h]
theorem own_decJAt (x : Int64) {i : Nat} (hi : i < SBG.digitsL (own_magJ x)) : (own_decJ x)[(own_decJ x).length - 1 - i]? = some (.int (Int32.ofNat (48 + own_magJ x / 10 ^ i % 10))) := by
  rw [own_decJLen]
  have e3 : SBG.digitsL (own_magJ x) - 1 - (SBG.digitsL (own_magJ x) - 1 - i) = i := by omega
  unfold own_decJ GetCharsL.sgnL
  by_cases hx : x < 0
  · rw [if_pos hx, if_pos hx, show SBG.digitsL (own_magJ x) + 1 - 1 - i = (SBG.digitsL (own_magJ x) - 1 - i) + 1 by omega, List.singleton_append, List.getElem?_cons_succ, List.getElem?_map, List.getElem?_range (by omega), Option.map_some, e3]
  · rw [if_neg hx, if_neg hx, Nat.add_zero, List.nil_append, List.getElem?_map, List.getElem?_range (by omega), Option.map_some, e3]
theorem own_decJSize (x : Int64) : strSizeOfL x = Int32.ofNat (own_decJ x).length := by
  rw [own_decJLen]; exact strSizeOfL_eq (own_magJLe x) (own_magJE x)
theorem own_decJLe (x : Int64) : (own_decJ x).length ≤ 21 := by
  rw [own_decJLen]; have := (SBG.digitsL_pos (own_magJ x)).2; unfold GetCharsL.sgnL; split <;> omega
theorem own_decJLe20 (x : Int64) : (own_decJ x).length ≤ 30 := Nat.le_trans (own_decJLe x) (by decide)
/-- Integer.stringSize -/
theorem own_strSizeJ {G : State → JFrame → Prop} (hG : own_Closed p e below G) (X : Stand p l e R s m args below meth c T locs cells slots) (hx : p.tables.exec = Jvm.exec) (hZ : Z.Warmed39 s.vm) {own : String} {index : Nat} (hown : s.vm.findClass own = some m.cls)
    (w1 : (Cond.methodLink own index StrSizeL.ssN).before a0 Z = true) (w2 : (Cond.static StrSizeL.ssN).before a0 Z = true) (wc : (Cond.code StrSizeL.ssN StrSizeL.ssB 6 (some .int)).before a0 Z = true) (wz : (Cond.initialized LNG).before a0 Z = true) (wk1 : (Cond.constantLong LNG 140 (-10)).before a0 Z = true) (wk2 : (Cond.constantLong LNG 53 10).before a0 Z = true)
    (eT : T.heap = h) {pc W : Nat} {Ls : Array Slot} {rest : List Value} (hsize : Ls.size = c.maxLocals) (hW : (rest.map fun v => v.category).sum ≤ W) (hf : 2 ≤ R.frames) (hl : W + 57 ≤ R.locals) (hc : cells ≤ R.cells) (hn : slots ≤ R.slots)
    (hdg : decode c.code pc = .ok (.invokestatic index, 3)) {y : Int32} (hy : strSizeOfL x = y)
    (k : ∀ (T' : State), Stand p l e R s m args below meth c T' locs cells slots → T'.heap = h → G T' (mkF m (pc + 3) Ls (.int y :: rest))) : G T (mkF m pc Ls (.long x :: rest)) := by
  subst hy
  obtain ⟨v, vm₁, ⟨T4, L4, k4, n4⟩, hW1, X4, ⟨⟨u1, u2, u3, u4⟩, hv⟩, st4⟩ := Jvm.LawKit.callS X hx (own := own) (index := index) (y := StrSizeL.ssN) (bytes := StrSizeL.ssB) (maxL := 6) (ret := some .int) hown (mvT hZ w1) (mvT hZ w2) (mvT hZ wz) (mvT hZ wc) (by decide) (StrSizeL.pays (W := W) hf hl (by
      show (Cond.and _ (Cond.and _ _)).before _ _ = true
      rw [Cond.before_and, Cond.before_and, mvT hZ wc, mvT hZ wk1, mvT hZ wk2]; rfl) (mvT hZ wz))
    (g := mkF m pc Ls (.long x :: rest)) rfl hsize (argsL := [.long x]) (rest := rest) (fun sig h => by rw [show parseMethodDescriptor StrSizeL.ssN.desc = some ⟨[.long], some .int⟩ from by decide +kernel] at h; cases h; rfl) rfl (by simpa [JFrame.monitorRoom] using hW) hdg (fun vm₁ _ => ⟨hc, hn, x, rfl⟩)
  dsimp only [Pt.U, Pt.locs, Pt.cells, Pt.slots] at X4 u1 u2 u3 u4 st4 hv
  subst u2 u3 u4
  cases hv x rfl
  exact hG _ _ _ _ (fun t kt => st4 t kt) (k _ X4 (u1.trans eT))
/-- Integer.getChars -/
theorem own_getCharsJ {G : State → JFrame → Prop} (hG : own_Closed p e below G) (X : Stand p l e R s m args below meth c T locs cells slots) (hx : p.tables.exec = Jvm.exec) (hZ : Z.Warmed39 s.vm) {own : String} {index : Nat} (hown : s.vm.findClass own = some m.cls)
    (w1 : (Cond.methodLink own index GetCharsL.gcN).before a0 Z = true) (w2 : (Cond.static GetCharsL.gcN).before a0 Z = true) (wc : (Cond.code GetCharsL.gcN GetCharsL.gcB 11 (some .int)).before a0 Z = true) (wf1 : (Cond.fieldLink LNG 133 INT "DigitOnes" "[B").before a0 Z = true) (wf2 : (Cond.fieldLink LNG 137 INT "DigitTens" "[B").before a0 Z = true) (wz : (Cond.initialized LNG).before a0 Z = true) (wk1 : (Cond.constantLong LNG 129 (-2147483648)).before a0 Z = true) (wk2 : (Cond.constantLong LNG 131 100).before a0 Z = true)
    (eT : T.heap = h) (O : Old Z n0 h) (TB : own_Tb Z st d1 d2 D1 D2) (F : Arv Z h da k .byte z vs (.int 0)) (hda : n0 ≤ da) (hz : vs.length + (own_decJ x).length ≤ z.toNatClampNeg)
    {pc W : Nat} {Ls : Array Slot} {rest : List Value} (hsize : Ls.size = c.maxLocals) (hW : (rest.map fun v => v.category).sum ≤ W) (hf : 2 ≤ R.frames) (hl : W + 102 ≤ R.locals) (hc : cells ≤ R.cells) (hn : slots ≤ R.slots)
    (hdg : decode c.code pc = .ok (.invokestatic index, 3)) {i : Int32} (hi : i = Int32.ofNat (vs.length + (own_decJ x).length))
    (kk : ∀ (T' : State) (L : List Loc), Stand p l e R s m args below meth c T' (locs ++ L) cells slots → Arv Z T'.heap da k .byte z (vs ++ own_decJ x) (.int 0) → Keep h T'.heap [da] → Fr n0 L → G T' (mkF m (pc + 3) Ls (.int (Int32.ofNat vs.length) :: rest))) : G T (mkF m pc Ls (.ref da :: .int i :: .long x :: rest)) := by
  subst hi
  obtain ⟨A, Ar, ek, es, hneg, hH, hfit⟩ := F
  obtain ⟨t1, t2, o1, o2⟩ := TB
  obtain ⟨l1, l2⟩ := own_tblLt t1
  obtain ⟨_, l3⟩ := own_tblLt t2
  have hlen := own_decJLen x
  have hz31 : z.toNatClampNeg < 2 ^ 31 := by have := z.toInt_lt; simp only [Int32.toNatClampNeg]; omega
  have ne : ∀ q, q < Z.heap.size → da ≠ q := fun q hq => Nat.ne_of_gt (Nat.lt_of_lt_of_le (O.1 ▸ hq) hda)
  let g : GetCharsL.G := ⟨x, own_magJ x, vs.length + (own_decJ x).length, da, A, st, d1, D1, d2, D2⟩
  obtain ⟨v, vm₁, ⟨T4, L4, k4, n4⟩, hW1, X4, ⟨hv, h2, h3, h4, h5, h6, L, h7, h8⟩, st4⟩ := Jvm.LawKit.callS X hx (own := own) (index := index) (y := GetCharsL.gcN) (bytes := GetCharsL.gcB) (maxL := 11) (ret := some .int) hown (mvT hZ w1) (mvT hZ w2) (mvT hZ wz) (mvT hZ wc) (by decide) (GetCharsL.pays g W (by
      show (Cond.and _ (Cond.and _ (Cond.and _ (Cond.and _ _)))).before _ _ = true
      rw [Cond.before_and, Cond.before_and, Cond.before_and, Cond.before_and, mvT hZ wc, mvT hZ wf1, mvT hZ wf2, mvT hZ wk1, mvT hZ wk2]; rfl) (mvT hZ wz) hf hl)
    (g := mkF m pc Ls (.ref da :: .int (Int32.ofNat (vs.length + (own_decJ x).length)) :: .long x :: rest)) rfl hsize (argsL := [.long x, .int (Int32.ofNat (vs.length + (own_decJ x).length)), .ref da]) (rest := rest) (fun sig h => by rw [show parseMethodDescriptor GetCharsL.gcN.desc = some ⟨[.long, .int, .array .byte], some .int⟩ from by decide +kernel] at h; cases h; rfl) rfl (by simpa [JFrame.monitorRoom] using hW) hdg (fun vm₁ hv1 => by
      have hal : Z.vm.Alike (T.setVm vm₁).vm := hZ.alike.trans hv1.alike
      have hE : Ext Z.heap (T.setVm vm₁).heap := by show Ext Z.heap T.heap; rw [eT]; exact O.2
      refine ⟨rfl, hc, hn, rfl, ?_, State.isArrayOf_alike hal Ar.2.1, Ar.2.2, by rw [es]; exact hz31, by rw [es]; exact hz, by show SBG.digitsL (own_magJ x) + GetCharsL.sgnL x ≤ vs.length + (own_decJ x).length; omega, own_magJLe x, own_magJE x, own_tblMv hal hE t1, own_tblMv hal hE t2, ne _ l1, ne _ l2, ne _ l3⟩
      show T.heap[da]? = some A
      rw [eT]; exact Ar.1)
  dsimp only [Pt.U, Pt.locs, Pt.cells, Pt.slots] at X4 hv h2 h3 h4 h5 h6 h7 st4
  subst h7 h3 h4
  have hAs : ∀ j, j < A.slots.size → fits .byte (A.slots.getD j .null) = true := fun j hj => by
    have q := hH j hj
    rw [Array.getD_eq_getD_getElem?, q]; exact hfit j hj
  obtain ⟨f1, f2, f3, f4, f5⟩ := GetCharsL.outCell_facts g (own_magJLe x) (by show SBG.digitsL (own_magJ x) + GetCharsL.sgnL x ≤ vs.length + (own_decJ x).length; omega) hAs
  obtain ⟨b1, b2, b3⟩ := outCellL_at g o1 o2 (own_magJLe x) (by show SBG.digitsL (own_magJ x) + GetCharsL.sgnL x ≤ vs.length + (own_decJ x).length; omega) (by show vs.length + (own_decJ x).length ≤ A.slots.size; rw [es]; exact hz)
  have eT4 : (T.setVm vm₁).heap = h := eT
  rw [eT4] at h5 h6
  have hget : ∀ j, j < A.slots.size → (GetCharsL.outCell g).slots[j]? = some ((vs ++ own_decJ x).getD j (.int 0)) := by
    intro j hj
    by_cases c1 : j < vs.length
    · rw [b3 j (Or.inl (by show j < vs.length + (own_decJ x).length - (SBG.digitsL (own_magJ x) + GetCharsL.sgnL x); omega))]
      show A.slots[j]? = _
      rw [hH j hj, List.getD_eq_getElem?_getD, List.getD_eq_getElem?_getD, List.getElem?_append_left c1]
    · by_cases c2 : j < vs.length + (own_decJ x).length
      · rw [List.getD_eq_getElem?_getD, List.getElem?_append_right (by omega)]
        by_cases c3 : j < vs.length + GetCharsL.sgnL x
        · have hx0 : x < 0 := by
            by_cases hx0 : x < 0
            · exact hx0
            · rw [show GetCharsL.sgnL x = 0 by simp [GetCharsL.sgnL, hx0]] at c3; omega
          have hs : GetCharsL.sgnL x = 1 := by simp [GetCharsL.sgnL, hx0]
          have q := b2 hx0
          have ej : g.idx - SBG.digitsL g.n - 1 = j := by show vs.length + (own_decJ x).length - SBG.digitsL (own_magJ x) - 1 = j; omega
          rw [ej] at q
          rw [q, show j - vs.length = 0 by omega, own_decJHd hx0]; rfl
        · have q := b1 (vs.length + (own_decJ x).length - 1 - j) (by show _ < SBG.digitsL (own_magJ x); omega)
          have ej : g.idx - 1 - (vs.length + (own_decJ x).length - 1 - j) = j := by show vs.length + (own_decJ x).length - 1 - (vs.length + (own_decJ x).length - 1 - j) = j; omega
          rw [ej] at q
          have q2 := own_decJAt x (i := vs.length + (own_decJ x).length - 1 - j) (by omega)
          rw [show (own_decJ x).length - 1 - (vs.length + (own_decJ x).length - 1 - j) = j - vs.length by omega] at q2
          rw [q, q2]; rfl
      · rw [b3 j (Or.inr (by show vs.length + (own_decJ x).length ≤ j; omega))]
        show A.slots[j]? = _
        rw [hH j hj, List.getD_eq_getElem?_getD, List.getD_eq_getElem?_getD, List.getElem?_eq_none (by omega), List.getElem?_eq_none (by rw [List.length_append]; omega)]
  have f1' : (GetCharsL.outCell g).cls = A.cls := f1
  have f2' : (GetCharsL.outCell g).vm = A.vm := f2
  have f3' : (GetCharsL.outCell g).slots.size = A.slots.size := f3
  obtain ⟨a1, kA, a2, comp, a3⟩ := Ar.2.1
  have er : g.idx - (SBG.digitsL g.n + GetCharsL.sgnL g.x) = vs.length := by show vs.length + (own_decJ x).length - (SBG.digitsL (own_magJ x) + GetCharsL.sgnL x) = vs.length; omega
  rw [er] at hv
  cases hv
  refine hG _ _ _ _ (fun t kt => st4 t kt) (kk _ _ X4 ⟨GetCharsL.outCell g, ⟨h2, ⟨by rw [f2']; exact a1, kA, by rw [f1']; exact a2, comp, a3⟩, by rw [f2']; exact Ar.2.2⟩, f1'.trans ek, f3'.trans es, hneg, fun j hj => hget j (f3' ▸ hj), fun j hj => ?_⟩ ⟨Nat.le_of_eq h5.symm, fun y cy hy hn => h6 y cy (fun q => hn (by rw [q]; exact List.mem_singleton.mpr rfl)) hy, fun y cy hy => ?_⟩ (fun w hw => by rw [h8 w hw]; exact hda))
  · have q := f4 j hj
    rw [Array.getD_eq_getD_getElem?, hget j (f3' ▸ hj)] at q
    exact q
  · by_cases q : y = da
    · subst q
      cases hy.symm.trans Ar.1
      exact ⟨_, h2, f1', f2', f3'⟩
    · exact ⟨cy, h6 y cy q hy, rfl, rfl, rfl⟩
end OwnL
end Jvm.RoadKit
namespace Jvm.RoadKit
open Sem ClassFile Op Lib Jvm.Stand Jvm.Free Jvm.LawKit Jvm.Free.SBG
section OwnQ
theorem own_wN : ∀ (f n : Nat), n < 100 ^ f → n < 10 ^ (wN f n) ∧ (10 ≤ n → 10 ^ (wN f n - 1) ≤ n) := by
  intro f
  induction f with
  | zero => intro n h; simp at h; subst h; simp [wN]
  | succ f ih =>
    intro n h
    simp only [wN]
    by_cases h1 : 100 ≤ n
    · rw [if_pos h1]
      have hd : n / 100 < 100 ^ f := by
        rw [Nat.div_lt_iff_lt_mul (by decide)]; rw [Nat.pow_succ] at h; exact h
      obtain ⟨a, b⟩ := ih (n / 100) hd
      have e : (10 : Nat) ^ (2 + wN f (n / 100)) = 100 * 10 ^ (wN f (n / 100)) := by rw [Nat.pow_add]
      refine ⟨by rw [e]; omega, fun _ => ?_⟩
      by_cases h2 : 10 ≤ n / 100
      · have b' := b h2
        have hw : 1 ≤ wN f (n / 100) := by
          rcases Nat.eq_zero_or_pos (wN f (n / 100)) with q | q
          · rw [q] at a; omega
          · exact q
        have e2 : (10 : Nat) ^ (2 + wN f (n / 100) - 1) = 100 * 10 ^ (wN f (n / 100) - 1) := by
          rw [show 2 + wN f (n / 100) - 1 = 2 + (wN f (n / 100) - 1) by omega, Nat.pow_add]
        rw [e2]; omega
      · have hw : wN f (n / 100) = 1 := by
          cases f with
          | zero => simp at hd; omega
          | succ f => simp only [wN]; rw [if_neg (by omega), if_neg (by omega)]
        rw [hw]; show 10 ^ 2 ≤ n; omega
    · rw [if_neg h1]
      by_cases h2 : 9 < n
      · rw [if_pos h2]; exact ⟨by show n < 100; omega, fun _ => by show 10 ≤ n; omega⟩
      · rw [if_neg h2]; exact ⟨by show n < 10; omega, fun q => absurd q (by omega)⟩
theorem own_dgL {n : Nat} (hn : n ≤ 2 ^ 63) : n < 10 ^ (SBG.digitsL n) ∧ (10 ≤ n → 10 ^ (SBG.digitsL n - 1) ≤ n) ∧ SBG.digitsL n ≤ 19 ∧ 1 ≤ SBG.digitsL n ∧ (n < 10 → SBG.digitsL n = 1) := by
  have e : (100 : Nat) ^ 10 = 100000000000000000000 := by decide
  obtain ⟨a, b⟩ := own_wN 10 n (by omega)
  refine ⟨a, b, ?_, (SBG.digitsL_pos n).1, fun h => ?_⟩
  · by_cases h : SBG.digitsL n ≤ 19
    · exact h
    · have h19 : 19 ≤ SBG.digitsL n - 1 := by omega
      have hp : (10 : Nat) ^ 19 ≤ 10 ^ (SBG.digitsL n - 1) := Nat.pow_le_pow_right (by decide) h19
      by_cases h10 : 10 ≤ n
      · have := b h10
        have q : (10 : Nat) ^ 19 = 10000000000000000000 := by decide
        have : (10 : Nat) ^ (SBG.digitsL n - 1) ≤ n := b h10
        omega
      · have : SBG.digitsL n = 1 := by unfold SBG.digitsL; simp only [wN]; rw [if_neg (by omega), if_neg (by omega)]
        omega
  · unfold SBG.digitsL; simp only [wN]; rw [if_neg (by omega), if_neg (by omega)]
/-- at this power there is a digit -/
theorem own_dgAt {n e : Nat} (hn : n ≤ 2 ^ 63) : (e = 0 ∨ 10 ^ e ≤ n) ↔ e < SBG.digitsL n := by
  obtain ⟨a, b, c, d, f⟩ := own_dgL hn
  constructor
  · rintro (rfl | h)
    · omega
    · rcases Nat.lt_or_ge e (SBG.digitsL n) with q | q
      · exact q
      · have : (10 : Nat) ^ (SBG.digitsL n) ≤ 10 ^ e := Nat.pow_le_pow_right (by decide) q
        omega
  · intro h
    rcases Nat.eq_zero_or_pos e with q | q
    · exact Or.inl q
    · right
      have h10 : 10 ≤ n := by
        rcases Nat.lt_or_ge n 10 with q2 | q2
        · have := f q2; omega
        · exact q2
      exact Nat.le_trans (Nat.pow_le_pow_right (by decide) (by omega)) (b h10)
def own_okB (v : Value) : Bool := match v with
  | .int x => x &&& 255 == x
  | _ => false
theorem own_okI {v : Value} (h : own_okB v = true) : ∃ w : Int32, v = .int w ∧ w &&& 255 = w := by
  cases v with
  | int x => exact ⟨x, rfl, by simpa [own_okB] using h⟩
  | _ => cases h
/-- us stands in TX at p; behind it is r -/
def own_At (TX : List Value) (p : Int32) (us : List Value) (r : Int32) : Prop := ∃ A R : List Value, TX = A ++ us ++ R ∧ p = Int32.ofNat A.length ∧ r = Int32.ofNat (A.length + us.length)
theorem own_ofN {k : Nat} (h : k ≤ 200) : (Int32.ofNat k).toInt = k := Int32.toInt_ofNat_small (by omega)
theorem own_litF {TX us : List Value} {n z p r : Int32} (h : own_At TX p us r) (hn : n.toInt = TX.length) (hl : TX.length ≤ 140) (hz : z.toInt = us.length) (hI : us.all own_okB = true) :
    ¬ p < 0 ∧ p + z = r ∧ ∀ j : Int32, ¬ j < 0 → j < z → ∃ w : Int32, ¬ (p + j) < 0 ∧ (p + j) < n ∧ TX.getD (p + j).toNatClampNeg (.int 0) = .int w ∧ us.getD j.toNatClampNeg (.int 0) = .int w ∧ w &&& 255 = w := by
  obtain ⟨A, R, rfl, rfl, rfl⟩ := h
  have hl' : (A ++ us ++ R).length = A.length + us.length + R.length := by simp only [List.length_append]
  have z0 : (0 : Int32).toInt = 0 := by decide
  have e1 : (Int32.ofNat A.length).toInt = A.length := own_ofN (by omega)
  refine ⟨by rw [Int32.lt_iff_toInt_lt, e1, z0]; omega, ?_, fun j hj0 hjz => ?_⟩
  · apply Int32.toInt_inj.mp
    rw [Int32.toInt_add, e1, hz, own_ofN (by omega), Int.bmod_eq_of_le (by omega) (by omega)]; omega
  · rw [Int32.lt_iff_toInt_lt, z0] at hj0
    rw [Int32.lt_iff_toInt_lt, hz] at hjz
    have ej : (j.toNatClampNeg : Int) = j.toInt := own_toN (by omega)
    have e2 : (Int32.ofNat A.length + j).toInt = A.length + j.toInt := by rw [Int32.toInt_add, e1]; exact Int.bmod_eq_of_le (by omega) (by omega)
    have e3 : (Int32.ofNat A.length + j).toNatClampNeg = A.length + j.toNatClampNeg := by
      have : ((Int32.ofNat A.length + j).toNatClampNeg : Int) = (Int32.ofNat A.length + j).toInt := own_toN (by omega)
      omega
    have hlt : j.toNatClampNeg < us.length := by omega
    obtain ⟨w, hw, hm⟩ := own_okI (List.all_eq_true.mp hI _ (List.getElem_mem hlt))
    refine ⟨w, by rw [Int32.lt_iff_toInt_lt, e2, z0]; omega, by rw [Int32.lt_iff_toInt_lt, e2, hn]; omega, ?_, ?_, hm⟩
    · rw [e3, List.getD_eq_getElem?_getD, List.append_assoc, List.getElem?_append_right (by omega), Nat.add_sub_cancel_left, List.getElem?_append_left hlt, List.getElem?_eq_getElem hlt, hw]; rfl
    · rw [List.getD_eq_getElem?_getD, List.getElem?_eq_getElem hlt, hw]; rfl
theorem own_chr2 : ∀ d, d < 10 → (((48 : Int32) + (Int64.ofNat d).toInt32).toUInt32.toUInt16.toUInt32.toInt32) = Int32.ofNat (48 + d) ∧ Int32.ofNat (48 + d) &&& 255 = Int32.ofNat (48 + d) := by decide +kernel
theorem own_step {TX A R : List Value} {v m d : Int64} {n : Int32} {e : Nat} (hT : TX = A ++ own_decJ v ++ R) (hn : n.toInt = TX.length) (hl : TX.length ≤ 140) (hm : m.toInt = -(own_magJ v : Int)) (he : e < 19) (hd : d.toInt = 10 ^ e) :
    ¬ Int32.ofNat (A.length + GetCharsL.sgnL v + (SBG.digitsL (own_magJ v) - (e + 1))) < 0 ∧
    ((d = 1 ∨ ¬ (-d) < m) → Int32.ofNat (A.length + GetCharsL.sgnL v + (SBG.digitsL (own_magJ v) - (e + 1))) < n ∧ ∃ w : Int32, TX.getD (Int32.ofNat (A.length + GetCharsL.sgnL v + (SBG.digitsL (own_magJ v) - (e + 1)))).toNatClampNeg (.int 0) = .int w ∧ w &&& 255 = w ∧ (((48 : Int32) + (-((m / d) % (10 : Int64))).toInt32).toUInt32.toUInt16.toUInt32.toInt32) = w) ∧
    ((d = 1 ∨ ¬ (-d) < m) → Int32.ofNat (A.length + GetCharsL.sgnL v + (SBG.digitsL (own_magJ v) - (e + 1))) + 1 = Int32.ofNat (A.length + GetCharsL.sgnL v + (SBG.digitsL (own_magJ v) - e))) ∧
    (¬ d = 1 → (-d) < m → Int32.ofNat (A.length + GetCharsL.sgnL v + (SBG.digitsL (own_magJ v) - (e + 1))) = Int32.ofNat (A.length + GetCharsL.sgnL v + (SBG.digitsL (own_magJ v) - e))) := by
  have hmg := own_magJLe v
  have hlen := own_decJLen v
  obtain ⟨a1, a2, a3, a4, a5⟩ := own_dgL hmg
  have hdg := own_dgAt (e := e) hmg
  obtain ⟨D, eD⟩ : ∃ D, D = SBG.digitsL (own_magJ v) := ⟨_, rfl⟩
  obtain ⟨M, eM⟩ : ∃ M, M = own_magJ v := ⟨_, rfl⟩
  have hat := fun (h : e < SBG.digitsL (own_magJ v)) => own_decJAt v h
  rw [← eM] at hmg hm eD
  rw [← eM, ← eD] at hlen a1 a2 a3 a4 a5 hdg hat
  rw [← eM, ← eD]
  have hl' : TX.length = A.length + (own_decJ v).length + R.length := by rw [hT]; simp only [List.length_append]
  have z0 : (0 : Int32).toInt = 0 := by decide
  obtain ⟨B, eB⟩ : ∃ B, B = A.length + GetCharsL.sgnL v := ⟨_, rfl⟩
  rw [← eB]
  have e1 : (Int32.ofNat (B + (D - (e + 1)))).toInt = (B + (D - (e + 1)) : Nat) := own_ofN (by omega)
  have hp18 : (10 : Int) ^ e ≤ 10 ^ 18 := by exact_mod_cast Nat.pow_le_pow_right (n := 10) (by decide) (show e ≤ 18 by omega)
  have hp1 : (1 : Int) ≤ 10 ^ e := by have : 0 < (10 : Nat) ^ e := Nat.pos_of_ne_zero (by simp); exact_mod_cast this
  obtain ⟨Q, eQ⟩ : ∃ Q : Nat, Q = 10 ^ e := ⟨_, rfl⟩
  have eQ' : (10 : Int) ^ e = (Q : Int) := by rw [eQ]; push_cast; rfl
  rw [eQ'] at hd hp18 hp1
  rw [← eQ] at hdg
  have q18 : (10 : Int) ^ 18 = 1000000000000000000 := by decide
  rw [q18] at hp18
  have hneg : (-d).toInt = -(Q : Int) := by rw [Int64.toInt_neg, hd]; exact Int.bmod_eq_of_le (by omega) (by omega)
  have hd1 : d = 1 ↔ Q = 1 := by
    rw [← Int64.toInt_inj, hd, show (1 : Int64).toInt = 1 from by decide]; omega
  have he0 : Q = 1 ↔ e = 0 := by
    rw [eQ]
    constructor
    · intro q
      rcases Nat.eq_zero_or_pos e with u | u
      · exact u
      · have : (10 : Nat) ^ 1 ≤ 10 ^ e := Nat.pow_le_pow_right (by decide) u
        omega
    · rintro rfl; rfl
  have hcond : (d = 1 ∨ ¬ (-d) < m) ↔ e < D := by
    rw [← hdg, hd1, he0, Int64.lt_iff_toInt_lt, hneg, hm]
    constructor
    · rintro (q | q)
      · exact Or.inl q
      · right; omega
    · rintro (q | q)
      · exact Or.inl q
      · right; omega
  refine ⟨by rw [Int32.lt_iff_toInt_lt, e1, z0]; omega, fun h => ?_, fun h => ?_, fun h1 h2 => ?_⟩
  · have hlt := hcond.mp h
    have hat' := hat hlt
    have hidx : (Int32.ofNat (B + (D - (e + 1)))).toNatClampNeg = B + (D - (e + 1)) := by simp only [Int32.toNatClampNeg]; omega
    refine ⟨by rw [Int32.lt_iff_toInt_lt, e1, hn]; omega, Int32.ofNat (48 + M / 10 ^ e % 10), ?_, (own_chr2 _ (Nat.mod_lt _ (by decide))).2, ?_⟩
    · rw [hidx, hT, List.getD_eq_getElem?_getD, List.append_assoc, List.getElem?_append_right (by omega), List.getElem?_append_left (by omega), show B + (D - (e + 1)) - A.length = (own_decJ v).length - 1 - e by omega, hat']; rfl
    · rw [← eQ]
      obtain ⟨q, eq⟩ : ∃ q : Nat, q = M / Q := ⟨_, rfl⟩
      have bq : q ≤ M := by rw [eq]; exact Nat.div_le_self _ _
      have e6 : (-(M : Int)).tdiv (Q : Int) = -(q : Int) := by
        rw [Int.neg_tdiv, Int.tdiv_eq_ediv_of_nonneg (by omega), eq]; push_cast; rfl
      rw [← eq]
      have b : q % 10 < 10 := Nat.mod_lt _ (by decide)
      have e7 : (m / d).toInt = -(q : Int) := by rw [Int64.toInt_div, hm, hd, e6]; exact Int.bmod_eq_of_le (by omega) (by omega)
      have e8 : ((m / d) % (10 : Int64)).toInt = -((q % 10 : Nat) : Int) := by
        rw [Int64.toInt_mod, e7, show (10 : Int64).toInt = 10 from by decide, Int.neg_tmod, Int.tmod_eq_emod_of_nonneg (by omega)]; push_cast; rfl
      have e9 : -((m / d) % (10 : Int64)) = Int64.ofNat (q % 10) := by
        apply Int64.toInt_inj.mp
        rw [Int64.toInt_neg, e8, Int64.toInt_ofNat_of_lt (by omega), Int.bmod_eq_of_le (by omega) (by omega)]; omega
      rw [e9]; exact (own_chr2 _ b).1
  · have hlt := hcond.mp h
    apply Int32.toInt_inj.mp
    rw [Int32.toInt_add, e1, show (1 : Int32).toInt = 1 from by decide, own_ofN (by omega), Int.bmod_eq_of_le (by omega) (by omega)]; omega
  · have hge : ¬ e < D := fun q => (hcond.mpr q).elim h1 (fun u => u h2)
    rw [show D - (e + 1) = D - e by omega]
/-- the sign -/
theorem own_sign {TX A R : List Value} {v : Int64} {n : Int32} (hT : TX = A ++ own_decJ v ++ R) (hn : n.toInt = TX.length) (hl : TX.length ≤ 140) (hv : v < 0) :
    Int32.ofNat A.length < n ∧ TX.getD (Int32.ofNat A.length).toNatClampNeg (.int 0) = .int 45 ∧ Int32.ofNat A.length + 1 = Int32.ofNat (A.length + GetCharsL.sgnL v + (SBG.digitsL (own_magJ v) - 19)) := by
  have hlen := own_decJLen v
  obtain ⟨a1, a2, a3, a4, a5⟩ := own_dgL (own_magJLe v)
  have hs : GetCharsL.sgnL v = 1 := by simp [GetCharsL.sgnL, hv]
  have hl' : TX.length = A.length + (own_decJ v).length + R.length := by rw [hT]; simp only [List.length_append]
  have e1 : (Int32.ofNat A.length).toInt = A.length := own_ofN (by omega)
  have hidx : (Int32.ofNat A.length).toNatClampNeg = A.length := by simp only [Int32.toNatClampNeg]; omega
  refine ⟨by rw [Int32.lt_iff_toInt_lt, e1, hn]; omega, ?_, ?_⟩
  · rw [hidx, hT, List.getD_eq_getElem?_getD, List.append_assoc, List.getElem?_append_right (by omega), List.getElem?_append_left (by omega), Nat.sub_self, own_decJHd hv]; rfl
  · apply Int32.toInt_inj.mp
    rw [Int32.toInt_add, e1, show (1 : Int32).toInt = 1 from by decide, own_ofN (by omega), Int.bmod_eq_of_le (by omega) (by omega)]; omega
theorem own_nosign {A : List Value} {v : Int64} (hv : ¬ v < 0) : Int32.ofNat A.length = Int32.ofNat (A.length + GetCharsL.sgnL v + (SBG.digitsL (own_magJ v) - 19)) := by
  obtain ⟨a1, a2, a3, a4, a5⟩ := own_dgL (own_magJLe v)
  rw [show GetCharsL.sgnL v = 0 by simp [GetCharsL.sgnL, hv], show A.length + 0 + (SBG.digitsL (own_magJ v) - 19) = A.length by omega]
theorem own_mN {v : Int64} (hv : v < 0) : v.toInt = -(own_magJ v : Int) := by
  rw [Int64.lt_iff_toInt_lt, show (0 : Int64).toInt = 0 from by decide] at hv
  unfold own_magJ; omega
theorem own_mP {v : Int64} (hv : ¬ v < 0) : (-v).toInt = -(own_magJ v : Int) := by
  rw [Int64.lt_iff_toInt_lt, show (0 : Int64).toInt = 0 from by decide] at hv
  have := v.toInt_lt
  rw [Int64.toInt_neg, Int.bmod_eq_of_le (by omega) (by omega)]
  unfold own_magJ; omega
theorem own_sub3 (a b c : Int64) : a - (b + c) = a - b - c := by
  apply Int64.toInt_inj.mp
  rw [Int64.toInt_sub, Int64.toInt_add, Int64.toInt_sub, Int64.toInt_sub, Int.sub_bmod_bmod, Int.bmod_sub_bmod]
  congr 1; omega
theorem own_decJOk (v : Int64) : (own_decJ v).all own_okB = true := by
  rw [List.all_eq_true]
  intro x hx
  unfold own_decJ at hx
  rcases List.mem_append.mp hx with h | h
  · split at h
    · cases List.mem_singleton.mp h; decide
    · cases h
  · obtain ⟨i, -, rfl⟩ := List.mem_map.mp h
    have := (own_chr2 _ (Nat.mod_lt (own_magJ v / 10 ^ (SBG.digitsL (own_magJ v) - 1 - i)) (show 0 < 10 by decide))).2
    exact beq_iff_eq.mpr this
end OwnQ
end Jvm.RoadKit
namespace Jvm.Pilot.@@N@@
open Jvm Jvm.ClassFile Sem Op Lib Jvm.Free Jvm.Stand Jvm.LawKit Jvm.RoadKit Bundle Jvm.Pilot.@@N@@.Jvm.D
theorem pd_0 : parseMethodDescriptor "()B" = some ⟨[], some .byte⟩ := by decide +kernel
theorem pd_1 : parseMethodDescriptor "(IILjava/util/function/BiFunction;)I" = some ⟨[.int, .int, (.object "java/util/function/BiFunction")], some .int⟩ := by decide +kernel
theorem pd_2 : parseMethodDescriptor "(II)V" = some ⟨[.int, .int], none⟩ := by decide +kernel
theorem pd_3 : parseMethodDescriptor "()Z" = some ⟨[], some .boolean⟩ := by decide +kernel
theorem pd_4 : parseMethodDescriptor "([BI)C" = some ⟨[(.array .byte), .int], some .char⟩ := by decide +kernel
theorem pd_5 : parseMethodDescriptor "(II)I" = some ⟨[.int, .int], some .int⟩ := by decide +kernel
theorem pd_6 : parseMethodDescriptor "(III)I" = some ⟨[.int, .int, .int], some .int⟩ := by decide +kernel
theorem pd_7 : parseMethodDescriptor "(I)I" = some ⟨[.int], some .int⟩ := by decide +kernel
theorem pd_8 : parseMethodDescriptor "([BI)[B" = some ⟨[(.array .byte), .int], some (.array .byte)⟩ := by decide +kernel
theorem pd_9 : parseMethodDescriptor "(Ljava/lang/String;)V" = some ⟨[(.object "java/lang/String")], none⟩ := by decide +kernel
theorem pd_10 : parseMethodDescriptor "([BIB)V" = some ⟨[(.array .byte), .int, .byte], none⟩ := by decide +kernel
theorem pd_11 : parseMethodDescriptor "()I" = some ⟨[], some .int⟩ := by decide +kernel
theorem pd_12 : parseMethodDescriptor "(I)V" = some ⟨[.int], none⟩ := by decide +kernel
theorem pd_13 : parseMethodDescriptor "(ILjava/lang/String;)V" = some ⟨[.int, (.object "java/lang/String")], none⟩ := by decide +kernel
theorem pd_14 : parseMethodDescriptor "(Ljava/lang/String;)Ljava/lang/AbstractStringBuilder;" = some ⟨[(.object "java/lang/String")], some (.object "java/lang/AbstractStringBuilder")⟩ := by decide +kernel
theorem pd_15 : parseMethodDescriptor "([BII)[B" = some ⟨[(.array .byte), .int, .int], some (.array .byte)⟩ := by decide +kernel
theorem pd_16 : parseMethodDescriptor "()[B" = some ⟨[], some (.array .byte)⟩ := by decide +kernel
theorem pd_17 : parseMethodDescriptor "(Ljava/lang/AbstractStringBuilder;Ljava/lang/Void;)V" = some ⟨[(.object "java/lang/AbstractStringBuilder"), (.object "java/lang/Void")], none⟩ := by decide +kernel
theorem pd_18 : parseMethodDescriptor "(Ljava/lang/StringBuilder;)V" = some ⟨[(.object "java/lang/StringBuilder")], none⟩ := by decide +kernel
theorem pd_19 : parseMethodDescriptor "(J)Ljava/lang/AbstractStringBuilder;" = some ⟨[.long], some (.object "java/lang/AbstractStringBuilder")⟩ := by decide +kernel
theorem pd_20 : parseMethodDescriptor "(I)C" = some ⟨[.int], some .char⟩ := by decide +kernel
theorem pd_21 : parseMethodDescriptor "(Ljava/lang/String;ILjava/lang/String;I)Z" = some ⟨[(.object "java/lang/String"), .int, (.object "java/lang/String"), .int], some .boolean⟩ := by decide +kernel
theorem pd_22 : parseMethodDescriptor "(Ljava/lang/String;IJJ)I" = some ⟨[(.object "java/lang/String"), .int, .long, .long], some .int⟩ := by decide +kernel
theorem pd_23 : parseMethodDescriptor "()V" = some ⟨[], none⟩ := by decide +kernel
theorem pd_24 : parseMethodDescriptor "(Ljava/lang/String;)Ljava/lang/StringBuilder;" = some ⟨[(.object "java/lang/String")], some (.object "java/lang/StringBuilder")⟩ := by decide +kernel
theorem pd_25 : parseMethodDescriptor "(J)Ljava/lang/StringBuilder;" = some ⟨[.long], some (.object "java/lang/StringBuilder")⟩ := by decide +kernel
theorem pd_26 : parseMethodDescriptor "()Ljava/lang/String;" = some ⟨[], some (.object "java/lang/String")⟩ := by decide +kernel
theorem pd_27 : parseMethodDescriptor "(JJJ)Ljava/lang/String;" = some ⟨[.long, .long, .long], some (.object "java/lang/String")⟩ := by decide +kernel
theorem pd_28 : parseMethodDescriptor "(Ljava/lang/String;ILjava/lang/String;)I" = some ⟨[(.object "java/lang/String"), .int, (.object "java/lang/String")], some .int⟩ := by decide +kernel
theorem pd_29 : parseMethodDescriptor "(Ljava/lang/String;IJ)I" = some ⟨[(.object "java/lang/String"), .int, .long], some .int⟩ := by decide +kernel
theorem d8_0 : decode jdk_42_method_152_code 0 = .ok (.getstatic 38, 3) := by decide +kernel
theorem d8_3 : decode jdk_42_method_152_code 3 = .ok (.ifCond .eq 10, 3) := by decide +kernel
theorem d8_6 : decode jdk_42_method_152_code 6 = .ok (.aload_n 0, 1) := by decide +kernel
theorem d8_7 : decode jdk_42_method_152_code 7 = .ok (.getfield 15, 3) := by decide +kernel
theorem d8_10 : decode jdk_42_method_152_code 10 = .ok (.goto 4, 3) := by decide +kernel
theorem d8_14 : decode jdk_42_method_152_code 14 = .ok (.ireturn, 1) := by decide +kernel
theorem rj_coder_pn : plainFor (⟨"java/lang/String", "coder", "()B"⟩ : MethodName) = true := plainFor_of_name (show plainName "java/lang/String" = true by first | (simp [plainName, overriddenIn]; done) | decide +kernel)
theorem rj_coder_ef (mI : MethodId) (a : Addr) : entryFrame mI #[(.ref a)] 1 = mkF mI 0 #[.val (.ref a)] [] := by first | (simp [entryFrame, mkF, argsToLocals, Value.category]; done) | rfl
set_option maxRecDepth 65536 in
set_option maxHeartbeats 40000000 in
theorem rj_coder (l : Launch) (Z : State) (a0 : Array Value) (hw : ∀ d ∈ tables_1, d.before a0 Z = true) (ws : List Jvm.Cond) (h0 : Heap) (n0 : Nat) (O : Old Z n0 h0) (cs : Int32) (Scs : Sta Z Z.heap "java/lang/String" "COMPACT_STRINGS" "Z" (.int cs)) (hcs : ¬ cs = 0) (a : Addr) (Fc : Fld Z h0 a "java/lang/String" "coder" "B" (.int 0)) :
    own_Met l Z (⟨"java/lang/String", "coder", "()B"⟩ : MethodName) jdk_42_method_152_code 1 (some .byte) ws ({ frames := 0, cells := 0, slots := 0, locals := 0 } : Room) #[(.ref a)] h0 (own_QP h0 (some (.int 0))) := by
  refine own_met rj_coder_pn ?_
  intro pP eE sS mI bB mT cC s₁ hx hby hml hown hnm hret hlk hZ X0 e0
  replace hown : sS.vm.findClass "java/lang/String" = some mI.cls := hown
  refine own_cast (rj_coder_ef mI a) ?_
  obtain ⟨Ta1, Xa1, ea1, sta1⟩ := getS2 X0 hx hZ hown (host := "") (Or.inl (hw _ (List.mem_of_getElem? (i := 53) rfl))) Via.refl e0 (Sta.ext O.2 Scs) (g := (mkF mI 0 #[.val (.ref a)] [])) rfl (hb hby d8_0)
  refine own_go (T' := Ta1) (g' := (mkF mI 3 #[.val (.ref a)] [(.int cs)])) (fun t_ kt_ => sta1 _ kt_) ?_
  refine own_go (T' := Ta1) (g' := (mkF mI 6 #[.val (.ref a)] [])) (fun t_ kt_ => XS.ifNo Xa1.here hx rfl (hb hby d8_3) rfl ((if0 _ _).trans (feq (hcs : ¬ (cs = (0 : Int32)))).1) kt_) ?_
  refine own_go (T' := Ta1) (g' := (mkF mI 7 #[.val (.ref a)] [(.ref a)])) (fun t_ kt_ => XS.aloadN Xa1.here hx rfl (hb hby d8_6) rfl rfl kt_) ?_
  obtain ⟨Ta2, Xa2, ea2, sta2⟩ := getF Xa1 hx hZ hown (host := "") (Or.inl (hw _ (List.mem_of_getElem? (i := 54) rfl))) Via.refl ea1 Fc (g := (mkF mI 7 #[.val (.ref a)] [(.ref a)])) rfl rfl (hb hby d8_7)
  refine own_go (T' := Ta2) (g' := (mkF mI 10 #[.val (.ref a)] [(.int (0 : Int32))])) (fun t_ kt_ => sta2 _ kt_) ?_
  refine own_go (T' := Ta2) (g' := (mkF mI 14 #[.val (.ref a)] [(.int (0 : Int32))])) (fun t_ kt_ => XS.goto Xa2.here hx rfl (pc0 := 10) (pc' := 14) rfl (hb hby d8_10) (by decide) (by decide) kt_) ?_
  refine own_retN Xa2 hx hlk (t := .byte) hret (by simp) (hb hby d8_14) (show nar .byte (0 : Int32) = (0 : Int32) from by decide) (by decide) (by decide) ?_
  exact ⟨rfl, rfl, ea2⟩
theorem d7_0 : decode jdk_42_method_54_code 0 = .ok (.aload_n 0, 1) := by decide +kernel
theorem d7_1 : decode jdk_42_method_54_code 1 = .ok (.getfield 9, 3) := by decide +kernel
theorem d7_4 : decode jdk_42_method_54_code 4 = .ok (.arraylength, 1) := by decide +kernel
theorem d7_5 : decode jdk_42_method_54_code 5 = .ok (.aload_n 0, 1) := by decide +kernel
theorem d7_6 : decode jdk_42_method_54_code 6 = .ok (.invokevirtual 335, 3) := by decide +kernel
theorem d7_9 : decode jdk_42_method_54_code 9 = .ok (.ishr, 1) := by decide +kernel
theorem d7_10 : decode jdk_42_method_54_code 10 = .ok (.ireturn, 1) := by decide +kernel
theorem rj_len_pn : plainFor (⟨"java/lang/String", "length", "()I"⟩ : MethodName) = true := plainFor_of_name (show plainName "java/lang/String" = true by first | (simp [plainName, overriddenIn]; done) | decide +kernel)
theorem rj_len_ef (mI : MethodId) (a : Addr) : entryFrame mI #[(.ref a)] 1 = mkF mI 0 #[.val (.ref a)] [] := by first | (simp [entryFrame, mkF, argsToLocals, Value.category]; done) | rfl
set_option maxRecDepth 65536 in
set_option maxHeartbeats 40000000 in
theorem rj_len (l : Launch) (Z : State) (a0 : Array Value) (hw : ∀ d ∈ tables_1, d.before a0 Z = true) (ws : List Jvm.Cond) (h0 : Heap) (n0 : Nat) (O : Old Z n0 h0) (cs : Int32) (Scs : Sta Z Z.heap "java/lang/String" "COMPACT_STRINGS" "Z" (.int cs)) (hcs : ¬ cs = 0) (a d : Addr) (k : ClassId) (z : Int32) (vs : List Value) (Ea : Exa Z h0 a "java/lang/String") (Fc : Fld Z h0 a "java/lang/String" "coder" "B" (.int 0)) (Fv : Fld Z h0 a "java/lang/String" "value" "[B" (.ref d)) (V : Arv Z h0 d k .byte z vs (.int 0)) :
    own_Met l Z (⟨"java/lang/String", "length", "()I"⟩ : MethodName) jdk_42_method_54_code 1 (some .int) ws ({ frames := 1, cells := 0, slots := 0, locals := 13 } : Room) #[(.ref a)] h0 (own_QP h0 (some (.int z))) := by
  refine own_met rj_len_pn ?_
  intro pP eE sS mI bB mT cC s₁ hx hby hml hown hnm hret hlk hZ X0 e0
  replace hown : sS.vm.findClass "java/lang/String" = some mI.cls := hown
  refine own_cast (rj_len_ef mI a) ?_
  refine own_go (T' := s₁) (g' := (mkF mI 1 #[.val (.ref a)] [(.ref a)])) (fun t_ kt_ => XS.aloadN X0.here hx rfl (hb hby d7_0) rfl rfl kt_) ?_
  obtain ⟨Tb1, Xb1, eb1, stb1⟩ := getF X0 hx hZ hown (host := "") (Or.inl (hw _ (List.mem_of_getElem? (i := 47) rfl))) Via.refl e0 Fv (g := (mkF mI 1 #[.val (.ref a)] [(.ref a)])) rfl rfl (hb hby d7_1)
  refine own_go (T' := Tb1) (g' := (mkF mI 4 #[.val (.ref a)] [(.ref d)])) (fun t_ kt_ => stb1 _ kt_) ?_
  obtain ⟨clb2, Arb2, qb2, Sb2, Ngb2, Hb2, Gb2⟩ := id V
  refine own_go (T' := Tb1) (g' := (mkF mI 5 #[.val (.ref a)] [(.int z)])) (fun t_ kt_ => own_len Xb1 hx hZ eb1 Arb2 (len_of Sb2 Ngb2) (g := (mkF mI 4 #[.val (.ref a)] [(.ref d)])) rfl rfl (hb hby d7_4) _ kt_) ?_
  refine own_go (T' := Tb1) (g' := (mkF mI 6 #[.val (.ref a)] [(.ref a), (.int z)])) (fun t_ kt_ => XS.aloadN Xb1.here hx rfl (hb hby d7_5) rfl rfl kt_) ?_
  refine own_callV own_closed Xb1 hx hZ (y := (⟨"java/lang/String", "coder", "()B"⟩ : MethodName)) (z := (⟨"java/lang/String", "coder", "()B"⟩ : MethodName)) hown (hw _ (List.mem_of_getElem? (i := 48) rfl)) (hw _ (List.mem_of_getElem? (i := 49) rfl)) (hw _ (List.mem_of_getElem? (i := 51) rfl)) (hw _ (List.mem_of_getElem? (i := 50) rfl)) (hw _ (List.mem_of_getElem? (i := 51) rfl)) rfl (by decide) (rj_coder l Z a0 hw [] h0 n0 O cs Scs hcs a Fc) (hw _ (List.mem_of_getElem? (i := 52) rfl)) (hw _ (List.mem_of_getElem? (i := 20) rfl)) eb1 Ea (pc := 6) (Ls := #[.val (.ref a)]) (argsL := []) (rest := [(.int z)]) (by rw [hml]; rfl) (lenOf pd_0 rfl) (W := 1) (Nat.le_of_eq rfl) (by decide) (by decide) (by decide) (by decide) (hb hby d7_6) rfl rfl ?_
  intro Tb3 Lb3 vb3 Xb3 hQb3
  obtain ⟨rfl, rfl, eb3⟩ := hQb3
  show own_Ends pP eE bB sS _ _ Tb3 (mkF mI 9 #[.val (.ref a)] [(.int (0 : Int32)), (.int z)])
  refine own_go (T' := Tb3) (g' := (mkF mI 10 #[.val (.ref a)] [(.int (z >>> ((0 : Int32) &&& 31)))])) (fun t_ kt_ => XS.ishr Xb3.here hx rfl (hb hby d7_9) rfl kt_) ?_
  rw [own_shr0]
  refine own_retI Xb3 hx hlk hret (hb hby d7_10) (by decide) (by decide) ?_
  exact ⟨rfl, rfl, eb3⟩
theorem d35_0 : decode jdk_42_method_154_code 0 = .ok (.getstatic 38, 3) := by decide +kernel
theorem d35_3 : decode jdk_42_method_154_code 3 = .ok (.ifCond .eq 14, 3) := by decide +kernel
theorem d35_6 : decode jdk_42_method_154_code 6 = .ok (.aload_n 0, 1) := by decide +kernel
theorem d35_7 : decode jdk_42_method_154_code 7 = .ok (.getfield 15, 3) := by decide +kernel
theorem d35_10 : decode jdk_42_method_154_code 10 = .ok (.ifCond .ne 7, 3) := by decide +kernel
theorem d35_13 : decode jdk_42_method_154_code 13 = .ok (.iconst 1, 1) := by decide +kernel
theorem d35_14 : decode jdk_42_method_154_code 14 = .ok (.goto 4, 3) := by decide +kernel
theorem d35_18 : decode jdk_42_method_154_code 18 = .ok (.ireturn, 1) := by decide +kernel
theorem rj_lat_pn : plainFor (⟨"java/lang/String", "isLatin1", "()Z"⟩ : MethodName) = true := plainFor_of_name (show plainName "java/lang/String" = true by first | (simp [plainName, overriddenIn]; done) | decide +kernel)
theorem rj_lat_ef (mI : MethodId) (a : Addr) : entryFrame mI #[(.ref a)] 1 = mkF mI 0 #[.val (.ref a)] [] := by first | (simp [entryFrame, mkF, argsToLocals, Value.category]; done) | rfl
set_option maxRecDepth 65536 in
set_option maxHeartbeats 40000000 in
theorem rj_lat (l : Launch) (Z : State) (a0 : Array Value) (hw : ∀ d ∈ tables_1, d.before a0 Z = true) (ws : List Jvm.Cond) (h0 : Heap) (n0 : Nat) (O : Old Z n0 h0) (cs : Int32) (Scs : Sta Z Z.heap "java/lang/String" "COMPACT_STRINGS" "Z" (.int cs)) (hcs : ¬ cs = 0) (a : Addr) (Fc : Fld Z h0 a "java/lang/String" "coder" "B" (.int 0)) :
    own_Met l Z (⟨"java/lang/String", "isLatin1", "()Z"⟩ : MethodName) jdk_42_method_154_code 1 (some .boolean) ws ({ frames := 0, cells := 0, slots := 0, locals := 0 } : Room) #[(.ref a)] h0 (own_QP h0 (some (.int 1))) := by
  refine own_met rj_lat_pn ?_
  intro pP eE sS mI bB mT cC s₁ hx hby hml hown hnm hret hlk hZ X0 e0
  replace hown : sS.vm.findClass "java/lang/String" = some mI.cls := hown
  refine own_cast (rj_lat_ef mI a) ?_
  obtain ⟨Tc1, Xc1, ec1, stc1⟩ := getS2 X0 hx hZ hown (host := "") (Or.inl (hw _ (List.mem_of_getElem? (i := 53) rfl))) Via.refl e0 (Sta.ext O.2 Scs) (g := (mkF mI 0 #[.val (.ref a)] [])) rfl (hb hby d35_0)
  refine own_go (T' := Tc1) (g' := (mkF mI 3 #[.val (.ref a)] [(.int cs)])) (fun t_ kt_ => stc1 _ kt_) ?_
  refine own_go (T' := Tc1) (g' := (mkF mI 6 #[.val (.ref a)] [])) (fun t_ kt_ => XS.ifNo Xc1.here hx rfl (hb hby d35_3) rfl ((if0 _ _).trans (feq (hcs : ¬ (cs = (0 : Int32)))).1) kt_) ?_
  refine own_go (T' := Tc1) (g' := (mkF mI 7 #[.val (.ref a)] [(.ref a)])) (fun t_ kt_ => XS.aloadN Xc1.here hx rfl (hb hby d35_6) rfl rfl kt_) ?_
  obtain ⟨Tc2, Xc2, ec2, stc2⟩ := getF Xc1 hx hZ hown (host := "") (Or.inl (hw _ (List.mem_of_getElem? (i := 54) rfl))) Via.refl ec1 Fc (g := (mkF mI 7 #[.val (.ref a)] [(.ref a)])) rfl rfl (hb hby d35_7)
  refine own_go (T' := Tc2) (g' := (mkF mI 10 #[.val (.ref a)] [(.int (0 : Int32))])) (fun t_ kt_ => stc2 _ kt_) ?_
  refine own_go (T' := Tc2) (g' := (mkF mI 13 #[.val (.ref a)] [])) (fun t_ kt_ => XS.ifNo Xc2.here hx rfl (hb hby d35_10) rfl ((if0 _ _).trans (teq (by decide : (0 : Int32) = (0 : Int32))).2) kt_) ?_
  refine own_go (T' := Tc2) (g' := (mkF mI 14 #[.val (.ref a)] [(.int (1 : Int32))])) (fun t_ kt_ => XS.iconst Xc2.here hx rfl (hb hby d35_13) kt_) ?_
  refine own_go (T' := Tc2) (g' := (mkF mI 18 #[.val (.ref a)] [(.int (1 : Int32))])) (fun t_ kt_ => XS.goto Xc2.here hx rfl (pc0 := 14) (pc' := 18) rfl (hb hby d35_14) (by decide) (by decide) kt_) ?_
  refine own_retN Xc2 hx hlk (t := .boolean) hret (by simp) (hb hby d35_18) (show nar .boolean (1 : Int32) = (1 : Int32) from by decide) (by decide) (by decide) ?_
  exact ⟨rfl, rfl, ec2⟩
theorem d38_0 : decode jdk_41_method_11_code 0 = .ok (.iload_n 0, 1) := by decide +kernel
theorem d38_1 : decode jdk_41_method_11_code 1 = .ok (.ifCond .lt 8, 3) := by decide +kernel
theorem d38_4 : decode jdk_41_method_11_code 4 = .ok (.iload_n 0, 1) := by decide +kernel
theorem d38_5 : decode jdk_41_method_11_code 5 = .ok (.iload_n 1, 1) := by decide +kernel
theorem d38_6 : decode jdk_41_method_11_code 6 = .ok (.if_icmp .lt 10, 3) := by decide +kernel
theorem d38_16 : decode jdk_41_method_11_code 16 = .ok (.iload_n 0, 1) := by decide +kernel
theorem d38_17 : decode jdk_41_method_11_code 17 = .ok (.ireturn, 1) := by decide +kernel
theorem rj_pci_pn : plainFor (⟨"jdk/internal/util/Preconditions", "checkIndex", "(IILjava/util/function/BiFunction;)I"⟩ : MethodName) = true := plainFor_of_name (show plainName "jdk/internal/util/Preconditions" = true by first | (simp [plainName, overriddenIn]; done) | decide +kernel)
theorem rj_pci_ef (mI : MethodId) (i : Int32) (n : Int32) (fo : Value) (hfo : fo.isRef = true) : entryFrame mI #[(.int i), (.int n), fo] 3 = mkF mI 0 #[.val (.int i), .val (.int n), .val fo] [] := by rcases ref_cases hfo with rfl | ⟨_, rfl⟩ <;> first | (simp [entryFrame, mkF, argsToLocals, Value.category]; done) | rfl
set_option maxRecDepth 65536 in
set_option maxHeartbeats 40000000 in
theorem rj_pci (l : Launch) (Z : State) (a0 : Array Value) (hw : ∀ d ∈ tables_1, d.before a0 Z = true) (ws : List Jvm.Cond) (h0 : Heap) (i n : Int32) (fo : Value) (hfo : fo.isRef = true) (h_i0 : ¬ i < 0) (h_in : i < n) :
    own_Met l Z (⟨"jdk/internal/util/Preconditions", "checkIndex", "(IILjava/util/function/BiFunction;)I"⟩ : MethodName) jdk_41_method_11_code 3 (some .int) ws ({ frames := 0, cells := 0, slots := 0, locals := 0 } : Room) #[(.int i), (.int n), fo] h0 (own_QP h0 (some (.int i))) := by
  refine own_met rj_pci_pn ?_
  intro pP eE sS mI bB mT cC s₁ hx hby hml hown hnm hret hlk hZ X0 e0
  replace hown : sS.vm.findClass "jdk/internal/util/Preconditions" = some mI.cls := hown
  refine own_cast (rj_pci_ef mI i n fo hfo) ?_
  refine own_go (T' := s₁) (g' := (mkF mI 1 #[.val (.int i), .val (.int n), .val fo] [(.int i)])) (fun t_ kt_ => XS.iloadN X0.here hx rfl (hb hby d38_0) rfl kt_) ?_
  refine own_go (T' := s₁) (g' := (mkF mI 4 #[.val (.int i), .val (.int n), .val fo] [])) (fun t_ kt_ => XS.ifNo X0.here hx rfl (hb hby d38_1) rfl ((if0 _ _).trans (flt (h_i0 : ¬ (i < (0 : Int32)))).1) kt_) ?_
  refine own_go (T' := s₁) (g' := (mkF mI 5 #[.val (.int i), .val (.int n), .val fo] [(.int i)])) (fun t_ kt_ => XS.iloadN X0.here hx rfl (hb hby d38_4) rfl kt_) ?_
  refine own_go (T' := s₁) (g' := (mkF mI 6 #[.val (.int i), .val (.int n), .val fo] [(.int n), (.int i)])) (fun t_ kt_ => XS.iloadN X0.here hx rfl (hb hby d38_5) rfl kt_) ?_
  refine own_go (T' := s₁) (g' := (mkF mI 16 #[.val (.int i), .val (.int n), .val fo] [])) (fun t_ kt_ => XS.icmpYes X0.here hx rfl (pc0 := 6) (pc' := 16) rfl (hb hby d38_6) rfl (tlt (h_in : i < n)).1 (by decide) (by decide) kt_) ?_
  refine own_go (T' := s₁) (g' := (mkF mI 17 #[.val (.int i), .val (.int n), .val fo] [(.int i)])) (fun t_ kt_ => XS.iloadN X0.here hx rfl (hb hby d38_16) rfl kt_) ?_
  refine own_retI X0 hx hlk hret (hb hby d38_17) (by decide) (by decide) ?_
  exact ⟨rfl, rfl, e0⟩
theorem d37_0 : decode jdk_42_method_155_code 0 = .ok (.iload_n 0, 1) := by decide +kernel
theorem d37_1 : decode jdk_42_method_155_code 1 = .ok (.iload_n 1, 1) := by decide +kernel
theorem d37_2 : decode jdk_42_method_155_code 2 = .ok (.getstatic 1053, 3) := by decide +kernel
theorem d37_5 : decode jdk_42_method_155_code 5 = .ok (.invokestatic 1059, 3) := by decide +kernel
theorem d37_8 : decode jdk_42_method_155_code 8 = .ok (.pop, 1) := by decide +kernel
theorem d37_9 : decode jdk_42_method_155_code 9 = .ok (.return_, 1) := by decide +kernel
theorem rj_ci_pn : plainFor (⟨"java/lang/String", "checkIndex", "(II)V"⟩ : MethodName) = true := plainFor_of_name (show plainName "java/lang/String" = true by first | (simp [plainName, overriddenIn]; done) | decide +kernel)
theorem rj_ci_ef (mI : MethodId) (i : Int32) (n : Int32) : entryFrame mI #[(.int i), (.int n)] 2 = mkF mI 0 #[.val (.int i), .val (.int n)] [] := by first | (simp [entryFrame, mkF, argsToLocals, Value.category]; done) | rfl
set_option maxRecDepth 65536 in
set_option maxHeartbeats 40000000 in
theorem rj_ci (l : Launch) (Z : State) (a0 : Array Value) (hw : ∀ d ∈ tables_1, d.before a0 Z = true) (ws : List Jvm.Cond) (h0 : Heap) (n0 : Nat) (O : Old Z n0 h0) (cs : Int32) (Scs : Sta Z Z.heap "java/lang/String" "COMPACT_STRINGS" "Z" (.int cs)) (hcs : ¬ cs = 0) (fo : Value) (hfo : fo.isRef = true) (Sfo : Sta Z Z.heap "jdk/internal/util/Preconditions" "SIOOBE_FORMATTER" "Ljava/util/function/BiFunction;" fo) (i n : Int32) (h_i0 : ¬ i < 0) (h_in : i < n) :
    own_Met l Z (⟨"java/lang/String", "checkIndex", "(II)V"⟩ : MethodName) jdk_42_method_155_code 2 none ws ({ frames := 1, cells := 0, slots := 0, locals := 14 } : Room) #[(.int i), (.int n)] h0 (own_QP h0 none) := by
  refine own_met rj_ci_pn ?_
  intro pP eE sS mI bB mT cC s₁ hx hby hml hown hnm hret hlk hZ X0 e0
  replace hown : sS.vm.findClass "java/lang/String" = some mI.cls := hown
  refine own_cast (rj_ci_ef mI i n) ?_
  refine own_go (T' := s₁) (g' := (mkF mI 1 #[.val (.int i), .val (.int n)] [(.int i)])) (fun t_ kt_ => XS.iloadN X0.here hx rfl (hb hby d37_0) rfl kt_) ?_
  refine own_go (T' := s₁) (g' := (mkF mI 2 #[.val (.int i), .val (.int n)] [(.int n), (.int i)])) (fun t_ kt_ => XS.iloadN X0.here hx rfl (hb hby d37_1) rfl kt_) ?_
  obtain ⟨Te1, Xe1, ee1, ste1⟩ := getS2 X0 hx hZ hown (host := "") (Or.inl (hw _ (List.mem_of_getElem? (i := 200) rfl))) Via.refl e0 (Sta.ext O.2 Sfo) (g := (mkF mI 2 #[.val (.int i), .val (.int n)] [(.int n), (.int i)])) rfl (hb hby d37_2)
  refine own_go (T' := Te1) (g' := (mkF mI 5 #[.val (.int i), .val (.int n)] [fo, (.int n), (.int i)])) (fun t_ kt_ => ste1 _ kt_) ?_
  refine own_callS own_closed Xe1 hx hZ (y := (⟨"jdk/internal/util/Preconditions", "checkIndex", "(IILjava/util/function/BiFunction;)I"⟩ : MethodName)) hown (hw _ (List.mem_of_getElem? (i := 202) rfl)) (hw _ (List.mem_of_getElem? (i := 203) rfl)) (by decide) (rj_pci l Z a0 hw [] h0 i n fo hfo h_i0 h_in) (hw _ (List.mem_of_getElem? (i := 204) rfl)) (hw _ (List.mem_of_getElem? (i := 201) rfl)) ee1 (pc := 5) (Ls := #[.val (.int i), .val (.int n)]) (argsL := [(.int i), (.int n), fo]) (rest := []) (by rw [hml]; rfl) (lenOf pd_1 rfl) (W := 0) (Nat.le_of_eq rfl) (by decide) (by decide) (by decide) (by decide) (hb hby d37_5) rfl rfl ?_
  intro Te2 Le2 ve2 Xe2 hQe2
  obtain ⟨rfl, rfl, ee2⟩ := hQe2
  show own_Ends pP eE bB sS _ _ Te2 (mkF mI 8 #[.val (.int i), .val (.int n)] [(.int i)])
  refine own_go (T' := Te2) (g' := (mkF mI 9 #[.val (.int i), .val (.int n)] [])) (fun t_ kt_ => XS.pop Xe2.here hx rfl (hb hby d37_8) rfl rfl kt_) ?_
  refine own_retV Xe2 hx hlk hret (hb hby d37_9) (by decide) (by decide) ?_
  exact ⟨rfl, rfl, ee2⟩
theorem d36_0 : decode jdk_43_method_2_code 0 = .ok (.iload_n 1, 1) := by decide +kernel
theorem d36_1 : decode jdk_43_method_2_code 1 = .ok (.aload_n 0, 1) := by decide +kernel
theorem d36_2 : decode jdk_43_method_2_code 2 = .ok (.arraylength, 1) := by decide +kernel
theorem d36_3 : decode jdk_43_method_2_code 3 = .ok (.invokestatic 9, 3) := by decide +kernel
theorem d36_6 : decode jdk_43_method_2_code 6 = .ok (.aload_n 0, 1) := by decide +kernel
theorem d36_7 : decode jdk_43_method_2_code 7 = .ok (.iload_n 1, 1) := by decide +kernel
theorem d36_8 : decode jdk_43_method_2_code 8 = .ok (.baload, 1) := by decide +kernel
theorem d36_9 : decode jdk_43_method_2_code 9 = .ok (.sipush 255, 3) := by decide +kernel
theorem d36_12 : decode jdk_43_method_2_code 12 = .ok (.iand, 1) := by decide +kernel
theorem d36_13 : decode jdk_43_method_2_code 13 = .ok (.i2c, 1) := by decide +kernel
theorem d36_14 : decode jdk_43_method_2_code 14 = .ok (.ireturn, 1) := by decide +kernel
theorem rj_slc_pn : plainFor (⟨"java/lang/StringLatin1", "charAt", "([BI)C"⟩ : MethodName) = true := plainFor_of_name (show plainName "java/lang/StringLatin1" = true by first | (simp [plainName, overriddenIn]; done) | decide +kernel)
theorem rj_slc_ef (mI : MethodId) (d : Addr) (i : Int32) : entryFrame mI #[(.ref d), (.int i)] 2 = mkF mI 0 #[.val (.ref d), .val (.int i)] [] := by first | (simp [entryFrame, mkF, argsToLocals, Value.category]; done) | rfl
set_option maxRecDepth 65536 in
set_option maxHeartbeats 40000000 in
theorem rj_slc (l : Launch) (Z : State) (a0 : Array Value) (hw : ∀ d ∈ tables_1, d.before a0 Z = true) (ws : List Jvm.Cond) (h0 : Heap) (n0 : Nat) (O : Old Z n0 h0) (cs : Int32) (Scs : Sta Z Z.heap "java/lang/String" "COMPACT_STRINGS" "Z" (.int cs)) (hcs : ¬ cs = 0) (fo : Value) (hfo : fo.isRef = true) (Sfo : Sta Z Z.heap "jdk/internal/util/Preconditions" "SIOOBE_FORMATTER" "Ljava/util/function/BiFunction;" fo) (d : Addr) (i : Int32) (k : ClassId) (z : Int32) (vs : List Value) (w : Int32) (V : Arv Z h0 d k .byte z vs (.int 0)) (h_i0 : ¬ i < 0) (h_in : i < z) (h_w : vs.getD i.toNatClampNeg (.int 0) = .int w) (h_m : w &&& 255 = w) :
    own_Met l Z (⟨"java/lang/StringLatin1", "charAt", "([BI)C"⟩ : MethodName) jdk_43_method_2_code 2 (some .char) ws ({ frames := 2, cells := 0, slots := 0, locals := 27 } : Room) #[(.ref d), (.int i)] h0 (own_QP h0 (some (.int w))) := by
  refine own_met rj_slc_pn ?_
  intro pP eE sS mI bB mT cC s₁ hx hby hml hown hnm hret hlk hZ X0 e0
  replace hown : sS.vm.findClass "java/lang/StringLatin1" = some mI.cls := hown
  refine own_cast (rj_slc_ef mI d i) ?_
  refine own_go (T' := s₁) (g' := (mkF mI 1 #[.val (.ref d), .val (.int i)] [(.int i)])) (fun t_ kt_ => XS.iloadN X0.here hx rfl (hb hby d36_0) rfl kt_) ?_
  refine own_go (T' := s₁) (g' := (mkF mI 2 #[.val (.ref d), .val (.int i)] [(.ref d), (.int i)])) (fun t_ kt_ => XS.aloadN X0.here hx rfl (hb hby d36_1) rfl rfl kt_) ?_
  obtain ⟨clf1, Arf1, qf1, Sf1, Ngf1, Hf1, Gf1⟩ := id V
  refine own_go (T' := s₁) (g' := (mkF mI 3 #[.val (.ref d), .val (.int i)] [(.int z), (.int i)])) (fun t_ kt_ => own_len X0 hx hZ e0 Arf1 (len_of Sf1 Ngf1) (g := (mkF mI 2 #[.val (.ref d), .val (.int i)] [(.ref d), (.int i)])) rfl rfl (hb hby d36_2) _ kt_) ?_
  refine own_callS own_closed X0 hx hZ (y := (⟨"java/lang/String", "checkIndex", "(II)V"⟩ : MethodName)) hown (hw _ (List.mem_of_getElem? (i := 197) rfl)) (hw _ (List.mem_of_getElem? (i := 198) rfl)) (by decide) (rj_ci l Z a0 hw [] h0 n0 O cs Scs hcs fo hfo Sfo i z h_i0 h_in) (hw _ (List.mem_of_getElem? (i := 199) rfl)) (hw _ (List.mem_of_getElem? (i := 20) rfl)) e0 (pc := 3) (Ls := #[.val (.ref d), .val (.int i)]) (argsL := [(.int i), (.int z)]) (rest := []) (by rw [hml]; rfl) (lenOf pd_2 rfl) (W := 0) (Nat.le_of_eq rfl) (by decide) (by decide) (by decide) (by decide) (hb hby d36_3) rfl rfl ?_
  intro Tf2 Lf2 vf2 Xf2 hQf2
  obtain ⟨rfl, rfl, ef2⟩ := hQf2
  show own_Ends pP eE bB sS _ _ Tf2 (mkF mI 6 #[.val (.ref d), .val (.int i)] [])
  refine own_go (T' := Tf2) (g' := (mkF mI 7 #[.val (.ref d), .val (.int i)] [(.ref d)])) (fun t_ kt_ => XS.aloadN Xf2.here hx rfl (hb hby d36_6) rfl rfl kt_) ?_
  refine own_go (T' := Tf2) (g' := (mkF mI 8 #[.val (.ref d), .val (.int i)] [(.int i), (.ref d)])) (fun t_ kt_ => XS.iloadN Xf2.here hx rfl (hb hby d36_7) rfl kt_) ?_
  obtain ⟨clf3, Arf3, qf3, Sf3, Ngf3, Hf3, Gf3⟩ := id V
  refine own_go (T' := Tf2) (g' := (mkF mI 9 #[.val (.ref d), .val (.int i)] [(.int w)])) (fun t_ kt_ => own_bald Xf2 hx hZ ef2 Arf3 (inb_of Sf3 ⟨h_i0, h_in⟩) (Has.at Hf3 (inb_of Sf3 ⟨h_i0, h_in⟩) h_w) (g := (mkF mI 8 #[.val (.ref d), .val (.int i)] [(.int i), (.ref d)])) rfl rfl (hb hby d36_8) _ kt_) ?_
  refine own_go (T' := Tf2) (g' := (mkF mI 12 #[.val (.ref d), .val (.int i)] [(.int (255 : Int32)), (.int w)])) (fun t_ kt_ => XS.sipush Xf2.here hx rfl (hb hby d36_9) kt_) ?_
  refine own_go (T' := Tf2) (g' := (mkF mI 13 #[.val (.ref d), .val (.int i)] [(.int (w &&& (255 : Int32)))])) (fun t_ kt_ => XS.iand Xf2.here hx rfl (hb hby d36_12) rfl kt_) ?_
  rw [h_m]
  refine own_go (T' := Tf2) (g' := (mkF mI 14 #[.val (.ref d), .val (.int i)] [(.int (w.toUInt32.toUInt16.toUInt32.toInt32))])) (fun t_ kt_ => XS.i2c Xf2.here hx rfl (hb hby d36_13) rfl kt_) ?_
  rw [own_char w h_m]
  refine own_retN Xf2 hx hlk (t := .char) hret (by simp) (hb hby d36_14) (own_char w h_m) (by decide) (by decide) ?_
  exact ⟨rfl, rfl, ef2⟩
theorem d34_0 : decode jdk_42_method_56_code 0 = .ok (.aload_n 0, 1) := by decide +kernel
theorem d34_1 : decode jdk_42_method_56_code 1 = .ok (.invokevirtual 492, 3) := by decide +kernel
theorem d34_4 : decode jdk_42_method_56_code 4 = .ok (.ifCond .eq 12, 3) := by decide +kernel
theorem d34_7 : decode jdk_42_method_56_code 7 = .ok (.aload_n 0, 1) := by decide +kernel
theorem d34_8 : decode jdk_42_method_56_code 8 = .ok (.getfield 9, 3) := by decide +kernel
theorem d34_11 : decode jdk_42_method_56_code 11 = .ok (.iload_n 1, 1) := by decide +kernel
theorem d34_12 : decode jdk_42_method_56_code 12 = .ok (.invokestatic 495, 3) := by decide +kernel
theorem d34_15 : decode jdk_42_method_56_code 15 = .ok (.ireturn, 1) := by decide +kernel
theorem rj_cha_pn : plainFor (⟨"java/lang/String", "charAt", "(I)C"⟩ : MethodName) = true := plainFor_of_name (show plainName "java/lang/String" = true by first | (simp [plainName, overriddenIn]; done) | decide +kernel)
theorem rj_cha_ef (mI : MethodId) (a : Addr) (i : Int32) : entryFrame mI #[(.ref a), (.int i)] 2 = mkF mI 0 #[.val (.ref a), .val (.int i)] [] := by first | (simp [entryFrame, mkF, argsToLocals, Value.category]; done) | rfl
set_option maxRecDepth 65536 in
set_option maxHeartbeats 40000000 in
theorem rj_cha (l : Launch) (Z : State) (a0 : Array Value) (hw : ∀ d ∈ tables_1, d.before a0 Z = true) (ws : List Jvm.Cond) (h0 : Heap) (n0 : Nat) (O : Old Z n0 h0) (cs : Int32) (Scs : Sta Z Z.heap "java/lang/String" "COMPACT_STRINGS" "Z" (.int cs)) (hcs : ¬ cs = 0) (fo : Value) (hfo : fo.isRef = true) (Sfo : Sta Z Z.heap "jdk/internal/util/Preconditions" "SIOOBE_FORMATTER" "Ljava/util/function/BiFunction;" fo) (a : Addr) (i : Int32) (d : Addr) (k : ClassId) (z : Int32) (vs : List Value) (Ea : Exa Z h0 a "java/lang/String") (Fc : Fld Z h0 a "java/lang/String" "coder" "B" (.int 0)) (Fv : Fld Z h0 a "java/lang/String" "value" "[B" (.ref d)) (w : Int32) (V : Arv Z h0 d k .byte z vs (.int 0)) (h_i0 : ¬ i < 0) (h_in : i < z) (h_w : vs.getD i.toNatClampNeg (.int 0) = .int w) (h_m : w &&& 255 = w) :
    own_Met l Z (⟨"java/lang/String", "charAt", "(I)C"⟩ : MethodName) jdk_42_method_56_code 2 (some .char) ws ({ frames := 3, cells := 0, slots := 0, locals := 40 } : Room) #[(.ref a), (.int i)] h0 (own_QP h0 (some (.int w))) := by
  refine own_met rj_cha_pn ?_
  intro pP eE sS mI bB mT cC s₁ hx hby hml hown hnm hret hlk hZ X0 e0
  replace hown : sS.vm.findClass "java/lang/String" = some mI.cls := hown
  refine own_cast (rj_cha_ef mI a i) ?_
  refine own_go (T' := s₁) (g' := (mkF mI 1 #[.val (.ref a), .val (.int i)] [(.ref a)])) (fun t_ kt_ => XS.aloadN X0.here hx rfl (hb hby d34_0) rfl rfl kt_) ?_
  refine own_callV own_closed X0 hx hZ (y := (⟨"java/lang/String", "isLatin1", "()Z"⟩ : MethodName)) (z := (⟨"java/lang/String", "isLatin1", "()Z"⟩ : MethodName)) hown (hw _ (List.mem_of_getElem? (i := 188) rfl)) (hw _ (List.mem_of_getElem? (i := 189) rfl)) (hw _ (List.mem_of_getElem? (i := 191) rfl)) (hw _ (List.mem_of_getElem? (i := 190) rfl)) (hw _ (List.mem_of_getElem? (i := 191) rfl)) rfl (by decide) (rj_lat l Z a0 hw [] h0 n0 O cs Scs hcs a Fc) (hw _ (List.mem_of_getElem? (i := 192) rfl)) (hw _ (List.mem_of_getElem? (i := 20) rfl)) e0 Ea (pc := 1) (Ls := #[.val (.ref a), .val (.int i)]) (argsL := []) (rest := []) (by rw [hml]; rfl) (lenOf pd_3 rfl) (W := 0) (Nat.le_of_eq rfl) (by decide) (by decide) (by decide) (by decide) (hb hby d34_1) rfl rfl ?_
  intro Tg1 Lg1 vg1 Xg1 hQg1
  obtain ⟨rfl, rfl, eg1⟩ := hQg1
  show own_Ends pP eE bB sS _ _ Tg1 (mkF mI 4 #[.val (.ref a), .val (.int i)] [(.int (1 : Int32))])
  refine own_go (T' := Tg1) (g' := (mkF mI 7 #[.val (.ref a), .val (.int i)] [])) (fun t_ kt_ => XS.ifNo Xg1.here hx rfl (hb hby d34_4) rfl ((if0 _ _).trans (feq (by decide : ¬ ((1 : Int32) = (0 : Int32)))).1) kt_) ?_
  refine own_go (T' := Tg1) (g' := (mkF mI 8 #[.val (.ref a), .val (.int i)] [(.ref a)])) (fun t_ kt_ => XS.aloadN Xg1.here hx rfl (hb hby d34_7) rfl rfl kt_) ?_
  obtain ⟨Tg2, Xg2, eg2, stg2⟩ := getF Xg1 hx hZ hown (host := "") (Or.inl (hw _ (List.mem_of_getElem? (i := 47) rfl))) Via.refl eg1 Fv (g := (mkF mI 8 #[.val (.ref a), .val (.int i)] [(.ref a)])) rfl rfl (hb hby d34_8)
  refine own_go (T' := Tg2) (g' := (mkF mI 11 #[.val (.ref a), .val (.int i)] [(.ref d)])) (fun t_ kt_ => stg2 _ kt_) ?_
  refine own_go (T' := Tg2) (g' := (mkF mI 12 #[.val (.ref a), .val (.int i)] [(.int i), (.ref d)])) (fun t_ kt_ => XS.iloadN Xg2.here hx rfl (hb hby d34_11) rfl kt_) ?_
  refine own_callS own_closed Xg2 hx hZ (y := (⟨"java/lang/StringLatin1", "charAt", "([BI)C"⟩ : MethodName)) hown (hw _ (List.mem_of_getElem? (i := 193) rfl)) (hw _ (List.mem_of_getElem? (i := 194) rfl)) (by decide) (rj_slc l Z a0 hw [] h0 n0 O cs Scs hcs fo hfo Sfo d i _ z _ w V h_i0 h_in h_w h_m) (hw _ (List.mem_of_getElem? (i := 196) rfl)) (hw _ (List.mem_of_getElem? (i := 195) rfl)) eg2 (pc := 12) (Ls := #[.val (.ref a), .val (.int i)]) (argsL := [(.ref d), (.int i)]) (rest := []) (by rw [hml]; rfl) (lenOf pd_4 rfl) (W := 0) (Nat.le_of_eq rfl) (by decide) (by decide) (by decide) (by decide) (hb hby d34_12) rfl rfl ?_
  intro Tg3 Lg3 vg3 Xg3 hQg3
  obtain ⟨rfl, rfl, eg3⟩ := hQg3
  show own_Ends pP eE bB sS _ _ Tg3 (mkF mI 15 #[.val (.ref a), .val (.int i)] [(.int w)])
  refine own_retN Xg3 hx hlk (t := .char) hret (by simp) (hb hby d34_15) (own_char w h_m) (by decide) (by decide) ?_
  exact ⟨rfl, rfl, eg3⟩
theorem d20_0 : decode jdk_29_method_65_code 0 = .ok (.iload_n 0, 1) := by decide +kernel
theorem d20_1 : decode jdk_29_method_65_code 1 = .ok (.iload_n 1, 1) := by decide +kernel
theorem d20_2 : decode jdk_29_method_65_code 2 = .ok (.if_icmp .lt 7, 3) := by decide +kernel
theorem d20_5 : decode jdk_29_method_65_code 5 = .ok (.iload_n 0, 1) := by decide +kernel
theorem d20_6 : decode jdk_29_method_65_code 6 = .ok (.goto 4, 3) := by decide +kernel
theorem d20_9 : decode jdk_29_method_65_code 9 = .ok (.iload_n 1, 1) := by decide +kernel
theorem d20_10 : decode jdk_29_method_65_code 10 = .ok (.ireturn, 1) := by decide +kernel
theorem rj_max_pn : plainFor (⟨"java/lang/Math", "max", "(II)I"⟩ : MethodName) = true := Jvm.Free.JP.mathPlain rfl (by decide +kernel)
theorem rj_max_ef (mI : MethodId) (x : Int32) (y : Int32) : entryFrame mI #[(.int x), (.int y)] 2 = mkF mI 0 #[.val (.int x), .val (.int y)] [] := by first | (simp [entryFrame, mkF, argsToLocals, Value.category]; done) | rfl
set_option maxRecDepth 65536 in
set_option maxHeartbeats 40000000 in
theorem rj_max (l : Launch) (Z : State) (a0 : Array Value) (hw : ∀ d ∈ tables_1, d.before a0 Z = true) (ws : List Jvm.Cond) (h0 : Heap) (x y : Int32) :
    own_Met l Z (⟨"java/lang/Math", "max", "(II)I"⟩ : MethodName) jdk_29_method_65_code 2 (some .int) ws ({ frames := 0, cells := 0, slots := 0, locals := 0 } : Room) #[(.int x), (.int y)] h0 (own_QP h0 (some (.int (own_max x y)))) := by
  refine own_met rj_max_pn ?_
  intro pP eE sS mI bB mT cC s₁ hx hby hml hown hnm hret hlk hZ X0 e0
  replace hown : sS.vm.findClass "java/lang/Math" = some mI.cls := hown
  refine own_cast (rj_max_ef mI x y) ?_
  refine own_go (T' := s₁) (g' := (mkF mI 1 #[.val (.int x), .val (.int y)] [(.int x)])) (fun t_ kt_ => XS.iloadN X0.here hx rfl (hb hby d20_0) rfl kt_) ?_
  refine own_go (T' := s₁) (g' := (mkF mI 2 #[.val (.int x), .val (.int y)] [(.int y), (.int x)])) (fun t_ kt_ => XS.iloadN X0.here hx rfl (hb hby d20_1) rfl kt_) ?_
  by_cases hc2_m1 : x < y
  · skip
    refine own_go (T' := s₁) (g' := (mkF mI 9 #[.val (.int x), .val (.int y)] [])) (fun t_ kt_ => XS.icmpYes X0.here hx rfl (pc0 := 2) (pc' := 9) rfl (hb hby d20_2) rfl (tlt hc2_m1).1 (by decide) (by decide) kt_) ?_
    refine own_go (T' := s₁) (g' := (mkF mI 10 #[.val (.int x), .val (.int y)] [(.int y)])) (fun t_ kt_ => XS.iloadN X0.here hx rfl (hb hby d20_9) rfl kt_) ?_
    refine own_retI X0 hx hlk hret (hb hby d20_10) (by decide) (by decide) ?_
    exact ⟨by simp [own_max, hc2_m1], rfl, e0⟩
  · skip
    refine own_go (T' := s₁) (g' := (mkF mI 5 #[.val (.int x), .val (.int y)] [])) (fun t_ kt_ => XS.icmpNo X0.here hx rfl (hb hby d20_2) rfl (flt hc2_m1).1 kt_) ?_
    refine own_go (T' := s₁) (g' := (mkF mI 6 #[.val (.int x), .val (.int y)] [(.int x)])) (fun t_ kt_ => XS.iloadN X0.here hx rfl (hb hby d20_5) rfl kt_) ?_
    refine own_go (T' := s₁) (g' := (mkF mI 10 #[.val (.int x), .val (.int y)] [(.int x)])) (fun t_ kt_ => XS.goto X0.here hx rfl (pc0 := 6) (pc' := 10) rfl (hb hby d20_6) (by decide) (by decide) kt_) ?_
    refine own_retI X0 hx hlk hret (hb hby d20_10) (by decide) (by decide) ?_
    exact ⟨by simp [own_max, hc2_m1], rfl, e0⟩
theorem d22_0 : decode jdk_29_method_69_code 0 = .ok (.iload_n 0, 1) := by decide +kernel
theorem d22_1 : decode jdk_29_method_69_code 1 = .ok (.iload_n 1, 1) := by decide +kernel
theorem d22_2 : decode jdk_29_method_69_code 2 = .ok (.if_icmp .gt 7, 3) := by decide +kernel
theorem d22_5 : decode jdk_29_method_69_code 5 = .ok (.iload_n 0, 1) := by decide +kernel
theorem d22_6 : decode jdk_29_method_69_code 6 = .ok (.goto 4, 3) := by decide +kernel
theorem d22_9 : decode jdk_29_method_69_code 9 = .ok (.iload_n 1, 1) := by decide +kernel
theorem d22_10 : decode jdk_29_method_69_code 10 = .ok (.ireturn, 1) := by decide +kernel
theorem rj_min_pn : plainFor (⟨"java/lang/Math", "min", "(II)I"⟩ : MethodName) = true := Jvm.Free.JP.mathPlain rfl (by decide +kernel)
theorem rj_min_ef (mI : MethodId) (x : Int32) (y : Int32) : entryFrame mI #[(.int x), (.int y)] 2 = mkF mI 0 #[.val (.int x), .val (.int y)] [] := by first | (simp [entryFrame, mkF, argsToLocals, Value.category]; done) | rfl
set_option maxRecDepth 65536 in
set_option maxHeartbeats 40000000 in
theorem rj_min (l : Launch) (Z : State) (a0 : Array Value) (hw : ∀ d ∈ tables_1, d.before a0 Z = true) (ws : List Jvm.Cond) (h0 : Heap) (x y : Int32) :
    own_Met l Z (⟨"java/lang/Math", "min", "(II)I"⟩ : MethodName) jdk_29_method_69_code 2 (some .int) ws ({ frames := 0, cells := 0, slots := 0, locals := 0 } : Room) #[(.int x), (.int y)] h0 (own_QP h0 (some (.int (own_min x y)))) := by
  refine own_met rj_min_pn ?_
  intro pP eE sS mI bB mT cC s₁ hx hby hml hown hnm hret hlk hZ X0 e0
  replace hown : sS.vm.findClass "java/lang/Math" = some mI.cls := hown
  refine own_cast (rj_min_ef mI x y) ?_
  refine own_go (T' := s₁) (g' := (mkF mI 1 #[.val (.int x), .val (.int y)] [(.int x)])) (fun t_ kt_ => XS.iloadN X0.here hx rfl (hb hby d22_0) rfl kt_) ?_
  refine own_go (T' := s₁) (g' := (mkF mI 2 #[.val (.int x), .val (.int y)] [(.int y), (.int x)])) (fun t_ kt_ => XS.iloadN X0.here hx rfl (hb hby d22_1) rfl kt_) ?_
  by_cases hc2_m1 : y < x
  · skip
    refine own_go (T' := s₁) (g' := (mkF mI 9 #[.val (.int x), .val (.int y)] [])) (fun t_ kt_ => XS.icmpYes X0.here hx rfl (pc0 := 2) (pc' := 9) rfl (hb hby d22_2) rfl (tlt hc2_m1).2.2.1 (by decide) (by decide) kt_) ?_
    refine own_go (T' := s₁) (g' := (mkF mI 10 #[.val (.int x), .val (.int y)] [(.int y)])) (fun t_ kt_ => XS.iloadN X0.here hx rfl (hb hby d22_9) rfl kt_) ?_
    refine own_retI X0 hx hlk hret (hb hby d22_10) (by decide) (by decide) ?_
    exact ⟨by simp [own_min, hc2_m1], rfl, e0⟩
  · skip
    refine own_go (T' := s₁) (g' := (mkF mI 5 #[.val (.int x), .val (.int y)] [])) (fun t_ kt_ => XS.icmpNo X0.here hx rfl (hb hby d22_2) rfl (flt hc2_m1).2.2.1 kt_) ?_
    refine own_go (T' := s₁) (g' := (mkF mI 6 #[.val (.int x), .val (.int y)] [(.int x)])) (fun t_ kt_ => XS.iloadN X0.here hx rfl (hb hby d22_5) rfl kt_) ?_
    refine own_go (T' := s₁) (g' := (mkF mI 10 #[.val (.int x), .val (.int y)] [(.int x)])) (fun t_ kt_ => XS.goto X0.here hx rfl (pc0 := 6) (pc' := 10) rfl (hb hby d22_6) (by decide) (by decide) kt_) ?_
    refine own_retI X0 hx hlk hret (hb hby d22_10) (by decide) (by decide) ?_
    exact ⟨by simp [own_min, hc2_m1], rfl, e0⟩
theorem d19_0 : decode jdk_48_method_27_code 0 = .ok (.iload_n 0, 1) := by decide +kernel
theorem d19_1 : decode jdk_48_method_27_code 1 = .ok (.iload_n 1, 1) := by decide +kernel
theorem d19_2 : decode jdk_48_method_27_code 2 = .ok (.iload_n 2, 1) := by decide +kernel
theorem d19_3 : decode jdk_48_method_27_code 3 = .ok (.invokestatic 194, 3) := by decide +kernel
theorem d19_6 : decode jdk_48_method_27_code 6 = .ok (.iadd, 1) := by decide +kernel
theorem d19_7 : decode jdk_48_method_27_code 7 = .ok (.istore_n 3, 1) := by decide +kernel
theorem d19_8 : decode jdk_48_method_27_code 8 = .ok (.iconst 0, 1) := by decide +kernel
theorem d19_9 : decode jdk_48_method_27_code 9 = .ok (.iload_n 3, 1) := by decide +kernel
theorem d19_10 : decode jdk_48_method_27_code 10 = .ok (.if_icmp .ge 11, 3) := by decide +kernel
theorem d19_13 : decode jdk_48_method_27_code 13 = .ok (.iload_n 3, 1) := by decide +kernel
theorem d19_14 : decode jdk_48_method_27_code 14 = .ok (.ldc 200, 2) := by decide +kernel
theorem d19_16 : decode jdk_48_method_27_code 16 = .ok (.if_icmp .gt 5, 3) := by decide +kernel
theorem d19_19 : decode jdk_48_method_27_code 19 = .ok (.iload_n 3, 1) := by decide +kernel
theorem d19_20 : decode jdk_48_method_27_code 20 = .ok (.ireturn, 1) := by decide +kernel
theorem rj_newlen_pn : plainFor (⟨"jdk/internal/util/ArraysSupport", "newLength", "(III)I"⟩ : MethodName) = true := plainFor_of_name (show plainName "jdk/internal/util/ArraysSupport" = true by first | (simp [plainName, overriddenIn]; done) | decide +kernel)
theorem rj_newlen_ef (mI : MethodId) (o : Int32) (a : Int32) (b : Int32) : entryFrame mI #[(.int o), (.int a), (.int b)] 4 = mkF mI 0 #[.val (.int o), .val (.int a), .val (.int b), .unset] [] := by first | (simp [entryFrame, mkF, argsToLocals, Value.category]; done) | rfl
set_option maxRecDepth 65536 in
set_option maxHeartbeats 40000000 in
theorem rj_newlen (l : Launch) (Z : State) (a0 : Array Value) (hw : ∀ d ∈ tables_1, d.before a0 Z = true) (ws : List Jvm.Cond) (h0 : Heap) (o a b : Int32) (h1 : (0 : Int32) < (o + (own_max a b))) (h2 : ¬ (2147483639 : Int32) < (o + (own_max a b))) :
    own_Met l Z (⟨"jdk/internal/util/ArraysSupport", "newLength", "(III)I"⟩ : MethodName) jdk_48_method_27_code 4 (some .int) ws ({ frames := 1, cells := 0, slots := 0, locals := 14 } : Room) #[(.int o), (.int a), (.int b)] h0 (own_QP h0 (some (.int (o + (own_max a b))))) := by
  refine own_met rj_newlen_pn ?_
  intro pP eE sS mI bB mT cC s₁ hx hby hml hown hnm hret hlk hZ X0 e0
  replace hown : sS.vm.findClass "jdk/internal/util/ArraysSupport" = some mI.cls := hown
  refine own_cast (rj_newlen_ef mI o a b) ?_
  refine own_go (T' := s₁) (g' := (mkF mI 1 #[.val (.int o), .val (.int a), .val (.int b), .unset] [(.int o)])) (fun t_ kt_ => XS.iloadN X0.here hx rfl (hb hby d19_0) rfl kt_) ?_
  refine own_go (T' := s₁) (g' := (mkF mI 2 #[.val (.int o), .val (.int a), .val (.int b), .unset] [(.int a), (.int o)])) (fun t_ kt_ => XS.iloadN X0.here hx rfl (hb hby d19_1) rfl kt_) ?_
  refine own_go (T' := s₁) (g' := (mkF mI 3 #[.val (.int o), .val (.int a), .val (.int b), .unset] [(.int b), (.int a), (.int o)])) (fun t_ kt_ => XS.iloadN X0.here hx rfl (hb hby d19_2) rfl kt_) ?_
  refine own_callS own_closed X0 hx hZ (y := (⟨"java/lang/Math", "max", "(II)I"⟩ : MethodName)) hown (hw _ (List.mem_of_getElem? (i := 118) rfl)) (hw _ (List.mem_of_getElem? (i := 119) rfl)) (by decide) (rj_max l Z a0 hw [] h0 a b) (hw _ (List.mem_of_getElem? (i := 121) rfl)) (hw _ (List.mem_of_getElem? (i := 120) rfl)) e0 (pc := 3) (Ls := #[.val (.int o), .val (.int a), .val (.int b), .unset]) (argsL := [(.int a), (.int b)]) (rest := [(.int o)]) (by rw [hml]; rfl) (lenOf pd_5 rfl) (W := 1) (Nat.le_of_eq rfl) (by decide) (by decide) (by decide) (by decide) (hb hby d19_3) rfl rfl ?_
  intro Tn1 Ln1 vn1 Xn1 hQn1
  obtain ⟨rfl, rfl, en1⟩ := hQn1
  show own_Ends pP eE bB sS _ _ Tn1 (mkF mI 6 #[.val (.int o), .val (.int a), .val (.int b), .unset] [(.int (own_max a b)), (.int o)])
  refine own_go (T' := Tn1) (g' := (mkF mI 7 #[.val (.int o), .val (.int a), .val (.int b), .unset] [(.int (o + (own_max a b)))])) (fun t_ kt_ => XS.iadd Xn1.here hx rfl (hb hby d19_6) rfl kt_) ?_
  refine own_go (T' := Tn1) (g' := (mkF mI 8 #[.val (.int o), .val (.int a), .val (.int b), .val (.int (o + (own_max a b)))] [])) (fun t_ kt_ => XS.istoreN Xn1.here hx rfl (hb hby d19_7) rfl (l' := #[.val (.int o), .val (.int a), .val (.int b), .val (.int (o + (own_max a b)))]) rfl kt_) ?_
  refine own_go (T' := Tn1) (g' := (mkF mI 9 #[.val (.int o), .val (.int a), .val (.int b), .val (.int (o + (own_max a b)))] [(.int (0 : Int32))])) (fun t_ kt_ => XS.iconst Xn1.here hx rfl (hb hby d19_8) kt_) ?_
  refine own_go (T' := Tn1) (g' := (mkF mI 10 #[.val (.int o), .val (.int a), .val (.int b), .val (.int (o + (own_max a b)))] [(.int (o + (own_max a b))), (.int (0 : Int32))])) (fun t_ kt_ => XS.iloadN Xn1.here hx rfl (hb hby d19_9) rfl kt_) ?_
  refine own_go (T' := Tn1) (g' := (mkF mI 13 #[.val (.int o), .val (.int a), .val (.int b), .val (.int (o + (own_max a b)))] [])) (fun t_ kt_ => XS.icmpNo Xn1.here hx rfl (hb hby d19_10) rfl (tlt (h1 : (0 : Int32) < (o + (own_max a b)))).2.1 kt_) ?_
  refine own_go (T' := Tn1) (g' := (mkF mI 14 #[.val (.int o), .val (.int a), .val (.int b), .val (.int (o + (own_max a b)))] [(.int (o + (own_max a b)))])) (fun t_ kt_ => XS.iloadN Xn1.here hx rfl (hb hby d19_13) rfl kt_) ?_
  refine own_go (T' := Tn1) (g' := (mkF mI 16 #[.val (.int o), .val (.int a), .val (.int b), .val (.int (o + (own_max a b)))] [(.int (2147483639 : Int32)), (.int (o + (own_max a b)))])) (fun t_ kt_ => ldcI Xn1 hx hown (mvT hZ (hw _ (List.mem_of_getElem? (i := 122) rfl))) rfl (hb hby d19_14) kt_) ?_
  refine own_go (T' := Tn1) (g' := (mkF mI 19 #[.val (.int o), .val (.int a), .val (.int b), .val (.int (o + (own_max a b)))] [])) (fun t_ kt_ => XS.icmpNo Xn1.here hx rfl (hb hby d19_16) rfl (flt (h2 : ¬ ((2147483639 : Int32) < (o + (own_max a b))))).2.2.1 kt_) ?_
  refine own_go (T' := Tn1) (g' := (mkF mI 20 #[.val (.int o), .val (.int a), .val (.int b), .val (.int (o + (own_max a b)))] [(.int (o + (own_max a b)))])) (fun t_ kt_ => XS.iloadN Xn1.here hx rfl (hb hby d19_19) rfl kt_) ?_
  refine own_retI Xn1 hx hlk hret (hb hby d19_20) (by decide) (by decide) ?_
  exact ⟨rfl, rfl, en1⟩
theorem d18_0 : decode jdk_68_method_10_code 0 = .ok (.aload_n 0, 1) := by decide +kernel
theorem d18_1 : decode jdk_68_method_10_code 1 = .ok (.getfield 15, 3) := by decide +kernel
theorem d18_4 : decode jdk_68_method_10_code 4 = .ok (.arraylength, 1) := by decide +kernel
theorem d18_5 : decode jdk_68_method_10_code 5 = .ok (.istore_n 2, 1) := by decide +kernel
theorem d18_6 : decode jdk_68_method_10_code 6 = .ok (.iload_n 1, 1) := by decide +kernel
theorem d18_7 : decode jdk_68_method_10_code 7 = .ok (.aload_n 0, 1) := by decide +kernel
theorem d18_8 : decode jdk_68_method_10_code 8 = .ok (.getfield 22, 3) := by decide +kernel
theorem d18_11 : decode jdk_68_method_10_code 11 = .ok (.ishl, 1) := by decide +kernel
theorem d18_12 : decode jdk_68_method_10_code 12 = .ok (.istore_n 3, 1) := by decide +kernel
theorem d18_13 : decode jdk_68_method_10_code 13 = .ok (.iload_n 3, 1) := by decide +kernel
theorem d18_14 : decode jdk_68_method_10_code 14 = .ok (.iload_n 2, 1) := by decide +kernel
theorem d18_15 : decode jdk_68_method_10_code 15 = .ok (.isub, 1) := by decide +kernel
theorem d18_16 : decode jdk_68_method_10_code 16 = .ok (.istore 4, 2) := by decide +kernel
theorem d18_18 : decode jdk_68_method_10_code 18 = .ok (.iload_n 2, 1) := by decide +kernel
theorem d18_19 : decode jdk_68_method_10_code 19 = .ok (.iload 4, 2) := by decide +kernel
theorem d18_21 : decode jdk_68_method_10_code 21 = .ok (.iload_n 2, 1) := by decide +kernel
theorem d18_22 : decode jdk_68_method_10_code 22 = .ok (.iconst 2, 1) := by decide +kernel
theorem d18_23 : decode jdk_68_method_10_code 23 = .ok (.aload_n 0, 1) := by decide +kernel
theorem d18_24 : decode jdk_68_method_10_code 24 = .ok (.getfield 22, 3) := by decide +kernel
theorem d18_27 : decode jdk_68_method_10_code 27 = .ok (.ishl, 1) := by decide +kernel
theorem d18_28 : decode jdk_68_method_10_code 28 = .ok (.iadd, 1) := by decide +kernel
theorem d18_29 : decode jdk_68_method_10_code 29 = .ok (.invokestatic 114, 3) := by decide +kernel
theorem d18_32 : decode jdk_68_method_10_code 32 = .ok (.istore 5, 2) := by decide +kernel
theorem d18_34 : decode jdk_68_method_10_code 34 = .ok (.iload 5, 2) := by decide +kernel
theorem d18_36 : decode jdk_68_method_10_code 36 = .ok (.ldc 39, 2) := by decide +kernel
theorem d18_38 : decode jdk_68_method_10_code 38 = .ok (.if_icmp .ne 13, 3) := by decide +kernel
theorem d18_51 : decode jdk_68_method_10_code 51 = .ok (.iload 5, 2) := by decide +kernel
theorem d18_53 : decode jdk_68_method_10_code 53 = .ok (.aload_n 0, 1) := by decide +kernel
theorem d18_54 : decode jdk_68_method_10_code 54 = .ok (.getfield 22, 3) := by decide +kernel
theorem d18_57 : decode jdk_68_method_10_code 57 = .ok (.ishr, 1) := by decide +kernel
theorem d18_58 : decode jdk_68_method_10_code 58 = .ok (.ireturn, 1) := by decide +kernel
theorem rj_newcap_pn : plainFor (⟨"java/lang/AbstractStringBuilder", "newCapacity", "(I)I"⟩ : MethodName) = true := plainFor_of_name (show plainName "java/lang/AbstractStringBuilder" = true by first | (simp [plainName, overriddenIn]; done) | decide +kernel)
theorem rj_newcap_ef (mI : MethodId) (b : Addr) (mc : Int32) : entryFrame mI #[(.ref b), (.int mc)] 6 = mkF mI 0 #[.val (.ref b), .val (.int mc), .unset, .unset, .unset, .unset] [] := by first | (simp [entryFrame, mkF, argsToLocals, Value.category]; done) | rfl
set_option maxRecDepth 65536 in
set_option maxHeartbeats 40000000 in
theorem rj_newcap (l : Launch) (Z : State) (a0 : Array Value) (hw : ∀ d ∈ tables_1, d.before a0 Z = true) (ws : List Jvm.Cond) (h0 : Heap) (b : Addr) (mc : Int32) (da : Addr) (k : ClassId) (z r : Int32) (vs : List Value) (Eb : Exa Z h0 b "java/lang/StringBuilder") (Fv : Fld Z h0 b "java/lang/AbstractStringBuilder" "value" "[B" (.ref da)) (Fc : Fld Z h0 b "java/lang/AbstractStringBuilder" "coder" "B" (.int 0)) (V : Arv Z h0 da k .byte z vs (.int 0)) (hr : (z + (own_max (mc - z) (z + (2 : Int32)))) = r) (h1 : (0 : Int32) < r) (h2 : ¬ (2147483639 : Int32) < r) (h3 : ¬ r = 2147483647) :
    own_Met l Z (⟨"java/lang/AbstractStringBuilder", "newCapacity", "(I)I"⟩ : MethodName) jdk_68_method_10_code 6 (some .int) ws ({ frames := 2, cells := 0, slots := 0, locals := 29 } : Room) #[(.ref b), (.int mc)] h0 (own_QP h0 (some (.int r))) := by
  refine own_met rj_newcap_pn ?_
  intro pP eE sS mI bB mT cC s₁ hx hby hml hown hnm hret hlk hZ X0 e0
  replace hown : sS.vm.findClass "java/lang/AbstractStringBuilder" = some mI.cls := hown
  refine own_cast (rj_newcap_ef mI b mc) ?_
  refine own_go (T' := s₁) (g' := (mkF mI 1 #[.val (.ref b), .val (.int mc), .unset, .unset, .unset, .unset] [(.ref b)])) (fun t_ kt_ => XS.aloadN X0.here hx rfl (hb hby d18_0) rfl rfl kt_) ?_
  obtain ⟨To1, Xo1, eo1, sto1⟩ := getF X0 hx hZ hown (host := "") (Or.inl (hw _ (List.mem_of_getElem? (i := 22) rfl))) Via.refl e0 Fv (g := (mkF mI 1 #[.val (.ref b), .val (.int mc), .unset, .unset, .unset, .unset] [(.ref b)])) rfl rfl (hb hby d18_1)
  refine own_go (T' := To1) (g' := (mkF mI 4 #[.val (.ref b), .val (.int mc), .unset, .unset, .unset, .unset] [(.ref da)])) (fun t_ kt_ => sto1 _ kt_) ?_
  obtain ⟨clo2, Aro2, qo2, So2, Ngo2, Ho2, Go2⟩ := id V
  refine own_go (T' := To1) (g' := (mkF mI 5 #[.val (.ref b), .val (.int mc), .unset, .unset, .unset, .unset] [(.int z)])) (fun t_ kt_ => own_len Xo1 hx hZ eo1 Aro2 (len_of So2 Ngo2) (g := (mkF mI 4 #[.val (.ref b), .val (.int mc), .unset, .unset, .unset, .unset] [(.ref da)])) rfl rfl (hb hby d18_4) _ kt_) ?_
  refine own_go (T' := To1) (g' := (mkF mI 6 #[.val (.ref b), .val (.int mc), .val (.int z), .unset, .unset, .unset] [])) (fun t_ kt_ => XS.istoreN Xo1.here hx rfl (hb hby d18_5) rfl (l' := #[.val (.ref b), .val (.int mc), .val (.int z), .unset, .unset, .unset]) rfl kt_) ?_
  refine own_go (T' := To1) (g' := (mkF mI 7 #[.val (.ref b), .val (.int mc), .val (.int z), .unset, .unset, .unset] [(.int mc)])) (fun t_ kt_ => XS.iloadN Xo1.here hx rfl (hb hby d18_6) rfl kt_) ?_
  refine own_go (T' := To1) (g' := (mkF mI 8 #[.val (.ref b), .val (.int mc), .val (.int z), .unset, .unset, .unset] [(.ref b), (.int mc)])) (fun t_ kt_ => XS.aloadN Xo1.here hx rfl (hb hby d18_7) rfl rfl kt_) ?_
  obtain ⟨To3, Xo3, eo3, sto3⟩ := getF Xo1 hx hZ hown (host := "") (Or.inl (hw _ (List.mem_of_getElem? (i := 24) rfl))) Via.refl eo1 Fc (g := (mkF mI 8 #[.val (.ref b), .val (.int mc), .val (.int z), .unset, .unset, .unset] [(.ref b), (.int mc)])) rfl rfl (hb hby d18_8)
  refine own_go (T' := To3) (g' := (mkF mI 11 #[.val (.ref b), .val (.int mc), .val (.int z), .unset, .unset, .unset] [(.int (0 : Int32)), (.int mc)])) (fun t_ kt_ => sto3 _ kt_) ?_
  refine own_go (T' := To3) (g' := (mkF mI 12 #[.val (.ref b), .val (.int mc), .val (.int z), .unset, .unset, .unset] [(.int (mc <<< ((0 : Int32) &&& 31)))])) (fun t_ kt_ => XS.ishl Xo3.here hx rfl (hb hby d18_11) rfl kt_) ?_
  rw [own_shl0]
  refine own_go (T' := To3) (g' := (mkF mI 13 #[.val (.ref b), .val (.int mc), .val (.int z), .val (.int mc), .unset, .unset] [])) (fun t_ kt_ => XS.istoreN Xo3.here hx rfl (hb hby d18_12) rfl (l' := #[.val (.ref b), .val (.int mc), .val (.int z), .val (.int mc), .unset, .unset]) rfl kt_) ?_
  refine own_go (T' := To3) (g' := (mkF mI 14 #[.val (.ref b), .val (.int mc), .val (.int z), .val (.int mc), .unset, .unset] [(.int mc)])) (fun t_ kt_ => XS.iloadN Xo3.here hx rfl (hb hby d18_13) rfl kt_) ?_
  refine own_go (T' := To3) (g' := (mkF mI 15 #[.val (.ref b), .val (.int mc), .val (.int z), .val (.int mc), .unset, .unset] [(.int z), (.int mc)])) (fun t_ kt_ => XS.iloadN Xo3.here hx rfl (hb hby d18_14) rfl kt_) ?_
  refine own_go (T' := To3) (g' := (mkF mI 16 #[.val (.ref b), .val (.int mc), .val (.int z), .val (.int mc), .unset, .unset] [(.int (mc - z))])) (fun t_ kt_ => XS.isub Xo3.here hx rfl (hb hby d18_15) rfl kt_) ?_
  refine own_go (T' := To3) (g' := (mkF mI 18 #[.val (.ref b), .val (.int mc), .val (.int z), .val (.int mc), .val (.int (mc - z)), .unset] [])) (fun t_ kt_ => XS.istore Xo3.here hx rfl (hb hby d18_16) rfl (l' := #[.val (.ref b), .val (.int mc), .val (.int z), .val (.int mc), .val (.int (mc - z)), .unset]) rfl kt_) ?_
  refine own_go (T' := To3) (g' := (mkF mI 19 #[.val (.ref b), .val (.int mc), .val (.int z), .val (.int mc), .val (.int (mc - z)), .unset] [(.int z)])) (fun t_ kt_ => XS.iloadN Xo3.here hx rfl (hb hby d18_18) rfl kt_) ?_
  refine own_go (T' := To3) (g' := (mkF mI 21 #[.val (.ref b), .val (.int mc), .val (.int z), .val (.int mc), .val (.int (mc - z)), .unset] [(.int (mc - z)), (.int z)])) (fun t_ kt_ => XS.iload Xo3.here hx rfl (hb hby d18_19) rfl kt_) ?_
  refine own_go (T' := To3) (g' := (mkF mI 22 #[.val (.ref b), .val (.int mc), .val (.int z), .val (.int mc), .val (.int (mc - z)), .unset] [(.int z), (.int (mc - z)), (.int z)])) (fun t_ kt_ => XS.iloadN Xo3.here hx rfl (hb hby d18_21) rfl kt_) ?_
  refine own_go (T' := To3) (g' := (mkF mI 23 #[.val (.ref b), .val (.int mc), .val (.int z), .val (.int mc), .val (.int (mc - z)), .unset] [(.int (2 : Int32)), (.int z), (.int (mc - z)), (.int z)])) (fun t_ kt_ => XS.iconst Xo3.here hx rfl (hb hby d18_22) kt_) ?_
  refine own_go (T' := To3) (g' := (mkF mI 24 #[.val (.ref b), .val (.int mc), .val (.int z), .val (.int mc), .val (.int (mc - z)), .unset] [(.ref b), (.int (2 : Int32)), (.int z), (.int (mc - z)), (.int z)])) (fun t_ kt_ => XS.aloadN Xo3.here hx rfl (hb hby d18_23) rfl rfl kt_) ?_
  obtain ⟨To4, Xo4, eo4, sto4⟩ := getF Xo3 hx hZ hown (host := "") (Or.inl (hw _ (List.mem_of_getElem? (i := 24) rfl))) Via.refl eo3 Fc (g := (mkF mI 24 #[.val (.ref b), .val (.int mc), .val (.int z), .val (.int mc), .val (.int (mc - z)), .unset] [(.ref b), (.int (2 : Int32)), (.int z), (.int (mc - z)), (.int z)])) rfl rfl (hb hby d18_24)
  refine own_go (T' := To4) (g' := (mkF mI 27 #[.val (.ref b), .val (.int mc), .val (.int z), .val (.int mc), .val (.int (mc - z)), .unset] [(.int (0 : Int32)), (.int (2 : Int32)), (.int z), (.int (mc - z)), (.int z)])) (fun t_ kt_ => sto4 _ kt_) ?_
  refine own_go (T' := To4) (g' := (mkF mI 28 #[.val (.ref b), .val (.int mc), .val (.int z), .val (.int mc), .val (.int (mc - z)), .unset] [(.int ((2 : Int32) <<< ((0 : Int32) &&& 31))), (.int z), (.int (mc - z)), (.int z)])) (fun t_ kt_ => XS.ishl Xo4.here hx rfl (hb hby d18_27) rfl kt_) ?_
  rw [own_shl0]
  refine own_go (T' := To4) (g' := (mkF mI 29 #[.val (.ref b), .val (.int mc), .val (.int z), .val (.int mc), .val (.int (mc - z)), .unset] [(.int (z + (2 : Int32))), (.int (mc - z)), (.int z)])) (fun t_ kt_ => XS.iadd Xo4.here hx rfl (hb hby d18_28) rfl kt_) ?_
  refine own_callS own_closed Xo4 hx hZ (y := (⟨"jdk/internal/util/ArraysSupport", "newLength", "(III)I"⟩ : MethodName)) hown (hw _ (List.mem_of_getElem? (i := 114) rfl)) (hw _ (List.mem_of_getElem? (i := 115) rfl)) (by decide) (rj_newlen l Z a0 hw [] h0 z (mc - z) (z + (2 : Int32)) (by rw [hr]; exact h1) (by rw [hr]; exact h2)) (hw _ (List.mem_of_getElem? (i := 117) rfl)) (hw _ (List.mem_of_getElem? (i := 116) rfl)) eo4 (pc := 29) (Ls := #[.val (.ref b), .val (.int mc), .val (.int z), .val (.int mc), .val (.int (mc - z)), .unset]) (argsL := [(.int z), (.int (mc - z)), (.int (z + (2 : Int32)))]) (rest := []) (by rw [hml]; rfl) (lenOf pd_6 rfl) (W := 0) (Nat.le_of_eq rfl) (by decide) (by decide) (by decide) (by decide) (hb hby d18_29) rfl rfl ?_
  intro To5 Lo5 vo5 Xo5 hQo5
  obtain ⟨rfl, rfl, eo5⟩ := hQo5
  show own_Ends pP eE bB sS _ _ To5 (mkF mI 32 #[.val (.ref b), .val (.int mc), .val (.int z), .val (.int mc), .val (.int (mc - z)), .unset] [(.int (z + (own_max (mc - z) (z + (2 : Int32)))))])
  rw [hr]
  refine own_go (T' := To5) (g' := (mkF mI 34 #[.val (.ref b), .val (.int mc), .val (.int z), .val (.int mc), .val (.int (mc - z)), .val (.int r)] [])) (fun t_ kt_ => XS.istore Xo5.here hx rfl (hb hby d18_32) rfl (l' := #[.val (.ref b), .val (.int mc), .val (.int z), .val (.int mc), .val (.int (mc - z)), .val (.int r)]) rfl kt_) ?_
  refine own_go (T' := To5) (g' := (mkF mI 36 #[.val (.ref b), .val (.int mc), .val (.int z), .val (.int mc), .val (.int (mc - z)), .val (.int r)] [(.int r)])) (fun t_ kt_ => XS.iload Xo5.here hx rfl (hb hby d18_34) rfl kt_) ?_
  refine own_go (T' := To5) (g' := (mkF mI 38 #[.val (.ref b), .val (.int mc), .val (.int z), .val (.int mc), .val (.int (mc - z)), .val (.int r)] [(.int (2147483647 : Int32)), (.int r)])) (fun t_ kt_ => ldcI Xo5 hx hown (mvT hZ (hw _ (List.mem_of_getElem? (i := 123) rfl))) rfl (hb hby d18_36) kt_) ?_
  refine own_go (T' := To5) (g' := (mkF mI 51 #[.val (.ref b), .val (.int mc), .val (.int z), .val (.int mc), .val (.int (mc - z)), .val (.int r)] [])) (fun t_ kt_ => XS.icmpYes Xo5.here hx rfl (pc0 := 38) (pc' := 51) rfl (hb hby d18_38) rfl (feq (h3 : ¬ (r = (2147483647 : Int32)))).2 (by decide) (by decide) kt_) ?_
  refine own_go (T' := To5) (g' := (mkF mI 53 #[.val (.ref b), .val (.int mc), .val (.int z), .val (.int mc), .val (.int (mc - z)), .val (.int r)] [(.int r)])) (fun t_ kt_ => XS.iload Xo5.here hx rfl (hb hby d18_51) rfl kt_) ?_
  refine own_go (T' := To5) (g' := (mkF mI 54 #[.val (.ref b), .val (.int mc), .val (.int z), .val (.int mc), .val (.int (mc - z)), .val (.int r)] [(.ref b), (.int r)])) (fun t_ kt_ => XS.aloadN Xo5.here hx rfl (hb hby d18_53) rfl rfl kt_) ?_
  obtain ⟨To6, Xo6, eo6, sto6⟩ := getF Xo5 hx hZ hown (host := "") (Or.inl (hw _ (List.mem_of_getElem? (i := 24) rfl))) Via.refl eo5 Fc (g := (mkF mI 54 #[.val (.ref b), .val (.int mc), .val (.int z), .val (.int mc), .val (.int (mc - z)), .val (.int r)] [(.ref b), (.int r)])) rfl rfl (hb hby d18_54)
  refine own_go (T' := To6) (g' := (mkF mI 57 #[.val (.ref b), .val (.int mc), .val (.int z), .val (.int mc), .val (.int (mc - z)), .val (.int r)] [(.int (0 : Int32)), (.int r)])) (fun t_ kt_ => sto6 _ kt_) ?_
  refine own_go (T' := To6) (g' := (mkF mI 58 #[.val (.ref b), .val (.int mc), .val (.int z), .val (.int mc), .val (.int (mc - z)), .val (.int r)] [(.int (r >>> ((0 : Int32) &&& 31)))])) (fun t_ kt_ => XS.ishr Xo6.here hx rfl (hb hby d18_57) rfl kt_) ?_
  rw [own_shr0]
  refine own_retI Xo6 hx hlk hret (hb hby d18_58) (by decide) (by decide) ?_
  exact ⟨rfl, rfl, eo6⟩
def own_QF (Z : State) (h0 : Heap) (n0 : Nat) (r : Int32) (vs : List Value) (v : Option Value) (h : Heap) (L : List Loc) : Prop := ∃ (b : Addr) (k : ClassId), v = some (.ref b) ∧ Fr n0 L ∧ Keep h0 h [] ∧ h0.size ≤ b ∧ Arv Z h b k .byte r vs (.int 0) ∧ Exa Z h b "[B"
theorem d21_0 : decode jdk_65_method_121_code 0 = .ok (.iload_n 1, 1) := by decide +kernel
theorem d21_1 : decode jdk_65_method_121_code 1 = .ok (.aload_n 0, 1) := by decide +kernel
theorem d21_2 : decode jdk_65_method_121_code 2 = .ok (.arraylength, 1) := by decide +kernel
theorem d21_3 : decode jdk_65_method_121_code 3 = .ok (.if_icmp .ne 11, 3) := by decide +kernel
theorem d21_14 : decode jdk_65_method_121_code 14 = .ok (.iload_n 1, 1) := by decide +kernel
theorem d21_15 : decode jdk_65_method_121_code 15 = .ok (.newarray .byte, 2) := by decide +kernel
theorem d21_17 : decode jdk_65_method_121_code 17 = .ok (.astore_n 2, 1) := by decide +kernel
theorem d21_18 : decode jdk_65_method_121_code 18 = .ok (.aload_n 0, 1) := by decide +kernel
theorem d21_19 : decode jdk_65_method_121_code 19 = .ok (.iconst 0, 1) := by decide +kernel
theorem d21_20 : decode jdk_65_method_121_code 20 = .ok (.aload_n 2, 1) := by decide +kernel
theorem d21_21 : decode jdk_65_method_121_code 21 = .ok (.iconst 0, 1) := by decide +kernel
theorem d21_22 : decode jdk_65_method_121_code 22 = .ok (.aload_n 0, 1) := by decide +kernel
theorem d21_23 : decode jdk_65_method_121_code 23 = .ok (.arraylength, 1) := by decide +kernel
theorem d21_24 : decode jdk_65_method_121_code 24 = .ok (.iload_n 1, 1) := by decide +kernel
theorem d21_25 : decode jdk_65_method_121_code 25 = .ok (.invokestatic 304, 3) := by decide +kernel
theorem d21_28 : decode jdk_65_method_121_code 28 = .ok (.invokestatic 150, 3) := by decide +kernel
theorem d21_31 : decode jdk_65_method_121_code 31 = .ok (.aload_n 2, 1) := by decide +kernel
theorem d21_32 : decode jdk_65_method_121_code 32 = .ok (.areturn, 1) := by decide +kernel
theorem rj_copyOf_pn : plainFor (⟨"java/util/Arrays", "copyOf", "([BI)[B"⟩ : MethodName) = true := plainFor_of_name (show plainName "java/util/Arrays" = true by first | (simp [plainName, overriddenIn]; done) | decide +kernel)
theorem rj_copyOf_ef (mI : MethodId) (d : Addr) (r : Int32) : entryFrame mI #[(.ref d), (.int r)] 3 = mkF mI 0 #[.val (.ref d), .val (.int r), .unset] [] := by first | (simp [entryFrame, mkF, argsToLocals, Value.category]; done) | rfl
set_option maxRecDepth 65536 in
set_option maxHeartbeats 40000000 in
theorem rj_copyOf (l : Launch) (Z : State) (a0 : Array Value) (hw : ∀ d ∈ tables_1, d.before a0 Z = true) (ws : List Jvm.Cond) (h0 : Heap) (n0 : Nat) (Z0 : n0 ≤ h0.size) (d : Addr) (r : Int32) (k : ClassId) (z : Int32) (vs : List Value) (V : Arv Z h0 d k .byte z vs (.int 0)) (hvz : vs.length ≤ z.toNatClampNeg) (hz0 : ¬ z < 0) (hzr : z < r) (hr0 : ¬ r < 0) (hr1 : r.toNatClampNeg ≤ 300) (hne : ¬ r = z) :
    own_Met l Z (⟨"java/util/Arrays", "copyOf", "([BI)[B"⟩ : MethodName) jdk_65_method_121_code 3 (some (.array .byte)) ws ({ frames := 1, cells := 1, slots := 300, locals := 18 } : Room) #[(.ref d), (.int r)] h0 (own_QF Z h0 n0 r vs) := by
  refine own_met rj_copyOf_pn ?_
  intro pP eE sS mI bB mT cC s₁ hx hby hml hown hnm hret hlk hZ X0 e0
  replace hown : sS.vm.findClass "java/util/Arrays" = some mI.cls := hown
  refine own_cast (rj_copyOf_ef mI d r) ?_
  have hzr' : z.toNatClampNeg < r.toNatClampNeg := own_ltN (Int32.lt_iff_toInt_lt.mp hzr) hz0
  refine own_go (T' := s₁) (g' := (mkF mI 1 #[.val (.ref d), .val (.int r), .unset] [(.int r)])) (fun t_ kt_ => XS.iloadN X0.here hx rfl (hb hby d21_0) rfl kt_) ?_
  refine own_go (T' := s₁) (g' := (mkF mI 2 #[.val (.ref d), .val (.int r), .unset] [(.ref d), (.int r)])) (fun t_ kt_ => XS.aloadN X0.here hx rfl (hb hby d21_1) rfl rfl kt_) ?_
  obtain ⟨clp1, Arp1, qp1, Sp1, Ngp1, Hp1, Gp1⟩ := id V
  refine own_go (T' := s₁) (g' := (mkF mI 3 #[.val (.ref d), .val (.int r), .unset] [(.int z), (.int r)])) (fun t_ kt_ => own_len X0 hx hZ e0 Arp1 (len_of Sp1 Ngp1) (g := (mkF mI 2 #[.val (.ref d), .val (.int r), .unset] [(.ref d), (.int r)])) rfl rfl (hb hby d21_2) _ kt_) ?_
  refine own_go (T' := s₁) (g' := (mkF mI 14 #[.val (.ref d), .val (.int r), .unset] [])) (fun t_ kt_ => XS.icmpYes X0.here hx rfl (pc0 := 3) (pc' := 14) rfl (hb hby d21_3) rfl (feq (hne : ¬ (r = z))).2 (by decide) (by decide) kt_) ?_
  refine own_go (T' := s₁) (g' := (mkF mI 15 #[.val (.ref d), .val (.int r), .unset] [(.int r)])) (fun t_ kt_ => XS.iloadN X0.here hx rfl (hb hby d21_14) rfl kt_) ?_
  obtain ⟨Tp2, hp2, kp2, Xp2, ep2, Exp2, Ap2, Ecp2, stp2⟩ := newPE X0 hx hZ (hw _ (List.mem_of_getElem? (i := 21) rfl)) e0 (g := (mkF mI 15 #[.val (.ref d), .val (.int r), .unset] [(.int r)])) rfl (hb hby d21_15) rfl hr0 (cap := 300) hr1 (by decide) (by decide) (by decide) (ad := "[B") (by decide)
  obtain ⟨bp2, gp2⟩ : ∃ z, z = h0.size := ⟨_, rfl⟩
  rw [← gp2] at Ap2 Ecp2 stp2
  have ne_d_bp2 : d ≠ bp2 := Nat.ne_of_lt (Nat.lt_of_lt_of_le (V.lt) (Nat.le_of_eq gp2.symm))
  have g_bp2 : n0 ≤ bp2 := Nat.le_trans Z0 (Nat.le_of_eq gp2.symm)
  have sz_bp2 : h0.size ≤ bp2 := Nat.le_trans (Keep.refl h0 []).1 (Nat.le_of_eq gp2.symm)
  have Vp3 := Arv.ext V Exp2
  have Zp4 : n0 ≤ hp2.size := Nat.le_trans Z0 Exp2.1
  have Kp5 : Keep h0 hp2 [] := (Keep.refl h0 []).ext Exp2
  have Vp2 : Arv Z hp2 bp2 kp2 .byte r [] (.int (0 : Int32)) := Arv.new Ap2 hr0
  refine own_go (T' := Tp2) (g' := (mkF mI 17 #[.val (.ref d), .val (.int r), .unset] [(.ref bp2)])) (fun t_ kt_ => stp2 _ kt_) ?_
  refine own_go (T' := Tp2) (g' := (mkF mI 18 #[.val (.ref d), .val (.int r), .val (.ref bp2)] [])) (fun t_ kt_ => XS.astoreN Xp2.here hx rfl (hb hby d21_17) rfl rfl (l' := #[.val (.ref d), .val (.int r), .val (.ref bp2)]) rfl kt_) ?_
  refine own_go (T' := Tp2) (g' := (mkF mI 19 #[.val (.ref d), .val (.int r), .val (.ref bp2)] [(.ref d)])) (fun t_ kt_ => XS.aloadN Xp2.here hx rfl (hb hby d21_18) rfl rfl kt_) ?_
  refine own_go (T' := Tp2) (g' := (mkF mI 20 #[.val (.ref d), .val (.int r), .val (.ref bp2)] [(.int (0 : Int32)), (.ref d)])) (fun t_ kt_ => XS.iconst Xp2.here hx rfl (hb hby d21_19) kt_) ?_
  refine own_go (T' := Tp2) (g' := (mkF mI 21 #[.val (.ref d), .val (.int r), .val (.ref bp2)] [(.ref bp2), (.int (0 : Int32)), (.ref d)])) (fun t_ kt_ => XS.aloadN Xp2.here hx rfl (hb hby d21_20) rfl rfl kt_) ?_
  refine own_go (T' := Tp2) (g' := (mkF mI 22 #[.val (.ref d), .val (.int r), .val (.ref bp2)] [(.int (0 : Int32)), (.ref bp2), (.int (0 : Int32)), (.ref d)])) (fun t_ kt_ => XS.iconst Xp2.here hx rfl (hb hby d21_21) kt_) ?_
  refine own_go (T' := Tp2) (g' := (mkF mI 23 #[.val (.ref d), .val (.int r), .val (.ref bp2)] [(.ref d), (.int (0 : Int32)), (.ref bp2), (.int (0 : Int32)), (.ref d)])) (fun t_ kt_ => XS.aloadN Xp2.here hx rfl (hb hby d21_22) rfl rfl kt_) ?_
  obtain ⟨clp6, Arp6, qp6, Sp6, Ngp6, Hp6, Gp6⟩ := id Vp3
  refine own_go (T' := Tp2) (g' := (mkF mI 24 #[.val (.ref d), .val (.int r), .val (.ref bp2)] [(.int z), (.int (0 : Int32)), (.ref bp2), (.int (0 : Int32)), (.ref d)])) (fun t_ kt_ => own_len Xp2 hx hZ ep2 Arp6 (len_of Sp6 Ngp6) (g := (mkF mI 23 #[.val (.ref d), .val (.int r), .val (.ref bp2)] [(.ref d), (.int (0 : Int32)), (.ref bp2), (.int (0 : Int32)), (.ref d)])) rfl rfl (hb hby d21_23) _ kt_) ?_
  refine own_go (T' := Tp2) (g' := (mkF mI 25 #[.val (.ref d), .val (.int r), .val (.ref bp2)] [(.int r), (.int z), (.int (0 : Int32)), (.ref bp2), (.int (0 : Int32)), (.ref d)])) (fun t_ kt_ => XS.iloadN Xp2.here hx rfl (hb hby d21_24) rfl kt_) ?_
  refine own_callS own_closed Xp2 hx hZ (y := (⟨"java/lang/Math", "min", "(II)I"⟩ : MethodName)) hown (hw _ (List.mem_of_getElem? (i := 128) rfl)) (hw _ (List.mem_of_getElem? (i := 129) rfl)) (by decide) (rj_min l Z a0 hw [] hp2 z r) (hw _ (List.mem_of_getElem? (i := 130) rfl)) (hw _ (List.mem_of_getElem? (i := 120) rfl)) ep2 (pc := 25) (Ls := #[.val (.ref d), .val (.int r), .val (.ref bp2)]) (argsL := [(.int z), (.int r)]) (rest := [(.int (0 : Int32)), (.ref bp2), (.int (0 : Int32)), (.ref d)]) (by rw [hml]; rfl) (lenOf pd_5 rfl) (W := 4) (Nat.le_of_eq rfl) (by decide) (by decide) (by decide) (by decide) (hb hby d21_25) rfl rfl ?_
  intro Tp7 Lp7 vp7 Xp7 hQp7
  obtain ⟨qp7, rfl, ep7⟩ := hQp7
  rw [own_minL hzr] at qp7; subst qp7
  show own_Ends pP eE bB sS _ _ Tp7 (mkF mI 28 #[.val (.ref d), .val (.int r), .val (.ref bp2)] [(.int z), (.int (0 : Int32)), (.ref bp2), (.int (0 : Int32)), (.ref d)])
  have Vpp8 : Arv Z hp2 bp2 kp2 .byte r (List.replicate z.toNatClampNeg (.int 0)) (.int 0) := Arv.pad Vp2 (pad_rep [] _ _)
  obtain ⟨Tp10, hp10, Lp10, Xp10, ep10, Np10, Kcp10, Vcp10, stp10⟩ := cpA Xp7 hx hZ hown (hw _ (List.mem_of_getElem? (i := 131) rfl)) (hw _ (List.mem_of_getElem? (i := 81) rfl)) (hw _ (List.mem_of_getElem? (i := 79) rfl)) (hw _ (List.mem_of_getElem? (i := 80) rfl)) ep7 Vp3 Vpp8 (Or.inl ⟨rfl, rfl⟩) (by decide) (by decide) hz0 (by show 0 + _ ≤ _; omega) (by show 0 + _ ≤ _; omega) rfl (by rw [List.length_replicate]; show 0 + _ ≤ _; omega) (Fr.nil n0) g_bp2 (g := (mkF mI 28 #[.val (.ref d), .val (.int r), .val (.ref bp2)] [(.int z), (.int (0 : Int32)), (.ref bp2), (.int (0 : Int32)), (.ref d)])) rfl (by rw [hml]; rfl) rfl (hb hby d21_28) (by decide) (W := 0) (by show 2 * 0 + _ ≤ _; exact Nat.le_of_eq rfl) (by decide)
  have Vp10 : Arv Z hp10 bp2 kp2 .byte r vs (.int 0) := Arv.pad Vcp10 (own_copyList rfl rfl hvz)
  have Ep11 := Exa.keep Ecp2 Kcp10
  have Vp12 := Arv.keep Vp3 Kcp10 (ninS ne_d_bp2 nin0)
  have Zp13 : n0 ≤ hp10.size := Nat.le_trans Zp4 Kcp10.1
  have Kp14 : Keep h0 hp10 [] := Kp5.trans Kcp10 (allS (Or.inr sz_bp2) all0)
  refine own_go (T' := Tp10) (g' := (mkF mI 31 #[.val (.ref d), .val (.int r), .val (.ref bp2)] [])) (fun t_ kt_ => stp10 _ kt_) ?_
  refine own_go (T' := Tp10) (g' := (mkF mI 32 #[.val (.ref d), .val (.int r), .val (.ref bp2)] [(.ref bp2)])) (fun t_ kt_ => XS.aloadN Xp10.here hx rfl (hb hby d21_31) rfl rfl kt_) ?_
  refine own_retA Xp10 hx hlk hret rfl rfl (hb hby d21_32) (by decide) (by decide) ?_
  exact ⟨bp2, _, rfl, Np10, by rw [ep10]; exact Kp14, sz_bp2, by rw [ep10]; exact ⟨Vp10, Ep11⟩⟩
def own_QEC (Z : State) (h0 : Heap) (n0 : Nat) (b da : Addr) (z n mc : Int32) (vs : List Value) (v : Option Value) (h : Heap) (L : List Loc) : Prop := v = none ∧ Fr n0 L ∧ Keep h0 h [b] ∧ ∃ (da' : Addr) (k' : ClassId) (z' : Int32), own_SB Z h b da' k' z' n vs ∧ ((da' = da ∧ z' = z) ∨ h0.size ≤ da') ∧ z.toInt ≤ z'.toInt ∧ mc.toInt ≤ z'.toInt ∧ z'.toInt ≤ 300
theorem d9_0 : decode jdk_68_method_9_code 0 = .ok (.aload_n 0, 1) := by decide +kernel
theorem d9_1 : decode jdk_68_method_9_code 1 = .ok (.getfield 15, 3) := by decide +kernel
theorem d9_4 : decode jdk_68_method_9_code 4 = .ok (.arraylength, 1) := by decide +kernel
theorem d9_5 : decode jdk_68_method_9_code 5 = .ok (.aload_n 0, 1) := by decide +kernel
theorem d9_6 : decode jdk_68_method_9_code 6 = .ok (.getfield 22, 3) := by decide +kernel
theorem d9_9 : decode jdk_68_method_9_code 9 = .ok (.ishr, 1) := by decide +kernel
theorem d9_10 : decode jdk_68_method_9_code 10 = .ok (.istore_n 2, 1) := by decide +kernel
theorem d9_11 : decode jdk_68_method_9_code 11 = .ok (.iload_n 1, 1) := by decide +kernel
theorem d9_12 : decode jdk_68_method_9_code 12 = .ok (.iload_n 2, 1) := by decide +kernel
theorem d9_13 : decode jdk_68_method_9_code 13 = .ok (.isub, 1) := by decide +kernel
theorem d9_14 : decode jdk_68_method_9_code 14 = .ok (.ifCond .le 24, 3) := by decide +kernel
theorem d9_17 : decode jdk_68_method_9_code 17 = .ok (.aload_n 0, 1) := by decide +kernel
theorem d9_18 : decode jdk_68_method_9_code 18 = .ok (.aload_n 0, 1) := by decide +kernel
theorem d9_19 : decode jdk_68_method_9_code 19 = .ok (.getfield 15, 3) := by decide +kernel
theorem d9_22 : decode jdk_68_method_9_code 22 = .ok (.aload_n 0, 1) := by decide +kernel
theorem d9_23 : decode jdk_68_method_9_code 23 = .ok (.iload_n 1, 1) := by decide +kernel
theorem d9_24 : decode jdk_68_method_9_code 24 = .ok (.invokevirtual 104, 3) := by decide +kernel
theorem d9_27 : decode jdk_68_method_9_code 27 = .ok (.aload_n 0, 1) := by decide +kernel
theorem d9_28 : decode jdk_68_method_9_code 28 = .ok (.getfield 22, 3) := by decide +kernel
theorem d9_31 : decode jdk_68_method_9_code 31 = .ok (.ishl, 1) := by decide +kernel
theorem d9_32 : decode jdk_68_method_9_code 32 = .ok (.invokestatic 108, 3) := by decide +kernel
theorem d9_35 : decode jdk_68_method_9_code 35 = .ok (.putfield 15, 3) := by decide +kernel
theorem d9_38 : decode jdk_68_method_9_code 38 = .ok (.return_, 1) := by decide +kernel
theorem rj_ensure_pn : plainFor (⟨"java/lang/AbstractStringBuilder", "ensureCapacityInternal", "(I)V"⟩ : MethodName) = true := plainFor_of_name (show plainName "java/lang/AbstractStringBuilder" = true by first | (simp [plainName, overriddenIn]; done) | decide +kernel)
theorem rj_ensure_ef (mI : MethodId) (b : Addr) (mc : Int32) : entryFrame mI #[(.ref b), (.int mc)] 3 = mkF mI 0 #[.val (.ref b), .val (.int mc), .unset] [] := by first | (simp [entryFrame, mkF, argsToLocals, Value.category]; done) | rfl
set_option maxRecDepth 65536 in
set_option maxHeartbeats 40000000 in
theorem rj_ensure (l : Launch) (Z : State) (a0 : Array Value) (hw : ∀ d ∈ tables_1, d.before a0 Z = true) (ws : List Jvm.Cond) (h0 : Heap) (n0 : Nat) (Z0 : n0 ≤ h0.size) (b : Addr) (mc : Int32) (da : Addr) (k : ClassId) (z n : Int32) (vs : List Value) (Eb : Exa Z h0 b "java/lang/StringBuilder") (Fv : Fld Z h0 b "java/lang/AbstractStringBuilder" "value" "[B" (.ref da)) (Fc : Fld Z h0 b "java/lang/AbstractStringBuilder" "coder" "B" (.int 0)) (Fn : Fld Z h0 b "java/lang/AbstractStringBuilder" "count" "I" (.int n)) (V : Arv Z h0 da k .byte z vs (.int 0)) (Ed : Exa Z h0 da "[B") (g_b : n0 ≤ b) (hvz : vs.length ≤ z.toNatClampNeg) (hz0 : ¬ z < 0) (hzi : 0 ≤ z.toInt) (hz3 : z.toInt ≤ 300) (hmc : 0 ≤ mc.toInt) (hmc2 : mc.toInt ≤ 140) :
    own_Met l Z (⟨"java/lang/AbstractStringBuilder", "ensureCapacityInternal", "(I)V"⟩ : MethodName) jdk_68_method_9_code 3 none ws ({ frames := 3, cells := 1, slots := 300, locals := 48 } : Room) #[(.ref b), (.int mc)] h0 (own_QEC Z h0 n0 b da z n mc vs) := by
  refine own_met rj_ensure_pn ?_
  intro pP eE sS mI bB mT cC s₁ hx hby hml hown hnm hret hlk hZ X0 e0
  replace hown : sS.vm.findClass "java/lang/AbstractStringBuilder" = some mI.cls := hown
  refine own_cast (rj_ensure_ef mI b mc) ?_
  refine own_go (T' := s₁) (g' := (mkF mI 1 #[.val (.ref b), .val (.int mc), .unset] [(.ref b)])) (fun t_ kt_ => XS.aloadN X0.here hx rfl (hb hby d9_0) rfl rfl kt_) ?_
  obtain ⟨Tq1, Xq1, eq1, stq1⟩ := getF X0 hx hZ hown (host := "") (Or.inl (hw _ (List.mem_of_getElem? (i := 22) rfl))) Via.refl e0 Fv (g := (mkF mI 1 #[.val (.ref b), .val (.int mc), .unset] [(.ref b)])) rfl rfl (hb hby d9_1)
  refine own_go (T' := Tq1) (g' := (mkF mI 4 #[.val (.ref b), .val (.int mc), .unset] [(.ref da)])) (fun t_ kt_ => stq1 _ kt_) ?_
  obtain ⟨clq2, Arq2, qq2, Sq2, Ngq2, Hq2, Gq2⟩ := id V
  refine own_go (T' := Tq1) (g' := (mkF mI 5 #[.val (.ref b), .val (.int mc), .unset] [(.int z)])) (fun t_ kt_ => own_len Xq1 hx hZ eq1 Arq2 (len_of Sq2 Ngq2) (g := (mkF mI 4 #[.val (.ref b), .val (.int mc), .unset] [(.ref da)])) rfl rfl (hb hby d9_4) _ kt_) ?_
  refine own_go (T' := Tq1) (g' := (mkF mI 6 #[.val (.ref b), .val (.int mc), .unset] [(.ref b), (.int z)])) (fun t_ kt_ => XS.aloadN Xq1.here hx rfl (hb hby d9_5) rfl rfl kt_) ?_
  obtain ⟨Tq3, Xq3, eq3, stq3⟩ := getF Xq1 hx hZ hown (host := "") (Or.inl (hw _ (List.mem_of_getElem? (i := 24) rfl))) Via.refl eq1 Fc (g := (mkF mI 6 #[.val (.ref b), .val (.int mc), .unset] [(.ref b), (.int z)])) rfl rfl (hb hby d9_6)
  refine own_go (T' := Tq3) (g' := (mkF mI 9 #[.val (.ref b), .val (.int mc), .unset] [(.int (0 : Int32)), (.int z)])) (fun t_ kt_ => stq3 _ kt_) ?_
  refine own_go (T' := Tq3) (g' := (mkF mI 10 #[.val (.ref b), .val (.int mc), .unset] [(.int (z >>> ((0 : Int32) &&& 31)))])) (fun t_ kt_ => XS.ishr Xq3.here hx rfl (hb hby d9_9) rfl kt_) ?_
  rw [own_shr0]
  refine own_go (T' := Tq3) (g' := (mkF mI 11 #[.val (.ref b), .val (.int mc), .val (.int z)] [])) (fun t_ kt_ => XS.istoreN Xq3.here hx rfl (hb hby d9_10) rfl (l' := #[.val (.ref b), .val (.int mc), .val (.int z)]) rfl kt_) ?_
  refine own_go (T' := Tq3) (g' := (mkF mI 12 #[.val (.ref b), .val (.int mc), .val (.int z)] [(.int mc)])) (fun t_ kt_ => XS.iloadN Xq3.here hx rfl (hb hby d9_11) rfl kt_) ?_
  refine own_go (T' := Tq3) (g' := (mkF mI 13 #[.val (.ref b), .val (.int mc), .val (.int z)] [(.int z), (.int mc)])) (fun t_ kt_ => XS.iloadN Xq3.here hx rfl (hb hby d9_12) rfl kt_) ?_
  refine own_go (T' := Tq3) (g' := (mkF mI 14 #[.val (.ref b), .val (.int mc), .val (.int z)] [(.int (mc - z))])) (fun t_ kt_ => XS.isub Xq3.here hx rfl (hb hby d9_13) rfl kt_) ?_
  by_cases hc14_q4 : (0 : Int32) < (mc - z)
  · skip
    refine own_go (T' := Tq3) (g' := (mkF mI 17 #[.val (.ref b), .val (.int mc), .val (.int z)] [])) (fun t_ kt_ => XS.ifNo Xq3.here hx rfl (hb hby d9_14) rfl ((if0 _ _).trans (tlt hc14_q4).2.2.2) kt_) ?_
    have hlt : z.toInt < mc.toInt := by
      have c0 : (0 : Int32).toInt = 0 := by decide
      have e1 : (mc - z).toInt = mc.toInt - z.toInt := by rw [Int32.toInt_sub]; exact Int.bmod_eq_of_le (by omega) (by omega)
      have q := hc14_q4
      rw [Int32.lt_iff_toInt_lt, e1] at q
      omega
    obtain ⟨r, hr'⟩ : ∃ r, r = (z + (own_max (mc - z) (z + (2 : Int32)))) := ⟨_, rfl⟩
    have hr := hr'.symm
    have bR := own_capB z mc hzi hlt hmc2
    rw [← hr'] at bR
    have h1 : (0 : Int32) < r := own_lt (by rw [show (0 : Int32).toInt = 0 from by decide]; omega)
    have h2 : ¬ (2147483639 : Int32) < r := own_nlt (by rw [show (2147483639 : Int32).toInt = 2147483639 from by decide]; omega)
    have h3 : ¬ r = 2147483647 := own_neI (by rw [show (2147483647 : Int32).toInt = 2147483647 from by decide]; omega)
    have hzr : z < r := own_lt bR.1
    have hr0 : ¬ r < 0 := own_nn (by omega)
    have hr1 : r.toNatClampNeg ≤ 300 := own_clamp (by omega)
    have hne : ¬ r = z := fun q => by rw [q] at bR; omega
    refine own_go (T' := Tq3) (g' := (mkF mI 18 #[.val (.ref b), .val (.int mc), .val (.int z)] [(.ref b)])) (fun t_ kt_ => XS.aloadN Xq3.here hx rfl (hb hby d9_17) rfl rfl kt_) ?_
    refine own_go (T' := Tq3) (g' := (mkF mI 19 #[.val (.ref b), .val (.int mc), .val (.int z)] [(.ref b), (.ref b)])) (fun t_ kt_ => XS.aloadN Xq3.here hx rfl (hb hby d9_18) rfl rfl kt_) ?_
    obtain ⟨Tq5, Xq5, eq5, stq5⟩ := getF Xq3 hx hZ hown (host := "") (Or.inl (hw _ (List.mem_of_getElem? (i := 22) rfl))) Via.refl eq3 Fv (g := (mkF mI 19 #[.val (.ref b), .val (.int mc), .val (.int z)] [(.ref b), (.ref b)])) rfl rfl (hb hby d9_19)
    refine own_go (T' := Tq5) (g' := (mkF mI 22 #[.val (.ref b), .val (.int mc), .val (.int z)] [(.ref da), (.ref b)])) (fun t_ kt_ => stq5 _ kt_) ?_
    refine own_go (T' := Tq5) (g' := (mkF mI 23 #[.val (.ref b), .val (.int mc), .val (.int z)] [(.ref b), (.ref da), (.ref b)])) (fun t_ kt_ => XS.aloadN Xq5.here hx rfl (hb hby d9_22) rfl rfl kt_) ?_
    refine own_go (T' := Tq5) (g' := (mkF mI 24 #[.val (.ref b), .val (.int mc), .val (.int z)] [(.int mc), (.ref b), (.ref da), (.ref b)])) (fun t_ kt_ => XS.iloadN Xq5.here hx rfl (hb hby d9_23) rfl kt_) ?_
    refine own_callV own_closed Xq5 hx hZ (y := (⟨"java/lang/AbstractStringBuilder", "newCapacity", "(I)I"⟩ : MethodName)) (z := (⟨"java/lang/AbstractStringBuilder", "newCapacity", "(I)I"⟩ : MethodName)) hown (hw _ (List.mem_of_getElem? (i := 109) rfl)) (own_decl (hw _ (List.mem_of_getElem? (i := 110) rfl)) (hw _ (List.mem_of_getElem? (i := 113) rfl))) (hw _ (List.mem_of_getElem? (i := 112) rfl)) (hw _ (List.mem_of_getElem? (i := 110) rfl)) (hw _ (List.mem_of_getElem? (i := 112) rfl)) rfl (by decide) (rj_newcap l Z a0 hw [] h0 b mc da _ z r _ Eb Fv Fc V hr h1 h2 h3) (hw _ (List.mem_of_getElem? (i := 113) rfl)) (hw _ (List.mem_of_getElem? (i := 14) rfl)) eq5 Eb (pc := 24) (Ls := #[.val (.ref b), .val (.int mc), .val (.int z)]) (argsL := [(.int mc)]) (rest := [(.ref da), (.ref b)]) (by rw [hml]; rfl) (lenOf pd_7 rfl) (W := 2) (Nat.le_of_eq rfl) (by decide) (by decide) (by decide) (by decide) (hb hby d9_24) rfl rfl ?_
    intro Tq6 Lq6 vq6 Xq6 hQq6
    obtain ⟨rfl, rfl, eq6⟩ := hQq6
    show own_Ends pP eE bB sS _ _ Tq6 (mkF mI 27 #[.val (.ref b), .val (.int mc), .val (.int z)] [(.int r), (.ref da), (.ref b)])
    refine own_go (T' := Tq6) (g' := (mkF mI 28 #[.val (.ref b), .val (.int mc), .val (.int z)] [(.ref b), (.int r), (.ref da), (.ref b)])) (fun t_ kt_ => XS.aloadN Xq6.here hx rfl (hb hby d9_27) rfl rfl kt_) ?_
    obtain ⟨Tq7, Xq7, eq7, stq7⟩ := getF Xq6 hx hZ hown (host := "") (Or.inl (hw _ (List.mem_of_getElem? (i := 24) rfl))) Via.refl eq6 Fc (g := (mkF mI 28 #[.val (.ref b), .val (.int mc), .val (.int z)] [(.ref b), (.int r), (.ref da), (.ref b)])) rfl rfl (hb hby d9_28)
    refine own_go (T' := Tq7) (g' := (mkF mI 31 #[.val (.ref b), .val (.int mc), .val (.int z)] [(.int (0 : Int32)), (.int r), (.ref da), (.ref b)])) (fun t_ kt_ => stq7 _ kt_) ?_
    refine own_go (T' := Tq7) (g' := (mkF mI 32 #[.val (.ref b), .val (.int mc), .val (.int z)] [(.int (r <<< ((0 : Int32) &&& 31))), (.ref da), (.ref b)])) (fun t_ kt_ => XS.ishl Xq7.here hx rfl (hb hby d9_31) rfl kt_) ?_
    rw [own_shl0]
    refine own_callS own_closed Xq7 hx hZ (y := (⟨"java/util/Arrays", "copyOf", "([BI)[B"⟩ : MethodName)) hown (hw _ (List.mem_of_getElem? (i := 124) rfl)) (hw _ (List.mem_of_getElem? (i := 125) rfl)) (by decide) (rj_copyOf l Z a0 hw [] h0 n0 Z0 da r _ z _ V hvz hz0 hzr hr0 hr1 hne) (hw _ (List.mem_of_getElem? (i := 127) rfl)) (hw _ (List.mem_of_getElem? (i := 126) rfl)) eq7 (pc := 32) (Ls := #[.val (.ref b), .val (.int mc), .val (.int z)]) (argsL := [(.ref da), (.int r)]) (rest := [(.ref b)]) (by rw [hml]; rfl) (lenOf pd_8 rfl) (W := 1) (Nat.le_of_eq rfl) (by decide) (by decide) (by decide) (by decide) (hb hby d9_32) rfl rfl ?_
    intro Tq8 Lq8 vq8 Xq8 hQq8
    obtain ⟨bq8, kq8, rfl, Nq8, Kq8, hzq8, Vq8, Edq8⟩ := hQq8
    have ne_b_bq8 : b ≠ bq8 := Nat.ne_of_lt (Nat.lt_of_lt_of_le Eb.lt hzq8)
    have ne_da_bq8 : da ≠ bq8 := Nat.ne_of_lt (Nat.lt_of_lt_of_le V.lt hzq8)
    have Fq9 := Fld.keep Fv Kq8 nin0
    have Fq10 := Fld.keep Fc Kq8 nin0
    have Fq11 := Fld.keep Fn Kq8 nin0
    have Eq12 := Exa.keep Eb Kq8
    have Eq13 := Exa.keep Ed Kq8
    have Vq14 := Arv.keep V Kq8 nin0
    have Zq15 : n0 ≤ Tq8.heap.size := Nat.le_trans Z0 Kq8.1
    have Kq16 : Keep h0 Tq8.heap [b] := (Keep.refl h0 [b]).trans Kq8 all0
    have Nq8a := Fr.app (Fr.nil n0) Nq8
    show own_Ends pP eE bB sS _ _ Tq8 (mkF mI 35 #[.val (.ref b), .val (.int mc), .val (.int z)] [(.ref bq8), (.ref b)])
    obtain ⟨Tq17, hq17, Xq17, eq17, Wq17, stq17⟩ := putF Xq8 hx hZ hown (host := "") (Or.inl (hw _ (List.mem_of_getElem? (i := 22) rfl))) Via.refl rfl Fq9 Eq12 (Or.inl (hw _ (List.mem_of_getElem? (i := 23) rfl))) (hw _ (List.mem_of_getElem? (i := 5) rfl)) (ty := (.array .byte)) (by decide) rfl rfl (g := (mkF mI 35 #[.val (.ref b), .val (.int mc), .val (.int z)] [(.ref bq8), (.ref b)])) rfl rfl (hb hby d9_35)
    have Fwq17 : Fld Z hq17 b "java/lang/AbstractStringBuilder" "value" "[B" (.ref bq8) := Fld.same Wq17 Fq9
    have Fq18 := Fld.other Wq17 Fq10 (Or.inr (slot_ne (Or.inl (hw _ (List.mem_of_getElem? (i := 25) rfl))) (Or.inl (hw _ (List.mem_of_getElem? (i := 23) rfl))) (by decide) (t := .byte) (t' := (.array .byte)) (by decide) (by decide)))
    have Fq19 := Fld.other Wq17 Fq11 (Or.inr (slot_ne (Or.inl (hw _ (List.mem_of_getElem? (i := 56) rfl))) (Or.inl (hw _ (List.mem_of_getElem? (i := 23) rfl))) (by decide) (t := .int) (t' := (.array .byte)) (by decide) (by decide)))
    have Eq20 := Exa.wr Wq17 Eq12
    have Eq21 := Exa.wr Wq17 Eq13
    have Eq22 := Exa.wr Wq17 Edq8
    have Vq23 := Arv.other Vq14 Wq17 (Ne.symm (Exa.neArv Eb V (hw _ (List.mem_of_getElem? (i := 5) rfl))))
    have Vq24 := Arv.other Vq8 Wq17 (Ne.symm ne_b_bq8)
    have Zq25 : n0 ≤ hq17.size := Nat.le_trans Zq15 (Nat.le_of_eq (Wr.size Wq17).symm)
    have Kq26 : Keep h0 hq17 [b] := Kq16.wr Wq17 (Or.inl (List.mem_of_getElem? (i := 0) rfl))
    have Nq17 := Fr.snoc Xq17 Nq8a g_b
    refine own_go (T' := Tq17) (g' := (mkF mI 38 #[.val (.ref b), .val (.int mc), .val (.int z)] [])) (fun t_ kt_ => stq17 _ kt_) ?_
    refine own_retV Xq17 hx hlk hret (hb hby d9_38) (by decide) (by decide) ?_
    exact by rw [eq17]; exact ⟨rfl, Nq17, Kq26, bq8, _, r, ⟨Eq20, Fwq17, Fq18, Fq19, Vq24, Eq22⟩, Or.inr hzq8, by omega, bR.2.1, bR.2.2⟩
  · skip
    refine own_go (T' := Tq3) (g' := (mkF mI 38 #[.val (.ref b), .val (.int mc), .val (.int z)] [])) (fun t_ kt_ => XS.ifYes Xq3.here hx rfl (pc0 := 14) (pc' := 38) rfl (hb hby d9_14) rfl ((if0 _ _).trans (flt hc14_q4).2.2.2) (by decide) (by decide) kt_) ?_
    refine own_retV Xq3 hx hlk hret (hb hby d9_38) (by decide) (by decide) ?_
    exact by
      have c0 : (0 : Int32).toInt = 0 := by decide
      have e1 : (mc - z).toInt = mc.toInt - z.toInt := by rw [Int32.toInt_sub]; exact Int.bmod_eq_of_le (by omega) (by omega)
      have q := hc14_q4
      rw [Int32.lt_iff_toInt_lt, e1] at q
      rw [eq3]; exact ⟨rfl, (Fr.nil n0), (Keep.refl h0 [b]), da, _, z, ⟨Eb, Fv, Fc, Fn, V, Ed⟩, Or.inl ⟨rfl, rfl⟩, by omega, by omega, by omega⟩
def own_QGB (Z : State) (h0 : Heap) (n0 : Nat) (da : Addr) (k : ClassId) (z : Int32) (vs : List Value) (v : Option Value) (h : Heap) (L : List Loc) : Prop := v = none ∧ Fr n0 L ∧ Keep h0 h [da] ∧ Arv Z h da k .byte z vs (.int 0)
theorem d12_0 : decode jdk_42_method_147_code 0 = .ok (.aload_n 0, 1) := by decide +kernel
theorem d12_1 : decode jdk_42_method_147_code 1 = .ok (.invokevirtual 335, 3) := by decide +kernel
theorem d12_4 : decode jdk_42_method_147_code 4 = .ok (.iload_n 3, 1) := by decide +kernel
theorem d12_5 : decode jdk_42_method_147_code 5 = .ok (.if_icmp .ne 23, 3) := by decide +kernel
theorem d12_8 : decode jdk_42_method_147_code 8 = .ok (.aload_n 0, 1) := by decide +kernel
theorem d12_9 : decode jdk_42_method_147_code 9 = .ok (.getfield 9, 3) := by decide +kernel
theorem d12_12 : decode jdk_42_method_147_code 12 = .ok (.iconst 0, 1) := by decide +kernel
theorem d12_13 : decode jdk_42_method_147_code 13 = .ok (.aload_n 1, 1) := by decide +kernel
theorem d12_14 : decode jdk_42_method_147_code 14 = .ok (.iload_n 2, 1) := by decide +kernel
theorem d12_15 : decode jdk_42_method_147_code 15 = .ok (.iload_n 3, 1) := by decide +kernel
theorem d12_16 : decode jdk_42_method_147_code 16 = .ok (.ishl, 1) := by decide +kernel
theorem d12_17 : decode jdk_42_method_147_code 17 = .ok (.aload_n 0, 1) := by decide +kernel
theorem d12_18 : decode jdk_42_method_147_code 18 = .ok (.getfield 9, 3) := by decide +kernel
theorem d12_21 : decode jdk_42_method_147_code 21 = .ok (.arraylength, 1) := by decide +kernel
theorem d12_22 : decode jdk_42_method_147_code 22 = .ok (.invokestatic 212, 3) := by decide +kernel
theorem d12_25 : decode jdk_42_method_147_code 25 = .ok (.goto 18, 3) := by decide +kernel
theorem d12_43 : decode jdk_42_method_147_code 43 = .ok (.return_, 1) := by decide +kernel
theorem rj_getBytes_pn : plainFor (⟨"java/lang/String", "getBytes", "([BIB)V"⟩ : MethodName) = true := plainFor_of_name (show plainName "java/lang/String" = true by first | (simp [plainName, overriddenIn]; done) | decide +kernel)
theorem rj_getBytes_ef (mI : MethodId) (a : Addr) (da : Addr) (p : Int32) : entryFrame mI #[(.ref a), (.ref da), (.int p), (.int (0 : Int32))] 4 = mkF mI 0 #[.val (.ref a), .val (.ref da), .val (.int p), .val (.int (0 : Int32))] [] := by first | (simp [entryFrame, mkF, argsToLocals, Value.category]; done) | rfl
set_option maxRecDepth 65536 in
set_option maxHeartbeats 40000000 in
theorem rj_getBytes (l : Launch) (Z : State) (a0 : Array Value) (hw : ∀ d ∈ tables_1, d.before a0 Z = true) (ws : List Jvm.Cond) (h0 : Heap) (n0 : Nat) (O : Old Z n0 h0) (cs : Int32) (Scs : Sta Z Z.heap "java/lang/String" "COMPACT_STRINGS" "Z" (.int cs)) (hcs : ¬ cs = 0) (a da : Addr) (p : Int32) (d : Addr) (k ks : ClassId) (z zs : Int32) (vs us : List Value) (S : own_St Z h0 a d ks zs us) (V : Arv Z h0 da k .byte z vs (.int 0)) (g_da : n0 ≤ da) (ne_a_da : a ≠ da) (ne_d_da : d ≠ da) (h_dp : ¬ p < 0) (hs0 : ¬ zs < 0) (hpv : vs.length = p.toNatClampNeg) (hsu : us.length = zs.toNatClampNeg) (hfit : p.toNatClampNeg + zs.toNatClampNeg ≤ z.toNatClampNeg) :
    own_Met l Z (⟨"java/lang/String", "getBytes", "([BIB)V"⟩ : MethodName) jdk_42_method_147_code 4 none ws ({ frames := 1, cells := 0, slots := 0, locals := 18 } : Room) #[(.ref a), (.ref da), (.int p), (.int (0 : Int32))] h0 (own_QGB Z h0 n0 da k z (vs ++ us)) := by
  refine own_met rj_getBytes_pn ?_
  intro pP eE sS mI bB mT cC s₁ hx hby hml hown hnm hret hlk hZ X0 e0
  replace hown : sS.vm.findClass "java/lang/String" = some mI.cls := hown
  refine own_cast (rj_getBytes_ef mI a da p) ?_
  refine own_go (T' := s₁) (g' := (mkF mI 1 #[.val (.ref a), .val (.ref da), .val (.int p), .val (.int (0 : Int32))] [(.ref a)])) (fun t_ kt_ => XS.aloadN X0.here hx rfl (hb hby d12_0) rfl rfl kt_) ?_
  refine own_callV own_closed X0 hx hZ (y := (⟨"java/lang/String", "coder", "()B"⟩ : MethodName)) (z := (⟨"java/lang/String", "coder", "()B"⟩ : MethodName)) hown (hw _ (List.mem_of_getElem? (i := 48) rfl)) (hw _ (List.mem_of_getElem? (i := 49) rfl)) (hw _ (List.mem_of_getElem? (i := 51) rfl)) (hw _ (List.mem_of_getElem? (i := 50) rfl)) (hw _ (List.mem_of_getElem? (i := 51) rfl)) rfl (by decide) (rj_coder l Z a0 hw [] h0 n0 O cs Scs hcs a S.2.1) (hw _ (List.mem_of_getElem? (i := 52) rfl)) (hw _ (List.mem_of_getElem? (i := 20) rfl)) e0 S.1 (pc := 1) (Ls := #[.val (.ref a), .val (.ref da), .val (.int p), .val (.int (0 : Int32))]) (argsL := []) (rest := []) (by rw [hml]; rfl) (lenOf pd_0 rfl) (W := 0) (Nat.le_of_eq rfl) (by decide) (by decide) (by decide) (by decide) (hb hby d12_1) rfl rfl ?_
  intro Tr1 Lr1 vr1 Xr1 hQr1
  obtain ⟨rfl, rfl, er1⟩ := hQr1
  show own_Ends pP eE bB sS _ _ Tr1 (mkF mI 4 #[.val (.ref a), .val (.ref da), .val (.int p), .val (.int (0 : Int32))] [(.int (0 : Int32))])
  refine own_go (T' := Tr1) (g' := (mkF mI 5 #[.val (.ref a), .val (.ref da), .val (.int p), .val (.int (0 : Int32))] [(.int (0 : Int32)), (.int (0 : Int32))])) (fun t_ kt_ => XS.iloadN Xr1.here hx rfl (hb hby d12_4) rfl kt_) ?_
  refine own_go (T' := Tr1) (g' := (mkF mI 8 #[.val (.ref a), .val (.ref da), .val (.int p), .val (.int (0 : Int32))] [])) (fun t_ kt_ => XS.icmpNo Xr1.here hx rfl (hb hby d12_5) rfl (teq (by decide : (0 : Int32) = (0 : Int32))).2 kt_) ?_
  refine own_go (T' := Tr1) (g' := (mkF mI 9 #[.val (.ref a), .val (.ref da), .val (.int p), .val (.int (0 : Int32))] [(.ref a)])) (fun t_ kt_ => XS.aloadN Xr1.here hx rfl (hb hby d12_8) rfl rfl kt_) ?_
  obtain ⟨Tr2, Xr2, er2, str2⟩ := getF Xr1 hx hZ hown (host := "") (Or.inl (hw _ (List.mem_of_getElem? (i := 47) rfl))) Via.refl er1 S.2.2.1 (g := (mkF mI 9 #[.val (.ref a), .val (.ref da), .val (.int p), .val (.int (0 : Int32))] [(.ref a)])) rfl rfl (hb hby d12_9)
  refine own_go (T' := Tr2) (g' := (mkF mI 12 #[.val (.ref a), .val (.ref da), .val (.int p), .val (.int (0 : Int32))] [(.ref d)])) (fun t_ kt_ => str2 _ kt_) ?_
  refine own_go (T' := Tr2) (g' := (mkF mI 13 #[.val (.ref a), .val (.ref da), .val (.int p), .val (.int (0 : Int32))] [(.int (0 : Int32)), (.ref d)])) (fun t_ kt_ => XS.iconst Xr2.here hx rfl (hb hby d12_12) kt_) ?_
  refine own_go (T' := Tr2) (g' := (mkF mI 14 #[.val (.ref a), .val (.ref da), .val (.int p), .val (.int (0 : Int32))] [(.ref da), (.int (0 : Int32)), (.ref d)])) (fun t_ kt_ => XS.aloadN Xr2.here hx rfl (hb hby d12_13) rfl rfl kt_) ?_
  refine own_go (T' := Tr2) (g' := (mkF mI 15 #[.val (.ref a), .val (.ref da), .val (.int p), .val (.int (0 : Int32))] [(.int p), (.ref da), (.int (0 : Int32)), (.ref d)])) (fun t_ kt_ => XS.iloadN Xr2.here hx rfl (hb hby d12_14) rfl kt_) ?_
  refine own_go (T' := Tr2) (g' := (mkF mI 16 #[.val (.ref a), .val (.ref da), .val (.int p), .val (.int (0 : Int32))] [(.int (0 : Int32)), (.int p), (.ref da), (.int (0 : Int32)), (.ref d)])) (fun t_ kt_ => XS.iloadN Xr2.here hx rfl (hb hby d12_15) rfl kt_) ?_
  refine own_go (T' := Tr2) (g' := (mkF mI 17 #[.val (.ref a), .val (.ref da), .val (.int p), .val (.int (0 : Int32))] [(.int (p <<< ((0 : Int32) &&& 31))), (.ref da), (.int (0 : Int32)), (.ref d)])) (fun t_ kt_ => XS.ishl Xr2.here hx rfl (hb hby d12_16) rfl kt_) ?_
  rw [own_shl0]
  refine own_go (T' := Tr2) (g' := (mkF mI 18 #[.val (.ref a), .val (.ref da), .val (.int p), .val (.int (0 : Int32))] [(.ref a), (.int p), (.ref da), (.int (0 : Int32)), (.ref d)])) (fun t_ kt_ => XS.aloadN Xr2.here hx rfl (hb hby d12_17) rfl rfl kt_) ?_
  obtain ⟨Tr3, Xr3, er3, str3⟩ := getF Xr2 hx hZ hown (host := "") (Or.inl (hw _ (List.mem_of_getElem? (i := 47) rfl))) Via.refl er2 S.2.2.1 (g := (mkF mI 18 #[.val (.ref a), .val (.ref da), .val (.int p), .val (.int (0 : Int32))] [(.ref a), (.int p), (.ref da), (.int (0 : Int32)), (.ref d)])) rfl rfl (hb hby d12_18)
  refine own_go (T' := Tr3) (g' := (mkF mI 21 #[.val (.ref a), .val (.ref da), .val (.int p), .val (.int (0 : Int32))] [(.ref d), (.int p), (.ref da), (.int (0 : Int32)), (.ref d)])) (fun t_ kt_ => str3 _ kt_) ?_
  obtain ⟨clr4, Arr4, qr4, Sr4, Ngr4, Hr4, Gr4⟩ := id S.2.2.2
  refine own_go (T' := Tr3) (g' := (mkF mI 22 #[.val (.ref a), .val (.ref da), .val (.int p), .val (.int (0 : Int32))] [(.int zs), (.int p), (.ref da), (.int (0 : Int32)), (.ref d)])) (fun t_ kt_ => own_len Xr3 hx hZ er3 Arr4 (len_of Sr4 Ngr4) (g := (mkF mI 21 #[.val (.ref a), .val (.ref da), .val (.int p), .val (.int (0 : Int32))] [(.ref d), (.int p), (.ref da), (.int (0 : Int32)), (.ref d)])) rfl rfl (hb hby d12_21) _ kt_) ?_
  have Vpr5 : Arv Z h0 da k .byte z (vs ++ List.replicate (z.toNatClampNeg - vs.length) (.int 0)) (.int 0) := Arv.pad V (pad_rep vs _ _)
  obtain ⟨Tr6, hr6, Lr6, Xr6, er6, Nr6, Kcr6, Vcr6, str6⟩ := cpA Xr3 hx hZ hown (hw _ (List.mem_of_getElem? (i := 78) rfl)) (hw _ (List.mem_of_getElem? (i := 81) rfl)) (hw _ (List.mem_of_getElem? (i := 79) rfl)) (hw _ (List.mem_of_getElem? (i := 80) rfl)) er3 S.2.2.2 Vpr5 (Or.inl ⟨rfl, rfl⟩) (by decide) h_dp hs0 (by show 0 + _ ≤ _; omega) hfit rfl (by rw [List.length_append, List.length_replicate]; omega) (Fr.nil n0) g_da (g := (mkF mI 22 #[.val (.ref a), .val (.ref da), .val (.int p), .val (.int (0 : Int32))] [(.int zs), (.int p), (.ref da), (.int (0 : Int32)), (.ref d)])) rfl (by rw [hml]; rfl) rfl (hb hby d12_22) (by decide) (W := 0) (by show 2 * 0 + _ ≤ _; exact Nat.le_of_eq rfl) (by decide)
  have Vr6 : Arv Z hr6 da k .byte z (vs ++ us) (.int 0) := Arv.pad Vcr6 (own_putList hpv hsu (by simp) rfl)
  have Fr7 := Fld.keep S.2.1 Kcr6 (ninS ne_a_da nin0)
  have Fr8 := Fld.keep S.2.2.1 Kcr6 (ninS ne_a_da nin0)
  have Er9 := Exa.keep S.1 Kcr6
  have Vr12 := Arv.keep S.2.2.2 Kcr6 (ninS ne_d_da nin0)
  have Kr13 : Keep h0 hr6 [da] := (Keep.refl h0 [da]).trans Kcr6 (allS (Or.inl (List.mem_of_getElem? (i := 0) rfl)) all0)
  refine own_go (T' := Tr6) (g' := (mkF mI 25 #[.val (.ref a), .val (.ref da), .val (.int p), .val (.int (0 : Int32))] [])) (fun t_ kt_ => str6 _ kt_) ?_
  refine own_go (T' := Tr6) (g' := (mkF mI 43 #[.val (.ref a), .val (.ref da), .val (.int p), .val (.int (0 : Int32))] [])) (fun t_ kt_ => XS.goto Xr6.here hx rfl (pc0 := 25) (pc' := 43) rfl (hb hby d12_25) (by decide) (by decide) kt_) ?_
  refine own_retV Xr6 hx hlk hret (hb hby d12_43) (by decide) (by decide) ?_
  exact by rw [er6]; exact ⟨rfl, Nr6, Kr13, Vr6⟩
theorem d11_0 : decode jdk_68_method_71_code 0 = .ok (.getstatic 18, 3) := by decide +kernel
theorem d11_3 : decode jdk_68_method_71_code 3 = .ok (.ifCond .eq 18, 3) := by decide +kernel
theorem d11_6 : decode jdk_68_method_71_code 6 = .ok (.aload_n 0, 1) := by decide +kernel
theorem d11_7 : decode jdk_68_method_71_code 7 = .ok (.getfield 22, 3) := by decide +kernel
theorem d11_10 : decode jdk_68_method_71_code 10 = .ok (.aload_n 1, 1) := by decide +kernel
theorem d11_11 : decode jdk_68_method_71_code 11 = .ok (.invokevirtual 40, 3) := by decide +kernel
theorem d11_14 : decode jdk_68_method_71_code 14 = .ok (.if_icmp .eq 7, 3) := by decide +kernel
theorem d11_21 : decode jdk_68_method_71_code 21 = .ok (.return_, 1) := by decide +kernel
theorem rj_infl_pn : plainFor (⟨"java/lang/AbstractStringBuilder", "inflateIfNeededFor", "(Ljava/lang/String;)V"⟩ : MethodName) = true := plainFor_of_name (show plainName "java/lang/AbstractStringBuilder" = true by first | (simp [plainName, overriddenIn]; done) | decide +kernel)
theorem rj_infl_ef (mI : MethodId) (b : Addr) (a : Addr) : entryFrame mI #[(.ref b), (.ref a)] 2 = mkF mI 0 #[.val (.ref b), .val (.ref a)] [] := by first | (simp [entryFrame, mkF, argsToLocals, Value.category]; done) | rfl
set_option maxRecDepth 65536 in
set_option maxHeartbeats 40000000 in
theorem rj_infl (l : Launch) (Z : State) (a0 : Array Value) (hw : ∀ d ∈ tables_1, d.before a0 Z = true) (ws : List Jvm.Cond) (h0 : Heap) (n0 : Nat) (O : Old Z n0 h0) (cs : Int32) (Scs : Sta Z Z.heap "java/lang/String" "COMPACT_STRINGS" "Z" (.int cs)) (hcs : ¬ cs = 0) (b a : Addr) (Fb : Fld Z h0 b "java/lang/AbstractStringBuilder" "coder" "B" (.int 0)) (Ea : Exa Z h0 a "java/lang/String") (Fc : Fld Z h0 a "java/lang/String" "coder" "B" (.int 0)) :
    own_Met l Z (⟨"java/lang/AbstractStringBuilder", "inflateIfNeededFor", "(Ljava/lang/String;)V"⟩ : MethodName) jdk_68_method_71_code 2 none ws ({ frames := 1, cells := 0, slots := 0, locals := 13 } : Room) #[(.ref b), (.ref a)] h0 (own_QP h0 none) := by
  refine own_met rj_infl_pn ?_
  intro pP eE sS mI bB mT cC s₁ hx hby hml hown hnm hret hlk hZ X0 e0
  replace hown : sS.vm.findClass "java/lang/AbstractStringBuilder" = some mI.cls := hown
  refine own_cast (rj_infl_ef mI b a) ?_
  obtain ⟨Tt1, Xt1, et1, stt1⟩ := getS2 X0 hx hZ hown (host := "") (Or.inl (hw _ (List.mem_of_getElem? (i := 19) rfl))) Via.refl e0 (Sta.ext O.2 Scs) (g := (mkF mI 0 #[.val (.ref b), .val (.ref a)] [])) rfl (hb hby d11_0)
  refine own_go (T' := Tt1) (g' := (mkF mI 3 #[.val (.ref b), .val (.ref a)] [(.int cs)])) (fun t_ kt_ => stt1 _ kt_) ?_
  refine own_go (T' := Tt1) (g' := (mkF mI 6 #[.val (.ref b), .val (.ref a)] [])) (fun t_ kt_ => XS.ifNo Xt1.here hx rfl (hb hby d11_3) rfl ((if0 _ _).trans (feq (hcs : ¬ (cs = (0 : Int32)))).1) kt_) ?_
  refine own_go (T' := Tt1) (g' := (mkF mI 7 #[.val (.ref b), .val (.ref a)] [(.ref b)])) (fun t_ kt_ => XS.aloadN Xt1.here hx rfl (hb hby d11_6) rfl rfl kt_) ?_
  obtain ⟨Tt2, Xt2, et2, stt2⟩ := getF Xt1 hx hZ hown (host := "") (Or.inl (hw _ (List.mem_of_getElem? (i := 24) rfl))) Via.refl et1 Fb (g := (mkF mI 7 #[.val (.ref b), .val (.ref a)] [(.ref b)])) rfl rfl (hb hby d11_7)
  refine own_go (T' := Tt2) (g' := (mkF mI 10 #[.val (.ref b), .val (.ref a)] [(.int (0 : Int32))])) (fun t_ kt_ => stt2 _ kt_) ?_
  refine own_go (T' := Tt2) (g' := (mkF mI 11 #[.val (.ref b), .val (.ref a)] [(.ref a), (.int (0 : Int32))])) (fun t_ kt_ => XS.aloadN Xt2.here hx rfl (hb hby d11_10) rfl rfl kt_) ?_
  refine own_callV own_closed Xt2 hx hZ (y := (⟨"java/lang/String", "coder", "()B"⟩ : MethodName)) (z := (⟨"java/lang/String", "coder", "()B"⟩ : MethodName)) hown (hw _ (List.mem_of_getElem? (i := 72) rfl)) (hw _ (List.mem_of_getElem? (i := 49) rfl)) (hw _ (List.mem_of_getElem? (i := 51) rfl)) (hw _ (List.mem_of_getElem? (i := 50) rfl)) (hw _ (List.mem_of_getElem? (i := 51) rfl)) rfl (by decide) (rj_coder l Z a0 hw [] h0 n0 O cs Scs hcs a Fc) (hw _ (List.mem_of_getElem? (i := 52) rfl)) (hw _ (List.mem_of_getElem? (i := 20) rfl)) et2 Ea (pc := 11) (Ls := #[.val (.ref b), .val (.ref a)]) (argsL := []) (rest := [(.int (0 : Int32))]) (by rw [hml]; rfl) (lenOf pd_0 rfl) (W := 1) (Nat.le_of_eq rfl) (by decide) (by decide) (by decide) (by decide) (hb hby d11_11) rfl rfl ?_
  intro Tt3 Lt3 vt3 Xt3 hQt3
  obtain ⟨rfl, rfl, et3⟩ := hQt3
  show own_Ends pP eE bB sS _ _ Tt3 (mkF mI 14 #[.val (.ref b), .val (.ref a)] [(.int (0 : Int32)), (.int (0 : Int32))])
  refine own_go (T' := Tt3) (g' := (mkF mI 21 #[.val (.ref b), .val (.ref a)] [])) (fun t_ kt_ => XS.icmpYes Xt3.here hx rfl (pc0 := 14) (pc' := 21) rfl (hb hby d11_14) rfl (teq (by decide : (0 : Int32) = (0 : Int32))).1 (by decide) (by decide) kt_) ?_
  refine own_retV Xt3 hx hlk hret (hb hby d11_21) (by decide) (by decide) ?_
  exact ⟨rfl, rfl, et3⟩
theorem d10_0 : decode jdk_68_method_73_code 0 = .ok (.aload_n 0, 1) := by decide +kernel
theorem d10_1 : decode jdk_68_method_73_code 1 = .ok (.aload_n 2, 1) := by decide +kernel
theorem d10_2 : decode jdk_68_method_73_code 2 = .ok (.invokevirtual 397, 3) := by decide +kernel
theorem d10_5 : decode jdk_68_method_73_code 5 = .ok (.aload_n 2, 1) := by decide +kernel
theorem d10_6 : decode jdk_68_method_73_code 6 = .ok (.aload_n 0, 1) := by decide +kernel
theorem d10_7 : decode jdk_68_method_73_code 7 = .ok (.getfield 15, 3) := by decide +kernel
theorem d10_10 : decode jdk_68_method_73_code 10 = .ok (.iload_n 1, 1) := by decide +kernel
theorem d10_11 : decode jdk_68_method_73_code 11 = .ok (.aload_n 0, 1) := by decide +kernel
theorem d10_12 : decode jdk_68_method_73_code 12 = .ok (.getfield 22, 3) := by decide +kernel
theorem d10_15 : decode jdk_68_method_73_code 15 = .ok (.invokevirtual 399, 3) := by decide +kernel
theorem d10_18 : decode jdk_68_method_73_code 18 = .ok (.return_, 1) := by decide +kernel
theorem rj_putStr_pn : plainFor (⟨"java/lang/AbstractStringBuilder", "putStringAt", "(ILjava/lang/String;)V"⟩ : MethodName) = true := plainFor_of_name (show plainName "java/lang/AbstractStringBuilder" = true by first | (simp [plainName, overriddenIn]; done) | decide +kernel)
theorem rj_putStr_ef (mI : MethodId) (b : Addr) (p : Int32) (a : Addr) : entryFrame mI #[(.ref b), (.int p), (.ref a)] 3 = mkF mI 0 #[.val (.ref b), .val (.int p), .val (.ref a)] [] := by first | (simp [entryFrame, mkF, argsToLocals, Value.category]; done) | rfl
set_option maxRecDepth 65536 in
set_option maxHeartbeats 40000000 in
theorem rj_putStr (l : Launch) (Z : State) (a0 : Array Value) (hw : ∀ d ∈ tables_1, d.before a0 Z = true) (ws : List Jvm.Cond) (h0 : Heap) (da : Addr) (k : ClassId) (z : Int32) (vs : List Value) (n0 : Nat) (O : Old Z n0 h0) (cs : Int32) (Scs : Sta Z Z.heap "java/lang/String" "COMPACT_STRINGS" "Z" (.int cs)) (hcs : ¬ cs = 0) (b : Addr) (n : Int32) (B : own_SB Z h0 b da k z n vs) (a : Addr) (p : Int32) (d : Addr) (ks : ClassId) (zs : Int32) (us : List Value) (S : own_St Z h0 a d ks zs us) (g_da : n0 ≤ da) (ne_a_da : a ≠ da) (ne_d_da : d ≠ da) (h_dp : ¬ p < 0) (hs0 : ¬ zs < 0) (hpv : vs.length = p.toNatClampNeg) (hsu : us.length = zs.toNatClampNeg) (hfit : p.toNatClampNeg + zs.toNatClampNeg ≤ z.toNatClampNeg) :
    own_Met l Z (⟨"java/lang/AbstractStringBuilder", "putStringAt", "(ILjava/lang/String;)V"⟩ : MethodName) jdk_68_method_73_code 3 none ws ({ frames := 2, cells := 0, slots := 0, locals := 33 } : Room) #[(.ref b), (.int p), (.ref a)] h0 (own_QGB Z h0 n0 da k z (vs ++ us)) := by
  refine own_met rj_putStr_pn ?_
  intro pP eE sS mI bB mT cC s₁ hx hby hml hown hnm hret hlk hZ X0 e0
  replace hown : sS.vm.findClass "java/lang/AbstractStringBuilder" = some mI.cls := hown
  refine own_cast (rj_putStr_ef mI b p a) ?_
  refine own_go (T' := s₁) (g' := (mkF mI 1 #[.val (.ref b), .val (.int p), .val (.ref a)] [(.ref b)])) (fun t_ kt_ => XS.aloadN X0.here hx rfl (hb hby d10_0) rfl rfl kt_) ?_
  refine own_go (T' := s₁) (g' := (mkF mI 2 #[.val (.ref b), .val (.int p), .val (.ref a)] [(.ref a), (.ref b)])) (fun t_ kt_ => XS.aloadN X0.here hx rfl (hb hby d10_1) rfl rfl kt_) ?_
  refine own_callV own_closed X0 hx hZ (y := (⟨"java/lang/AbstractStringBuilder", "inflateIfNeededFor", "(Ljava/lang/String;)V"⟩ : MethodName)) (z := (⟨"java/lang/AbstractStringBuilder", "inflateIfNeededFor", "(Ljava/lang/String;)V"⟩ : MethodName)) hown (hw _ (List.mem_of_getElem? (i := 67) rfl)) (own_decl (hw _ (List.mem_of_getElem? (i := 68) rfl)) (hw _ (List.mem_of_getElem? (i := 71) rfl))) (hw _ (List.mem_of_getElem? (i := 70) rfl)) (hw _ (List.mem_of_getElem? (i := 68) rfl)) (hw _ (List.mem_of_getElem? (i := 70) rfl)) rfl (by decide) (rj_infl l Z a0 hw [] h0 n0 O cs Scs hcs b a B.2.2.1 S.1 S.2.1) (hw _ (List.mem_of_getElem? (i := 71) rfl)) (hw _ (List.mem_of_getElem? (i := 14) rfl)) e0 B.1 (pc := 2) (Ls := #[.val (.ref b), .val (.int p), .val (.ref a)]) (argsL := [(.ref a)]) (rest := []) (by rw [hml]; rfl) (lenOf pd_9 rfl) (W := 0) (Nat.le_of_eq rfl) (by decide) (by decide) (by decide) (by decide) (hb hby d10_2) rfl rfl ?_
  intro Tu1 Lu1 vu1 Xu1 hQu1
  obtain ⟨rfl, rfl, eu1⟩ := hQu1
  show own_Ends pP eE bB sS _ _ Tu1 (mkF mI 5 #[.val (.ref b), .val (.int p), .val (.ref a)] [])
  refine own_go (T' := Tu1) (g' := (mkF mI 6 #[.val (.ref b), .val (.int p), .val (.ref a)] [(.ref a)])) (fun t_ kt_ => XS.aloadN Xu1.here hx rfl (hb hby d10_5) rfl rfl kt_) ?_
  refine own_go (T' := Tu1) (g' := (mkF mI 7 #[.val (.ref b), .val (.int p), .val (.ref a)] [(.ref b), (.ref a)])) (fun t_ kt_ => XS.aloadN Xu1.here hx rfl (hb hby d10_6) rfl rfl kt_) ?_
  obtain ⟨Tu2, Xu2, eu2, stu2⟩ := getF Xu1 hx hZ hown (host := "") (Or.inl (hw _ (List.mem_of_getElem? (i := 22) rfl))) Via.refl eu1 B.2.1 (g := (mkF mI 7 #[.val (.ref b), .val (.int p), .val (.ref a)] [(.ref b), (.ref a)])) rfl rfl (hb hby d10_7)
  refine own_go (T' := Tu2) (g' := (mkF mI 10 #[.val (.ref b), .val (.int p), .val (.ref a)] [(.ref da), (.ref a)])) (fun t_ kt_ => stu2 _ kt_) ?_
  refine own_go (T' := Tu2) (g' := (mkF mI 11 #[.val (.ref b), .val (.int p), .val (.ref a)] [(.int p), (.ref da), (.ref a)])) (fun t_ kt_ => XS.iloadN Xu2.here hx rfl (hb hby d10_10) rfl kt_) ?_
  refine own_go (T' := Tu2) (g' := (mkF mI 12 #[.val (.ref b), .val (.int p), .val (.ref a)] [(.ref b), (.int p), (.ref da), (.ref a)])) (fun t_ kt_ => XS.aloadN Xu2.here hx rfl (hb hby d10_11) rfl rfl kt_) ?_
  obtain ⟨Tu3, Xu3, eu3, stu3⟩ := getF Xu2 hx hZ hown (host := "") (Or.inl (hw _ (List.mem_of_getElem? (i := 24) rfl))) Via.refl eu2 B.2.2.1 (g := (mkF mI 12 #[.val (.ref b), .val (.int p), .val (.ref a)] [(.ref b), (.int p), (.ref da), (.ref a)])) rfl rfl (hb hby d10_12)
  refine own_go (T' := Tu3) (g' := (mkF mI 15 #[.val (.ref b), .val (.int p), .val (.ref a)] [(.int (0 : Int32)), (.int p), (.ref da), (.ref a)])) (fun t_ kt_ => stu3 _ kt_) ?_
  refine own_callV own_closed Xu3 hx hZ (y := (⟨"java/lang/String", "getBytes", "([BIB)V"⟩ : MethodName)) (z := (⟨"java/lang/String", "getBytes", "([BIB)V"⟩ : MethodName)) hown (hw _ (List.mem_of_getElem? (i := 73) rfl)) (hw _ (List.mem_of_getElem? (i := 74) rfl)) (hw _ (List.mem_of_getElem? (i := 76) rfl)) (hw _ (List.mem_of_getElem? (i := 75) rfl)) (hw _ (List.mem_of_getElem? (i := 76) rfl)) rfl (by decide) (rj_getBytes l Z a0 hw [] h0 n0 O cs Scs hcs a da p d k ks z zs vs us S B.2.2.2.2.1 g_da ne_a_da ne_d_da h_dp hs0 hpv hsu hfit) (hw _ (List.mem_of_getElem? (i := 77) rfl)) (hw _ (List.mem_of_getElem? (i := 20) rfl)) eu3 S.1 (pc := 15) (Ls := #[.val (.ref b), .val (.int p), .val (.ref a)]) (argsL := [(.ref da), (.int p), (.int (0 : Int32))]) (rest := []) (by rw [hml]; rfl) (lenOf pd_10 rfl) (W := 0) (Nat.le_of_eq rfl) (by decide) (by decide) (by decide) (by decide) (hb hby d10_15) rfl rfl ?_
  intro Tu4 Lu4 vu4 Xu4 hQu4
  obtain ⟨rfl, Nu4, Ku4, Vu4⟩ := hQu4
  show own_Ends pP eE bB sS _ _ Tu4 (mkF mI 18 #[.val (.ref b), .val (.int p), .val (.ref a)] [])
  refine own_retV Xu4 hx hlk hret (hb hby d10_18) (by decide) (by decide) ?_
  exact ⟨rfl, Fr.app (Fr.nil n0) Nu4, Ku4, Vu4⟩
def own_QA (Z : State) (h0 : Heap) (n0 : Nat) (b da : Addr) (m : Int32) (vs : List Value) (v : Option Value) (h : Heap) (L : List Loc) : Prop := v = some (.ref b) ∧ Fr n0 L ∧ Keep h0 h [b, da] ∧ ∃ (da' : Addr) (k' : ClassId) (z' : Int32), own_SB Z h b da' k' z' m vs ∧ (da' = da ∨ h0.size ≤ da') ∧ m.toInt ≤ z'.toInt ∧ z'.toInt ≤ 300
theorem d6_0 : decode jdk_68_method_22_code 0 = .ok (.aload_n 1, 1) := by decide +kernel
theorem d6_1 : decode jdk_68_method_22_code 1 = .ok (.ifnonnull 8, 3) := by decide +kernel
theorem d6_9 : decode jdk_68_method_22_code 9 = .ok (.aload_n 1, 1) := by decide +kernel
theorem d6_10 : decode jdk_68_method_22_code 10 = .ok (.invokevirtual 32, 3) := by decide +kernel
theorem d6_13 : decode jdk_68_method_22_code 13 = .ok (.istore_n 2, 1) := by decide +kernel
theorem d6_14 : decode jdk_68_method_22_code 14 = .ok (.aload_n 0, 1) := by decide +kernel
theorem d6_15 : decode jdk_68_method_22_code 15 = .ok (.aload_n 0, 1) := by decide +kernel
theorem d6_16 : decode jdk_68_method_22_code 16 = .ok (.getfield 79, 3) := by decide +kernel
theorem d6_19 : decode jdk_68_method_22_code 19 = .ok (.iload_n 2, 1) := by decide +kernel
theorem d6_20 : decode jdk_68_method_22_code 20 = .ok (.iadd, 1) := by decide +kernel
theorem d6_21 : decode jdk_68_method_22_code 21 = .ok (.invokevirtual 100, 3) := by decide +kernel
theorem d6_24 : decode jdk_68_method_22_code 24 = .ok (.aload_n 0, 1) := by decide +kernel
theorem d6_25 : decode jdk_68_method_22_code 25 = .ok (.aload_n 0, 1) := by decide +kernel
theorem d6_26 : decode jdk_68_method_22_code 26 = .ok (.getfield 79, 3) := by decide +kernel
theorem d6_29 : decode jdk_68_method_22_code 29 = .ok (.aload_n 1, 1) := by decide +kernel
theorem d6_30 : decode jdk_68_method_22_code 30 = .ok (.invokevirtual 208, 3) := by decide +kernel
theorem d6_33 : decode jdk_68_method_22_code 33 = .ok (.aload_n 0, 1) := by decide +kernel
theorem d6_34 : decode jdk_68_method_22_code 34 = .ok (.dup, 1) := by decide +kernel
theorem d6_35 : decode jdk_68_method_22_code 35 = .ok (.getfield 79, 3) := by decide +kernel
theorem d6_38 : decode jdk_68_method_22_code 38 = .ok (.iload_n 2, 1) := by decide +kernel
theorem d6_39 : decode jdk_68_method_22_code 39 = .ok (.iadd, 1) := by decide +kernel
theorem d6_40 : decode jdk_68_method_22_code 40 = .ok (.putfield 79, 3) := by decide +kernel
theorem d6_43 : decode jdk_68_method_22_code 43 = .ok (.aload_n 0, 1) := by decide +kernel
theorem d6_44 : decode jdk_68_method_22_code 44 = .ok (.areturn, 1) := by decide +kernel
theorem rj_asAppS_pn : plainFor (⟨"java/lang/AbstractStringBuilder", "append", "(Ljava/lang/String;)Ljava/lang/AbstractStringBuilder;"⟩ : MethodName) = true := plainFor_of_name (show plainName "java/lang/AbstractStringBuilder" = true by first | (simp [plainName, overriddenIn]; done) | decide +kernel)
theorem rj_asAppS_ef (mI : MethodId) (b : Addr) (a : Addr) : entryFrame mI #[(.ref b), (.ref a)] 3 = mkF mI 0 #[.val (.ref b), .val (.ref a), .unset] [] := by first | (simp [entryFrame, mkF, argsToLocals, Value.category]; done) | rfl
set_option maxRecDepth 65536 in
set_option maxHeartbeats 40000000 in
theorem rj_asAppS (l : Launch) (Z : State) (a0 : Array Value) (hw : ∀ d ∈ tables_1, d.before a0 Z = true) (ws : List Jvm.Cond) (h0 : Heap) (n0 : Nat) (O : Old Z n0 h0) (cs : Int32) (Scs : Sta Z Z.heap "java/lang/String" "COMPACT_STRINGS" "Z" (.int cs)) (hcs : ¬ cs = 0) (Z0 : n0 ≤ h0.size) (b a : Addr) (da d : Addr) (k ks : ClassId) (z zs n m : Int32) (vs us : List Value) (B : own_SB Z h0 b da k z n vs) (S : own_St Z h0 a d ks zs us) (g_b : n0 ≤ b) (g_da : n0 ≤ da) (ne_a_b : a ≠ b) (ne_d_b : d ≠ b) (ne_d_da : d ≠ da) (hz0 : ¬ z < 0) (hzi : 0 ≤ z.toInt) (hz3 : z.toInt ≤ 300) (hvz : vs.length ≤ z.toNatClampNeg) (hn0 : ¬ n < 0) (hvn : vs.length = n.toNatClampNeg) (hs0 : ¬ zs < 0) (hsu : us.length = zs.toNatClampNeg) (hm : n + zs = m) (hm0 : 0 ≤ m.toInt) (hm1 : m.toInt ≤ 140) (hmn : m.toInt = n.toInt + zs.toInt) :
    own_Met l Z (⟨"java/lang/AbstractStringBuilder", "append", "(Ljava/lang/String;)Ljava/lang/AbstractStringBuilder;"⟩ : MethodName) jdk_68_method_22_code 3 (some (.object "java/lang/AbstractStringBuilder")) ws ({ frames := 4, cells := 1, slots := 300, locals := 62 } : Room) #[(.ref b), (.ref a)] h0 (own_QA Z h0 n0 b da m (vs ++ us)) := by
  refine own_met rj_asAppS_pn ?_
  intro pP eE sS mI bB mT cC s₁ hx hby hml hown hnm hret hlk hZ X0 e0
  replace hown : sS.vm.findClass "java/lang/AbstractStringBuilder" = some mI.cls := hown
  refine own_cast (rj_asAppS_ef mI b a) ?_
  refine own_go (T' := s₁) (g' := (mkF mI 1 #[.val (.ref b), .val (.ref a), .unset] [(.ref a)])) (fun t_ kt_ => XS.aloadN X0.here hx rfl (hb hby d6_0) rfl rfl kt_) ?_
  refine own_go (T' := s₁) (g' := (mkF mI 9 #[.val (.ref b), .val (.ref a), .unset] [])) (fun t_ kt_ => XS.ifnonnullYes X0.here hx rfl (pc0 := 1) (pc' := 9) rfl (hb hby d6_1) rfl (by decide) (by decide) kt_) ?_
  refine own_go (T' := s₁) (g' := (mkF mI 10 #[.val (.ref b), .val (.ref a), .unset] [(.ref a)])) (fun t_ kt_ => XS.aloadN X0.here hx rfl (hb hby d6_9) rfl rfl kt_) ?_
  refine own_callV own_closed X0 hx hZ (y := (⟨"java/lang/String", "length", "()I"⟩ : MethodName)) (z := (⟨"java/lang/String", "length", "()I"⟩ : MethodName)) hown (hw _ (List.mem_of_getElem? (i := 42) rfl)) (hw _ (List.mem_of_getElem? (i := 43) rfl)) (hw _ (List.mem_of_getElem? (i := 45) rfl)) (hw _ (List.mem_of_getElem? (i := 44) rfl)) (hw _ (List.mem_of_getElem? (i := 45) rfl)) rfl (by decide) (rj_len l Z a0 hw [] h0 n0 O cs Scs hcs a d _ zs _ S.1 S.2.1 S.2.2.1 S.2.2.2) (hw _ (List.mem_of_getElem? (i := 46) rfl)) (hw _ (List.mem_of_getElem? (i := 20) rfl)) e0 S.1 (pc := 10) (Ls := #[.val (.ref b), .val (.ref a), .unset]) (argsL := []) (rest := []) (by rw [hml]; rfl) (lenOf pd_11 rfl) (W := 0) (Nat.le_of_eq rfl) (by decide) (by decide) (by decide) (by decide) (hb hby d6_10) rfl rfl ?_
  intro Tv1 Lv1 vv1 Xv1 hQv1
  obtain ⟨rfl, rfl, ev1⟩ := hQv1
  show own_Ends pP eE bB sS _ _ Tv1 (mkF mI 13 #[.val (.ref b), .val (.ref a), .unset] [(.int zs)])
  refine own_go (T' := Tv1) (g' := (mkF mI 14 #[.val (.ref b), .val (.ref a), .val (.int zs)] [])) (fun t_ kt_ => XS.istoreN Xv1.here hx rfl (hb hby d6_13) rfl (l' := #[.val (.ref b), .val (.ref a), .val (.int zs)]) rfl kt_) ?_
  refine own_go (T' := Tv1) (g' := (mkF mI 15 #[.val (.ref b), .val (.ref a), .val (.int zs)] [(.ref b)])) (fun t_ kt_ => XS.aloadN Xv1.here hx rfl (hb hby d6_14) rfl rfl kt_) ?_
  refine own_go (T' := Tv1) (g' := (mkF mI 16 #[.val (.ref b), .val (.ref a), .val (.int zs)] [(.ref b), (.ref b)])) (fun t_ kt_ => XS.aloadN Xv1.here hx rfl (hb hby d6_15) rfl rfl kt_) ?_
  obtain ⟨Tv2, Xv2, ev2, stv2⟩ := getF Xv1 hx hZ hown (host := "") (Or.inl (hw _ (List.mem_of_getElem? (i := 55) rfl))) Via.refl ev1 B.2.2.2.1 (g := (mkF mI 16 #[.val (.ref b), .val (.ref a), .val (.int zs)] [(.ref b), (.ref b)])) rfl rfl (hb hby d6_16)
  refine own_go (T' := Tv2) (g' := (mkF mI 19 #[.val (.ref b), .val (.ref a), .val (.int zs)] [(.int n), (.ref b)])) (fun t_ kt_ => stv2 _ kt_) ?_
  refine own_go (T' := Tv2) (g' := (mkF mI 20 #[.val (.ref b), .val (.ref a), .val (.int zs)] [(.int zs), (.int n), (.ref b)])) (fun t_ kt_ => XS.iloadN Xv2.here hx rfl (hb hby d6_19) rfl kt_) ?_
  refine own_go (T' := Tv2) (g' := (mkF mI 21 #[.val (.ref b), .val (.ref a), .val (.int zs)] [(.int (n + zs)), (.ref b)])) (fun t_ kt_ => XS.iadd Xv2.here hx rfl (hb hby d6_20) rfl kt_) ?_
  rw [hm]
  refine own_callV own_closed Xv2 hx hZ (y := (⟨"java/lang/AbstractStringBuilder", "ensureCapacityInternal", "(I)V"⟩ : MethodName)) (z := (⟨"java/lang/AbstractStringBuilder", "ensureCapacityInternal", "(I)V"⟩ : MethodName)) hown (hw _ (List.mem_of_getElem? (i := 57) rfl)) (own_decl (hw _ (List.mem_of_getElem? (i := 58) rfl)) (hw _ (List.mem_of_getElem? (i := 61) rfl))) (hw _ (List.mem_of_getElem? (i := 60) rfl)) (hw _ (List.mem_of_getElem? (i := 58) rfl)) (hw _ (List.mem_of_getElem? (i := 60) rfl)) rfl (by decide) (rj_ensure l Z a0 hw [] h0 n0 Z0 b m da k z n vs B.1 B.2.1 B.2.2.1 B.2.2.2.1 B.2.2.2.2.1 B.2.2.2.2.2 g_b hvz hz0 hzi hz3 hm0 hm1) (hw _ (List.mem_of_getElem? (i := 61) rfl)) (hw _ (List.mem_of_getElem? (i := 14) rfl)) ev2 B.1 (pc := 21) (Ls := #[.val (.ref b), .val (.ref a), .val (.int zs)]) (argsL := [(.int m)]) (rest := []) (by rw [hml]; rfl) (lenOf pd_12 rfl) (W := 0) (Nat.le_of_eq rfl) (by decide) (by decide) (by decide) (by decide) (hb hby d6_21) rfl rfl ?_
  intro Tv3 Lv3 vv3 Xv3 hQv3
  obtain ⟨rfl, Nv3, Kv3, dav3, kv3, zv3, Bv3, hdav3, hzav3, hzbv3, hzcv3⟩ := hQv3
  have g_dv3 : n0 ≤ dav3 := hdav3.elim (fun q => by rw [q.1]; exact g_da) (fun q => Nat.le_trans Z0 q)
  have ne_dv3 : d ≠ dav3 := hdav3.elim (fun q => by rw [q.1]; exact ne_d_da) (fun q => Nat.ne_of_lt (Nat.lt_of_lt_of_le S.2.2.2.lt q))
  have ne_bv3 : b ≠ dav3 := Exa.neArv Bv3.1 Bv3.2.2.2.2.1 (hw _ (List.mem_of_getElem? (i := 5) rfl))
  have ne_av3 : a ≠ dav3 := Exa.neArv (S.1.keep Kv3) Bv3.2.2.2.2.1 (hw _ (List.mem_of_getElem? (i := 27) rfl))
  have Sv3 : own_St Z Tv3.heap a d ks zs us := S.keep Kv3 (ninS ne_a_b nin0) (ninS ne_d_b nin0)
  have Ov3 : Old Z n0 Tv3.heap := O.keep Kv3 (allS g_b all0)
  have Nv3a := Fr.app (Fr.nil n0) Nv3
  have Zzv3 : n0 ≤ Tv3.heap.size := Nat.le_trans Z0 Kv3.1
  show own_Ends pP eE bB sS _ _ Tv3 (mkF mI 24 #[.val (.ref b), .val (.ref a), .val (.int zs)] [])
  refine own_go (T' := Tv3) (g' := (mkF mI 25 #[.val (.ref b), .val (.ref a), .val (.int zs)] [(.ref b)])) (fun t_ kt_ => XS.aloadN Xv3.here hx rfl (hb hby d6_24) rfl rfl kt_) ?_
  refine own_go (T' := Tv3) (g' := (mkF mI 26 #[.val (.ref b), .val (.ref a), .val (.int zs)] [(.ref b), (.ref b)])) (fun t_ kt_ => XS.aloadN Xv3.here hx rfl (hb hby d6_25) rfl rfl kt_) ?_
  obtain ⟨Tv4, Xv4, ev4, stv4⟩ := getF Xv3 hx hZ hown (host := "") (Or.inl (hw _ (List.mem_of_getElem? (i := 55) rfl))) Via.refl rfl Bv3.2.2.2.1 (g := (mkF mI 26 #[.val (.ref b), .val (.ref a), .val (.int zs)] [(.ref b), (.ref b)])) rfl rfl (hb hby d6_26)
  refine own_go (T' := Tv4) (g' := (mkF mI 29 #[.val (.ref b), .val (.ref a), .val (.int zs)] [(.int n), (.ref b)])) (fun t_ kt_ => stv4 _ kt_) ?_
  refine own_go (T' := Tv4) (g' := (mkF mI 30 #[.val (.ref b), .val (.ref a), .val (.int zs)] [(.ref a), (.int n), (.ref b)])) (fun t_ kt_ => XS.aloadN Xv4.here hx rfl (hb hby d6_29) rfl rfl kt_) ?_
  refine own_callV own_closed Xv4 hx hZ (y := (⟨"java/lang/AbstractStringBuilder", "putStringAt", "(ILjava/lang/String;)V"⟩ : MethodName)) (z := (⟨"java/lang/AbstractStringBuilder", "putStringAt", "(ILjava/lang/String;)V"⟩ : MethodName)) hown (hw _ (List.mem_of_getElem? (i := 62) rfl)) (own_decl (hw _ (List.mem_of_getElem? (i := 63) rfl)) (hw _ (List.mem_of_getElem? (i := 66) rfl))) (hw _ (List.mem_of_getElem? (i := 65) rfl)) (hw _ (List.mem_of_getElem? (i := 63) rfl)) (hw _ (List.mem_of_getElem? (i := 65) rfl)) rfl (by decide) (rj_putStr l Z a0 hw [] Tv3.heap dav3 kv3 zv3 vs n0 Ov3 cs Scs hcs b n Bv3 a n d ks zs us Sv3 g_dv3 ne_av3 ne_dv3 hn0 hs0 hvn hsu (own_fit hn0 hs0 hmn hzbv3)) (hw _ (List.mem_of_getElem? (i := 66) rfl)) (hw _ (List.mem_of_getElem? (i := 14) rfl)) ev4 Bv3.1 (pc := 30) (Ls := #[.val (.ref b), .val (.ref a), .val (.int zs)]) (argsL := [(.int n), (.ref a)]) (rest := []) (by rw [hml]; rfl) (lenOf pd_13 rfl) (W := 0) (Nat.le_of_eq rfl) (by decide) (by decide) (by decide) (by decide) (hb hby d6_30) rfl rfl ?_
  intro Tv5 Lv5 vv5 Xv5 hQv5
  obtain ⟨rfl, Nv5, Kv5, Vv5⟩ := hQv5
  have Bv5 : own_SB Z Tv5.heap b dav3 kv3 zv3 n (vs ++ us) := ⟨Bv3.1.keep Kv5, Bv3.2.1.keep Kv5 (ninS ne_bv3 nin0), Bv3.2.2.1.keep Kv5 (ninS ne_bv3 nin0), Bv3.2.2.2.1.keep Kv5 (ninS ne_bv3 nin0), Vv5, Bv3.2.2.2.2.2.keep Kv5⟩
  have Kxv5 : Keep h0 Tv5.heap [b, da] := (own_keepSub Kv3 (allS (List.mem_cons_self ..) all0)).trans Kv5 (allS (hdav3.elim (fun q => Or.inl (by rw [q.1]; exact List.mem_cons_of_mem _ (List.mem_cons_self ..))) Or.inr) all0)
  have Nv5a := Fr.app Nv3a Nv5
  have Zzv5 : n0 ≤ Tv5.heap.size := Nat.le_trans Zzv3 Kv5.1
  show own_Ends pP eE bB sS _ _ Tv5 (mkF mI 33 #[.val (.ref b), .val (.ref a), .val (.int zs)] [])
  refine own_go (T' := Tv5) (g' := (mkF mI 34 #[.val (.ref b), .val (.ref a), .val (.int zs)] [(.ref b)])) (fun t_ kt_ => XS.aloadN Xv5.here hx rfl (hb hby d6_33) rfl rfl kt_) ?_
  refine own_go (T' := Tv5) (g' := (mkF mI 35 #[.val (.ref b), .val (.ref a), .val (.int zs)] [(.ref b), (.ref b)])) (fun t_ kt_ => XS.dup Xv5.here hx rfl (hb hby d6_34) rfl rfl kt_) ?_
  obtain ⟨Tv6, Xv6, ev6, stv6⟩ := getF Xv5 hx hZ hown (host := "") (Or.inl (hw _ (List.mem_of_getElem? (i := 55) rfl))) Via.refl rfl Bv5.2.2.2.1 (g := (mkF mI 35 #[.val (.ref b), .val (.ref a), .val (.int zs)] [(.ref b), (.ref b)])) rfl rfl (hb hby d6_35)
  refine own_go (T' := Tv6) (g' := (mkF mI 38 #[.val (.ref b), .val (.ref a), .val (.int zs)] [(.int n), (.ref b)])) (fun t_ kt_ => stv6 _ kt_) ?_
  refine own_go (T' := Tv6) (g' := (mkF mI 39 #[.val (.ref b), .val (.ref a), .val (.int zs)] [(.int zs), (.int n), (.ref b)])) (fun t_ kt_ => XS.iloadN Xv6.here hx rfl (hb hby d6_38) rfl kt_) ?_
  refine own_go (T' := Tv6) (g' := (mkF mI 40 #[.val (.ref b), .val (.ref a), .val (.int zs)] [(.int (n + zs)), (.ref b)])) (fun t_ kt_ => XS.iadd Xv6.here hx rfl (hb hby d6_39) rfl kt_) ?_
  rw [hm]
  obtain ⟨Tv7, hv7, Xv7, ev7, Wv7, stv7⟩ := putF Xv6 hx hZ hown (host := "") (Or.inl (hw _ (List.mem_of_getElem? (i := 55) rfl))) Via.refl ev6 Bv5.2.2.2.1 Bv5.1 (Or.inl (hw _ (List.mem_of_getElem? (i := 56) rfl))) (hw _ (List.mem_of_getElem? (i := 5) rfl)) (ty := .int) (by decide) rfl rfl (g := (mkF mI 40 #[.val (.ref b), .val (.ref a), .val (.int zs)] [(.int m), (.ref b)])) rfl rfl (hb hby d6_40)
  have Fwv7 : Fld Z hv7 b "java/lang/AbstractStringBuilder" "count" "I" (.int m) := Fld.same Wv7 Bv5.2.2.2.1
  have Ev8 := Exa.wr Wv7 Bv5.1
  have Zv11 : n0 ≤ hv7.size := Nat.le_trans Zzv5 (Nat.le_of_eq (Wr.size Wv7).symm)
  have Nv7 := Fr.snoc Xv7 Nv5a g_b
  refine own_go (T' := Tv7) (g' := (mkF mI 43 #[.val (.ref b), .val (.ref a), .val (.int zs)] [])) (fun t_ kt_ => stv7 _ kt_) ?_
  refine own_go (T' := Tv7) (g' := (mkF mI 44 #[.val (.ref b), .val (.ref a), .val (.int zs)] [(.ref b)])) (fun t_ kt_ => XS.aloadN Xv7.here hx rfl (hb hby d6_43) rfl rfl kt_) ?_
  refine own_retA Xv7 hx hlk hret rfl rfl (hb hby d6_44) (by decide) (by decide) ?_
  exact by rw [ev7]; exact ⟨rfl, Nv7, Kxv5.wr Wv7 (Or.inl (List.mem_cons_self ..)), dav3, kv3, zv3, ⟨Ev8, Fld.other Wv7 Bv5.2.1 (Or.inr (slot_ne (Or.inl (hw _ (List.mem_of_getElem? (i := 23) rfl))) (Or.inl (hw _ (List.mem_of_getElem? (i := 56) rfl))) (by decide) (t := (.array .byte)) (t' := .int) (by decide) (by decide))), Fld.other Wv7 Bv5.2.2.1 (Or.inr (slot_ne (Or.inl (hw _ (List.mem_of_getElem? (i := 25) rfl))) (Or.inl (hw _ (List.mem_of_getElem? (i := 56) rfl))) (by decide) (t := .byte) (t' := .int) (by decide) (by decide))), Fwv7, Bv5.2.2.2.2.1.other Wv7 (Ne.symm ne_bv3), Bv5.2.2.2.2.2.wr Wv7⟩, hdav3.imp And.left id, hzbv3, hzcv3⟩
theorem d5_0 : decode jdk_67_method_7_code 0 = .ok (.aload_n 0, 1) := by decide +kernel
theorem d5_1 : decode jdk_67_method_7_code 1 = .ok (.aload_n 1, 1) := by decide +kernel
theorem d5_2 : decode jdk_67_method_7_code 2 = .ok (.invokespecial 29, 3) := by decide +kernel
theorem d5_5 : decode jdk_67_method_7_code 5 = .ok (.pop, 1) := by decide +kernel
theorem d5_6 : decode jdk_67_method_7_code 6 = .ok (.aload_n 0, 1) := by decide +kernel
theorem d5_7 : decode jdk_67_method_7_code 7 = .ok (.areturn, 1) := by decide +kernel
theorem rj_appS_pn : plainFor (⟨"java/lang/StringBuilder", "append", "(Ljava/lang/String;)Ljava/lang/StringBuilder;"⟩ : MethodName) = true := plainFor_of_name (show plainName "java/lang/StringBuilder" = true by first | (simp [plainName, overriddenIn]; done) | decide +kernel)
theorem rj_appS_ef (mI : MethodId) (b : Addr) (a : Addr) : entryFrame mI #[(.ref b), (.ref a)] 2 = mkF mI 0 #[.val (.ref b), .val (.ref a)] [] := by first | (simp [entryFrame, mkF, argsToLocals, Value.category]; done) | rfl
set_option maxRecDepth 65536 in
set_option maxHeartbeats 40000000 in
theorem rj_appS (l : Launch) (Z : State) (a0 : Array Value) (hw : ∀ d ∈ tables_1, d.before a0 Z = true) (ws : List Jvm.Cond) (h0 : Heap) (n0 : Nat) (O : Old Z n0 h0) (cs : Int32) (Scs : Sta Z Z.heap "java/lang/String" "COMPACT_STRINGS" "Z" (.int cs)) (hcs : ¬ cs = 0) (Z0 : n0 ≤ h0.size) (b a : Addr) (da d : Addr) (k ks : ClassId) (z zs n m : Int32) (vs us : List Value) (B : own_SB Z h0 b da k z n vs) (S : own_St Z h0 a d ks zs us) (g_b : n0 ≤ b) (g_da : n0 ≤ da) (ne_a_b : a ≠ b) (ne_d_b : d ≠ b) (ne_d_da : d ≠ da) (hz0 : ¬ z < 0) (hzi : 0 ≤ z.toInt) (hz3 : z.toInt ≤ 300) (hvz : vs.length ≤ z.toNatClampNeg) (hn0 : ¬ n < 0) (hvn : vs.length = n.toNatClampNeg) (hs0 : ¬ zs < 0) (hsu : us.length = zs.toNatClampNeg) (hm : n + zs = m) (hm0 : 0 ≤ m.toInt) (hm1 : m.toInt ≤ 140) (hmn : m.toInt = n.toInt + zs.toInt) :
    own_Met l Z (⟨"java/lang/StringBuilder", "append", "(Ljava/lang/String;)Ljava/lang/StringBuilder;"⟩ : MethodName) jdk_67_method_7_code 2 (some (.object "java/lang/StringBuilder")) ws ({ frames := 5, cells := 1, slots := 300, locals := 76 } : Room) #[(.ref b), (.ref a)] h0 (own_QA Z h0 n0 b da m (vs ++ us)) := by
  refine own_met rj_appS_pn ?_
  intro pP eE sS mI bB mT cC s₁ hx hby hml hown hnm hret hlk hZ X0 e0
  replace hown : sS.vm.findClass "java/lang/StringBuilder" = some mI.cls := hown
  refine own_cast (rj_appS_ef mI b a) ?_
  refine own_go (T' := s₁) (g' := (mkF mI 1 #[.val (.ref b), .val (.ref a)] [(.ref b)])) (fun t_ kt_ => XS.aloadN X0.here hx rfl (hb hby d5_0) rfl rfl kt_) ?_
  refine own_go (T' := s₁) (g' := (mkF mI 2 #[.val (.ref b), .val (.ref a)] [(.ref a), (.ref b)])) (fun t_ kt_ => XS.aloadN X0.here hx rfl (hb hby d5_1) rfl rfl kt_) ?_
  refine own_callX own_closed X0 hx hZ (y := (⟨"java/lang/AbstractStringBuilder", "append", "(Ljava/lang/String;)Ljava/lang/AbstractStringBuilder;"⟩ : MethodName)) hown (hw _ (List.mem_of_getElem? (i := 37) rfl)) (hw _ (List.mem_of_getElem? (i := 38) rfl)) (hw _ (List.mem_of_getElem? (i := 39) rfl)) (hw _ (List.mem_of_getElem? (i := 60) rfl)) rfl (by decide) (by decide) (rj_asAppS l Z a0 hw [] h0 n0 O cs Scs hcs Z0 b a da d k ks z zs n m vs us B S g_b g_da ne_a_b ne_d_b ne_d_da hz0 hzi hz3 hvz hn0 hvn hs0 hsu hm hm0 hm1 hmn) (hw _ (List.mem_of_getElem? (i := 41) rfl)) (hw _ (List.mem_of_getElem? (i := 14) rfl)) e0 B.1 (pc := 2) (Ls := #[.val (.ref b), .val (.ref a)]) (argsL := [(.ref a)]) (rest := []) (by rw [hml]; rfl) (lenOf pd_14 rfl) (W := 0) (Nat.le_of_eq rfl) (by decide) (by decide) (by decide) (by decide) (hb hby d5_2) rfl rfl ?_
  intro Tw1 Lw1 vw1 Xw1 hQw1
  obtain ⟨rfl, Nw1, Kw1, Rw1⟩ := hQw1
  show own_Ends pP eE bB sS _ _ Tw1 (mkF mI 5 #[.val (.ref b), .val (.ref a)] [(.ref b)])
  refine own_go (T' := Tw1) (g' := (mkF mI 6 #[.val (.ref b), .val (.ref a)] [])) (fun t_ kt_ => XS.pop Xw1.here hx rfl (hb hby d5_5) rfl rfl kt_) ?_
  refine own_go (T' := Tw1) (g' := (mkF mI 7 #[.val (.ref b), .val (.ref a)] [(.ref b)])) (fun t_ kt_ => XS.aloadN Xw1.here hx rfl (hb hby d5_6) rfl rfl kt_) ?_
  refine own_retA Xw1 hx hlk hret rfl rfl (hb hby d5_7) (by decide) (by decide) ?_
  exact ⟨rfl, Fr.app (Fr.nil n0) Nw1, Kw1, Rw1⟩
def own_QI (Z : State) (h0 : Heap) (n0 : Nat) (b : Addr) (v : Option Value) (h : Heap) (L : List Loc) : Prop := v = none ∧ Fr n0 L ∧ Keep h0 h [b] ∧ ∃ (da : Addr) (k : ClassId), own_SB Z h b da k 16 0 [] ∧ h0.size ≤ da
theorem d3_0 : decode jdk_68_method_2_code 0 = .ok (.aload_n 0, 1) := by decide +kernel
theorem d3_1 : decode jdk_68_method_2_code 1 = .ok (.invokespecial 3, 3) := by decide +kernel
theorem d3_4 : decode jdk_68_method_2_code 4 = .ok (.getstatic 18, 3) := by decide +kernel
theorem d3_7 : decode jdk_68_method_2_code 7 = .ok (.ifCond .eq 18, 3) := by decide +kernel
theorem d3_10 : decode jdk_68_method_2_code 10 = .ok (.aload_n 0, 1) := by decide +kernel
theorem d3_11 : decode jdk_68_method_2_code 11 = .ok (.iload_n 1, 1) := by decide +kernel
theorem d3_12 : decode jdk_68_method_2_code 12 = .ok (.newarray .byte, 2) := by decide +kernel
theorem d3_14 : decode jdk_68_method_2_code 14 = .ok (.putfield 15, 3) := by decide +kernel
theorem d3_17 : decode jdk_68_method_2_code 17 = .ok (.aload_n 0, 1) := by decide +kernel
theorem d3_18 : decode jdk_68_method_2_code 18 = .ok (.iconst 0, 1) := by decide +kernel
theorem d3_19 : decode jdk_68_method_2_code 19 = .ok (.putfield 22, 3) := by decide +kernel
theorem d3_22 : decode jdk_68_method_2_code 22 = .ok (.goto 16, 3) := by decide +kernel
theorem d3_38 : decode jdk_68_method_2_code 38 = .ok (.return_, 1) := by decide +kernel
theorem rj_asInit_pn : plainFor (⟨"java/lang/AbstractStringBuilder", "<init>", "(I)V"⟩ : MethodName) = true := plainFor_of_name (show plainName "java/lang/AbstractStringBuilder" = true by first | (simp [plainName, overriddenIn]; done) | decide +kernel)
theorem rj_asInit_ef (mI : MethodId) (b : Addr) : entryFrame mI #[(.ref b), (.int (16 : Int32))] 2 = mkF mI 0 #[.val (.ref b), .val (.int (16 : Int32))] [] := by first | (simp [entryFrame, mkF, argsToLocals, Value.category]; done) | rfl
set_option maxRecDepth 65536 in
set_option maxHeartbeats 40000000 in
theorem rj_asInit (l : Launch) (Z : State) (a0 : Array Value) (hw : ∀ d ∈ tables_1, d.before a0 Z = true) (ws : List Jvm.Cond) (h0 : Heap) (n0 : Nat) (O : Old Z n0 h0) (cs : Int32) (Scs : Sta Z Z.heap "java/lang/String" "COMPACT_STRINGS" "Z" (.int cs)) (hcs : ¬ cs = 0) (Z0 : n0 ≤ h0.size) (b : Addr) (Eb : Exa Z h0 b "java/lang/StringBuilder") (Fv : Fld Z h0 b "java/lang/AbstractStringBuilder" "value" "[B" .null) (Fc : Fld Z h0 b "java/lang/AbstractStringBuilder" "coder" "B" (.int 0)) (Fn : Fld Z h0 b "java/lang/AbstractStringBuilder" "count" "I" (.int 0)) (g_b : n0 ≤ b) :
    own_Met l Z (⟨"java/lang/AbstractStringBuilder", "<init>", "(I)V"⟩ : MethodName) jdk_68_method_2_code 2 none ws ({ frames := 1, cells := 1, slots := 16, locals := 12 } : Room) #[(.ref b), (.int (16 : Int32))] h0 (own_QI Z h0 n0 b) := by
  refine own_met rj_asInit_pn ?_
  intro pP eE sS mI bB mT cC s₁ hx hby hml hown hnm hret hlk hZ X0 e0
  replace hown : sS.vm.findClass "java/lang/AbstractStringBuilder" = some mI.cls := hown
  refine own_cast (rj_asInit_ef mI b) ?_
  refine own_go (T' := s₁) (g' := (mkF mI 1 #[.val (.ref b), .val (.int (16 : Int32))] [(.ref b)])) (fun t_ kt_ => XS.aloadN X0.here hx rfl (hb hby d3_0) rfl rfl kt_) ?_
  obtain ⟨Tx1, Xx1, ex1, stx1⟩ := initO X0 hx hZ hown (hw _ (List.mem_of_getElem? (i := 16) rfl)) (hw _ (List.mem_of_getElem? (i := 17) rfl)) (hw _ (List.mem_of_getElem? (i := 18) rfl)) e0 (g := (mkF mI 1 #[.val (.ref b), .val (.int (16 : Int32))] [(.ref b)])) rfl (by rw [hml]; rfl) rfl (hb hby d3_1) (by decide) (W := 0) (by show 2 * 0 + _ ≤ _; exact Nat.le_of_eq rfl) (by decide)
  refine own_go (T' := Tx1) (g' := (mkF mI 4 #[.val (.ref b), .val (.int (16 : Int32))] [])) (fun t_ kt_ => stx1 _ kt_) ?_
  obtain ⟨Tx2, Xx2, ex2, stx2⟩ := getS2 Xx1 hx hZ hown (host := "") (Or.inl (hw _ (List.mem_of_getElem? (i := 19) rfl))) Via.refl ex1 (Sta.ext O.2 Scs) (g := (mkF mI 4 #[.val (.ref b), .val (.int (16 : Int32))] [])) rfl (hb hby d3_4)
  refine own_go (T' := Tx2) (g' := (mkF mI 7 #[.val (.ref b), .val (.int (16 : Int32))] [(.int cs)])) (fun t_ kt_ => stx2 _ kt_) ?_
  refine own_go (T' := Tx2) (g' := (mkF mI 10 #[.val (.ref b), .val (.int (16 : Int32))] [])) (fun t_ kt_ => XS.ifNo Xx2.here hx rfl (hb hby d3_7) rfl ((if0 _ _).trans (feq (hcs : ¬ (cs = (0 : Int32)))).1) kt_) ?_
  refine own_go (T' := Tx2) (g' := (mkF mI 11 #[.val (.ref b), .val (.int (16 : Int32))] [(.ref b)])) (fun t_ kt_ => XS.aloadN Xx2.here hx rfl (hb hby d3_10) rfl rfl kt_) ?_
  refine own_go (T' := Tx2) (g' := (mkF mI 12 #[.val (.ref b), .val (.int (16 : Int32))] [(.int (16 : Int32)), (.ref b)])) (fun t_ kt_ => XS.iloadN Xx2.here hx rfl (hb hby d3_11) rfl kt_) ?_
  obtain ⟨Tx3, hx3, kx3, Xx3, ex3, Exx3, Ax3, Ecx3, stx3⟩ := newPE Xx2 hx hZ (hw _ (List.mem_of_getElem? (i := 21) rfl)) ex2 (g := (mkF mI 12 #[.val (.ref b), .val (.int (16 : Int32))] [(.int (16 : Int32)), (.ref b)])) rfl (hb hby d3_12) rfl (by decide) (cap := 16) (by decide) (by decide) (by decide) (by decide) (ad := "[B") (by decide)
  obtain ⟨bx3, gx3⟩ : ∃ z, z = h0.size := ⟨_, rfl⟩
  rw [← gx3] at Ax3 Ecx3 stx3
  have ne_b_bx3 : b ≠ bx3 := Nat.ne_of_lt (Nat.lt_of_lt_of_le (Fv.lt) (Nat.le_of_eq gx3.symm))
  have g_bx3 : n0 ≤ bx3 := Nat.le_trans Z0 (Nat.le_of_eq gx3.symm)
  have sz_bx3 : h0.size ≤ bx3 := Nat.le_trans (Keep.refl h0 [b]).1 (Nat.le_of_eq gx3.symm)
  have Fx4 := Fld.ext Exx3 Fv
  have Fx5 := Fld.ext Exx3 Fc
  have Fx6 := Fld.ext Exx3 Fn
  have Ex7 := Exa.ext Exx3 Eb
  have Zx10 : n0 ≤ hx3.size := Nat.le_trans Z0 Exx3.1
  have Kx11 : Keep h0 hx3 [b] := (Keep.refl h0 [b]).ext Exx3
  have Ox12 : Old Z n0 hx3 := Old.ext O Exx3
  have Vx3 : Arv Z hx3 bx3 kx3 .byte (16 : Int32) [] (.int (0 : Int32)) := Arv.new Ax3 (by decide)
  refine own_go (T' := Tx3) (g' := (mkF mI 14 #[.val (.ref b), .val (.int (16 : Int32))] [(.ref bx3), (.ref b)])) (fun t_ kt_ => stx3 _ kt_) ?_
  obtain ⟨Tx13, hx13, Xx13, ex13, Wx13, stx13⟩ := putF Xx3 hx hZ hown (host := "") (Or.inl (hw _ (List.mem_of_getElem? (i := 22) rfl))) Via.refl ex3 Fx4 Ex7 (Or.inl (hw _ (List.mem_of_getElem? (i := 23) rfl))) (hw _ (List.mem_of_getElem? (i := 5) rfl)) (ty := (.array .byte)) (by decide) rfl rfl (g := (mkF mI 14 #[.val (.ref b), .val (.int (16 : Int32))] [(.ref bx3), (.ref b)])) rfl rfl (hb hby d3_14)
  have Fwx13 : Fld Z hx13 b "java/lang/AbstractStringBuilder" "value" "[B" (.ref bx3) := Fld.same Wx13 Fx4
  have Fx14 := Fld.other Wx13 Fx5 (Or.inr (slot_ne (Or.inl (hw _ (List.mem_of_getElem? (i := 25) rfl))) (Or.inl (hw _ (List.mem_of_getElem? (i := 23) rfl))) (by decide) (t := .byte) (t' := (.array .byte)) (by decide) (by decide)))
  have Fx15 := Fld.other Wx13 Fx6 (Or.inr (slot_ne (Or.inl (hw _ (List.mem_of_getElem? (i := 56) rfl))) (Or.inl (hw _ (List.mem_of_getElem? (i := 23) rfl))) (by decide) (t := .int) (t' := (.array .byte)) (by decide) (by decide)))
  have Ex16 := Exa.wr Wx13 Ex7
  have Ex17 := Exa.wr Wx13 Ecx3
  have Vx20 := Arv.other Vx3 Wx13 (Ne.symm ne_b_bx3)
  have Zx21 : n0 ≤ hx13.size := Nat.le_trans Zx10 (Nat.le_of_eq (Wr.size Wx13).symm)
  have Kx22 : Keep h0 hx13 [b] := Kx11.wr Wx13 (Or.inl (List.mem_of_getElem? (i := 0) rfl))
  have Ox23 : Old Z n0 hx13 := Old.wr Ox12 Wx13 g_b
  have Nx13 := Fr.snoc Xx13 (Fr.nil n0) g_b
  refine own_go (T' := Tx13) (g' := (mkF mI 17 #[.val (.ref b), .val (.int (16 : Int32))] [])) (fun t_ kt_ => stx13 _ kt_) ?_
  refine own_go (T' := Tx13) (g' := (mkF mI 18 #[.val (.ref b), .val (.int (16 : Int32))] [(.ref b)])) (fun t_ kt_ => XS.aloadN Xx13.here hx rfl (hb hby d3_17) rfl rfl kt_) ?_
  refine own_go (T' := Tx13) (g' := (mkF mI 19 #[.val (.ref b), .val (.int (16 : Int32))] [(.int (0 : Int32)), (.ref b)])) (fun t_ kt_ => XS.iconst Xx13.here hx rfl (hb hby d3_18) kt_) ?_
  obtain ⟨Tx24, hx24, Xx24, ex24, Wx24, stx24⟩ := putFN Xx13 hx hZ hown (hw _ (List.mem_of_getElem? (i := 24) rfl)) Via.refl ex13 Fx14 Ex16 (Or.inl (hw _ (List.mem_of_getElem? (i := 25) rfl))) (hw _ (List.mem_of_getElem? (i := 5) rfl)) (ty := .byte) (v' := (.int (0 : Int32))) (by decide) rfl (by decide) (g := (mkF mI 19 #[.val (.ref b), .val (.int (16 : Int32))] [(.int (0 : Int32)), (.ref b)])) rfl rfl (hb hby d3_19)
  have Fwx24 : Fld Z hx24 b "java/lang/AbstractStringBuilder" "coder" "B" (.int (0 : Int32)) := Fld.same Wx24 Fx14
  have Fx25 := Fld.other Wx24 Fwx13 (Or.inr (slot_ne (Or.inl (hw _ (List.mem_of_getElem? (i := 23) rfl))) (Or.inl (hw _ (List.mem_of_getElem? (i := 25) rfl))) (by decide) (t := (.array .byte)) (t' := .byte) (by decide) (by decide)))
  have Fx26 := Fld.other Wx24 Fx15 (Or.inr (slot_ne (Or.inl (hw _ (List.mem_of_getElem? (i := 56) rfl))) (Or.inl (hw _ (List.mem_of_getElem? (i := 25) rfl))) (by decide) (t := .int) (t' := .byte) (by decide) (by decide)))
  have Ex27 := Exa.wr Wx24 Ex16
  have Ex28 := Exa.wr Wx24 Ex17
  have Vx31 := Arv.other Vx20 Wx24 (Ne.symm ne_b_bx3)
  have Zx32 : n0 ≤ hx24.size := Nat.le_trans Zx21 (Nat.le_of_eq (Wr.size Wx24).symm)
  have Kx33 : Keep h0 hx24 [b] := Kx22.wr Wx24 (Or.inl (List.mem_of_getElem? (i := 0) rfl))
  have Ox34 : Old Z n0 hx24 := Old.wr Ox23 Wx24 g_b
  have Nx24 := Fr.snoc Xx24 Nx13 g_b
  refine own_go (T' := Tx24) (g' := (mkF mI 22 #[.val (.ref b), .val (.int (16 : Int32))] [])) (fun t_ kt_ => stx24 _ kt_) ?_
  refine own_go (T' := Tx24) (g' := (mkF mI 38 #[.val (.ref b), .val (.int (16 : Int32))] [])) (fun t_ kt_ => XS.goto Xx24.here hx rfl (pc0 := 22) (pc' := 38) rfl (hb hby d3_22) (by decide) (by decide) kt_) ?_
  refine own_retV Xx24 hx hlk hret (hb hby d3_38) (by decide) (by decide) ?_
  exact by rw [ex24]; exact ⟨rfl, Nx24, Kx33, bx3, _, ⟨Ex27, Fx25, Fwx24, Fx26, Vx31, Ex28⟩, sz_bx3⟩
theorem d2_0 : decode jdk_67_method_1_code 0 = .ok (.aload_n 0, 1) := by decide +kernel
theorem d2_1 : decode jdk_67_method_1_code 1 = .ok (.bipush 16, 2) := by decide +kernel
theorem d2_3 : decode jdk_67_method_1_code 3 = .ok (.invokespecial 1, 3) := by decide +kernel
theorem d2_6 : decode jdk_67_method_1_code 6 = .ok (.return_, 1) := by decide +kernel
theorem rj_sbInit_pn : plainFor (⟨"java/lang/StringBuilder", "<init>", "()V"⟩ : MethodName) = true := plainFor_of_name (show plainName "java/lang/StringBuilder" = true by first | (simp [plainName, overriddenIn]; done) | decide +kernel)
theorem rj_sbInit_ef (mI : MethodId) (b : Addr) : entryFrame mI #[(.ref b)] 1 = mkF mI 0 #[.val (.ref b)] [] := by first | (simp [entryFrame, mkF, argsToLocals, Value.category]; done) | rfl
set_option maxRecDepth 65536 in
set_option maxHeartbeats 40000000 in
theorem rj_sbInit (l : Launch) (Z : State) (a0 : Array Value) (hw : ∀ d ∈ tables_1, d.before a0 Z = true) (ws : List Jvm.Cond) (h0 : Heap) (n0 : Nat) (O : Old Z n0 h0) (cs : Int32) (Scs : Sta Z Z.heap "java/lang/String" "COMPACT_STRINGS" "Z" (.int cs)) (hcs : ¬ cs = 0) (Z0 : n0 ≤ h0.size) (b : Addr) (Eb : Exa Z h0 b "java/lang/StringBuilder") (Fv : Fld Z h0 b "java/lang/AbstractStringBuilder" "value" "[B" .null) (Fc : Fld Z h0 b "java/lang/AbstractStringBuilder" "coder" "B" (.int 0)) (Fn : Fld Z h0 b "java/lang/AbstractStringBuilder" "count" "I" (.int 0)) (g_b : n0 ≤ b) :
    own_Met l Z (⟨"java/lang/StringBuilder", "<init>", "()V"⟩ : MethodName) jdk_67_method_1_code 1 none ws ({ frames := 2, cells := 1, slots := 16, locals := 25 } : Room) #[(.ref b)] h0 (own_QI Z h0 n0 b) := by
  refine own_met rj_sbInit_pn ?_
  intro pP eE sS mI bB mT cC s₁ hx hby hml hown hnm hret hlk hZ X0 e0
  replace hown : sS.vm.findClass "java/lang/StringBuilder" = some mI.cls := hown
  refine own_cast (rj_sbInit_ef mI b) ?_
  refine own_go (T' := s₁) (g' := (mkF mI 1 #[.val (.ref b)] [(.ref b)])) (fun t_ kt_ => XS.aloadN X0.here hx rfl (hb hby d2_0) rfl rfl kt_) ?_
  refine own_go (T' := s₁) (g' := (mkF mI 3 #[.val (.ref b)] [(.int (16 : Int32)), (.ref b)])) (fun t_ kt_ => XS.bipush X0.here hx rfl (hb hby d2_1) kt_) ?_
  refine own_callI own_closed X0 hx hZ (y := (⟨"java/lang/AbstractStringBuilder", "<init>", "(I)V"⟩ : MethodName)) rfl hown (hw _ (List.mem_of_getElem? (i := 10) rfl)) (hw _ (List.mem_of_getElem? (i := 11) rfl)) (by decide) (rj_asInit l Z a0 hw [] h0 n0 O cs Scs hcs Z0 b Eb Fv Fc Fn g_b) (hw _ (List.mem_of_getElem? (i := 15) rfl)) (hw _ (List.mem_of_getElem? (i := 14) rfl)) (b := b) e0 (pc := 3) (Ls := #[.val (.ref b)]) (argsL := [(.int (16 : Int32))]) (rest := []) (by rw [hml]; rfl) (lenOf pd_12 rfl) (W := 0) (Nat.le_of_eq rfl) (by decide) (by decide) (by decide) (by decide) (hb hby d2_3) rfl rfl ?_
  intro Ty1 Ly1 vy1 Xy1 hQy1
  obtain ⟨rfl, Ny1, Ky1, Ry1⟩ := hQy1
  show own_Ends pP eE bB sS _ _ Ty1 (mkF mI 6 #[.val (.ref b)] [])
  refine own_retV Xy1 hx hlk hret (hb hby d2_6) (by decide) (by decide) ?_
  exact ⟨rfl, Fr.app (Fr.nil n0) Ny1, Ky1, Ry1⟩
theorem d31_0 : decode jdk_65_method_131_code 0 = .ok (.iload_n 1, 1) := by decide +kernel
theorem d31_1 : decode jdk_65_method_131_code 1 = .ok (.iload_n 0, 1) := by decide +kernel
theorem d31_2 : decode jdk_65_method_131_code 2 = .ok (.if_icmp .ge 35, 3) := by decide +kernel
theorem d31_37 : decode jdk_65_method_131_code 37 = .ok (.return_, 1) := by decide +kernel
theorem rj_chkLen_pn : plainFor (⟨"java/util/Arrays", "checkLength", "(II)V"⟩ : MethodName) = true := plainFor_of_name (show plainName "java/util/Arrays" = true by first | (simp [plainName, overriddenIn]; done) | decide +kernel)
theorem rj_chkLen_ef (mI : MethodId) (i : Int32) (j : Int32) : entryFrame mI #[(.int i), (.int j)] 2 = mkF mI 0 #[.val (.int i), .val (.int j)] [] := by first | (simp [entryFrame, mkF, argsToLocals, Value.category]; done) | rfl
set_option maxRecDepth 65536 in
set_option maxHeartbeats 40000000 in
theorem rj_chkLen (l : Launch) (Z : State) (a0 : Array Value) (hw : ∀ d ∈ tables_1, d.before a0 Z = true) (ws : List Jvm.Cond) (h0 : Heap) (i j : Int32) (hij : ¬ j < i) :
    own_Met l Z (⟨"java/util/Arrays", "checkLength", "(II)V"⟩ : MethodName) jdk_65_method_131_code 2 none ws ({ frames := 0, cells := 0, slots := 0, locals := 0 } : Room) #[(.int i), (.int j)] h0 (own_QP h0 none) := by
  refine own_met rj_chkLen_pn ?_
  intro pP eE sS mI bB mT cC s₁ hx hby hml hown hnm hret hlk hZ X0 e0
  replace hown : sS.vm.findClass "java/util/Arrays" = some mI.cls := hown
  refine own_cast (rj_chkLen_ef mI i j) ?_
  refine own_go (T' := s₁) (g' := (mkF mI 1 #[.val (.int i), .val (.int j)] [(.int j)])) (fun t_ kt_ => XS.iloadN X0.here hx rfl (hb hby d31_0) rfl kt_) ?_
  refine own_go (T' := s₁) (g' := (mkF mI 2 #[.val (.int i), .val (.int j)] [(.int i), (.int j)])) (fun t_ kt_ => XS.iloadN X0.here hx rfl (hb hby d31_1) rfl kt_) ?_
  refine own_go (T' := s₁) (g' := (mkF mI 37 #[.val (.int i), .val (.int j)] [])) (fun t_ kt_ => XS.icmpYes X0.here hx rfl (pc0 := 2) (pc' := 37) rfl (hb hby d31_2) rfl (flt (hij : ¬ (j < i))).2.1 (by decide) (by decide) kt_) ?_
  refine own_retV X0 hx hlk hret (hb hby d31_37) (by decide) (by decide) ?_
  exact ⟨rfl, rfl, e0⟩
theorem d30_0 : decode jdk_65_method_133_code 0 = .ok (.iload_n 1, 1) := by decide +kernel
theorem d30_1 : decode jdk_65_method_133_code 1 = .ok (.iload_n 2, 1) := by decide +kernel
theorem d30_2 : decode jdk_65_method_133_code 2 = .ok (.invokestatic 343, 3) := by decide +kernel
theorem d30_5 : decode jdk_65_method_133_code 5 = .ok (.iload_n 2, 1) := by decide +kernel
theorem d30_6 : decode jdk_65_method_133_code 6 = .ok (.iload_n 1, 1) := by decide +kernel
theorem d30_7 : decode jdk_65_method_133_code 7 = .ok (.isub, 1) := by decide +kernel
theorem d30_8 : decode jdk_65_method_133_code 8 = .ok (.istore_n 3, 1) := by decide +kernel
theorem d30_9 : decode jdk_65_method_133_code 9 = .ok (.iload_n 3, 1) := by decide +kernel
theorem d30_10 : decode jdk_65_method_133_code 10 = .ok (.newarray .byte, 2) := by decide +kernel
theorem d30_12 : decode jdk_65_method_133_code 12 = .ok (.astore 4, 2) := by decide +kernel
theorem d30_14 : decode jdk_65_method_133_code 14 = .ok (.aload_n 0, 1) := by decide +kernel
theorem d30_15 : decode jdk_65_method_133_code 15 = .ok (.iload_n 1, 1) := by decide +kernel
theorem d30_16 : decode jdk_65_method_133_code 16 = .ok (.aload 4, 2) := by decide +kernel
theorem d30_18 : decode jdk_65_method_133_code 18 = .ok (.iconst 0, 1) := by decide +kernel
theorem d30_19 : decode jdk_65_method_133_code 19 = .ok (.aload_n 0, 1) := by decide +kernel
theorem d30_20 : decode jdk_65_method_133_code 20 = .ok (.arraylength, 1) := by decide +kernel
theorem d30_21 : decode jdk_65_method_133_code 21 = .ok (.iload_n 1, 1) := by decide +kernel
theorem d30_22 : decode jdk_65_method_133_code 22 = .ok (.isub, 1) := by decide +kernel
theorem d30_23 : decode jdk_65_method_133_code 23 = .ok (.iload_n 3, 1) := by decide +kernel
theorem d30_24 : decode jdk_65_method_133_code 24 = .ok (.invokestatic 304, 3) := by decide +kernel
theorem d30_27 : decode jdk_65_method_133_code 27 = .ok (.invokestatic 150, 3) := by decide +kernel
theorem d30_30 : decode jdk_65_method_133_code 30 = .ok (.aload 4, 2) := by decide +kernel
theorem d30_32 : decode jdk_65_method_133_code 32 = .ok (.areturn, 1) := by decide +kernel
theorem rj_crb_pn : plainFor (⟨"java/util/Arrays", "copyOfRangeByte", "([BII)[B"⟩ : MethodName) = true := plainFor_of_name (show plainName "java/util/Arrays" = true by first | (simp [plainName, overriddenIn]; done) | decide +kernel)
theorem rj_crb_ef (mI : MethodId) (d : Addr) (n : Int32) : entryFrame mI #[(.ref d), (.int (0 : Int32)), (.int n)] 5 = mkF mI 0 #[.val (.ref d), .val (.int (0 : Int32)), .val (.int n), .unset, .unset] [] := by first | (simp [entryFrame, mkF, argsToLocals, Value.category]; done) | rfl
set_option maxRecDepth 65536 in
set_option maxHeartbeats 40000000 in
theorem rj_crb (l : Launch) (Z : State) (a0 : Array Value) (hw : ∀ d ∈ tables_1, d.before a0 Z = true) (ws : List Jvm.Cond) (h0 : Heap) (n0 : Nat) (Z0 : n0 ≤ h0.size) (d : Addr) (n : Int32) (k : ClassId) (z : Int32) (vs : List Value) (V : Arv Z h0 d k .byte z vs (.int 0)) (hvn : vs.length = n.toNatClampNeg) (hn0 : ¬ n < 0) (hn1 : n.toNatClampNeg ≤ 300) (hnz : n < z) :
    own_Met l Z (⟨"java/util/Arrays", "copyOfRangeByte", "([BII)[B"⟩ : MethodName) jdk_65_method_133_code 5 (some (.array .byte)) ws ({ frames := 1, cells := 1, slots := 300, locals := 18 } : Room) #[(.ref d), (.int (0 : Int32)), (.int n)] h0 (own_QF Z h0 n0 n vs) := by
  refine own_met rj_crb_pn ?_
  intro pP eE sS mI bB mT cC s₁ hx hby hml hown hnm hret hlk hZ X0 e0
  replace hown : sS.vm.findClass "java/util/Arrays" = some mI.cls := hown
  refine own_cast (rj_crb_ef mI d n) ?_
  have hnz' : n.toNatClampNeg < z.toNatClampNeg := own_ltN (Int32.lt_iff_toInt_lt.mp hnz) hn0
  refine own_go (T' := s₁) (g' := (mkF mI 1 #[.val (.ref d), .val (.int (0 : Int32)), .val (.int n), .unset, .unset] [(.int (0 : Int32))])) (fun t_ kt_ => XS.iloadN X0.here hx rfl (hb hby d30_0) rfl kt_) ?_
  refine own_go (T' := s₁) (g' := (mkF mI 2 #[.val (.ref d), .val (.int (0 : Int32)), .val (.int n), .unset, .unset] [(.int n), (.int (0 : Int32))])) (fun t_ kt_ => XS.iloadN X0.here hx rfl (hb hby d30_1) rfl kt_) ?_
  refine own_callS own_closed X0 hx hZ (y := (⟨"java/util/Arrays", "checkLength", "(II)V"⟩ : MethodName)) hown (hw _ (List.mem_of_getElem? (i := 171) rfl)) (hw _ (List.mem_of_getElem? (i := 172) rfl)) (by decide) (rj_chkLen l Z a0 hw [] h0 (0 : Int32) n hn0) (hw _ (List.mem_of_getElem? (i := 173) rfl)) (hw _ (List.mem_of_getElem? (i := 126) rfl)) e0 (pc := 2) (Ls := #[.val (.ref d), .val (.int (0 : Int32)), .val (.int n), .unset, .unset]) (argsL := [(.int (0 : Int32)), (.int n)]) (rest := []) (by rw [hml]; rfl) (lenOf pd_2 rfl) (W := 0) (Nat.le_of_eq rfl) (by decide) (by decide) (by decide) (by decide) (hb hby d30_2) rfl rfl ?_
  intro TA1 LA1 vA1 XA1 hQA1
  obtain ⟨rfl, rfl, eA1⟩ := hQA1
  show own_Ends pP eE bB sS _ _ TA1 (mkF mI 5 #[.val (.ref d), .val (.int (0 : Int32)), .val (.int n), .unset, .unset] [])
  refine own_go (T' := TA1) (g' := (mkF mI 6 #[.val (.ref d), .val (.int (0 : Int32)), .val (.int n), .unset, .unset] [(.int n)])) (fun t_ kt_ => XS.iloadN XA1.here hx rfl (hb hby d30_5) rfl kt_) ?_
  refine own_go (T' := TA1) (g' := (mkF mI 7 #[.val (.ref d), .val (.int (0 : Int32)), .val (.int n), .unset, .unset] [(.int (0 : Int32)), (.int n)])) (fun t_ kt_ => XS.iloadN XA1.here hx rfl (hb hby d30_6) rfl kt_) ?_
  refine own_go (T' := TA1) (g' := (mkF mI 8 #[.val (.ref d), .val (.int (0 : Int32)), .val (.int n), .unset, .unset] [(.int (n - (0 : Int32)))])) (fun t_ kt_ => XS.isub XA1.here hx rfl (hb hby d30_7) rfl kt_) ?_
  rw [own_sub0]
  refine own_go (T' := TA1) (g' := (mkF mI 9 #[.val (.ref d), .val (.int (0 : Int32)), .val (.int n), .val (.int n), .unset] [])) (fun t_ kt_ => XS.istoreN XA1.here hx rfl (hb hby d30_8) rfl (l' := #[.val (.ref d), .val (.int (0 : Int32)), .val (.int n), .val (.int n), .unset]) rfl kt_) ?_
  refine own_go (T' := TA1) (g' := (mkF mI 10 #[.val (.ref d), .val (.int (0 : Int32)), .val (.int n), .val (.int n), .unset] [(.int n)])) (fun t_ kt_ => XS.iloadN XA1.here hx rfl (hb hby d30_9) rfl kt_) ?_
  obtain ⟨TA2, hA2, kA2, XA2, eA2, ExA2, AA2, EcA2, stA2⟩ := newPE XA1 hx hZ (hw _ (List.mem_of_getElem? (i := 21) rfl)) eA1 (g := (mkF mI 10 #[.val (.ref d), .val (.int (0 : Int32)), .val (.int n), .val (.int n), .unset] [(.int n)])) rfl (hb hby d30_10) rfl hn0 (cap := 300) hn1 (by decide) (by decide) (by decide) (ad := "[B") (by decide)
  obtain ⟨bA2, gA2⟩ : ∃ z, z = h0.size := ⟨_, rfl⟩
  rw [← gA2] at AA2 EcA2 stA2
  have ne_d_bA2 : d ≠ bA2 := Nat.ne_of_lt (Nat.lt_of_lt_of_le (V.lt) (Nat.le_of_eq gA2.symm))
  have g_bA2 : n0 ≤ bA2 := Nat.le_trans Z0 (Nat.le_of_eq gA2.symm)
  have sz_bA2 : h0.size ≤ bA2 := Nat.le_trans (Keep.refl h0 []).1 (Nat.le_of_eq gA2.symm)
  have VA3 := Arv.ext V ExA2
  have ZA4 : n0 ≤ hA2.size := Nat.le_trans Z0 ExA2.1
  have KA5 : Keep h0 hA2 [] := (Keep.refl h0 []).ext ExA2
  have VA2 : Arv Z hA2 bA2 kA2 .byte n [] (.int (0 : Int32)) := Arv.new AA2 hn0
  refine own_go (T' := TA2) (g' := (mkF mI 12 #[.val (.ref d), .val (.int (0 : Int32)), .val (.int n), .val (.int n), .unset] [(.ref bA2)])) (fun t_ kt_ => stA2 _ kt_) ?_
  refine own_go (T' := TA2) (g' := (mkF mI 14 #[.val (.ref d), .val (.int (0 : Int32)), .val (.int n), .val (.int n), .val (.ref bA2)] [])) (fun t_ kt_ => XS.astore XA2.here hx rfl (hb hby d30_12) rfl rfl (l' := #[.val (.ref d), .val (.int (0 : Int32)), .val (.int n), .val (.int n), .val (.ref bA2)]) rfl kt_) ?_
  refine own_go (T' := TA2) (g' := (mkF mI 15 #[.val (.ref d), .val (.int (0 : Int32)), .val (.int n), .val (.int n), .val (.ref bA2)] [(.ref d)])) (fun t_ kt_ => XS.aloadN XA2.here hx rfl (hb hby d30_14) rfl rfl kt_) ?_
  refine own_go (T' := TA2) (g' := (mkF mI 16 #[.val (.ref d), .val (.int (0 : Int32)), .val (.int n), .val (.int n), .val (.ref bA2)] [(.int (0 : Int32)), (.ref d)])) (fun t_ kt_ => XS.iloadN XA2.here hx rfl (hb hby d30_15) rfl kt_) ?_
  refine own_go (T' := TA2) (g' := (mkF mI 18 #[.val (.ref d), .val (.int (0 : Int32)), .val (.int n), .val (.int n), .val (.ref bA2)] [(.ref bA2), (.int (0 : Int32)), (.ref d)])) (fun t_ kt_ => XS.aload XA2.here hx rfl (hb hby d30_16) rfl rfl kt_) ?_
  refine own_go (T' := TA2) (g' := (mkF mI 19 #[.val (.ref d), .val (.int (0 : Int32)), .val (.int n), .val (.int n), .val (.ref bA2)] [(.int (0 : Int32)), (.ref bA2), (.int (0 : Int32)), (.ref d)])) (fun t_ kt_ => XS.iconst XA2.here hx rfl (hb hby d30_18) kt_) ?_
  refine own_go (T' := TA2) (g' := (mkF mI 20 #[.val (.ref d), .val (.int (0 : Int32)), .val (.int n), .val (.int n), .val (.ref bA2)] [(.ref d), (.int (0 : Int32)), (.ref bA2), (.int (0 : Int32)), (.ref d)])) (fun t_ kt_ => XS.aloadN XA2.here hx rfl (hb hby d30_19) rfl rfl kt_) ?_
  obtain ⟨clA6, ArA6, qA6, SA6, NgA6, HA6, GA6⟩ := id VA3
  refine own_go (T' := TA2) (g' := (mkF mI 21 #[.val (.ref d), .val (.int (0 : Int32)), .val (.int n), .val (.int n), .val (.ref bA2)] [(.int z), (.int (0 : Int32)), (.ref bA2), (.int (0 : Int32)), (.ref d)])) (fun t_ kt_ => own_len XA2 hx hZ eA2 ArA6 (len_of SA6 NgA6) (g := (mkF mI 20 #[.val (.ref d), .val (.int (0 : Int32)), .val (.int n), .val (.int n), .val (.ref bA2)] [(.ref d), (.int (0 : Int32)), (.ref bA2), (.int (0 : Int32)), (.ref d)])) rfl rfl (hb hby d30_20) _ kt_) ?_
  refine own_go (T' := TA2) (g' := (mkF mI 22 #[.val (.ref d), .val (.int (0 : Int32)), .val (.int n), .val (.int n), .val (.ref bA2)] [(.int (0 : Int32)), (.int z), (.int (0 : Int32)), (.ref bA2), (.int (0 : Int32)), (.ref d)])) (fun t_ kt_ => XS.iloadN XA2.here hx rfl (hb hby d30_21) rfl kt_) ?_
  refine own_go (T' := TA2) (g' := (mkF mI 23 #[.val (.ref d), .val (.int (0 : Int32)), .val (.int n), .val (.int n), .val (.ref bA2)] [(.int (z - (0 : Int32))), (.int (0 : Int32)), (.ref bA2), (.int (0 : Int32)), (.ref d)])) (fun t_ kt_ => XS.isub XA2.here hx rfl (hb hby d30_22) rfl kt_) ?_
  rw [own_sub0]
  refine own_go (T' := TA2) (g' := (mkF mI 24 #[.val (.ref d), .val (.int (0 : Int32)), .val (.int n), .val (.int n), .val (.ref bA2)] [(.int n), (.int z), (.int (0 : Int32)), (.ref bA2), (.int (0 : Int32)), (.ref d)])) (fun t_ kt_ => XS.iloadN XA2.here hx rfl (hb hby d30_23) rfl kt_) ?_
  refine own_callS own_closed XA2 hx hZ (y := (⟨"java/lang/Math", "min", "(II)I"⟩ : MethodName)) hown (hw _ (List.mem_of_getElem? (i := 128) rfl)) (hw _ (List.mem_of_getElem? (i := 129) rfl)) (by decide) (rj_min l Z a0 hw [] hA2 z n) (hw _ (List.mem_of_getElem? (i := 130) rfl)) (hw _ (List.mem_of_getElem? (i := 120) rfl)) eA2 (pc := 24) (Ls := #[.val (.ref d), .val (.int (0 : Int32)), .val (.int n), .val (.int n), .val (.ref bA2)]) (argsL := [(.int z), (.int n)]) (rest := [(.int (0 : Int32)), (.ref bA2), (.int (0 : Int32)), (.ref d)]) (by rw [hml]; rfl) (lenOf pd_5 rfl) (W := 4) (Nat.le_of_eq rfl) (by decide) (by decide) (by decide) (by decide) (hb hby d30_24) rfl rfl ?_
  intro TA7 LA7 vA7 XA7 hQA7
  obtain ⟨qA7, rfl, eA7⟩ := hQA7
  rw [show own_min z n = n by simp [own_min, hnz]] at qA7; subst qA7
  show own_Ends pP eE bB sS _ _ TA7 (mkF mI 27 #[.val (.ref d), .val (.int (0 : Int32)), .val (.int n), .val (.int n), .val (.ref bA2)] [(.int n), (.int (0 : Int32)), (.ref bA2), (.int (0 : Int32)), (.ref d)])
  have VpA8 : Arv Z hA2 bA2 kA2 .byte n (List.replicate n.toNatClampNeg (.int 0)) (.int 0) := Arv.pad VA2 (pad_rep [] _ _)
  obtain ⟨TA9, hA9, LA9, XA9, eA9, NA9, KcA9, VcA9, stA9⟩ := cpA XA7 hx hZ hown (hw _ (List.mem_of_getElem? (i := 131) rfl)) (hw _ (List.mem_of_getElem? (i := 81) rfl)) (hw _ (List.mem_of_getElem? (i := 79) rfl)) (hw _ (List.mem_of_getElem? (i := 80) rfl)) eA7 VA3 VpA8 (Or.inl ⟨rfl, rfl⟩) (by decide) (by decide) hn0 (by show 0 + _ ≤ _; omega) (by show 0 + _ ≤ _; omega) rfl (by rw [List.length_replicate]; show 0 + _ ≤ _; omega) (Fr.nil n0) g_bA2 (g := (mkF mI 27 #[.val (.ref d), .val (.int (0 : Int32)), .val (.int n), .val (.int n), .val (.ref bA2)] [(.int n), (.int (0 : Int32)), (.ref bA2), (.int (0 : Int32)), (.ref d)])) rfl (by rw [hml]; rfl) rfl (hb hby d30_27) (by decide) (W := 0) (by show 2 * 0 + _ ≤ _; exact Nat.le_of_eq rfl) (by decide)
  have VA9 : Arv Z hA9 bA2 kA2 .byte n vs (.int 0) := Arv.pad VcA9 (own_copyList rfl rfl (by omega))
  have EA10 := Exa.keep EcA2 KcA9
  have VA11 := Arv.keep VA3 KcA9 (ninS ne_d_bA2 nin0)
  have ZA12 : n0 ≤ hA9.size := Nat.le_trans ZA4 KcA9.1
  have KA13 : Keep h0 hA9 [] := KA5.trans KcA9 (allS (Or.inr sz_bA2) all0)
  refine own_go (T' := TA9) (g' := (mkF mI 30 #[.val (.ref d), .val (.int (0 : Int32)), .val (.int n), .val (.int n), .val (.ref bA2)] [])) (fun t_ kt_ => stA9 _ kt_) ?_
  refine own_go (T' := TA9) (g' := (mkF mI 32 #[.val (.ref d), .val (.int (0 : Int32)), .val (.int n), .val (.int n), .val (.ref bA2)] [(.ref bA2)])) (fun t_ kt_ => XS.aload XA9.here hx rfl (hb hby d30_30) rfl rfl kt_) ?_
  refine own_retA XA9 hx hlk hret rfl rfl (hb hby d30_32) (by decide) (by decide) ?_
  exact ⟨bA2, _, rfl, NA9, by rw [eA9]; exact KA13, sz_bA2, by rw [eA9]; exact ⟨VA9, EA10⟩⟩
theorem d29_0 : decode jdk_65_method_132_code 0 = .ok (.iload_n 1, 1) := by decide +kernel
theorem d29_1 : decode jdk_65_method_132_code 1 = .ok (.ifCond .ne 9, 3) := by decide +kernel
theorem d29_4 : decode jdk_65_method_132_code 4 = .ok (.iload_n 2, 1) := by decide +kernel
theorem d29_5 : decode jdk_65_method_132_code 5 = .ok (.aload_n 0, 1) := by decide +kernel
theorem d29_6 : decode jdk_65_method_132_code 6 = .ok (.arraylength, 1) := by decide +kernel
theorem d29_7 : decode jdk_65_method_132_code 7 = .ok (.if_icmp .eq 10, 3) := by decide +kernel
theorem d29_10 : decode jdk_65_method_132_code 10 = .ok (.aload_n 0, 1) := by decide +kernel
theorem d29_11 : decode jdk_65_method_132_code 11 = .ok (.iload_n 1, 1) := by decide +kernel
theorem d29_12 : decode jdk_65_method_132_code 12 = .ok (.iload_n 2, 1) := by decide +kernel
theorem d29_13 : decode jdk_65_method_132_code 13 = .ok (.invokestatic 339, 3) := by decide +kernel
theorem d29_16 : decode jdk_65_method_132_code 16 = .ok (.areturn, 1) := by decide +kernel
theorem d29_17 : decode jdk_65_method_132_code 17 = .ok (.aload_n 0, 1) := by decide +kernel
theorem d29_18 : decode jdk_65_method_132_code 18 = .ok (.invokevirtual 310, 3) := by decide +kernel
theorem d29_21 : decode jdk_65_method_132_code 21 = .ok (.checkcast 311, 3) := by decide +kernel
theorem d29_24 : decode jdk_65_method_132_code 24 = .ok (.areturn, 1) := by decide +kernel
theorem rj_cor_pn : plainFor (⟨"java/util/Arrays", "copyOfRange", "([BII)[B"⟩ : MethodName) = true := plainFor_of_name (show plainName "java/util/Arrays" = true by first | (simp [plainName, overriddenIn]; done) | decide +kernel)
theorem rj_cor_ef (mI : MethodId) (d : Addr) (n : Int32) : entryFrame mI #[(.ref d), (.int (0 : Int32)), (.int n)] 3 = mkF mI 0 #[.val (.ref d), .val (.int (0 : Int32)), .val (.int n)] [] := by first | (simp [entryFrame, mkF, argsToLocals, Value.category]; done) | rfl
set_option maxRecDepth 65536 in
set_option maxHeartbeats 40000000 in
theorem rj_cor (l : Launch) (Z : State) (a0 : Array Value) (hw : ∀ d ∈ tables_1, d.before a0 Z = true) (ws : List Jvm.Cond) (h0 : Heap) (n0 : Nat) (Z0 : n0 ≤ h0.size) (d : Addr) (n : Int32) (k : ClassId) (z : Int32) (vs : List Value) (V : Arv Z h0 d k .byte z vs (.int 0)) (hvn : vs.length = n.toNatClampNeg) (hn0 : ¬ n < 0) (hn1 : n.toNatClampNeg ≤ 300) (Ed : Exa Z h0 d "[B") (hzn : ¬ z < n) :
    own_Met l Z (⟨"java/util/Arrays", "copyOfRange", "([BII)[B"⟩ : MethodName) jdk_65_method_132_code 3 (some (.array .byte)) ws ({ frames := 2, cells := 1, slots := 300, locals := 34 } : Room) #[(.ref d), (.int (0 : Int32)), (.int n)] h0 (own_QF Z h0 n0 n vs) := by
  refine own_met rj_cor_pn ?_
  intro pP eE sS mI bB mT cC s₁ hx hby hml hown hnm hret hlk hZ X0 e0
  replace hown : sS.vm.findClass "java/util/Arrays" = some mI.cls := hown
  refine own_cast (rj_cor_ef mI d n) ?_
  refine own_go (T' := s₁) (g' := (mkF mI 1 #[.val (.ref d), .val (.int (0 : Int32)), .val (.int n)] [(.int (0 : Int32))])) (fun t_ kt_ => XS.iloadN X0.here hx rfl (hb hby d29_0) rfl kt_) ?_
  refine own_go (T' := s₁) (g' := (mkF mI 4 #[.val (.ref d), .val (.int (0 : Int32)), .val (.int n)] [])) (fun t_ kt_ => XS.ifNo X0.here hx rfl (hb hby d29_1) rfl ((if0 _ _).trans (teq (by decide : (0 : Int32) = (0 : Int32))).2) kt_) ?_
  refine own_go (T' := s₁) (g' := (mkF mI 5 #[.val (.ref d), .val (.int (0 : Int32)), .val (.int n)] [(.int n)])) (fun t_ kt_ => XS.iloadN X0.here hx rfl (hb hby d29_4) rfl kt_) ?_
  refine own_go (T' := s₁) (g' := (mkF mI 6 #[.val (.ref d), .val (.int (0 : Int32)), .val (.int n)] [(.ref d), (.int n)])) (fun t_ kt_ => XS.aloadN X0.here hx rfl (hb hby d29_5) rfl rfl kt_) ?_
  obtain ⟨clB1, ArB1, qB1, SB1, NgB1, HB1, GB1⟩ := id V
  refine own_go (T' := s₁) (g' := (mkF mI 7 #[.val (.ref d), .val (.int (0 : Int32)), .val (.int n)] [(.int z), (.int n)])) (fun t_ kt_ => own_len X0 hx hZ e0 ArB1 (len_of SB1 NgB1) (g := (mkF mI 6 #[.val (.ref d), .val (.int (0 : Int32)), .val (.int n)] [(.ref d), (.int n)])) rfl rfl (hb hby d29_6) _ kt_) ?_
  by_cases hc7_B2 : n = z
  · skip
    refine own_go (T' := s₁) (g' := (mkF mI 17 #[.val (.ref d), .val (.int (0 : Int32)), .val (.int n)] [])) (fun t_ kt_ => XS.icmpYes X0.here hx rfl (pc0 := 7) (pc' := 17) rfl (hb hby d29_7) rfl (teq hc7_B2).1 (by decide) (by decide) kt_) ?_
    refine own_go (T' := s₁) (g' := (mkF mI 18 #[.val (.ref d), .val (.int (0 : Int32)), .val (.int n)] [(.ref d)])) (fun t_ kt_ => XS.aloadN X0.here hx rfl (hb hby d29_17) rfl rfl kt_) ?_
    have EdB3 : Exa Z h0 d "[B" := Ed
    obtain ⟨TB3, hB3, XB3, eB3, ExB3, AB3, EcB3, stB3⟩ := cloneH X0 hx hZ hown (hw _ (List.mem_of_getElem? (i := 233) rfl)) (hw _ (List.mem_of_getElem? (i := 234) rfl)) (hw _ (List.mem_of_getElem? (i := 238) rfl)) (hw _ (List.mem_of_getElem? (i := 236) rfl)) (hw _ (List.mem_of_getElem? (i := 237) rfl)) (hw _ (List.mem_of_getElem? (i := 239) rfl)) e0 V.arh EdB3 (g := (mkF mI 18 #[.val (.ref d), .val (.int (0 : Int32)), .val (.int n)] [(.ref d)])) rfl (by rw [hml]; rfl) (rest := []) rfl (hb hby d29_18) (by decide) (W := 0) (cap := 300) (by show 2 * 0 + 0 ≤ 0; decide) (by decide) (by rw [← hc7_B2]; exact hn1) (by decide) (by decide)
    obtain ⟨bB3, gB3⟩ : ∃ z, z = h0.size := ⟨_, rfl⟩
    rw [← gB3] at AB3 EcB3 stB3
    refine own_go (T' := TB3) (g' := (mkF mI 21 #[.val (.ref d), .val (.int (0 : Int32)), .val (.int n)] [(.ref bB3)])) (fun t_ kt_ => stB3 _ kt_) ?_
    obtain ⟨TB5, XB5, eB5, stB5⟩ := castY XB3 hx hZ hown (hw _ (List.mem_of_getElem? (i := 240) rfl)) eB3 (Ins.self EcB3) (g := (mkF mI 21 #[.val (.ref d), .val (.int (0 : Int32)), .val (.int n)] [(.ref bB3)])) rfl rfl (hb hby d29_21)
    refine own_go (T' := TB5) (g' := (mkF mI 24 #[.val (.ref d), .val (.int (0 : Int32)), .val (.int n)] [(.ref bB3)])) (fun t_ kt_ => stB5 _ kt_) ?_
    refine own_retA XB5 hx hlk hret rfl rfl (hb hby d29_24) (by decide) (by decide) ?_
    exact by rw [eB5]; exact ⟨bB3, _, rfl, Fr.nil n0, (Keep.refl h0 []).ext ExB3, Nat.le_of_eq gB3.symm, by rw [hc7_B2]; exact ⟨AB3, EcB3⟩⟩
  · skip
    refine own_go (T' := s₁) (g' := (mkF mI 10 #[.val (.ref d), .val (.int (0 : Int32)), .val (.int n)] [])) (fun t_ kt_ => XS.icmpNo X0.here hx rfl (hb hby d29_7) rfl (feq hc7_B2).1 kt_) ?_
    refine own_go (T' := s₁) (g' := (mkF mI 11 #[.val (.ref d), .val (.int (0 : Int32)), .val (.int n)] [(.ref d)])) (fun t_ kt_ => XS.aloadN X0.here hx rfl (hb hby d29_10) rfl rfl kt_) ?_
    refine own_go (T' := s₁) (g' := (mkF mI 12 #[.val (.ref d), .val (.int (0 : Int32)), .val (.int n)] [(.int (0 : Int32)), (.ref d)])) (fun t_ kt_ => XS.iloadN X0.here hx rfl (hb hby d29_11) rfl kt_) ?_
    refine own_go (T' := s₁) (g' := (mkF mI 13 #[.val (.ref d), .val (.int (0 : Int32)), .val (.int n)] [(.int n), (.int (0 : Int32)), (.ref d)])) (fun t_ kt_ => XS.iloadN X0.here hx rfl (hb hby d29_12) rfl kt_) ?_
    refine own_callS own_closed X0 hx hZ (y := (⟨"java/util/Arrays", "copyOfRangeByte", "([BII)[B"⟩ : MethodName)) hown (hw _ (List.mem_of_getElem? (i := 168) rfl)) (hw _ (List.mem_of_getElem? (i := 169) rfl)) (by decide) (rj_crb l Z a0 hw [] h0 n0 Z0 d n k z vs V hvn hn0 hn1 (own_lt (by have q := hc7_B2; have q2 : ¬ n.toInt = z.toInt := fun u => q (Int32.toInt_inj.mp u); rw [Int32.lt_iff_toInt_lt] at hzn; omega))) (hw _ (List.mem_of_getElem? (i := 170) rfl)) (hw _ (List.mem_of_getElem? (i := 126) rfl)) e0 (pc := 13) (Ls := #[.val (.ref d), .val (.int (0 : Int32)), .val (.int n)]) (argsL := [(.ref d), (.int (0 : Int32)), (.int n)]) (rest := []) (by rw [hml]; rfl) (lenOf pd_15 rfl) (W := 0) (Nat.le_of_eq rfl) (by decide) (by decide) (by decide) (by decide) (hb hby d29_13) rfl rfl ?_
    intro TB6 LB6 vB6 XB6 hQB6
    obtain ⟨bB6, kbB6, rfl, NB6, KB6, hzB6, VB6, EdB6⟩ := hQB6
    show own_Ends pP eE bB sS _ _ TB6 (mkF mI 16 #[.val (.ref d), .val (.int (0 : Int32)), .val (.int n)] [(.ref bB6)])
    refine own_retA XB6 hx hlk hret rfl rfl (hb hby d29_16) (by decide) (by decide) ?_
    exact ⟨bB6, _, rfl, Fr.app (Fr.nil n0) NB6, KB6, hzB6, VB6, EdB6⟩
theorem d26_0 : decode jdk_68_method_64_code 0 = .ok (.aload_n 0, 1) := by decide +kernel
theorem d26_1 : decode jdk_68_method_64_code 1 = .ok (.getfield 15, 3) := by decide +kernel
theorem d26_4 : decode jdk_68_method_64_code 4 = .ok (.areturn, 1) := by decide +kernel
theorem rj_getv_pn : plainFor (⟨"java/lang/AbstractStringBuilder", "getValue", "()[B"⟩ : MethodName) = true := plainFor_of_name (show plainName "java/lang/AbstractStringBuilder" = true by first | (simp [plainName, overriddenIn]; done) | decide +kernel)
theorem rj_getv_ef (mI : MethodId) (b : Addr) : entryFrame mI #[(.ref b)] 1 = mkF mI 0 #[.val (.ref b)] [] := by first | (simp [entryFrame, mkF, argsToLocals, Value.category]; done) | rfl
set_option maxRecDepth 65536 in
set_option maxHeartbeats 40000000 in
theorem rj_getv (l : Launch) (Z : State) (a0 : Array Value) (hw : ∀ d ∈ tables_1, d.before a0 Z = true) (ws : List Jvm.Cond) (h0 : Heap) (b da : Addr) (F : Fld Z h0 b "java/lang/AbstractStringBuilder" "value" "[B" (.ref da)) :
    own_Met l Z (⟨"java/lang/AbstractStringBuilder", "getValue", "()[B"⟩ : MethodName) jdk_68_method_64_code 1 (some (.array .byte)) ws ({ frames := 0, cells := 0, slots := 0, locals := 0 } : Room) #[(.ref b)] h0 (own_QP h0 (some (.ref da))) := by
  refine own_met rj_getv_pn ?_
  intro pP eE sS mI bB mT cC s₁ hx hby hml hown hnm hret hlk hZ X0 e0
  replace hown : sS.vm.findClass "java/lang/AbstractStringBuilder" = some mI.cls := hown
  refine own_cast (rj_getv_ef mI b) ?_
  refine own_go (T' := s₁) (g' := (mkF mI 1 #[.val (.ref b)] [(.ref b)])) (fun t_ kt_ => XS.aloadN X0.here hx rfl (hb hby d26_0) rfl rfl kt_) ?_
  obtain ⟨TC1, XC1, eC1, stC1⟩ := getF X0 hx hZ hown (host := "") (Or.inl (hw _ (List.mem_of_getElem? (i := 22) rfl))) Via.refl e0 F (g := (mkF mI 1 #[.val (.ref b)] [(.ref b)])) rfl rfl (hb hby d26_1)
  refine own_go (T' := TC1) (g' := (mkF mI 4 #[.val (.ref b)] [(.ref da)])) (fun t_ kt_ => stC1 _ kt_) ?_
  refine own_retA XC1 hx hlk hret rfl rfl (hb hby d26_4) (by decide) (by decide) ?_
  exact ⟨rfl, rfl, eC1⟩
theorem d28_0 : decode jdk_68_method_6_code 0 = .ok (.aload_n 0, 1) := by decide +kernel
theorem d28_1 : decode jdk_68_method_6_code 1 = .ok (.getfield 79, 3) := by decide +kernel
theorem d28_4 : decode jdk_68_method_6_code 4 = .ok (.ireturn, 1) := by decide +kernel
theorem rj_asLen_pn : plainFor (⟨"java/lang/AbstractStringBuilder", "length", "()I"⟩ : MethodName) = true := plainFor_of_name (show plainName "java/lang/AbstractStringBuilder" = true by first | (simp [plainName, overriddenIn]; done) | decide +kernel)
theorem rj_asLen_ef (mI : MethodId) (b : Addr) : entryFrame mI #[(.ref b)] 1 = mkF mI 0 #[.val (.ref b)] [] := by first | (simp [entryFrame, mkF, argsToLocals, Value.category]; done) | rfl
set_option maxRecDepth 65536 in
set_option maxHeartbeats 40000000 in
theorem rj_asLen (l : Launch) (Z : State) (a0 : Array Value) (hw : ∀ d ∈ tables_1, d.before a0 Z = true) (ws : List Jvm.Cond) (h0 : Heap) (b : Addr) (n : Int32) (F : Fld Z h0 b "java/lang/AbstractStringBuilder" "count" "I" (.int n)) :
    own_Met l Z (⟨"java/lang/AbstractStringBuilder", "length", "()I"⟩ : MethodName) jdk_68_method_6_code 1 (some .int) ws ({ frames := 0, cells := 0, slots := 0, locals := 0 } : Room) #[(.ref b)] h0 (own_QP h0 (some (.int n))) := by
  refine own_met rj_asLen_pn ?_
  intro pP eE sS mI bB mT cC s₁ hx hby hml hown hnm hret hlk hZ X0 e0
  replace hown : sS.vm.findClass "java/lang/AbstractStringBuilder" = some mI.cls := hown
  refine own_cast (rj_asLen_ef mI b) ?_
  refine own_go (T' := s₁) (g' := (mkF mI 1 #[.val (.ref b)] [(.ref b)])) (fun t_ kt_ => XS.aloadN X0.here hx rfl (hb hby d28_0) rfl rfl kt_) ?_
  obtain ⟨TD1, XD1, eD1, stD1⟩ := getF X0 hx hZ hown (host := "") (Or.inl (hw _ (List.mem_of_getElem? (i := 55) rfl))) Via.refl e0 F (g := (mkF mI 1 #[.val (.ref b)] [(.ref b)])) rfl rfl (hb hby d28_1)
  refine own_go (T' := TD1) (g' := (mkF mI 4 #[.val (.ref b)] [(.int n)])) (fun t_ kt_ => stD1 _ kt_) ?_
  refine own_retI XD1 hx hlk hret (hb hby d28_4) (by decide) (by decide) ?_
  exact ⟨rfl, rfl, eD1⟩
theorem d27_0 : decode jdk_67_method_93_code 0 = .ok (.aload_n 0, 1) := by decide +kernel
theorem d27_1 : decode jdk_67_method_93_code 1 = .ok (.invokespecial 343, 3) := by decide +kernel
theorem d27_4 : decode jdk_67_method_93_code 4 = .ok (.ireturn, 1) := by decide +kernel
theorem rj_sbLen_pn : plainFor (⟨"java/lang/StringBuilder", "length", "()I"⟩ : MethodName) = true := plainFor_of_name (show plainName "java/lang/StringBuilder" = true by first | (simp [plainName, overriddenIn]; done) | decide +kernel)
theorem rj_sbLen_ef (mI : MethodId) (b : Addr) : entryFrame mI #[(.ref b)] 1 = mkF mI 0 #[.val (.ref b)] [] := by first | (simp [entryFrame, mkF, argsToLocals, Value.category]; done) | rfl
set_option maxRecDepth 65536 in
set_option maxHeartbeats 40000000 in
theorem rj_sbLen (l : Launch) (Z : State) (a0 : Array Value) (hw : ∀ d ∈ tables_1, d.before a0 Z = true) (ws : List Jvm.Cond) (h0 : Heap) (b : Addr) (n : Int32) (Eb : Exa Z h0 b "java/lang/StringBuilder") (F : Fld Z h0 b "java/lang/AbstractStringBuilder" "count" "I" (.int n)) :
    own_Met l Z (⟨"java/lang/StringBuilder", "length", "()I"⟩ : MethodName) jdk_67_method_93_code 1 (some .int) ws ({ frames := 1, cells := 0, slots := 0, locals := 12 } : Room) #[(.ref b)] h0 (own_QP h0 (some (.int n))) := by
  refine own_met rj_sbLen_pn ?_
  intro pP eE sS mI bB mT cC s₁ hx hby hml hown hnm hret hlk hZ X0 e0
  replace hown : sS.vm.findClass "java/lang/StringBuilder" = some mI.cls := hown
  refine own_cast (rj_sbLen_ef mI b) ?_
  refine own_go (T' := s₁) (g' := (mkF mI 1 #[.val (.ref b)] [(.ref b)])) (fun t_ kt_ => XS.aloadN X0.here hx rfl (hb hby d27_0) rfl rfl kt_) ?_
  refine own_callX own_closed X0 hx hZ (y := (⟨"java/lang/AbstractStringBuilder", "length", "()I"⟩ : MethodName)) hown (hw _ (List.mem_of_getElem? (i := 162) rfl)) (hw _ (List.mem_of_getElem? (i := 158) rfl)) (hw _ (List.mem_of_getElem? (i := 39) rfl)) (hw _ (List.mem_of_getElem? (i := 60) rfl)) rfl (by decide) (by decide) (rj_asLen l Z a0 hw [] h0 b n F) (hw _ (List.mem_of_getElem? (i := 163) rfl)) (hw _ (List.mem_of_getElem? (i := 14) rfl)) e0 Eb (pc := 1) (Ls := #[.val (.ref b)]) (argsL := []) (rest := []) (by rw [hml]; rfl) (lenOf pd_11 rfl) (W := 0) (Nat.le_of_eq rfl) (by decide) (by decide) (by decide) (by decide) (hb hby d27_1) rfl rfl ?_
  intro TE1 LE1 vE1 XE1 hQE1
  obtain ⟨rfl, rfl, eE1⟩ := hQE1
  show own_Ends pP eE bB sS _ _ TE1 (mkF mI 4 #[.val (.ref b)] [(.int n)])
  refine own_retI XE1 hx hlk hret (hb hby d27_4) (by decide) (by decide) ?_
  exact ⟨rfl, rfl, eE1⟩
theorem d16_0 : decode jdk_68_method_68_code 0 = .ok (.getstatic 18, 3) := by decide +kernel
theorem d16_3 : decode jdk_68_method_68_code 3 = .ok (.ifCond .eq 14, 3) := by decide +kernel
theorem d16_6 : decode jdk_68_method_68_code 6 = .ok (.aload_n 0, 1) := by decide +kernel
theorem d16_7 : decode jdk_68_method_68_code 7 = .ok (.getfield 22, 3) := by decide +kernel
theorem d16_10 : decode jdk_68_method_68_code 10 = .ok (.ifCond .ne 7, 3) := by decide +kernel
theorem d16_13 : decode jdk_68_method_68_code 13 = .ok (.iconst 1, 1) := by decide +kernel
theorem d16_14 : decode jdk_68_method_68_code 14 = .ok (.goto 4, 3) := by decide +kernel
theorem d16_18 : decode jdk_68_method_68_code 18 = .ok (.ireturn, 1) := by decide +kernel
theorem rj_asLat_pn : plainFor (⟨"java/lang/AbstractStringBuilder", "isLatin1", "()Z"⟩ : MethodName) = true := plainFor_of_name (show plainName "java/lang/AbstractStringBuilder" = true by first | (simp [plainName, overriddenIn]; done) | decide +kernel)
theorem rj_asLat_ef (mI : MethodId) (b : Addr) : entryFrame mI #[(.ref b)] 1 = mkF mI 0 #[.val (.ref b)] [] := by first | (simp [entryFrame, mkF, argsToLocals, Value.category]; done) | rfl
set_option maxRecDepth 65536 in
set_option maxHeartbeats 40000000 in
theorem rj_asLat (l : Launch) (Z : State) (a0 : Array Value) (hw : ∀ d ∈ tables_1, d.before a0 Z = true) (ws : List Jvm.Cond) (h0 : Heap) (n0 : Nat) (O : Old Z n0 h0) (cs : Int32) (Scs : Sta Z Z.heap "java/lang/String" "COMPACT_STRINGS" "Z" (.int cs)) (hcs : ¬ cs = 0) (b : Addr) (F : Fld Z h0 b "java/lang/AbstractStringBuilder" "coder" "B" (.int 0)) :
    own_Met l Z (⟨"java/lang/AbstractStringBuilder", "isLatin1", "()Z"⟩ : MethodName) jdk_68_method_68_code 1 (some .boolean) ws ({ frames := 0, cells := 0, slots := 0, locals := 0 } : Room) #[(.ref b)] h0 (own_QP h0 (some (.int 1))) := by
  refine own_met rj_asLat_pn ?_
  intro pP eE sS mI bB mT cC s₁ hx hby hml hown hnm hret hlk hZ X0 e0
  replace hown : sS.vm.findClass "java/lang/AbstractStringBuilder" = some mI.cls := hown
  refine own_cast (rj_asLat_ef mI b) ?_
  obtain ⟨TF1, XF1, eF1, stF1⟩ := getS2 X0 hx hZ hown (host := "") (Or.inl (hw _ (List.mem_of_getElem? (i := 19) rfl))) Via.refl e0 (Sta.ext O.2 Scs) (g := (mkF mI 0 #[.val (.ref b)] [])) rfl (hb hby d16_0)
  refine own_go (T' := TF1) (g' := (mkF mI 3 #[.val (.ref b)] [(.int cs)])) (fun t_ kt_ => stF1 _ kt_) ?_
  refine own_go (T' := TF1) (g' := (mkF mI 6 #[.val (.ref b)] [])) (fun t_ kt_ => XS.ifNo XF1.here hx rfl (hb hby d16_3) rfl ((if0 _ _).trans (feq (hcs : ¬ (cs = (0 : Int32)))).1) kt_) ?_
  refine own_go (T' := TF1) (g' := (mkF mI 7 #[.val (.ref b)] [(.ref b)])) (fun t_ kt_ => XS.aloadN XF1.here hx rfl (hb hby d16_6) rfl rfl kt_) ?_
  obtain ⟨TF2, XF2, eF2, stF2⟩ := getF XF1 hx hZ hown (host := "") (Or.inl (hw _ (List.mem_of_getElem? (i := 24) rfl))) Via.refl eF1 F (g := (mkF mI 7 #[.val (.ref b)] [(.ref b)])) rfl rfl (hb hby d16_7)
  refine own_go (T' := TF2) (g' := (mkF mI 10 #[.val (.ref b)] [(.int (0 : Int32))])) (fun t_ kt_ => stF2 _ kt_) ?_
  refine own_go (T' := TF2) (g' := (mkF mI 13 #[.val (.ref b)] [])) (fun t_ kt_ => XS.ifNo XF2.here hx rfl (hb hby d16_10) rfl ((if0 _ _).trans (teq (by decide : (0 : Int32) = (0 : Int32))).2) kt_) ?_
  refine own_go (T' := TF2) (g' := (mkF mI 14 #[.val (.ref b)] [(.int (1 : Int32))])) (fun t_ kt_ => XS.iconst XF2.here hx rfl (hb hby d16_13) kt_) ?_
  refine own_go (T' := TF2) (g' := (mkF mI 18 #[.val (.ref b)] [(.int (1 : Int32))])) (fun t_ kt_ => XS.goto XF2.here hx rfl (pc0 := 14) (pc' := 18) rfl (hb hby d16_14) (by decide) (by decide) kt_) ?_
  refine own_retN XF2 hx hlk (t := .boolean) hret (by simp) (hb hby d16_18) (show nar .boolean (1 : Int32) = (1 : Int32) from by decide) (by decide) (by decide) ?_
  exact ⟨rfl, rfl, eF2⟩
def own_QT (Z : State) (h0 : Heap) (n0 : Nat) (a : Addr) (n : Int32) (vs : List Value) (v : Option Value) (h : Heap) (L : List Loc) : Prop := v = none ∧ Fr n0 L ∧ Keep h0 h [a] ∧ ∃ (d : Addr) (k : ClassId), own_St Z h a d k n vs ∧ h0.size ≤ d
theorem d25_0 : decode jdk_42_method_150_code 0 = .ok (.aload_n 0, 1) := by decide +kernel
theorem d25_1 : decode jdk_42_method_150_code 1 = .ok (.invokespecial 1, 3) := by decide +kernel
theorem d25_4 : decode jdk_42_method_150_code 4 = .ok (.aload_n 1, 1) := by decide +kernel
theorem d25_5 : decode jdk_42_method_150_code 5 = .ok (.invokevirtual 552, 3) := by decide +kernel
theorem d25_8 : decode jdk_42_method_150_code 8 = .ok (.astore_n 3, 1) := by decide +kernel
theorem d25_9 : decode jdk_42_method_150_code 9 = .ok (.aload_n 1, 1) := by decide +kernel
theorem d25_10 : decode jdk_42_method_150_code 10 = .ok (.invokevirtual 549, 3) := by decide +kernel
theorem d25_13 : decode jdk_42_method_150_code 13 = .ok (.istore 4, 2) := by decide +kernel
theorem d25_15 : decode jdk_42_method_150_code 15 = .ok (.aload_n 1, 1) := by decide +kernel
theorem d25_16 : decode jdk_42_method_150_code 16 = .ok (.invokevirtual 1047, 3) := by decide +kernel
theorem d25_19 : decode jdk_42_method_150_code 19 = .ok (.ifCond .eq 22, 3) := by decide +kernel
theorem d25_22 : decode jdk_42_method_150_code 22 = .ok (.aload_n 0, 1) := by decide +kernel
theorem d25_23 : decode jdk_42_method_150_code 23 = .ok (.iconst 0, 1) := by decide +kernel
theorem d25_24 : decode jdk_42_method_150_code 24 = .ok (.putfield 15, 3) := by decide +kernel
theorem d25_27 : decode jdk_42_method_150_code 27 = .ok (.aload_n 0, 1) := by decide +kernel
theorem d25_28 : decode jdk_42_method_150_code 28 = .ok (.aload_n 3, 1) := by decide +kernel
theorem d25_29 : decode jdk_42_method_150_code 29 = .ok (.iconst 0, 1) := by decide +kernel
theorem d25_30 : decode jdk_42_method_150_code 30 = .ok (.iload 4, 2) := by decide +kernel
theorem d25_32 : decode jdk_42_method_150_code 32 = .ok (.invokestatic 54, 3) := by decide +kernel
theorem d25_35 : decode jdk_42_method_150_code 35 = .ok (.putfield 9, 3) := by decide +kernel
theorem d25_38 : decode jdk_42_method_150_code 38 = .ok (.goto 59, 3) := by decide +kernel
theorem d25_97 : decode jdk_42_method_150_code 97 = .ok (.return_, 1) := by decide +kernel
theorem rj_strA_pn : plainFor (⟨"java/lang/String", "<init>", "(Ljava/lang/AbstractStringBuilder;Ljava/lang/Void;)V"⟩ : MethodName) = true := plainFor_of_name (show plainName "java/lang/String" = true by first | (simp [plainName, overriddenIn]; done) | decide +kernel)
theorem rj_strA_ef (mI : MethodId) (a : Addr) (b : Addr) : entryFrame mI #[(.ref a), (.ref b), .null] 5 = mkF mI 0 #[.val (.ref a), .val (.ref b), .val .null, .unset, .unset] [] := by first | (simp [entryFrame, mkF, argsToLocals, Value.category]; done) | rfl
set_option maxRecDepth 65536 in
set_option maxHeartbeats 40000000 in
theorem rj_strA (l : Launch) (Z : State) (a0 : Array Value) (hw : ∀ d ∈ tables_1, d.before a0 Z = true) (ws : List Jvm.Cond) (h0 : Heap) (n0 : Nat) (O : Old Z n0 h0) (cs : Int32) (Scs : Sta Z Z.heap "java/lang/String" "COMPACT_STRINGS" "Z" (.int cs)) (hcs : ¬ cs = 0) (Z0 : n0 ≤ h0.size) (a b : Addr) (da : Addr) (k : ClassId) (z n : Int32) (vs : List Value) (Ea : Exa Z h0 a "java/lang/String") (Fc : Fld Z h0 a "java/lang/String" "coder" "B" (.int 0)) (Fv : Fld Z h0 a "java/lang/String" "value" "[B" .null) (B : own_SB Z h0 b da k z n vs) (g_a : n0 ≤ a) (ne_a_b : a ≠ b) (hvn : vs.length = n.toNatClampNeg) (hn0 : ¬ n < 0) (hn1 : n.toNatClampNeg ≤ 300) (hzn : ¬ z < n) :
    own_Met l Z (⟨"java/lang/String", "<init>", "(Ljava/lang/AbstractStringBuilder;Ljava/lang/Void;)V"⟩ : MethodName) jdk_42_method_150_code 5 none ws ({ frames := 3, cells := 1, slots := 300, locals := 49 } : Room) #[(.ref a), (.ref b), .null] h0 (own_QT Z h0 n0 a n vs) := by
  refine own_met rj_strA_pn ?_
  intro pP eE sS mI bB mT cC s₁ hx hby hml hown hnm hret hlk hZ X0 e0
  replace hown : sS.vm.findClass "java/lang/String" = some mI.cls := hown
  refine own_cast (rj_strA_ef mI a b) ?_
  refine own_go (T' := s₁) (g' := (mkF mI 1 #[.val (.ref a), .val (.ref b), .val .null, .unset, .unset] [(.ref a)])) (fun t_ kt_ => XS.aloadN X0.here hx rfl (hb hby d25_0) rfl rfl kt_) ?_
  obtain ⟨TG1, XG1, eG1, stG1⟩ := initO X0 hx hZ hown (hw _ (List.mem_of_getElem? (i := 150) rfl)) (hw _ (List.mem_of_getElem? (i := 17) rfl)) (hw _ (List.mem_of_getElem? (i := 18) rfl)) e0 (g := (mkF mI 1 #[.val (.ref a), .val (.ref b), .val .null, .unset, .unset] [(.ref a)])) rfl (by rw [hml]; rfl) rfl (hb hby d25_1) (by decide) (W := 0) (by show 2 * 0 + _ ≤ _; exact Nat.le_of_eq rfl) (by decide)
  refine own_go (T' := TG1) (g' := (mkF mI 4 #[.val (.ref a), .val (.ref b), .val .null, .unset, .unset] [])) (fun t_ kt_ => stG1 _ kt_) ?_
  refine own_go (T' := TG1) (g' := (mkF mI 5 #[.val (.ref a), .val (.ref b), .val .null, .unset, .unset] [(.ref b)])) (fun t_ kt_ => XS.aloadN XG1.here hx rfl (hb hby d25_4) rfl rfl kt_) ?_
  refine own_callV own_closed XG1 hx hZ (y := (⟨"java/lang/AbstractStringBuilder", "getValue", "()[B"⟩ : MethodName)) (z := (⟨"java/lang/AbstractStringBuilder", "getValue", "()[B"⟩ : MethodName)) hown (hw _ (List.mem_of_getElem? (i := 151) rfl)) (hw _ (List.mem_of_getElem? (i := 152) rfl)) (hw _ (List.mem_of_getElem? (i := 154) rfl)) (hw _ (List.mem_of_getElem? (i := 153) rfl)) (hw _ (List.mem_of_getElem? (i := 154) rfl)) rfl (by decide) (rj_getv l Z a0 hw [] h0 b da B.2.1) (hw _ (List.mem_of_getElem? (i := 155) rfl)) (hw _ (List.mem_of_getElem? (i := 14) rfl)) eG1 B.1 (pc := 5) (Ls := #[.val (.ref a), .val (.ref b), .val .null, .unset, .unset]) (argsL := []) (rest := []) (by rw [hml]; rfl) (lenOf pd_16 rfl) (W := 0) (Nat.le_of_eq rfl) (by decide) (by decide) (by decide) (by decide) (hb hby d25_5) rfl rfl ?_
  intro TG2 LG2 vG2 XG2 hQG2
  obtain ⟨rfl, rfl, eG2⟩ := hQG2
  show own_Ends pP eE bB sS _ _ TG2 (mkF mI 8 #[.val (.ref a), .val (.ref b), .val .null, .unset, .unset] [(.ref da)])
  refine own_go (T' := TG2) (g' := (mkF mI 9 #[.val (.ref a), .val (.ref b), .val .null, .val (.ref da), .unset] [])) (fun t_ kt_ => XS.astoreN XG2.here hx rfl (hb hby d25_8) rfl rfl (l' := #[.val (.ref a), .val (.ref b), .val .null, .val (.ref da), .unset]) rfl kt_) ?_
  refine own_go (T' := TG2) (g' := (mkF mI 10 #[.val (.ref a), .val (.ref b), .val .null, .val (.ref da), .unset] [(.ref b)])) (fun t_ kt_ => XS.aloadN XG2.here hx rfl (hb hby d25_9) rfl rfl kt_) ?_
  refine own_callV own_closed XG2 hx hZ (y := (⟨"java/lang/AbstractStringBuilder", "length", "()I"⟩ : MethodName)) (z := (⟨"java/lang/StringBuilder", "length", "()I"⟩ : MethodName)) hown (hw _ (List.mem_of_getElem? (i := 156) rfl)) (hw _ (List.mem_of_getElem? (i := 157) rfl)) (hw _ (List.mem_of_getElem? (i := 159) rfl)) (hw _ (List.mem_of_getElem? (i := 160) rfl)) (hw _ (List.mem_of_getElem? (i := 60) rfl)) rfl (by decide) (rj_sbLen l Z a0 hw [] h0 b n B.1 B.2.2.2.1) (hw _ (List.mem_of_getElem? (i := 161) rfl)) (hw _ (List.mem_of_getElem? (i := 6) rfl)) eG2 B.1 (pc := 10) (Ls := #[.val (.ref a), .val (.ref b), .val .null, .val (.ref da), .unset]) (argsL := []) (rest := []) (by rw [hml]; rfl) (lenOf pd_11 rfl) (W := 0) (Nat.le_of_eq rfl) (by decide) (by decide) (by decide) (by decide) (hb hby d25_10) rfl rfl ?_
  intro TG3 LG3 vG3 XG3 hQG3
  obtain ⟨rfl, rfl, eG3⟩ := hQG3
  show own_Ends pP eE bB sS _ _ TG3 (mkF mI 13 #[.val (.ref a), .val (.ref b), .val .null, .val (.ref da), .unset] [(.int n)])
  refine own_go (T' := TG3) (g' := (mkF mI 15 #[.val (.ref a), .val (.ref b), .val .null, .val (.ref da), .val (.int n)] [])) (fun t_ kt_ => XS.istore XG3.here hx rfl (hb hby d25_13) rfl (l' := #[.val (.ref a), .val (.ref b), .val .null, .val (.ref da), .val (.int n)]) rfl kt_) ?_
  refine own_go (T' := TG3) (g' := (mkF mI 16 #[.val (.ref a), .val (.ref b), .val .null, .val (.ref da), .val (.int n)] [(.ref b)])) (fun t_ kt_ => XS.aloadN XG3.here hx rfl (hb hby d25_15) rfl rfl kt_) ?_
  refine own_callV own_closed XG3 hx hZ (y := (⟨"java/lang/AbstractStringBuilder", "isLatin1", "()Z"⟩ : MethodName)) (z := (⟨"java/lang/AbstractStringBuilder", "isLatin1", "()Z"⟩ : MethodName)) hown (hw _ (List.mem_of_getElem? (i := 164) rfl)) (hw _ (List.mem_of_getElem? (i := 97) rfl)) (hw _ (List.mem_of_getElem? (i := 99) rfl)) (hw _ (List.mem_of_getElem? (i := 98) rfl)) (hw _ (List.mem_of_getElem? (i := 99) rfl)) rfl (by decide) (rj_asLat l Z a0 hw [] h0 n0 O cs Scs hcs b B.2.2.1) (hw _ (List.mem_of_getElem? (i := 100) rfl)) (hw _ (List.mem_of_getElem? (i := 14) rfl)) eG3 B.1 (pc := 16) (Ls := #[.val (.ref a), .val (.ref b), .val .null, .val (.ref da), .val (.int n)]) (argsL := []) (rest := []) (by rw [hml]; rfl) (lenOf pd_3 rfl) (W := 0) (Nat.le_of_eq rfl) (by decide) (by decide) (by decide) (by decide) (hb hby d25_16) rfl rfl ?_
  intro TG4 LG4 vG4 XG4 hQG4
  obtain ⟨rfl, rfl, eG4⟩ := hQG4
  show own_Ends pP eE bB sS _ _ TG4 (mkF mI 19 #[.val (.ref a), .val (.ref b), .val .null, .val (.ref da), .val (.int n)] [(.int (1 : Int32))])
  refine own_go (T' := TG4) (g' := (mkF mI 22 #[.val (.ref a), .val (.ref b), .val .null, .val (.ref da), .val (.int n)] [])) (fun t_ kt_ => XS.ifNo XG4.here hx rfl (hb hby d25_19) rfl ((if0 _ _).trans (feq (by decide : ¬ ((1 : Int32) = (0 : Int32)))).1) kt_) ?_
  refine own_go (T' := TG4) (g' := (mkF mI 23 #[.val (.ref a), .val (.ref b), .val .null, .val (.ref da), .val (.int n)] [(.ref a)])) (fun t_ kt_ => XS.aloadN XG4.here hx rfl (hb hby d25_22) rfl rfl kt_) ?_
  refine own_go (T' := TG4) (g' := (mkF mI 24 #[.val (.ref a), .val (.ref b), .val .null, .val (.ref da), .val (.int n)] [(.int (0 : Int32)), (.ref a)])) (fun t_ kt_ => XS.iconst XG4.here hx rfl (hb hby d25_23) kt_) ?_
  obtain ⟨TG5, hG5, XG5, eG5, WG5, stG5⟩ := putFN XG4 hx hZ hown (hw _ (List.mem_of_getElem? (i := 54) rfl)) Via.refl eG4 Fc Ea (Or.inr ⟨(hw _ (List.mem_of_getElem? (i := 29) rfl)), rfl, hnm⟩) (hw _ (List.mem_of_getElem? (i := 27) rfl)) (ty := .byte) (v' := (.int (0 : Int32))) (by decide) rfl (by decide) (g := (mkF mI 24 #[.val (.ref a), .val (.ref b), .val .null, .val (.ref da), .val (.int n)] [(.int (0 : Int32)), (.ref a)])) rfl rfl (hb hby d25_24)
  have FwG5 : Fld Z hG5 a "java/lang/String" "coder" "B" (.int (0 : Int32)) := Fld.same WG5 Fc
  have FG6 := Fld.other WG5 Fv (Or.inr (slot_ne (Or.inr (hw _ (List.mem_of_getElem? (i := 28) rfl))) (Or.inr (hw _ (List.mem_of_getElem? (i := 29) rfl))) (by decide) (t := (.array .byte)) (t' := .byte) (by decide) (by decide)))
  have FG7 := Fld.other WG5 B.2.1 (Or.inl (Ne.symm ne_a_b))
  have FG8 := Fld.other WG5 B.2.2.1 (Or.inl (Ne.symm ne_a_b))
  have FG9 := Fld.other WG5 B.2.2.2.1 (Or.inl (Ne.symm ne_a_b))
  have EG10 := Exa.wr WG5 Ea
  have EG11 := Exa.wr WG5 B.1
  have EG12 := Exa.wr WG5 B.2.2.2.2.2
  have VG15 := Arv.other B.2.2.2.2.1 WG5 (Ne.symm (Exa.neArv Ea B.2.2.2.2.1 (hw _ (List.mem_of_getElem? (i := 27) rfl))))
  have ZG16 : n0 ≤ hG5.size := Nat.le_trans Z0 (Nat.le_of_eq (Wr.size WG5).symm)
  have KG17 : Keep h0 hG5 [a] := (Keep.refl h0 [a]).wr WG5 (Or.inl (List.mem_of_getElem? (i := 0) rfl))
  have OG18 : Old Z n0 hG5 := Old.wr O WG5 g_a
  have NG5 := Fr.snoc XG5 (Fr.nil n0) g_a
  refine own_go (T' := TG5) (g' := (mkF mI 27 #[.val (.ref a), .val (.ref b), .val .null, .val (.ref da), .val (.int n)] [])) (fun t_ kt_ => stG5 _ kt_) ?_
  refine own_go (T' := TG5) (g' := (mkF mI 28 #[.val (.ref a), .val (.ref b), .val .null, .val (.ref da), .val (.int n)] [(.ref a)])) (fun t_ kt_ => XS.aloadN XG5.here hx rfl (hb hby d25_27) rfl rfl kt_) ?_
  refine own_go (T' := TG5) (g' := (mkF mI 29 #[.val (.ref a), .val (.ref b), .val .null, .val (.ref da), .val (.int n)] [(.ref da), (.ref a)])) (fun t_ kt_ => XS.aloadN XG5.here hx rfl (hb hby d25_28) rfl rfl kt_) ?_
  refine own_go (T' := TG5) (g' := (mkF mI 30 #[.val (.ref a), .val (.ref b), .val .null, .val (.ref da), .val (.int n)] [(.int (0 : Int32)), (.ref da), (.ref a)])) (fun t_ kt_ => XS.iconst XG5.here hx rfl (hb hby d25_29) kt_) ?_
  refine own_go (T' := TG5) (g' := (mkF mI 32 #[.val (.ref a), .val (.ref b), .val .null, .val (.ref da), .val (.int n)] [(.int n), (.int (0 : Int32)), (.ref da), (.ref a)])) (fun t_ kt_ => XS.iload XG5.here hx rfl (hb hby d25_30) rfl kt_) ?_
  refine own_callS own_closed XG5 hx hZ (y := (⟨"java/util/Arrays", "copyOfRange", "([BII)[B"⟩ : MethodName)) hown (hw _ (List.mem_of_getElem? (i := 165) rfl)) (hw _ (List.mem_of_getElem? (i := 166) rfl)) (by decide) (rj_cor l Z a0 hw [] hG5 n0 ZG16 da n k z vs VG15 hvn hn0 hn1 EG12 hzn) (hw _ (List.mem_of_getElem? (i := 167) rfl)) (hw _ (List.mem_of_getElem? (i := 126) rfl)) eG5 (pc := 32) (Ls := #[.val (.ref a), .val (.ref b), .val .null, .val (.ref da), .val (.int n)]) (argsL := [(.ref da), (.int (0 : Int32)), (.int n)]) (rest := [(.ref a)]) (by rw [hml]; rfl) (lenOf pd_15 rfl) (W := 1) (Nat.le_of_eq rfl) (by decide) (by decide) (by decide) (by decide) (hb hby d25_32) rfl rfl ?_
  intro TG19 LG19 vG19 XG19 hQG19
  obtain ⟨bG19, kG19, rfl, NG19, KG19, hzG19, VG19, EdG19⟩ := hQG19
  have ne_a_bG19 : a ≠ bG19 := Nat.ne_of_lt (Nat.lt_of_lt_of_le EG10.lt hzG19)
  have sz_bG19 : h0.size ≤ bG19 := Nat.le_trans KG17.1 hzG19
  have NG19a := Fr.app NG5 NG19
  have FG20 := Fld.keep FwG5 KG19 nin0
  have FG21 := Fld.keep FG6 KG19 nin0
  have EG22 := Exa.keep EG10 KG19
  have ZG25 : n0 ≤ TG19.heap.size := Nat.le_trans ZG16 KG19.1
  have KG26 : Keep h0 TG19.heap [a] := KG17.trans KG19 all0
  have OG27 : Old Z n0 TG19.heap := Old.keep OG18 KG19 all0
  show own_Ends pP eE bB sS _ _ TG19 (mkF mI 35 #[.val (.ref a), .val (.ref b), .val .null, .val (.ref da), .val (.int n)] [(.ref bG19), (.ref a)])
  obtain ⟨TG28, hG28, XG28, eG28, WG28, stG28⟩ := putF XG19 hx hZ hown (host := "") (Or.inl (hw _ (List.mem_of_getElem? (i := 47) rfl))) Via.refl rfl FG21 EG22 (Or.inr ⟨(hw _ (List.mem_of_getElem? (i := 28) rfl)), rfl, hnm⟩) (hw _ (List.mem_of_getElem? (i := 27) rfl)) (ty := (.array .byte)) (by decide) rfl rfl (g := (mkF mI 35 #[.val (.ref a), .val (.ref b), .val .null, .val (.ref da), .val (.int n)] [(.ref bG19), (.ref a)])) rfl rfl (hb hby d25_35)
  have FwG28 : Fld Z hG28 a "java/lang/String" "value" "[B" (.ref bG19) := Fld.same WG28 FG21
  have FG29 := Fld.other WG28 FG20 (Or.inr (slot_ne (Or.inr (hw _ (List.mem_of_getElem? (i := 29) rfl))) (Or.inr (hw _ (List.mem_of_getElem? (i := 28) rfl))) (by decide) (t := .byte) (t' := (.array .byte)) (by decide) (by decide)))
  have EG30 := Exa.wr WG28 EG22
  have EG31 := Exa.wr WG28 EdG19
  have VG34 := Arv.other VG19 WG28 (Ne.symm ne_a_bG19)
  have ZG35 : n0 ≤ hG28.size := Nat.le_trans ZG25 (Nat.le_of_eq (Wr.size WG28).symm)
  have KG36 : Keep h0 hG28 [a] := KG26.wr WG28 (Or.inl (List.mem_of_getElem? (i := 0) rfl))
  have OG37 : Old Z n0 hG28 := Old.wr OG27 WG28 g_a
  have NG28 := Fr.snoc XG28 NG19a g_a
  refine own_go (T' := TG28) (g' := (mkF mI 38 #[.val (.ref a), .val (.ref b), .val .null, .val (.ref da), .val (.int n)] [])) (fun t_ kt_ => stG28 _ kt_) ?_
  refine own_go (T' := TG28) (g' := (mkF mI 97 #[.val (.ref a), .val (.ref b), .val .null, .val (.ref da), .val (.int n)] [])) (fun t_ kt_ => XS.goto XG28.here hx rfl (pc0 := 38) (pc' := 97) rfl (hb hby d25_38) (by decide) (by decide) kt_) ?_
  refine own_retV XG28 hx hlk hret (hb hby d25_97) (by decide) (by decide) ?_
  exact by rw [eG28]; exact ⟨rfl, NG28, KG36, bG19, _, ⟨EG30, FG29, FwG28, VG34⟩, sz_bG19⟩
theorem d24_0 : decode jdk_42_method_53_code 0 = .ok (.aload_n 0, 1) := by decide +kernel
theorem d24_1 : decode jdk_42_method_53_code 1 = .ok (.aload_n 1, 1) := by decide +kernel
theorem d24_2 : decode jdk_42_method_53_code 2 = .ok (.aconst_null, 1) := by decide +kernel
theorem d24_3 : decode jdk_42_method_53_code 3 = .ok (.invokespecial 489, 3) := by decide +kernel
theorem d24_6 : decode jdk_42_method_53_code 6 = .ok (.return_, 1) := by decide +kernel
theorem rj_strB_pn : plainFor (⟨"java/lang/String", "<init>", "(Ljava/lang/StringBuilder;)V"⟩ : MethodName) = true := plainFor_of_name (show plainName "java/lang/String" = true by first | (simp [plainName, overriddenIn]; done) | decide +kernel)
theorem rj_strB_ef (mI : MethodId) (a : Addr) (b : Addr) : entryFrame mI #[(.ref a), (.ref b)] 2 = mkF mI 0 #[.val (.ref a), .val (.ref b)] [] := by first | (simp [entryFrame, mkF, argsToLocals, Value.category]; done) | rfl
set_option maxRecDepth 65536 in
set_option maxHeartbeats 40000000 in
theorem rj_strB (l : Launch) (Z : State) (a0 : Array Value) (hw : ∀ d ∈ tables_1, d.before a0 Z = true) (ws : List Jvm.Cond) (h0 : Heap) (n0 : Nat) (O : Old Z n0 h0) (cs : Int32) (Scs : Sta Z Z.heap "java/lang/String" "COMPACT_STRINGS" "Z" (.int cs)) (hcs : ¬ cs = 0) (Z0 : n0 ≤ h0.size) (a b : Addr) (da : Addr) (k : ClassId) (z n : Int32) (vs : List Value) (Ea : Exa Z h0 a "java/lang/String") (Fc : Fld Z h0 a "java/lang/String" "coder" "B" (.int 0)) (Fv : Fld Z h0 a "java/lang/String" "value" "[B" .null) (B : own_SB Z h0 b da k z n vs) (g_a : n0 ≤ a) (ne_a_b : a ≠ b) (hvn : vs.length = n.toNatClampNeg) (hn0 : ¬ n < 0) (hn1 : n.toNatClampNeg ≤ 300) (hzn : ¬ z < n) :
    own_Met l Z (⟨"java/lang/String", "<init>", "(Ljava/lang/StringBuilder;)V"⟩ : MethodName) jdk_42_method_53_code 2 none ws ({ frames := 4, cells := 1, slots := 300, locals := 65 } : Room) #[(.ref a), (.ref b)] h0 (own_QT Z h0 n0 a n vs) := by
  refine own_met rj_strB_pn ?_
  intro pP eE sS mI bB mT cC s₁ hx hby hml hown hnm hret hlk hZ X0 e0
  replace hown : sS.vm.findClass "java/lang/String" = some mI.cls := hown
  refine own_cast (rj_strB_ef mI a b) ?_
  refine own_go (T' := s₁) (g' := (mkF mI 1 #[.val (.ref a), .val (.ref b)] [(.ref a)])) (fun t_ kt_ => XS.aloadN X0.here hx rfl (hb hby d24_0) rfl rfl kt_) ?_
  refine own_go (T' := s₁) (g' := (mkF mI 2 #[.val (.ref a), .val (.ref b)] [(.ref b), (.ref a)])) (fun t_ kt_ => XS.aloadN X0.here hx rfl (hb hby d24_1) rfl rfl kt_) ?_
  refine own_go (T' := s₁) (g' := (mkF mI 3 #[.val (.ref a), .val (.ref b)] [.null, (.ref b), (.ref a)])) (fun t_ kt_ => XS.aconstNull X0.here hx rfl (hb hby d24_2) kt_) ?_
  refine own_callI own_closed X0 hx hZ (y := (⟨"java/lang/String", "<init>", "(Ljava/lang/AbstractStringBuilder;Ljava/lang/Void;)V"⟩ : MethodName)) rfl hown (hw _ (List.mem_of_getElem? (i := 147) rfl)) (hw _ (List.mem_of_getElem? (i := 148) rfl)) (by decide) (rj_strA l Z a0 hw [] h0 n0 O cs Scs hcs Z0 a b da k z n vs Ea Fc Fv B g_a ne_a_b hvn hn0 hn1 hzn) (hw _ (List.mem_of_getElem? (i := 149) rfl)) (hw _ (List.mem_of_getElem? (i := 20) rfl)) (b := a) e0 (pc := 3) (Ls := #[.val (.ref a), .val (.ref b)]) (argsL := [(.ref b), .null]) (rest := []) (by rw [hml]; rfl) (lenOf pd_17 rfl) (W := 0) (Nat.le_of_eq rfl) (by decide) (by decide) (by decide) (by decide) (hb hby d24_3) rfl rfl ?_
  intro TH1 LH1 vH1 XH1 hQH1
  obtain ⟨rfl, NH1, KH1, RH1⟩ := hQH1
  show own_Ends pP eE bB sS _ _ TH1 (mkF mI 6 #[.val (.ref a), .val (.ref b)] [])
  refine own_retV XH1 hx hlk hret (hb hby d24_6) (by decide) (by decide) ?_
  exact ⟨rfl, Fr.app (Fr.nil n0) NH1, KH1, RH1⟩
def own_QTS (Z : State) (h0 : Heap) (n0 : Nat) (n : Int32) (vs : List Value) (v : Option Value) (h : Heap) (L : List Loc) : Prop := ∃ (a d : Addr) (k : ClassId), v = some (.ref a) ∧ Fr n0 L ∧ Keep h0 h [] ∧ own_St Z h a d k n vs ∧ h0.size ≤ a ∧ h0.size ≤ d
theorem d23_0 : decode jdk_67_method_42_code 0 = .ok (.new 18, 3) := by decide +kernel
theorem d23_3 : decode jdk_67_method_42_code 3 = .ok (.dup, 1) := by decide +kernel
theorem d23_4 : decode jdk_67_method_42_code 4 = .ok (.aload_n 0, 1) := by decide +kernel
theorem d23_5 : decode jdk_67_method_42_code 5 = .ok (.invokespecial 137, 3) := by decide +kernel
theorem d23_8 : decode jdk_67_method_42_code 8 = .ok (.areturn, 1) := by decide +kernel
theorem rj_toStr_pn : plainFor (⟨"java/lang/StringBuilder", "toString", "()Ljava/lang/String;"⟩ : MethodName) = true := plainFor_of_name (show plainName "java/lang/StringBuilder" = true by first | (simp [plainName, overriddenIn]; done) | decide +kernel)
theorem rj_toStr_ef (mI : MethodId) (b : Addr) : entryFrame mI #[(.ref b)] 1 = mkF mI 0 #[.val (.ref b)] [] := by first | (simp [entryFrame, mkF, argsToLocals, Value.category]; done) | rfl
set_option maxRecDepth 65536 in
set_option maxHeartbeats 40000000 in
theorem rj_toStr (l : Launch) (Z : State) (a0 : Array Value) (hw : ∀ d ∈ tables_1, d.before a0 Z = true) (ws : List Jvm.Cond) (h0 : Heap) (n0 : Nat) (O : Old Z n0 h0) (cs : Int32) (Scs : Sta Z Z.heap "java/lang/String" "COMPACT_STRINGS" "Z" (.int cs)) (hcs : ¬ cs = 0) (Z0 : n0 ≤ h0.size) (b : Addr) (da : Addr) (k : ClassId) (z n : Int32) (vs : List Value) (B : own_SB Z h0 b da k z n vs) (hvn : vs.length = n.toNatClampNeg) (hn0 : ¬ n < 0) (hn1 : n.toNatClampNeg ≤ 300) (hzn : ¬ z < n) :
    own_Met l Z (⟨"java/lang/StringBuilder", "toString", "()Ljava/lang/String;"⟩ : MethodName) jdk_67_method_42_code 1 (some (.object "java/lang/String")) ws ({ frames := 5, cells := 2, slots := 304, locals := 79 } : Room) #[(.ref b)] h0 (own_QTS Z h0 n0 n vs) := by
  refine own_met rj_toStr_pn ?_
  intro pP eE sS mI bB mT cC s₁ hx hby hml hown hnm hret hlk hZ X0 e0
  replace hown : sS.vm.findClass "java/lang/StringBuilder" = some mI.cls := hown
  refine own_cast (rj_toStr_ef mI b) ?_
  obtain ⟨TI1, hI1, XI1, eI1, ExI1, AI1, DI1, -, stI1⟩ := newO X0 hx hZ hown (hw _ (List.mem_of_getElem? (i := 142) rfl)) (hw _ (List.mem_of_getElem? (i := 27) rfl)) (hw _ (List.mem_of_getElem? (i := 20) rfl)) e0 (g := (mkF mI 0 #[.val (.ref b)] [])) rfl (hb hby d23_0) (by decide) (by decide)
  obtain ⟨bI1, gI1⟩ : ∃ z, z = h0.size := ⟨_, rfl⟩
  rw [← gI1] at AI1 DI1 stI1
  have ne_b_bI1 : b ≠ bI1 := Nat.ne_of_lt (Nat.lt_of_lt_of_le (B.2.1.lt) (Nat.le_of_eq gI1.symm))
  have ne_da_bI1 : da ≠ bI1 := Nat.ne_of_lt (Nat.lt_of_lt_of_le (B.2.2.2.2.2.lt) (Nat.le_of_eq gI1.symm))
  have g_bI1 : n0 ≤ bI1 := Nat.le_trans Z0 (Nat.le_of_eq gI1.symm)
  have sz_bI1 : h0.size ≤ bI1 := Nat.le_trans (Keep.refl h0 []).1 (Nat.le_of_eq gI1.symm)
  have FI2 := Fld.ext ExI1 B.2.1
  have FI3 := Fld.ext ExI1 B.2.2.1
  have FI4 := Fld.ext ExI1 B.2.2.2.1
  have EI5 := Exa.ext ExI1 B.1
  have EI6 := Exa.ext ExI1 B.2.2.2.2.2
  have VI9 := Arv.ext B.2.2.2.2.1 ExI1
  have ZI10 : n0 ≤ hI1.size := Nat.le_trans Z0 ExI1.1
  have KI11 : Keep h0 hI1 [] := (Keep.refl h0 []).ext ExI1
  have OI12 : Old Z n0 hI1 := Old.ext O ExI1
  have F_value_bI1 : Fld Z hI1 bI1 "java/lang/String" "value" "[B" .null := DI1 (Or.inr (hw _ (List.mem_of_getElem? (i := 28) rfl))) (ty := (.array .byte)) (by decide)
  have F_coder_bI1 : Fld Z hI1 bI1 "java/lang/String" "coder" "B" (.int (0 : Int32)) := DI1 (Or.inr (hw _ (List.mem_of_getElem? (i := 29) rfl))) (ty := .byte) (by decide)
  refine own_go (T' := TI1) (g' := (mkF mI 3 #[.val (.ref b)] [(.ref bI1)])) (fun t_ kt_ => stI1 _ kt_) ?_
  refine own_go (T' := TI1) (g' := (mkF mI 4 #[.val (.ref b)] [(.ref bI1), (.ref bI1)])) (fun t_ kt_ => XS.dup XI1.here hx rfl (hb hby d23_3) rfl rfl kt_) ?_
  refine own_go (T' := TI1) (g' := (mkF mI 5 #[.val (.ref b)] [(.ref b), (.ref bI1), (.ref bI1)])) (fun t_ kt_ => XS.aloadN XI1.here hx rfl (hb hby d23_4) rfl rfl kt_) ?_
  refine own_callI own_closed XI1 hx hZ (y := (⟨"java/lang/String", "<init>", "(Ljava/lang/StringBuilder;)V"⟩ : MethodName)) rfl hown (hw _ (List.mem_of_getElem? (i := 143) rfl)) (hw _ (List.mem_of_getElem? (i := 144) rfl)) (by decide) (rj_strB l Z a0 hw [] hI1 n0 OI12 cs Scs hcs ZI10 bI1 b da k z n vs AI1 F_coder_bI1 F_value_bI1 ⟨EI5, FI2, FI3, FI4, VI9, EI6⟩ g_bI1 (Ne.symm ne_b_bI1) hvn hn0 hn1 hzn) (hw _ (List.mem_of_getElem? (i := 146) rfl)) (hw _ (List.mem_of_getElem? (i := 20) rfl)) (b := bI1) eI1 (pc := 5) (Ls := #[.val (.ref b)]) (argsL := [(.ref b)]) (rest := [(.ref bI1)]) (by rw [hml]; rfl) (lenOf pd_18 rfl) (W := 1) (Nat.le_of_eq rfl) (by decide) (by decide) (by decide) (by decide) (hb hby d23_5) rfl rfl ?_
  intro TI13 LI13 vI13 XI13 hQI13
  obtain ⟨rfl, NI13, KI13, RI13⟩ := hQI13
  have KxI13 : Keep h0 TI13.heap [] := KI11.trans KI13 (allS (Or.inr sz_bI1) all0)
  have NI13a := Fr.app (Fr.nil n0) NI13
  obtain ⟨dI13, kI13, SI13, hdI13⟩ := RI13
  have hdI13' : h0.size ≤ dI13 := Nat.le_trans KI11.1 hdI13
  show own_Ends pP eE bB sS _ _ TI13 (mkF mI 8 #[.val (.ref b)] [(.ref bI1)])
  refine own_retA XI13 hx hlk hret rfl rfl (hb hby d23_8) (by decide) (by decide) ?_
  exact ⟨bI1, dI13, _, rfl, NI13a, KxI13, SI13, sz_bI1, hdI13'⟩
theorem d14_0 : decode jdk_68_method_33_code 0 = .ok (.aload_n 0, 1) := by decide +kernel
theorem d14_1 : decode jdk_68_method_33_code 1 = .ok (.getfield 79, 3) := by decide +kernel
theorem d14_4 : decode jdk_68_method_33_code 4 = .ok (.istore_n 3, 1) := by decide +kernel
theorem d14_5 : decode jdk_68_method_33_code 5 = .ok (.iload_n 3, 1) := by decide +kernel
theorem d14_6 : decode jdk_68_method_33_code 6 = .ok (.lload_n 1, 1) := by decide +kernel
theorem d14_7 : decode jdk_68_method_33_code 7 = .ok (.invokestatic 254, 3) := by decide +kernel
theorem d14_10 : decode jdk_68_method_33_code 10 = .ok (.iadd, 1) := by decide +kernel
theorem d14_11 : decode jdk_68_method_33_code 11 = .ok (.istore 4, 2) := by decide +kernel
theorem d14_13 : decode jdk_68_method_33_code 13 = .ok (.aload_n 0, 1) := by decide +kernel
theorem d14_14 : decode jdk_68_method_33_code 14 = .ok (.iload 4, 2) := by decide +kernel
theorem d14_16 : decode jdk_68_method_33_code 16 = .ok (.invokevirtual 100, 3) := by decide +kernel
theorem d14_19 : decode jdk_68_method_33_code 19 = .ok (.aload_n 0, 1) := by decide +kernel
theorem d14_20 : decode jdk_68_method_33_code 20 = .ok (.invokevirtual 83, 3) := by decide +kernel
theorem d14_23 : decode jdk_68_method_33_code 23 = .ok (.ifCond .eq 17, 3) := by decide +kernel
theorem d14_26 : decode jdk_68_method_33_code 26 = .ok (.lload_n 1, 1) := by decide +kernel
theorem d14_27 : decode jdk_68_method_33_code 27 = .ok (.iload 4, 2) := by decide +kernel
theorem d14_29 : decode jdk_68_method_33_code 29 = .ok (.aload_n 0, 1) := by decide +kernel
theorem d14_30 : decode jdk_68_method_33_code 30 = .ok (.getfield 15, 3) := by decide +kernel
theorem d14_33 : decode jdk_68_method_33_code 33 = .ok (.invokestatic 259, 3) := by decide +kernel
theorem d14_36 : decode jdk_68_method_33_code 36 = .ok (.pop, 1) := by decide +kernel
theorem d14_37 : decode jdk_68_method_33_code 37 = .ok (.goto 15, 3) := by decide +kernel
theorem d14_52 : decode jdk_68_method_33_code 52 = .ok (.aload_n 0, 1) := by decide +kernel
theorem d14_53 : decode jdk_68_method_33_code 53 = .ok (.iload 4, 2) := by decide +kernel
theorem d14_55 : decode jdk_68_method_33_code 55 = .ok (.putfield 79, 3) := by decide +kernel
theorem d14_58 : decode jdk_68_method_33_code 58 = .ok (.aload_n 0, 1) := by decide +kernel
theorem d14_59 : decode jdk_68_method_33_code 59 = .ok (.areturn, 1) := by decide +kernel
theorem rj_asAppJ_pn : plainFor (⟨"java/lang/AbstractStringBuilder", "append", "(J)Ljava/lang/AbstractStringBuilder;"⟩ : MethodName) = true := plainFor_of_name (show plainName "java/lang/AbstractStringBuilder" = true by first | (simp [plainName, overriddenIn]; done) | decide +kernel)
theorem rj_asAppJ_ef (mI : MethodId) (b : Addr) (x : Int64) : entryFrame mI #[(.ref b), (.long x)] 5 = mkF mI 0 #[.val (.ref b), .val (.long x), .second, .unset, .unset] [] := by first | (simp [entryFrame, mkF, argsToLocals, Value.category]; done) | rfl
set_option maxRecDepth 65536 in
set_option maxHeartbeats 40000000 in
theorem rj_asAppJ (l : Launch) (Z : State) (a0 : Array Value) (hw : ∀ d ∈ tables_1, d.before a0 Z = true) (ws : List Jvm.Cond) (h0 : Heap) (n0 : Nat) (O : Old Z n0 h0) (cs : Int32) (Scs : Sta Z Z.heap "java/lang/String" "COMPACT_STRINGS" "Z" (.int cs)) (hcs : ¬ cs = 0) (Z0 : n0 ≤ h0.size) (b : Addr) (x : Int64) (da : Addr) (k : ClassId) (z zs n m : Int32) (vs : List Value) (B : own_SB Z h0 b da k z n vs) (g_b : n0 ≤ b) (g_da : n0 ≤ da) (hz0 : ¬ z < 0) (hzi : 0 ≤ z.toInt) (hz3 : z.toInt ≤ 300) (hvz : vs.length ≤ z.toNatClampNeg) (hn0 : ¬ n < 0) (hvn : vs.length = n.toNatClampNeg) (hzs : Int32.ofNat (own_decJ x).length = zs) (hm : n + zs = m) (hm0 : 0 ≤ m.toInt) (hm1 : m.toInt ≤ 140) (hmn : m.toInt = n.toInt + zs.toInt) (sT d1 d2 : Addr) (D1 D2 : Cell) (TB : own_Tb Z sT d1 d2 D1 D2) :
    own_Met l Z (⟨"java/lang/AbstractStringBuilder", "append", "(J)Ljava/lang/AbstractStringBuilder;"⟩ : MethodName) jdk_68_method_33_code 5 (some (.object "java/lang/AbstractStringBuilder")) ws ({ frames := 4, cells := 1, slots := 300, locals := 102 } : Room) #[(.ref b), (.long x)] h0 (own_QA Z h0 n0 b da m (vs ++ own_decJ x)) := by
  refine own_met rj_asAppJ_pn ?_
  intro pP eE sS mI bB mT cC s₁ hx hby hml hown hnm hret hlk hZ X0 e0
  replace hown : sS.vm.findClass "java/lang/AbstractStringBuilder" = some mI.cls := hown
  refine own_cast (rj_asAppJ_ef mI b x) ?_
  refine own_go (T' := s₁) (g' := (mkF mI 1 #[.val (.ref b), .val (.long x), .second, .unset, .unset] [(.ref b)])) (fun t_ kt_ => XS.aloadN X0.here hx rfl (hb hby d14_0) rfl rfl kt_) ?_
  obtain ⟨TK1, XK1, eK1, stK1⟩ := getF X0 hx hZ hown (host := "") (Or.inl (hw _ (List.mem_of_getElem? (i := 55) rfl))) Via.refl e0 B.2.2.2.1 (g := (mkF mI 1 #[.val (.ref b), .val (.long x), .second, .unset, .unset] [(.ref b)])) rfl rfl (hb hby d14_1)
  refine own_go (T' := TK1) (g' := (mkF mI 4 #[.val (.ref b), .val (.long x), .second, .unset, .unset] [(.int n)])) (fun t_ kt_ => stK1 _ kt_) ?_
  refine own_go (T' := TK1) (g' := (mkF mI 5 #[.val (.ref b), .val (.long x), .second, .val (.int n), .unset] [])) (fun t_ kt_ => XS.istoreN XK1.here hx rfl (hb hby d14_4) rfl (l' := #[.val (.ref b), .val (.long x), .second, .val (.int n), .unset]) rfl kt_) ?_
  refine own_go (T' := TK1) (g' := (mkF mI 6 #[.val (.ref b), .val (.long x), .second, .val (.int n), .unset] [(.int n)])) (fun t_ kt_ => XS.iloadN XK1.here hx rfl (hb hby d14_5) rfl kt_) ?_
  refine own_go (T' := TK1) (g' := (mkF mI 7 #[.val (.ref b), .val (.long x), .second, .val (.int n), .unset] [(.long x), (.int n)])) (fun t_ kt_ => XS.lloadN XK1.here hx rfl (hb hby d14_6) rfl kt_) ?_
  refine own_strSizeJ own_closed XK1 hx hZ hown (hw _ (List.mem_of_getElem? (i := 91) rfl)) (hw _ (List.mem_of_getElem? (i := 92) rfl)) (hw _ (List.mem_of_getElem? (i := 94) rfl)) (hw _ (List.mem_of_getElem? (i := 93) rfl)) (hw _ (List.mem_of_getElem? (i := 95) rfl)) (hw _ (List.mem_of_getElem? (i := 132) rfl)) eK1 (pc := 7) (Ls := #[.val (.ref b), .val (.long x), .second, .val (.int n), .unset]) (rest := [(.int n)]) (by rw [hml]; rfl) (W := 1) (Nat.le_of_eq rfl) (by decide) (by decide) (by decide) (by decide) (hb hby d14_7) (x := x) (y := zs) ((own_decJSize x).trans hzs) ?_
  intro TK2 XK2 eK2
  show own_Ends pP eE bB sS _ _ TK2 (mkF mI 10 #[.val (.ref b), .val (.long x), .second, .val (.int n), .unset] [(.int zs), (.int n)])
  refine own_go (T' := TK2) (g' := (mkF mI 11 #[.val (.ref b), .val (.long x), .second, .val (.int n), .unset] [(.int (n + zs))])) (fun t_ kt_ => XS.iadd XK2.here hx rfl (hb hby d14_10) rfl kt_) ?_
  rw [hm]
  refine own_go (T' := TK2) (g' := (mkF mI 13 #[.val (.ref b), .val (.long x), .second, .val (.int n), .val (.int m)] [])) (fun t_ kt_ => XS.istore XK2.here hx rfl (hb hby d14_11) rfl (l' := #[.val (.ref b), .val (.long x), .second, .val (.int n), .val (.int m)]) rfl kt_) ?_
  refine own_go (T' := TK2) (g' := (mkF mI 14 #[.val (.ref b), .val (.long x), .second, .val (.int n), .val (.int m)] [(.ref b)])) (fun t_ kt_ => XS.aloadN XK2.here hx rfl (hb hby d14_13) rfl rfl kt_) ?_
  refine own_go (T' := TK2) (g' := (mkF mI 16 #[.val (.ref b), .val (.long x), .second, .val (.int n), .val (.int m)] [(.int m), (.ref b)])) (fun t_ kt_ => XS.iload XK2.here hx rfl (hb hby d14_14) rfl kt_) ?_
  refine own_callV own_closed XK2 hx hZ (y := (⟨"java/lang/AbstractStringBuilder", "ensureCapacityInternal", "(I)V"⟩ : MethodName)) (z := (⟨"java/lang/AbstractStringBuilder", "ensureCapacityInternal", "(I)V"⟩ : MethodName)) hown (hw _ (List.mem_of_getElem? (i := 57) rfl)) (own_decl (hw _ (List.mem_of_getElem? (i := 58) rfl)) (hw _ (List.mem_of_getElem? (i := 61) rfl))) (hw _ (List.mem_of_getElem? (i := 60) rfl)) (hw _ (List.mem_of_getElem? (i := 58) rfl)) (hw _ (List.mem_of_getElem? (i := 60) rfl)) rfl (by decide) (rj_ensure l Z a0 hw [] h0 n0 Z0 b m da k z n vs B.1 B.2.1 B.2.2.1 B.2.2.2.1 B.2.2.2.2.1 B.2.2.2.2.2 g_b hvz hz0 hzi hz3 hm0 hm1) (hw _ (List.mem_of_getElem? (i := 61) rfl)) (hw _ (List.mem_of_getElem? (i := 14) rfl)) eK2 B.1 (pc := 16) (Ls := #[.val (.ref b), .val (.long x), .second, .val (.int n), .val (.int m)]) (argsL := [(.int m)]) (rest := []) (by rw [hml]; rfl) (lenOf pd_12 rfl) (W := 0) (Nat.le_of_eq rfl) (by decide) (by decide) (by decide) (by decide) (hb hby d14_16) rfl rfl ?_
  intro TK3 LK3 vK3 XK3 hQK3
  obtain ⟨rfl, NK3, KK3, daK3, kK3, zK3, BK3, hdaK3, hzaK3, hzbK3, hzcK3⟩ := hQK3
  have g_dK3 : n0 ≤ daK3 := hdaK3.elim (fun q => by rw [q.1]; exact g_da) (fun q => Nat.le_trans Z0 q)
  have ne_bK3 : b ≠ daK3 := Exa.neArv BK3.1 BK3.2.2.2.2.1 (hw _ (List.mem_of_getElem? (i := 5) rfl))
  have OK3 : Old Z n0 TK3.heap := O.keep KK3 (allS g_b all0)
  have NK3a := Fr.app (Fr.nil n0) NK3
  have ZzK3 : n0 ≤ TK3.heap.size := Nat.le_trans Z0 KK3.1
  show own_Ends pP eE bB sS _ _ TK3 (mkF mI 19 #[.val (.ref b), .val (.long x), .second, .val (.int n), .val (.int m)] [])
  refine own_go (T' := TK3) (g' := (mkF mI 20 #[.val (.ref b), .val (.long x), .second, .val (.int n), .val (.int m)] [(.ref b)])) (fun t_ kt_ => XS.aloadN XK3.here hx rfl (hb hby d14_19) rfl rfl kt_) ?_
  refine own_callV own_closed XK3 hx hZ (y := (⟨"java/lang/AbstractStringBuilder", "isLatin1", "()Z"⟩ : MethodName)) (z := (⟨"java/lang/AbstractStringBuilder", "isLatin1", "()Z"⟩ : MethodName)) hown (hw _ (List.mem_of_getElem? (i := 96) rfl)) (hw _ (List.mem_of_getElem? (i := 97) rfl)) (hw _ (List.mem_of_getElem? (i := 99) rfl)) (hw _ (List.mem_of_getElem? (i := 98) rfl)) (hw _ (List.mem_of_getElem? (i := 99) rfl)) rfl (by decide) (rj_asLat l Z a0 hw [] TK3.heap n0 OK3 cs Scs hcs b BK3.2.2.1) (hw _ (List.mem_of_getElem? (i := 100) rfl)) (hw _ (List.mem_of_getElem? (i := 14) rfl)) rfl BK3.1 (pc := 20) (Ls := #[.val (.ref b), .val (.long x), .second, .val (.int n), .val (.int m)]) (argsL := []) (rest := []) (by rw [hml]; rfl) (lenOf pd_3 rfl) (W := 0) (Nat.le_of_eq rfl) (by decide) (by decide) (by decide) (by decide) (hb hby d14_20) rfl rfl ?_
  intro TK4 LK4 vK4 XK4 hQK4
  obtain ⟨rfl, rfl, eK4⟩ := hQK4
  have NK4a := Fr.app NK3a (Fr.nil n0)
  show own_Ends pP eE bB sS _ _ TK4 (mkF mI 23 #[.val (.ref b), .val (.long x), .second, .val (.int n), .val (.int m)] [(.int (1 : Int32))])
  refine own_go (T' := TK4) (g' := (mkF mI 26 #[.val (.ref b), .val (.long x), .second, .val (.int n), .val (.int m)] [])) (fun t_ kt_ => XS.ifNo XK4.here hx rfl (hb hby d14_23) rfl ((if0 _ _).trans (feq (by decide : ¬ ((1 : Int32) = (0 : Int32)))).1) kt_) ?_
  refine own_go (T' := TK4) (g' := (mkF mI 27 #[.val (.ref b), .val (.long x), .second, .val (.int n), .val (.int m)] [(.long x)])) (fun t_ kt_ => XS.lloadN XK4.here hx rfl (hb hby d14_26) rfl kt_) ?_
  refine own_go (T' := TK4) (g' := (mkF mI 29 #[.val (.ref b), .val (.long x), .second, .val (.int n), .val (.int m)] [(.int m), (.long x)])) (fun t_ kt_ => XS.iload XK4.here hx rfl (hb hby d14_27) rfl kt_) ?_
  refine own_go (T' := TK4) (g' := (mkF mI 30 #[.val (.ref b), .val (.long x), .second, .val (.int n), .val (.int m)] [(.ref b), (.int m), (.long x)])) (fun t_ kt_ => XS.aloadN XK4.here hx rfl (hb hby d14_29) rfl rfl kt_) ?_
  obtain ⟨TK5, XK5, eK5, stK5⟩ := getF XK4 hx hZ hown (host := "") (Or.inl (hw _ (List.mem_of_getElem? (i := 22) rfl))) Via.refl eK4 BK3.2.1 (g := (mkF mI 30 #[.val (.ref b), .val (.long x), .second, .val (.int n), .val (.int m)] [(.ref b), (.int m), (.long x)])) rfl rfl (hb hby d14_30)
  refine own_go (T' := TK5) (g' := (mkF mI 33 #[.val (.ref b), .val (.long x), .second, .val (.int n), .val (.int m)] [(.ref daK3), (.int m), (.long x)])) (fun t_ kt_ => stK5 _ kt_) ?_
  refine own_getCharsJ own_closed XK5 hx hZ hown (hw _ (List.mem_of_getElem? (i := 101) rfl)) (hw _ (List.mem_of_getElem? (i := 102) rfl)) (hw _ (List.mem_of_getElem? (i := 103) rfl)) (hw _ (List.mem_of_getElem? (i := 105) rfl)) (hw _ (List.mem_of_getElem? (i := 134) rfl)) (hw _ (List.mem_of_getElem? (i := 93) rfl)) (hw _ (List.mem_of_getElem? (i := 104) rfl)) (hw _ (List.mem_of_getElem? (i := 133) rfl)) eK5 OK3 TB BK3.2.2.2.2.1 g_dK3 (by have q := own_appI hvn hn0 hzs (own_decJLe20 x) hmn; have q2 := hzbK3; simp only [Int32.toNatClampNeg] at *; omega) (pc := 33) (Ls := #[.val (.ref b), .val (.long x), .second, .val (.int n), .val (.int m)]) (rest := []) (by rw [hml]; rfl) (W := 0) (Nat.le_of_eq rfl) (by decide) (by decide) (by decide) (by decide) (hb hby d14_33) (x := x) (own_appI hvn hn0 hzs (own_decJLe20 x) hmn).1 ?_
  intro TK6 LK6 XK6 VK6 KK6 NK6
  have BK6 : own_SB Z TK6.heap b daK3 kK3 zK3 n (vs ++ own_decJ x) := ⟨BK3.1.keep KK6, BK3.2.1.keep KK6 (ninS ne_bK3 nin0), BK3.2.2.1.keep KK6 (ninS ne_bK3 nin0), BK3.2.2.2.1.keep KK6 (ninS ne_bK3 nin0), VK6, BK3.2.2.2.2.2.keep KK6⟩
  have KxK6 : Keep h0 TK6.heap [b, da] := (own_keepSub KK3 (allS (List.mem_cons_self ..) all0)).trans KK6 (allS (hdaK3.elim (fun q => Or.inl (by rw [q.1]; exact List.mem_cons_of_mem _ (List.mem_cons_self ..))) Or.inr) all0)
  have NK6a := Fr.app NK4a NK6
  have ZzK6 : n0 ≤ TK6.heap.size := Nat.le_trans ZzK3 KK6.1
  show own_Ends pP eE bB sS _ _ TK6 (mkF mI 36 #[.val (.ref b), .val (.long x), .second, .val (.int n), .val (.int m)] [(.int _)])
  refine own_go (T' := TK6) (g' := (mkF mI 37 #[.val (.ref b), .val (.long x), .second, .val (.int n), .val (.int m)] [])) (fun t_ kt_ => XS.pop XK6.here hx rfl (hb hby d14_36) rfl rfl kt_) ?_
  refine own_go (T' := TK6) (g' := (mkF mI 52 #[.val (.ref b), .val (.long x), .second, .val (.int n), .val (.int m)] [])) (fun t_ kt_ => XS.goto XK6.here hx rfl (pc0 := 37) (pc' := 52) rfl (hb hby d14_37) (by decide) (by decide) kt_) ?_
  refine own_go (T' := TK6) (g' := (mkF mI 53 #[.val (.ref b), .val (.long x), .second, .val (.int n), .val (.int m)] [(.ref b)])) (fun t_ kt_ => XS.aloadN XK6.here hx rfl (hb hby d14_52) rfl rfl kt_) ?_
  refine own_go (T' := TK6) (g' := (mkF mI 55 #[.val (.ref b), .val (.long x), .second, .val (.int n), .val (.int m)] [(.int m), (.ref b)])) (fun t_ kt_ => XS.iload XK6.here hx rfl (hb hby d14_53) rfl kt_) ?_
  obtain ⟨TK7, hK7, XK7, eK7, WK7, stK7⟩ := putF XK6 hx hZ hown (host := "") (Or.inl (hw _ (List.mem_of_getElem? (i := 55) rfl))) Via.refl rfl BK6.2.2.2.1 BK6.1 (Or.inl (hw _ (List.mem_of_getElem? (i := 56) rfl))) (hw _ (List.mem_of_getElem? (i := 5) rfl)) (ty := .int) (by decide) rfl rfl (g := (mkF mI 55 #[.val (.ref b), .val (.long x), .second, .val (.int n), .val (.int m)] [(.int m), (.ref b)])) rfl rfl (hb hby d14_55)
  have FwK7 : Fld Z hK7 b "java/lang/AbstractStringBuilder" "count" "I" (.int m) := Fld.same WK7 BK6.2.2.2.1
  have EK8 := Exa.wr WK7 BK6.1
  have ZK11 : n0 ≤ hK7.size := Nat.le_trans ZzK6 (Nat.le_of_eq (Wr.size WK7).symm)
  have NK7 := Fr.snoc XK7 NK6a g_b
  refine own_go (T' := TK7) (g' := (mkF mI 58 #[.val (.ref b), .val (.long x), .second, .val (.int n), .val (.int m)] [])) (fun t_ kt_ => stK7 _ kt_) ?_
  refine own_go (T' := TK7) (g' := (mkF mI 59 #[.val (.ref b), .val (.long x), .second, .val (.int n), .val (.int m)] [(.ref b)])) (fun t_ kt_ => XS.aloadN XK7.here hx rfl (hb hby d14_58) rfl rfl kt_) ?_
  refine own_retA XK7 hx hlk hret rfl rfl (hb hby d14_59) (by decide) (by decide) ?_
  exact by rw [eK7]; exact ⟨rfl, NK7, KxK6.wr WK7 (Or.inl (List.mem_cons_self ..)), daK3, kK3, zK3, ⟨EK8, Fld.other WK7 BK6.2.1 (Or.inr (slot_ne (Or.inl (hw _ (List.mem_of_getElem? (i := 23) rfl))) (Or.inl (hw _ (List.mem_of_getElem? (i := 56) rfl))) (by decide) (t := (.array .byte)) (t' := .int) (by decide) (by decide))), Fld.other WK7 BK6.2.2.1 (Or.inr (slot_ne (Or.inl (hw _ (List.mem_of_getElem? (i := 25) rfl))) (Or.inl (hw _ (List.mem_of_getElem? (i := 56) rfl))) (by decide) (t := .byte) (t' := .int) (by decide) (by decide))), FwK7, BK6.2.2.2.2.1.other WK7 (Ne.symm ne_bK3), BK6.2.2.2.2.2.wr WK7⟩, hdaK3.imp And.left id, hzbK3, hzcK3⟩
theorem d13_0 : decode jdk_67_method_16_code 0 = .ok (.aload_n 0, 1) := by decide +kernel
theorem d13_1 : decode jdk_67_method_16_code 1 = .ok (.lload_n 1, 1) := by decide +kernel
theorem d13_2 : decode jdk_67_method_16_code 2 = .ok (.invokespecial 56, 3) := by decide +kernel
theorem d13_5 : decode jdk_67_method_16_code 5 = .ok (.pop, 1) := by decide +kernel
theorem d13_6 : decode jdk_67_method_16_code 6 = .ok (.aload_n 0, 1) := by decide +kernel
theorem d13_7 : decode jdk_67_method_16_code 7 = .ok (.areturn, 1) := by decide +kernel
theorem rj_appJ_pn : plainFor (⟨"java/lang/StringBuilder", "append", "(J)Ljava/lang/StringBuilder;"⟩ : MethodName) = true := plainFor_of_name (show plainName "java/lang/StringBuilder" = true by first | (simp [plainName, overriddenIn]; done) | decide +kernel)
theorem rj_appJ_ef (mI : MethodId) (b : Addr) (x : Int64) : entryFrame mI #[(.ref b), (.long x)] 3 = mkF mI 0 #[.val (.ref b), .val (.long x), .second] [] := by first | (simp [entryFrame, mkF, argsToLocals, Value.category]; done) | rfl
set_option maxRecDepth 65536 in
set_option maxHeartbeats 40000000 in
theorem rj_appJ (l : Launch) (Z : State) (a0 : Array Value) (hw : ∀ d ∈ tables_1, d.before a0 Z = true) (ws : List Jvm.Cond) (h0 : Heap) (n0 : Nat) (O : Old Z n0 h0) (cs : Int32) (Scs : Sta Z Z.heap "java/lang/String" "COMPACT_STRINGS" "Z" (.int cs)) (hcs : ¬ cs = 0) (Z0 : n0 ≤ h0.size) (b : Addr) (x : Int64) (da : Addr) (k : ClassId) (z zs n m : Int32) (vs : List Value) (B : own_SB Z h0 b da k z n vs) (g_b : n0 ≤ b) (g_da : n0 ≤ da) (hz0 : ¬ z < 0) (hzi : 0 ≤ z.toInt) (hz3 : z.toInt ≤ 300) (hvz : vs.length ≤ z.toNatClampNeg) (hn0 : ¬ n < 0) (hvn : vs.length = n.toNatClampNeg) (hzs : Int32.ofNat (own_decJ x).length = zs) (hm : n + zs = m) (hm0 : 0 ≤ m.toInt) (hm1 : m.toInt ≤ 140) (hmn : m.toInt = n.toInt + zs.toInt) (sT d1 d2 : Addr) (D1 D2 : Cell) (TB : own_Tb Z sT d1 d2 D1 D2) :
    own_Met l Z (⟨"java/lang/StringBuilder", "append", "(J)Ljava/lang/StringBuilder;"⟩ : MethodName) jdk_67_method_16_code 3 (some (.object "java/lang/StringBuilder")) ws ({ frames := 5, cells := 1, slots := 300, locals := 118 } : Room) #[(.ref b), (.long x)] h0 (own_QA Z h0 n0 b da m (vs ++ own_decJ x)) := by
  refine own_met rj_appJ_pn ?_
  intro pP eE sS mI bB mT cC s₁ hx hby hml hown hnm hret hlk hZ X0 e0
  replace hown : sS.vm.findClass "java/lang/StringBuilder" = some mI.cls := hown
  refine own_cast (rj_appJ_ef mI b x) ?_
  refine own_go (T' := s₁) (g' := (mkF mI 1 #[.val (.ref b), .val (.long x), .second] [(.ref b)])) (fun t_ kt_ => XS.aloadN X0.here hx rfl (hb hby d13_0) rfl rfl kt_) ?_
  refine own_go (T' := s₁) (g' := (mkF mI 2 #[.val (.ref b), .val (.long x), .second] [(.long x), (.ref b)])) (fun t_ kt_ => XS.lloadN X0.here hx rfl (hb hby d13_1) rfl kt_) ?_
  refine own_callX own_closed X0 hx hZ (y := (⟨"java/lang/AbstractStringBuilder", "append", "(J)Ljava/lang/AbstractStringBuilder;"⟩ : MethodName)) hown (hw _ (List.mem_of_getElem? (i := 87) rfl)) (hw _ (List.mem_of_getElem? (i := 88) rfl)) (hw _ (List.mem_of_getElem? (i := 39) rfl)) (hw _ (List.mem_of_getElem? (i := 60) rfl)) rfl (by decide) (by decide) (rj_asAppJ l Z a0 hw [] h0 n0 O cs Scs hcs Z0 b x da k z zs n m vs B g_b g_da hz0 hzi hz3 hvz hn0 hvn hzs hm hm0 hm1 hmn sT d1 d2 D1 D2 TB) (hw _ (List.mem_of_getElem? (i := 90) rfl)) (hw _ (List.mem_of_getElem? (i := 14) rfl)) e0 B.1 (pc := 2) (Ls := #[.val (.ref b), .val (.long x), .second]) (argsL := [(.long x)]) (rest := []) (by rw [hml]; rfl) (lenOf pd_19 rfl) (W := 0) (Nat.le_of_eq rfl) (by decide) (by decide) (by decide) (by decide) (hb hby d13_2) rfl rfl ?_
  intro TL1 LL1 vL1 XL1 hQL1
  obtain ⟨rfl, NL1, KL1, RL1⟩ := hQL1
  show own_Ends pP eE bB sS _ _ TL1 (mkF mI 5 #[.val (.ref b), .val (.long x), .second] [(.ref b)])
  refine own_go (T' := TL1) (g' := (mkF mI 6 #[.val (.ref b), .val (.long x), .second] [])) (fun t_ kt_ => XS.pop XL1.here hx rfl (hb hby d13_5) rfl rfl kt_) ?_
  refine own_go (T' := TL1) (g' := (mkF mI 7 #[.val (.ref b), .val (.long x), .second] [(.ref b)])) (fun t_ kt_ => XS.aloadN XL1.here hx rfl (hb hby d13_6) rfl rfl kt_) ?_
  refine own_retA XL1 hx hlk hret rfl rfl (hb hby d13_7) (by decide) (by decide) ?_
  exact ⟨rfl, Fr.app (Fr.nil n0) NL1, KL1, RL1⟩
theorem d33_0 : decode method_3_code 0 = .ok (.iload_n 3, 1) := by decide +kernel
theorem d33_1 : decode method_3_code 1 = .ok (.aload_n 2, 1) := by decide +kernel
theorem d33_2 : decode method_3_code 2 = .ok (.invokevirtual 33, 3) := by decide +kernel
theorem d33_5 : decode method_3_code 5 = .ok (.if_icmp .ge 28, 3) := by decide +kernel
theorem d33_8 : decode method_3_code 8 = .ok (.iload_n 1, 1) := by decide +kernel
theorem d33_9 : decode method_3_code 9 = .ok (.iload_n 3, 1) := by decide +kernel
theorem d33_10 : decode method_3_code 10 = .ok (.iadd, 1) := by decide +kernel
theorem d33_11 : decode method_3_code 11 = .ok (.aload_n 0, 1) := by decide +kernel
theorem d33_12 : decode method_3_code 12 = .ok (.invokevirtual 33, 3) := by decide +kernel
theorem d33_15 : decode method_3_code 15 = .ok (.if_icmp .ge 22, 3) := by decide +kernel
theorem d33_18 : decode method_3_code 18 = .ok (.aload_n 0, 1) := by decide +kernel
theorem d33_19 : decode method_3_code 19 = .ok (.iload_n 1, 1) := by decide +kernel
theorem d33_20 : decode method_3_code 20 = .ok (.iload_n 3, 1) := by decide +kernel
theorem d33_21 : decode method_3_code 21 = .ok (.iadd, 1) := by decide +kernel
theorem d33_22 : decode method_3_code 22 = .ok (.invokevirtual 39, 3) := by decide +kernel
theorem d33_25 : decode method_3_code 25 = .ok (.aload_n 2, 1) := by decide +kernel
theorem d33_26 : decode method_3_code 26 = .ok (.iload_n 3, 1) := by decide +kernel
theorem d33_27 : decode method_3_code 27 = .ok (.invokevirtual 39, 3) := by decide +kernel
theorem d33_30 : decode method_3_code 30 = .ok (.if_icmp .ne 7, 3) := by decide +kernel
theorem d33_33 : decode method_3_code 33 = .ok (.iconst 1, 1) := by decide +kernel
theorem d33_34 : decode method_3_code 34 = .ok (.goto 4, 3) := by decide +kernel
theorem d33_38 : decode method_3_code 38 = .ok (.ireturn, 1) := by decide +kernel
theorem rl_at_pn : plainFor (⟨"com/example/carter/carter/IncompleteEnqueueExceptionCountByFatePinLaw", "at", "(Ljava/lang/String;ILjava/lang/String;I)Z"⟩ : MethodName) = true := plainFor_of_name (show plainName "com/example/carter/carter/IncompleteEnqueueExceptionCountByFatePinLaw" = true by first | (simp [plainName, overriddenIn]; done) | decide +kernel)
theorem rl_at_ef (mI : MethodId) (t : Addr) (p : Int32) (u : Addr) (j : Int32) : entryFrame mI #[(.ref t), (.int p), (.ref u), (.int j)] 4 = mkF mI 0 #[.val (.ref t), .val (.int p), .val (.ref u), .val (.int j)] [] := by first | (simp [entryFrame, mkF, argsToLocals, Value.category]; done) | rfl
set_option maxRecDepth 65536 in
set_option maxHeartbeats 40000000 in
theorem rl_at (l : Launch) (Z : State) (a0 : Array Value) (hw : ∀ d ∈ tables_1, d.before a0 Z = true) (ws : List Jvm.Cond) (h0 : Heap) (n0 : Nat) (O : Old Z n0 h0) (cs : Int32) (Scs : Sta Z Z.heap "java/lang/String" "COMPACT_STRINGS" "Z" (.int cs)) (hcs : ¬ cs = 0) (fo : Value) (hfo : fo.isRef = true) (Sfo : Sta Z Z.heap "jdk/internal/util/Preconditions" "SIOOBE_FORMATTER" "Ljava/util/function/BiFunction;" fo) (t td : Addr) (kt : ClassId) (n : Int32) (TX : List Value) (S : own_St Z h0 t td kt n TX) (u ud : Addr) (ku : ClassId) (z : Int32) (us : List Value) (U : own_St Z h0 u ud ku z us) (p j : Int32) (hj0 : ¬ j < 0) (hA : j < z → ∃ w : Int32, ¬ (p + j) < 0 ∧ (p + j) < n ∧ TX.getD (p + j).toNatClampNeg (.int 0) = .int w ∧ us.getD j.toNatClampNeg (.int 0) = .int w ∧ w &&& 255 = w) :
    own_Met l Z (⟨"com/example/carter/carter/IncompleteEnqueueExceptionCountByFatePinLaw", "at", "(Ljava/lang/String;ILjava/lang/String;I)Z"⟩ : MethodName) method_3_code 4 (some .boolean) ws ({ frames := 4, cells := 0, slots := 0, locals := 54 } : Room) #[(.ref t), (.int p), (.ref u), (.int j)] h0 (own_QP h0 (some (.int 1))) := by
  refine own_met rl_at_pn ?_
  intro pP eE sS mI bB mT cC s₁ hx hby hml hown hnm hret hlk hZ X0 e0
  replace hown : sS.vm.findClass "com/example/carter/carter/IncompleteEnqueueExceptionCountByFatePinLaw" = some mI.cls := hown
  refine own_cast (rl_at_ef mI t p u j) ?_
  refine own_go (T' := s₁) (g' := (mkF mI 1 #[.val (.ref t), .val (.int p), .val (.ref u), .val (.int j)] [(.int j)])) (fun t_ kt_ => XS.iloadN X0.here hx rfl (hb hby d33_0) rfl kt_) ?_
  refine own_go (T' := s₁) (g' := (mkF mI 2 #[.val (.ref t), .val (.int p), .val (.ref u), .val (.int j)] [(.ref u), (.int j)])) (fun t_ kt_ => XS.aloadN X0.here hx rfl (hb hby d33_1) rfl rfl kt_) ?_
  refine own_callV own_closed X0 hx hZ (y := (⟨"java/lang/String", "length", "()I"⟩ : MethodName)) (z := (⟨"java/lang/String", "length", "()I"⟩ : MethodName)) hown (hw _ (List.mem_of_getElem? (i := 179) rfl)) (hw _ (List.mem_of_getElem? (i := 43) rfl)) (hw _ (List.mem_of_getElem? (i := 45) rfl)) (hw _ (List.mem_of_getElem? (i := 44) rfl)) (hw _ (List.mem_of_getElem? (i := 45) rfl)) rfl (by decide) (rj_len l Z a0 hw [] h0 n0 O cs Scs hcs u ud _ z _ U.1 U.2.1 U.2.2.1 U.2.2.2) (hw _ (List.mem_of_getElem? (i := 46) rfl)) (hw _ (List.mem_of_getElem? (i := 20) rfl)) e0 U.1 (pc := 2) (Ls := #[.val (.ref t), .val (.int p), .val (.ref u), .val (.int j)]) (argsL := []) (rest := [(.int j)]) (by rw [hml]; rfl) (lenOf pd_11 rfl) (W := 1) (Nat.le_of_eq rfl) (by decide) (by decide) (by decide) (by decide) (hb hby d33_2) rfl rfl ?_
  intro TMa1 LMa1 vMa1 XMa1 hQMa1
  obtain ⟨rfl, rfl, eMa1⟩ := hQMa1
  show own_Ends pP eE bB sS _ _ TMa1 (mkF mI 5 #[.val (.ref t), .val (.int p), .val (.ref u), .val (.int j)] [(.int z), (.int j)])
  by_cases hc5_Ma2 : j < z
  · skip
    refine own_go (T' := TMa1) (g' := (mkF mI 8 #[.val (.ref t), .val (.int p), .val (.ref u), .val (.int j)] [])) (fun t_ kt_ => XS.icmpNo XMa1.here hx rfl (hb hby d33_5) rfl (tlt hc5_Ma2).2.1 kt_) ?_
    obtain ⟨w, hw0, hw1, hw2, hw3, hw4⟩ := hA hc5_Ma2
    refine own_go (T' := TMa1) (g' := (mkF mI 9 #[.val (.ref t), .val (.int p), .val (.ref u), .val (.int j)] [(.int p)])) (fun t_ kt_ => XS.iloadN XMa1.here hx rfl (hb hby d33_8) rfl kt_) ?_
    refine own_go (T' := TMa1) (g' := (mkF mI 10 #[.val (.ref t), .val (.int p), .val (.ref u), .val (.int j)] [(.int j), (.int p)])) (fun t_ kt_ => XS.iloadN XMa1.here hx rfl (hb hby d33_9) rfl kt_) ?_
    refine own_go (T' := TMa1) (g' := (mkF mI 11 #[.val (.ref t), .val (.int p), .val (.ref u), .val (.int j)] [(.int (p + j))])) (fun t_ kt_ => XS.iadd XMa1.here hx rfl (hb hby d33_10) rfl kt_) ?_
    refine own_go (T' := TMa1) (g' := (mkF mI 12 #[.val (.ref t), .val (.int p), .val (.ref u), .val (.int j)] [(.ref t), (.int (p + j))])) (fun t_ kt_ => XS.aloadN XMa1.here hx rfl (hb hby d33_11) rfl rfl kt_) ?_
    refine own_callV own_closed XMa1 hx hZ (y := (⟨"java/lang/String", "length", "()I"⟩ : MethodName)) (z := (⟨"java/lang/String", "length", "()I"⟩ : MethodName)) hown (hw _ (List.mem_of_getElem? (i := 179) rfl)) (hw _ (List.mem_of_getElem? (i := 43) rfl)) (hw _ (List.mem_of_getElem? (i := 45) rfl)) (hw _ (List.mem_of_getElem? (i := 44) rfl)) (hw _ (List.mem_of_getElem? (i := 45) rfl)) rfl (by decide) (rj_len l Z a0 hw [] h0 n0 O cs Scs hcs t td _ n _ S.1 S.2.1 S.2.2.1 S.2.2.2) (hw _ (List.mem_of_getElem? (i := 46) rfl)) (hw _ (List.mem_of_getElem? (i := 20) rfl)) eMa1 S.1 (pc := 12) (Ls := #[.val (.ref t), .val (.int p), .val (.ref u), .val (.int j)]) (argsL := []) (rest := [(.int (p + j))]) (by rw [hml]; rfl) (lenOf pd_11 rfl) (W := 1) (Nat.le_of_eq rfl) (by decide) (by decide) (by decide) (by decide) (hb hby d33_12) rfl rfl ?_
    intro TMa3 LMa3 vMa3 XMa3 hQMa3
    obtain ⟨rfl, rfl, eMa3⟩ := hQMa3
    show own_Ends pP eE bB sS _ _ TMa3 (mkF mI 15 #[.val (.ref t), .val (.int p), .val (.ref u), .val (.int j)] [(.int n), (.int (p + j))])
    refine own_go (T' := TMa3) (g' := (mkF mI 18 #[.val (.ref t), .val (.int p), .val (.ref u), .val (.int j)] [])) (fun t_ kt_ => XS.icmpNo XMa3.here hx rfl (hb hby d33_15) rfl (tlt (hw1 : (p + j) < n)).2.1 kt_) ?_
    refine own_go (T' := TMa3) (g' := (mkF mI 19 #[.val (.ref t), .val (.int p), .val (.ref u), .val (.int j)] [(.ref t)])) (fun t_ kt_ => XS.aloadN XMa3.here hx rfl (hb hby d33_18) rfl rfl kt_) ?_
    refine own_go (T' := TMa3) (g' := (mkF mI 20 #[.val (.ref t), .val (.int p), .val (.ref u), .val (.int j)] [(.int p), (.ref t)])) (fun t_ kt_ => XS.iloadN XMa3.here hx rfl (hb hby d33_19) rfl kt_) ?_
    refine own_go (T' := TMa3) (g' := (mkF mI 21 #[.val (.ref t), .val (.int p), .val (.ref u), .val (.int j)] [(.int j), (.int p), (.ref t)])) (fun t_ kt_ => XS.iloadN XMa3.here hx rfl (hb hby d33_20) rfl kt_) ?_
    refine own_go (T' := TMa3) (g' := (mkF mI 22 #[.val (.ref t), .val (.int p), .val (.ref u), .val (.int j)] [(.int (p + j)), (.ref t)])) (fun t_ kt_ => XS.iadd XMa3.here hx rfl (hb hby d33_21) rfl kt_) ?_
    refine own_callV own_closed XMa3 hx hZ (y := (⟨"java/lang/String", "charAt", "(I)C"⟩ : MethodName)) (z := (⟨"java/lang/String", "charAt", "(I)C"⟩ : MethodName)) hown (hw _ (List.mem_of_getElem? (i := 183) rfl)) (hw _ (List.mem_of_getElem? (i := 184) rfl)) (hw _ (List.mem_of_getElem? (i := 186) rfl)) (hw _ (List.mem_of_getElem? (i := 185) rfl)) (hw _ (List.mem_of_getElem? (i := 186) rfl)) rfl (by decide) (rj_cha l Z a0 hw [] h0 n0 O cs Scs hcs fo hfo Sfo t (p + j) td kt n TX S.1 S.2.1 S.2.2.1 w S.2.2.2 hw0 hw1 hw2 hw4) (hw _ (List.mem_of_getElem? (i := 187) rfl)) (hw _ (List.mem_of_getElem? (i := 20) rfl)) eMa3 S.1 (pc := 22) (Ls := #[.val (.ref t), .val (.int p), .val (.ref u), .val (.int j)]) (argsL := [(.int (p + j))]) (rest := []) (by rw [hml]; rfl) (lenOf pd_20 rfl) (W := 0) (Nat.le_of_eq rfl) (by decide) (by decide) (by decide) (by decide) (hb hby d33_22) rfl rfl ?_
    intro TMa4 LMa4 vMa4 XMa4 hQMa4
    obtain ⟨rfl, rfl, eMa4⟩ := hQMa4
    show own_Ends pP eE bB sS _ _ TMa4 (mkF mI 25 #[.val (.ref t), .val (.int p), .val (.ref u), .val (.int j)] [(.int w)])
    refine own_go (T' := TMa4) (g' := (mkF mI 26 #[.val (.ref t), .val (.int p), .val (.ref u), .val (.int j)] [(.ref u), (.int w)])) (fun t_ kt_ => XS.aloadN XMa4.here hx rfl (hb hby d33_25) rfl rfl kt_) ?_
    refine own_go (T' := TMa4) (g' := (mkF mI 27 #[.val (.ref t), .val (.int p), .val (.ref u), .val (.int j)] [(.int j), (.ref u), (.int w)])) (fun t_ kt_ => XS.iloadN XMa4.here hx rfl (hb hby d33_26) rfl kt_) ?_
    refine own_callV own_closed XMa4 hx hZ (y := (⟨"java/lang/String", "charAt", "(I)C"⟩ : MethodName)) (z := (⟨"java/lang/String", "charAt", "(I)C"⟩ : MethodName)) hown (hw _ (List.mem_of_getElem? (i := 183) rfl)) (hw _ (List.mem_of_getElem? (i := 184) rfl)) (hw _ (List.mem_of_getElem? (i := 186) rfl)) (hw _ (List.mem_of_getElem? (i := 185) rfl)) (hw _ (List.mem_of_getElem? (i := 186) rfl)) rfl (by decide) (rj_cha l Z a0 hw [] h0 n0 O cs Scs hcs fo hfo Sfo u j ud ku z us U.1 U.2.1 U.2.2.1 w U.2.2.2 hj0 hc5_Ma2 hw3 hw4) (hw _ (List.mem_of_getElem? (i := 187) rfl)) (hw _ (List.mem_of_getElem? (i := 20) rfl)) eMa4 U.1 (pc := 27) (Ls := #[.val (.ref t), .val (.int p), .val (.ref u), .val (.int j)]) (argsL := [(.int j)]) (rest := [(.int w)]) (by rw [hml]; rfl) (lenOf pd_20 rfl) (W := 1) (Nat.le_of_eq rfl) (by decide) (by decide) (by decide) (by decide) (hb hby d33_27) rfl rfl ?_
    intro TMa5 LMa5 vMa5 XMa5 hQMa5
    obtain ⟨rfl, rfl, eMa5⟩ := hQMa5
    show own_Ends pP eE bB sS _ _ TMa5 (mkF mI 30 #[.val (.ref t), .val (.int p), .val (.ref u), .val (.int j)] [(.int w), (.int w)])
    refine own_go (T' := TMa5) (g' := (mkF mI 33 #[.val (.ref t), .val (.int p), .val (.ref u), .val (.int j)] [])) (fun t_ kt_ => XS.icmpNo XMa5.here hx rfl (hb hby d33_30) rfl (teq (rfl : w = w)).2 kt_) ?_
    refine own_go (T' := TMa5) (g' := (mkF mI 34 #[.val (.ref t), .val (.int p), .val (.ref u), .val (.int j)] [(.int (1 : Int32))])) (fun t_ kt_ => XS.iconst XMa5.here hx rfl (hb hby d33_33) kt_) ?_
    refine own_go (T' := TMa5) (g' := (mkF mI 38 #[.val (.ref t), .val (.int p), .val (.ref u), .val (.int j)] [(.int (1 : Int32))])) (fun t_ kt_ => XS.goto XMa5.here hx rfl (pc0 := 34) (pc' := 38) rfl (hb hby d33_34) (by decide) (by decide) kt_) ?_
    refine own_retN XMa5 hx hlk (t := .boolean) hret (by simp) (hb hby d33_38) (show nar .boolean (1 : Int32) = (1 : Int32) from by decide) (by decide) (by decide) ?_
    exact ⟨rfl, rfl, eMa5⟩
  · skip
    refine own_go (T' := TMa1) (g' := (mkF mI 33 #[.val (.ref t), .val (.int p), .val (.ref u), .val (.int j)] [])) (fun t_ kt_ => XS.icmpYes XMa1.here hx rfl (pc0 := 5) (pc' := 33) rfl (hb hby d33_5) rfl (flt hc5_Ma2).2.1 (by decide) (by decide) kt_) ?_
    refine own_go (T' := TMa1) (g' := (mkF mI 34 #[.val (.ref t), .val (.int p), .val (.ref u), .val (.int j)] [(.int (1 : Int32))])) (fun t_ kt_ => XS.iconst XMa1.here hx rfl (hb hby d33_33) kt_) ?_
    refine own_go (T' := TMa1) (g' := (mkF mI 38 #[.val (.ref t), .val (.int p), .val (.ref u), .val (.int j)] [(.int (1 : Int32))])) (fun t_ kt_ => XS.goto XMa1.here hx rfl (pc0 := 34) (pc' := 38) rfl (hb hby d33_34) (by decide) (by decide) kt_) ?_
    refine own_retN XMa1 hx hlk (t := .boolean) hret (by simp) (hb hby d33_38) (show nar .boolean (1 : Int32) = (1 : Int32) from by decide) (by decide) (by decide) ?_
    exact ⟨rfl, rfl, eMa1⟩
theorem d32_0 : decode method_4_code 0 = .ok (.iload_n 1, 1) := by decide +kernel
theorem d32_1 : decode method_4_code 1 = .ok (.ifCond .lt 12, 3) := by decide +kernel
theorem d32_4 : decode method_4_code 4 = .ok (.aload_n 2, 1) := by decide +kernel
theorem d32_5 : decode method_4_code 5 = .ok (.invokevirtual 33, 3) := by decide +kernel
theorem d32_8 : decode method_4_code 8 = .ok (.bipush 13, 2) := by decide +kernel
theorem d32_10 : decode method_4_code 10 = .ok (.if_icmp .le 5, 3) := by decide +kernel
theorem d32_15 : decode method_4_code 15 = .ok (.aload_n 0, 1) := by decide +kernel
theorem d32_16 : decode method_4_code 16 = .ok (.iload_n 1, 1) := by decide +kernel
theorem d32_17 : decode method_4_code 17 = .ok (.aload_n 2, 1) := by decide +kernel
theorem d32_18 : decode method_4_code 18 = .ok (.iconst 0, 1) := by decide +kernel
theorem d32_19 : decode method_4_code 19 = .ok (.invokestatic 43, 3) := by decide +kernel
theorem d32_22 : decode method_4_code 22 = .ok (.ifCond .eq 134, 3) := by decide +kernel
theorem d32_25 : decode method_4_code 25 = .ok (.aload_n 0, 1) := by decide +kernel
theorem d32_26 : decode method_4_code 26 = .ok (.iload_n 1, 1) := by decide +kernel
theorem d32_27 : decode method_4_code 27 = .ok (.aload_n 2, 1) := by decide +kernel
theorem d32_28 : decode method_4_code 28 = .ok (.iconst 1, 1) := by decide +kernel
theorem d32_29 : decode method_4_code 29 = .ok (.invokestatic 43, 3) := by decide +kernel
theorem d32_32 : decode method_4_code 32 = .ok (.ifCond .eq 124, 3) := by decide +kernel
theorem d32_35 : decode method_4_code 35 = .ok (.aload_n 0, 1) := by decide +kernel
theorem d32_36 : decode method_4_code 36 = .ok (.iload_n 1, 1) := by decide +kernel
theorem d32_37 : decode method_4_code 37 = .ok (.aload_n 2, 1) := by decide +kernel
theorem d32_38 : decode method_4_code 38 = .ok (.iconst 2, 1) := by decide +kernel
theorem d32_39 : decode method_4_code 39 = .ok (.invokestatic 43, 3) := by decide +kernel
theorem d32_42 : decode method_4_code 42 = .ok (.ifCond .eq 114, 3) := by decide +kernel
theorem d32_45 : decode method_4_code 45 = .ok (.aload_n 0, 1) := by decide +kernel
theorem d32_46 : decode method_4_code 46 = .ok (.iload_n 1, 1) := by decide +kernel
theorem d32_47 : decode method_4_code 47 = .ok (.aload_n 2, 1) := by decide +kernel
theorem d32_48 : decode method_4_code 48 = .ok (.iconst 3, 1) := by decide +kernel
theorem d32_49 : decode method_4_code 49 = .ok (.invokestatic 43, 3) := by decide +kernel
theorem d32_52 : decode method_4_code 52 = .ok (.ifCond .eq 104, 3) := by decide +kernel
theorem d32_55 : decode method_4_code 55 = .ok (.aload_n 0, 1) := by decide +kernel
theorem d32_56 : decode method_4_code 56 = .ok (.iload_n 1, 1) := by decide +kernel
theorem d32_57 : decode method_4_code 57 = .ok (.aload_n 2, 1) := by decide +kernel
theorem d32_58 : decode method_4_code 58 = .ok (.iconst 4, 1) := by decide +kernel
theorem d32_59 : decode method_4_code 59 = .ok (.invokestatic 43, 3) := by decide +kernel
theorem d32_62 : decode method_4_code 62 = .ok (.ifCond .eq 94, 3) := by decide +kernel
theorem d32_65 : decode method_4_code 65 = .ok (.aload_n 0, 1) := by decide +kernel
theorem d32_66 : decode method_4_code 66 = .ok (.iload_n 1, 1) := by decide +kernel
theorem d32_67 : decode method_4_code 67 = .ok (.aload_n 2, 1) := by decide +kernel
theorem d32_68 : decode method_4_code 68 = .ok (.iconst 5, 1) := by decide +kernel
theorem d32_69 : decode method_4_code 69 = .ok (.invokestatic 43, 3) := by decide +kernel
theorem d32_72 : decode method_4_code 72 = .ok (.ifCond .eq 84, 3) := by decide +kernel
theorem d32_75 : decode method_4_code 75 = .ok (.aload_n 0, 1) := by decide +kernel
theorem d32_76 : decode method_4_code 76 = .ok (.iload_n 1, 1) := by decide +kernel
theorem d32_77 : decode method_4_code 77 = .ok (.aload_n 2, 1) := by decide +kernel
theorem d32_78 : decode method_4_code 78 = .ok (.bipush 6, 2) := by decide +kernel
theorem d32_80 : decode method_4_code 80 = .ok (.invokestatic 43, 3) := by decide +kernel
theorem d32_83 : decode method_4_code 83 = .ok (.ifCond .eq 73, 3) := by decide +kernel
theorem d32_86 : decode method_4_code 86 = .ok (.aload_n 0, 1) := by decide +kernel
theorem d32_87 : decode method_4_code 87 = .ok (.iload_n 1, 1) := by decide +kernel
theorem d32_88 : decode method_4_code 88 = .ok (.aload_n 2, 1) := by decide +kernel
theorem d32_89 : decode method_4_code 89 = .ok (.bipush 7, 2) := by decide +kernel
theorem d32_91 : decode method_4_code 91 = .ok (.invokestatic 43, 3) := by decide +kernel
theorem d32_94 : decode method_4_code 94 = .ok (.ifCond .eq 62, 3) := by decide +kernel
theorem d32_97 : decode method_4_code 97 = .ok (.aload_n 0, 1) := by decide +kernel
theorem d32_98 : decode method_4_code 98 = .ok (.iload_n 1, 1) := by decide +kernel
theorem d32_99 : decode method_4_code 99 = .ok (.aload_n 2, 1) := by decide +kernel
theorem d32_100 : decode method_4_code 100 = .ok (.bipush 8, 2) := by decide +kernel
theorem d32_102 : decode method_4_code 102 = .ok (.invokestatic 43, 3) := by decide +kernel
theorem d32_105 : decode method_4_code 105 = .ok (.ifCond .eq 51, 3) := by decide +kernel
theorem d32_108 : decode method_4_code 108 = .ok (.aload_n 0, 1) := by decide +kernel
theorem d32_109 : decode method_4_code 109 = .ok (.iload_n 1, 1) := by decide +kernel
theorem d32_110 : decode method_4_code 110 = .ok (.aload_n 2, 1) := by decide +kernel
theorem d32_111 : decode method_4_code 111 = .ok (.bipush 9, 2) := by decide +kernel
theorem d32_113 : decode method_4_code 113 = .ok (.invokestatic 43, 3) := by decide +kernel
theorem d32_116 : decode method_4_code 116 = .ok (.ifCond .eq 40, 3) := by decide +kernel
theorem d32_119 : decode method_4_code 119 = .ok (.aload_n 0, 1) := by decide +kernel
theorem d32_120 : decode method_4_code 120 = .ok (.iload_n 1, 1) := by decide +kernel
theorem d32_121 : decode method_4_code 121 = .ok (.aload_n 2, 1) := by decide +kernel
theorem d32_122 : decode method_4_code 122 = .ok (.bipush 10, 2) := by decide +kernel
theorem d32_124 : decode method_4_code 124 = .ok (.invokestatic 43, 3) := by decide +kernel
theorem d32_127 : decode method_4_code 127 = .ok (.ifCond .eq 29, 3) := by decide +kernel
theorem d32_130 : decode method_4_code 130 = .ok (.aload_n 0, 1) := by decide +kernel
theorem d32_131 : decode method_4_code 131 = .ok (.iload_n 1, 1) := by decide +kernel
theorem d32_132 : decode method_4_code 132 = .ok (.aload_n 2, 1) := by decide +kernel
theorem d32_133 : decode method_4_code 133 = .ok (.bipush 11, 2) := by decide +kernel
theorem d32_135 : decode method_4_code 135 = .ok (.invokestatic 43, 3) := by decide +kernel
theorem d32_138 : decode method_4_code 138 = .ok (.ifCond .eq 18, 3) := by decide +kernel
theorem d32_141 : decode method_4_code 141 = .ok (.aload_n 0, 1) := by decide +kernel
theorem d32_142 : decode method_4_code 142 = .ok (.iload_n 1, 1) := by decide +kernel
theorem d32_143 : decode method_4_code 143 = .ok (.aload_n 2, 1) := by decide +kernel
theorem d32_144 : decode method_4_code 144 = .ok (.bipush 12, 2) := by decide +kernel
theorem d32_146 : decode method_4_code 146 = .ok (.invokestatic 43, 3) := by decide +kernel
theorem d32_149 : decode method_4_code 149 = .ok (.ifCond .eq 7, 3) := by decide +kernel
theorem d32_152 : decode method_4_code 152 = .ok (.iconst 1, 1) := by decide +kernel
theorem d32_153 : decode method_4_code 153 = .ok (.goto 4, 3) := by decide +kernel
theorem d32_157 : decode method_4_code 157 = .ok (.istore_n 3, 1) := by decide +kernel
theorem d32_158 : decode method_4_code 158 = .ok (.iload_n 3, 1) := by decide +kernel
theorem d32_159 : decode method_4_code 159 = .ok (.ifCond .eq 12, 3) := by decide +kernel
theorem d32_162 : decode method_4_code 162 = .ok (.iload_n 1, 1) := by decide +kernel
theorem d32_163 : decode method_4_code 163 = .ok (.aload_n 2, 1) := by decide +kernel
theorem d32_164 : decode method_4_code 164 = .ok (.invokevirtual 33, 3) := by decide +kernel
theorem d32_167 : decode method_4_code 167 = .ok (.iadd, 1) := by decide +kernel
theorem d32_168 : decode method_4_code 168 = .ok (.goto 4, 3) := by decide +kernel
theorem d32_172 : decode method_4_code 172 = .ok (.ireturn, 1) := by decide +kernel
theorem rl_lit_pn : plainFor (⟨"com/example/carter/carter/IncompleteEnqueueExceptionCountByFatePinLaw", "lit", "(Ljava/lang/String;ILjava/lang/String;)I"⟩ : MethodName) = true := plainFor_of_name (show plainName "com/example/carter/carter/IncompleteEnqueueExceptionCountByFatePinLaw" = true by first | (simp [plainName, overriddenIn]; done) | decide +kernel)
theorem rl_lit_ef (mI : MethodId) (t : Addr) (p : Int32) (u : Addr) : entryFrame mI #[(.ref t), (.int p), (.ref u)] 4 = mkF mI 0 #[.val (.ref t), .val (.int p), .val (.ref u), .unset] [] := by first | (simp [entryFrame, mkF, argsToLocals, Value.category]; done) | rfl
set_option maxRecDepth 65536 in
set_option maxHeartbeats 40000000 in
theorem rl_lit (l : Launch) (Z : State) (a0 : Array Value) (hw : ∀ d ∈ tables_1, d.before a0 Z = true) (ws : List Jvm.Cond) (h0 : Heap) (n0 : Nat) (O : Old Z n0 h0) (cs : Int32) (Scs : Sta Z Z.heap "java/lang/String" "COMPACT_STRINGS" "Z" (.int cs)) (hcs : ¬ cs = 0) (fo : Value) (hfo : fo.isRef = true) (Sfo : Sta Z Z.heap "jdk/internal/util/Preconditions" "SIOOBE_FORMATTER" "Ljava/util/function/BiFunction;" fo) (t td : Addr) (kt : ClassId) (n : Int32) (TX : List Value) (S : own_St Z h0 t td kt n TX) (u ud : Addr) (ku : ClassId) (z : Int32) (us : List Value) (U : own_St Z h0 u ud ku z us) (p r : Int32) (hp0 : ¬ p < 0) (hz13 : ¬ (13 : Int32) < z) (hr : p + z = r) (hA : ∀ j : Int32, ¬ j < 0 → j < z → ∃ w : Int32, ¬ (p + j) < 0 ∧ (p + j) < n ∧ TX.getD (p + j).toNatClampNeg (.int 0) = .int w ∧ us.getD j.toNatClampNeg (.int 0) = .int w ∧ w &&& 255 = w) :
    own_Met l Z (⟨"com/example/carter/carter/IncompleteEnqueueExceptionCountByFatePinLaw", "lit", "(Ljava/lang/String;ILjava/lang/String;)I"⟩ : MethodName) method_4_code 4 (some .int) ws ({ frames := 5, cells := 0, slots := 0, locals := 69 } : Room) #[(.ref t), (.int p), (.ref u)] h0 (own_QP h0 (some (.int r))) := by
  refine own_met rl_lit_pn ?_
  intro pP eE sS mI bB mT cC s₁ hx hby hml hown hnm hret hlk hZ X0 e0
  replace hown : sS.vm.findClass "com/example/carter/carter/IncompleteEnqueueExceptionCountByFatePinLaw" = some mI.cls := hown
  refine own_cast (rl_lit_ef mI t p u) ?_
  refine own_go (T' := s₁) (g' := (mkF mI 1 #[.val (.ref t), .val (.int p), .val (.ref u), .unset] [(.int p)])) (fun t_ kt_ => XS.iloadN X0.here hx rfl (hb hby d32_0) rfl kt_) ?_
  refine own_go (T' := s₁) (g' := (mkF mI 4 #[.val (.ref t), .val (.int p), .val (.ref u), .unset] [])) (fun t_ kt_ => XS.ifNo X0.here hx rfl (hb hby d32_1) rfl ((if0 _ _).trans (flt (hp0 : ¬ (p < (0 : Int32)))).1) kt_) ?_
  refine own_go (T' := s₁) (g' := (mkF mI 5 #[.val (.ref t), .val (.int p), .val (.ref u), .unset] [(.ref u)])) (fun t_ kt_ => XS.aloadN X0.here hx rfl (hb hby d32_4) rfl rfl kt_) ?_
  refine own_callV own_closed X0 hx hZ (y := (⟨"java/lang/String", "length", "()I"⟩ : MethodName)) (z := (⟨"java/lang/String", "length", "()I"⟩ : MethodName)) hown (hw _ (List.mem_of_getElem? (i := 179) rfl)) (hw _ (List.mem_of_getElem? (i := 43) rfl)) (hw _ (List.mem_of_getElem? (i := 45) rfl)) (hw _ (List.mem_of_getElem? (i := 44) rfl)) (hw _ (List.mem_of_getElem? (i := 45) rfl)) rfl (by decide) (rj_len l Z a0 hw [] h0 n0 O cs Scs hcs u ud _ z _ U.1 U.2.1 U.2.2.1 U.2.2.2) (hw _ (List.mem_of_getElem? (i := 46) rfl)) (hw _ (List.mem_of_getElem? (i := 20) rfl)) e0 U.1 (pc := 5) (Ls := #[.val (.ref t), .val (.int p), .val (.ref u), .unset]) (argsL := []) (rest := []) (by rw [hml]; rfl) (lenOf pd_11 rfl) (W := 0) (Nat.le_of_eq rfl) (by decide) (by decide) (by decide) (by decide) (hb hby d32_5) rfl rfl ?_
  intro TMb1 LMb1 vMb1 XMb1 hQMb1
  obtain ⟨rfl, rfl, eMb1⟩ := hQMb1
  show own_Ends pP eE bB sS _ _ TMb1 (mkF mI 8 #[.val (.ref t), .val (.int p), .val (.ref u), .unset] [(.int z)])
  refine own_go (T' := TMb1) (g' := (mkF mI 10 #[.val (.ref t), .val (.int p), .val (.ref u), .unset] [(.int (13 : Int32)), (.int z)])) (fun t_ kt_ => XS.bipush XMb1.here hx rfl (hb hby d32_8) kt_) ?_
  refine own_go (T' := TMb1) (g' := (mkF mI 15 #[.val (.ref t), .val (.int p), .val (.ref u), .unset] [])) (fun t_ kt_ => XS.icmpYes XMb1.here hx rfl (pc0 := 10) (pc' := 15) rfl (hb hby d32_10) rfl (flt (hz13 : ¬ ((13 : Int32) < z))).2.2.2 (by decide) (by decide) kt_) ?_
  refine own_go (T' := TMb1) (g' := (mkF mI 16 #[.val (.ref t), .val (.int p), .val (.ref u), .unset] [(.ref t)])) (fun t_ kt_ => XS.aloadN XMb1.here hx rfl (hb hby d32_15) rfl rfl kt_) ?_
  refine own_go (T' := TMb1) (g' := (mkF mI 17 #[.val (.ref t), .val (.int p), .val (.ref u), .unset] [(.int p), (.ref t)])) (fun t_ kt_ => XS.iloadN XMb1.here hx rfl (hb hby d32_16) rfl kt_) ?_
  refine own_go (T' := TMb1) (g' := (mkF mI 18 #[.val (.ref t), .val (.int p), .val (.ref u), .unset] [(.ref u), (.int p), (.ref t)])) (fun t_ kt_ => XS.aloadN XMb1.here hx rfl (hb hby d32_17) rfl rfl kt_) ?_
  refine own_go (T' := TMb1) (g' := (mkF mI 19 #[.val (.ref t), .val (.int p), .val (.ref u), .unset] [(.int (0 : Int32)), (.ref u), (.int p), (.ref t)])) (fun t_ kt_ => XS.iconst XMb1.here hx rfl (hb hby d32_18) kt_) ?_
  refine own_callS own_closed XMb1 hx hZ (y := (⟨"com/example/carter/carter/IncompleteEnqueueExceptionCountByFatePinLaw", "at", "(Ljava/lang/String;ILjava/lang/String;I)Z"⟩ : MethodName)) hown (hw _ (List.mem_of_getElem? (i := 180) rfl)) (hw _ (List.mem_of_getElem? (i := 181) rfl)) (by decide) (rl_at l Z a0 hw [] h0 n0 O cs Scs hcs fo hfo Sfo t td kt n TX S u ud ku z us U p (0 : Int32) (by decide) (hA (0 : Int32) (by decide))) (hw _ (List.mem_of_getElem? (i := 182) rfl)) (hw _ (List.mem_of_getElem? (i := 177) rfl)) eMb1 (pc := 19) (Ls := #[.val (.ref t), .val (.int p), .val (.ref u), .unset]) (argsL := [(.ref t), (.int p), (.ref u), (.int (0 : Int32))]) (rest := []) (by rw [hml]; rfl) (lenOf pd_21 rfl) (W := 0) (Nat.le_of_eq rfl) (by decide) (by decide) (by decide) (by decide) (hb hby d32_19) rfl rfl ?_
  intro TMb2 LMb2 vMb2 XMb2 hQMb2
  obtain ⟨rfl, rfl, eMb2⟩ := hQMb2
  show own_Ends pP eE bB sS _ _ TMb2 (mkF mI 22 #[.val (.ref t), .val (.int p), .val (.ref u), .unset] [(.int (1 : Int32))])
  refine own_go (T' := TMb2) (g' := (mkF mI 25 #[.val (.ref t), .val (.int p), .val (.ref u), .unset] [])) (fun t_ kt_ => XS.ifNo XMb2.here hx rfl (hb hby d32_22) rfl ((if0 _ _).trans (feq (by decide : ¬ ((1 : Int32) = (0 : Int32)))).1) kt_) ?_
  refine own_go (T' := TMb2) (g' := (mkF mI 26 #[.val (.ref t), .val (.int p), .val (.ref u), .unset] [(.ref t)])) (fun t_ kt_ => XS.aloadN XMb2.here hx rfl (hb hby d32_25) rfl rfl kt_) ?_
  refine own_go (T' := TMb2) (g' := (mkF mI 27 #[.val (.ref t), .val (.int p), .val (.ref u), .unset] [(.int p), (.ref t)])) (fun t_ kt_ => XS.iloadN XMb2.here hx rfl (hb hby d32_26) rfl kt_) ?_
  refine own_go (T' := TMb2) (g' := (mkF mI 28 #[.val (.ref t), .val (.int p), .val (.ref u), .unset] [(.ref u), (.int p), (.ref t)])) (fun t_ kt_ => XS.aloadN XMb2.here hx rfl (hb hby d32_27) rfl rfl kt_) ?_
  refine own_go (T' := TMb2) (g' := (mkF mI 29 #[.val (.ref t), .val (.int p), .val (.ref u), .unset] [(.int (1 : Int32)), (.ref u), (.int p), (.ref t)])) (fun t_ kt_ => XS.iconst XMb2.here hx rfl (hb hby d32_28) kt_) ?_
  refine own_callS own_closed XMb2 hx hZ (y := (⟨"com/example/carter/carter/IncompleteEnqueueExceptionCountByFatePinLaw", "at", "(Ljava/lang/String;ILjava/lang/String;I)Z"⟩ : MethodName)) hown (hw _ (List.mem_of_getElem? (i := 180) rfl)) (hw _ (List.mem_of_getElem? (i := 181) rfl)) (by decide) (rl_at l Z a0 hw [] h0 n0 O cs Scs hcs fo hfo Sfo t td kt n TX S u ud ku z us U p (1 : Int32) (by decide) (hA (1 : Int32) (by decide))) (hw _ (List.mem_of_getElem? (i := 182) rfl)) (hw _ (List.mem_of_getElem? (i := 177) rfl)) eMb2 (pc := 29) (Ls := #[.val (.ref t), .val (.int p), .val (.ref u), .unset]) (argsL := [(.ref t), (.int p), (.ref u), (.int (1 : Int32))]) (rest := []) (by rw [hml]; rfl) (lenOf pd_21 rfl) (W := 0) (Nat.le_of_eq rfl) (by decide) (by decide) (by decide) (by decide) (hb hby d32_29) rfl rfl ?_
  intro TMb3 LMb3 vMb3 XMb3 hQMb3
  obtain ⟨rfl, rfl, eMb3⟩ := hQMb3
  show own_Ends pP eE bB sS _ _ TMb3 (mkF mI 32 #[.val (.ref t), .val (.int p), .val (.ref u), .unset] [(.int (1 : Int32))])
  refine own_go (T' := TMb3) (g' := (mkF mI 35 #[.val (.ref t), .val (.int p), .val (.ref u), .unset] [])) (fun t_ kt_ => XS.ifNo XMb3.here hx rfl (hb hby d32_32) rfl ((if0 _ _).trans (feq (by decide : ¬ ((1 : Int32) = (0 : Int32)))).1) kt_) ?_
  refine own_go (T' := TMb3) (g' := (mkF mI 36 #[.val (.ref t), .val (.int p), .val (.ref u), .unset] [(.ref t)])) (fun t_ kt_ => XS.aloadN XMb3.here hx rfl (hb hby d32_35) rfl rfl kt_) ?_
  refine own_go (T' := TMb3) (g' := (mkF mI 37 #[.val (.ref t), .val (.int p), .val (.ref u), .unset] [(.int p), (.ref t)])) (fun t_ kt_ => XS.iloadN XMb3.here hx rfl (hb hby d32_36) rfl kt_) ?_
  refine own_go (T' := TMb3) (g' := (mkF mI 38 #[.val (.ref t), .val (.int p), .val (.ref u), .unset] [(.ref u), (.int p), (.ref t)])) (fun t_ kt_ => XS.aloadN XMb3.here hx rfl (hb hby d32_37) rfl rfl kt_) ?_
  refine own_go (T' := TMb3) (g' := (mkF mI 39 #[.val (.ref t), .val (.int p), .val (.ref u), .unset] [(.int (2 : Int32)), (.ref u), (.int p), (.ref t)])) (fun t_ kt_ => XS.iconst XMb3.here hx rfl (hb hby d32_38) kt_) ?_
  refine own_callS own_closed XMb3 hx hZ (y := (⟨"com/example/carter/carter/IncompleteEnqueueExceptionCountByFatePinLaw", "at", "(Ljava/lang/String;ILjava/lang/String;I)Z"⟩ : MethodName)) hown (hw _ (List.mem_of_getElem? (i := 180) rfl)) (hw _ (List.mem_of_getElem? (i := 181) rfl)) (by decide) (rl_at l Z a0 hw [] h0 n0 O cs Scs hcs fo hfo Sfo t td kt n TX S u ud ku z us U p (2 : Int32) (by decide) (hA (2 : Int32) (by decide))) (hw _ (List.mem_of_getElem? (i := 182) rfl)) (hw _ (List.mem_of_getElem? (i := 177) rfl)) eMb3 (pc := 39) (Ls := #[.val (.ref t), .val (.int p), .val (.ref u), .unset]) (argsL := [(.ref t), (.int p), (.ref u), (.int (2 : Int32))]) (rest := []) (by rw [hml]; rfl) (lenOf pd_21 rfl) (W := 0) (Nat.le_of_eq rfl) (by decide) (by decide) (by decide) (by decide) (hb hby d32_39) rfl rfl ?_
  intro TMb4 LMb4 vMb4 XMb4 hQMb4
  obtain ⟨rfl, rfl, eMb4⟩ := hQMb4
  show own_Ends pP eE bB sS _ _ TMb4 (mkF mI 42 #[.val (.ref t), .val (.int p), .val (.ref u), .unset] [(.int (1 : Int32))])
  refine own_go (T' := TMb4) (g' := (mkF mI 45 #[.val (.ref t), .val (.int p), .val (.ref u), .unset] [])) (fun t_ kt_ => XS.ifNo XMb4.here hx rfl (hb hby d32_42) rfl ((if0 _ _).trans (feq (by decide : ¬ ((1 : Int32) = (0 : Int32)))).1) kt_) ?_
  refine own_go (T' := TMb4) (g' := (mkF mI 46 #[.val (.ref t), .val (.int p), .val (.ref u), .unset] [(.ref t)])) (fun t_ kt_ => XS.aloadN XMb4.here hx rfl (hb hby d32_45) rfl rfl kt_) ?_
  refine own_go (T' := TMb4) (g' := (mkF mI 47 #[.val (.ref t), .val (.int p), .val (.ref u), .unset] [(.int p), (.ref t)])) (fun t_ kt_ => XS.iloadN XMb4.here hx rfl (hb hby d32_46) rfl kt_) ?_
  refine own_go (T' := TMb4) (g' := (mkF mI 48 #[.val (.ref t), .val (.int p), .val (.ref u), .unset] [(.ref u), (.int p), (.ref t)])) (fun t_ kt_ => XS.aloadN XMb4.here hx rfl (hb hby d32_47) rfl rfl kt_) ?_
  refine own_go (T' := TMb4) (g' := (mkF mI 49 #[.val (.ref t), .val (.int p), .val (.ref u), .unset] [(.int (3 : Int32)), (.ref u), (.int p), (.ref t)])) (fun t_ kt_ => XS.iconst XMb4.here hx rfl (hb hby d32_48) kt_) ?_
  refine own_callS own_closed XMb4 hx hZ (y := (⟨"com/example/carter/carter/IncompleteEnqueueExceptionCountByFatePinLaw", "at", "(Ljava/lang/String;ILjava/lang/String;I)Z"⟩ : MethodName)) hown (hw _ (List.mem_of_getElem? (i := 180) rfl)) (hw _ (List.mem_of_getElem? (i := 181) rfl)) (by decide) (rl_at l Z a0 hw [] h0 n0 O cs Scs hcs fo hfo Sfo t td kt n TX S u ud ku z us U p (3 : Int32) (by decide) (hA (3 : Int32) (by decide))) (hw _ (List.mem_of_getElem? (i := 182) rfl)) (hw _ (List.mem_of_getElem? (i := 177) rfl)) eMb4 (pc := 49) (Ls := #[.val (.ref t), .val (.int p), .val (.ref u), .unset]) (argsL := [(.ref t), (.int p), (.ref u), (.int (3 : Int32))]) (rest := []) (by rw [hml]; rfl) (lenOf pd_21 rfl) (W := 0) (Nat.le_of_eq rfl) (by decide) (by decide) (by decide) (by decide) (hb hby d32_49) rfl rfl ?_
  intro TMb5 LMb5 vMb5 XMb5 hQMb5
  obtain ⟨rfl, rfl, eMb5⟩ := hQMb5
  show own_Ends pP eE bB sS _ _ TMb5 (mkF mI 52 #[.val (.ref t), .val (.int p), .val (.ref u), .unset] [(.int (1 : Int32))])
  refine own_go (T' := TMb5) (g' := (mkF mI 55 #[.val (.ref t), .val (.int p), .val (.ref u), .unset] [])) (fun t_ kt_ => XS.ifNo XMb5.here hx rfl (hb hby d32_52) rfl ((if0 _ _).trans (feq (by decide : ¬ ((1 : Int32) = (0 : Int32)))).1) kt_) ?_
  refine own_go (T' := TMb5) (g' := (mkF mI 56 #[.val (.ref t), .val (.int p), .val (.ref u), .unset] [(.ref t)])) (fun t_ kt_ => XS.aloadN XMb5.here hx rfl (hb hby d32_55) rfl rfl kt_) ?_
  refine own_go (T' := TMb5) (g' := (mkF mI 57 #[.val (.ref t), .val (.int p), .val (.ref u), .unset] [(.int p), (.ref t)])) (fun t_ kt_ => XS.iloadN XMb5.here hx rfl (hb hby d32_56) rfl kt_) ?_
  refine own_go (T' := TMb5) (g' := (mkF mI 58 #[.val (.ref t), .val (.int p), .val (.ref u), .unset] [(.ref u), (.int p), (.ref t)])) (fun t_ kt_ => XS.aloadN XMb5.here hx rfl (hb hby d32_57) rfl rfl kt_) ?_
  refine own_go (T' := TMb5) (g' := (mkF mI 59 #[.val (.ref t), .val (.int p), .val (.ref u), .unset] [(.int (4 : Int32)), (.ref u), (.int p), (.ref t)])) (fun t_ kt_ => XS.iconst XMb5.here hx rfl (hb hby d32_58) kt_) ?_
  refine own_callS own_closed XMb5 hx hZ (y := (⟨"com/example/carter/carter/IncompleteEnqueueExceptionCountByFatePinLaw", "at", "(Ljava/lang/String;ILjava/lang/String;I)Z"⟩ : MethodName)) hown (hw _ (List.mem_of_getElem? (i := 180) rfl)) (hw _ (List.mem_of_getElem? (i := 181) rfl)) (by decide) (rl_at l Z a0 hw [] h0 n0 O cs Scs hcs fo hfo Sfo t td kt n TX S u ud ku z us U p (4 : Int32) (by decide) (hA (4 : Int32) (by decide))) (hw _ (List.mem_of_getElem? (i := 182) rfl)) (hw _ (List.mem_of_getElem? (i := 177) rfl)) eMb5 (pc := 59) (Ls := #[.val (.ref t), .val (.int p), .val (.ref u), .unset]) (argsL := [(.ref t), (.int p), (.ref u), (.int (4 : Int32))]) (rest := []) (by rw [hml]; rfl) (lenOf pd_21 rfl) (W := 0) (Nat.le_of_eq rfl) (by decide) (by decide) (by decide) (by decide) (hb hby d32_59) rfl rfl ?_
  intro TMb6 LMb6 vMb6 XMb6 hQMb6
  obtain ⟨rfl, rfl, eMb6⟩ := hQMb6
  show own_Ends pP eE bB sS _ _ TMb6 (mkF mI 62 #[.val (.ref t), .val (.int p), .val (.ref u), .unset] [(.int (1 : Int32))])
  refine own_go (T' := TMb6) (g' := (mkF mI 65 #[.val (.ref t), .val (.int p), .val (.ref u), .unset] [])) (fun t_ kt_ => XS.ifNo XMb6.here hx rfl (hb hby d32_62) rfl ((if0 _ _).trans (feq (by decide : ¬ ((1 : Int32) = (0 : Int32)))).1) kt_) ?_
  refine own_go (T' := TMb6) (g' := (mkF mI 66 #[.val (.ref t), .val (.int p), .val (.ref u), .unset] [(.ref t)])) (fun t_ kt_ => XS.aloadN XMb6.here hx rfl (hb hby d32_65) rfl rfl kt_) ?_
  refine own_go (T' := TMb6) (g' := (mkF mI 67 #[.val (.ref t), .val (.int p), .val (.ref u), .unset] [(.int p), (.ref t)])) (fun t_ kt_ => XS.iloadN XMb6.here hx rfl (hb hby d32_66) rfl kt_) ?_
  refine own_go (T' := TMb6) (g' := (mkF mI 68 #[.val (.ref t), .val (.int p), .val (.ref u), .unset] [(.ref u), (.int p), (.ref t)])) (fun t_ kt_ => XS.aloadN XMb6.here hx rfl (hb hby d32_67) rfl rfl kt_) ?_
  refine own_go (T' := TMb6) (g' := (mkF mI 69 #[.val (.ref t), .val (.int p), .val (.ref u), .unset] [(.int (5 : Int32)), (.ref u), (.int p), (.ref t)])) (fun t_ kt_ => XS.iconst XMb6.here hx rfl (hb hby d32_68) kt_) ?_
  refine own_callS own_closed XMb6 hx hZ (y := (⟨"com/example/carter/carter/IncompleteEnqueueExceptionCountByFatePinLaw", "at", "(Ljava/lang/String;ILjava/lang/String;I)Z"⟩ : MethodName)) hown (hw _ (List.mem_of_getElem? (i := 180) rfl)) (hw _ (List.mem_of_getElem? (i := 181) rfl)) (by decide) (rl_at l Z a0 hw [] h0 n0 O cs Scs hcs fo hfo Sfo t td kt n TX S u ud ku z us U p (5 : Int32) (by decide) (hA (5 : Int32) (by decide))) (hw _ (List.mem_of_getElem? (i := 182) rfl)) (hw _ (List.mem_of_getElem? (i := 177) rfl)) eMb6 (pc := 69) (Ls := #[.val (.ref t), .val (.int p), .val (.ref u), .unset]) (argsL := [(.ref t), (.int p), (.ref u), (.int (5 : Int32))]) (rest := []) (by rw [hml]; rfl) (lenOf pd_21 rfl) (W := 0) (Nat.le_of_eq rfl) (by decide) (by decide) (by decide) (by decide) (hb hby d32_69) rfl rfl ?_
  intro TMb7 LMb7 vMb7 XMb7 hQMb7
  obtain ⟨rfl, rfl, eMb7⟩ := hQMb7
  show own_Ends pP eE bB sS _ _ TMb7 (mkF mI 72 #[.val (.ref t), .val (.int p), .val (.ref u), .unset] [(.int (1 : Int32))])
  refine own_go (T' := TMb7) (g' := (mkF mI 75 #[.val (.ref t), .val (.int p), .val (.ref u), .unset] [])) (fun t_ kt_ => XS.ifNo XMb7.here hx rfl (hb hby d32_72) rfl ((if0 _ _).trans (feq (by decide : ¬ ((1 : Int32) = (0 : Int32)))).1) kt_) ?_
  refine own_go (T' := TMb7) (g' := (mkF mI 76 #[.val (.ref t), .val (.int p), .val (.ref u), .unset] [(.ref t)])) (fun t_ kt_ => XS.aloadN XMb7.here hx rfl (hb hby d32_75) rfl rfl kt_) ?_
  refine own_go (T' := TMb7) (g' := (mkF mI 77 #[.val (.ref t), .val (.int p), .val (.ref u), .unset] [(.int p), (.ref t)])) (fun t_ kt_ => XS.iloadN XMb7.here hx rfl (hb hby d32_76) rfl kt_) ?_
  refine own_go (T' := TMb7) (g' := (mkF mI 78 #[.val (.ref t), .val (.int p), .val (.ref u), .unset] [(.ref u), (.int p), (.ref t)])) (fun t_ kt_ => XS.aloadN XMb7.here hx rfl (hb hby d32_77) rfl rfl kt_) ?_
  refine own_go (T' := TMb7) (g' := (mkF mI 80 #[.val (.ref t), .val (.int p), .val (.ref u), .unset] [(.int (6 : Int32)), (.ref u), (.int p), (.ref t)])) (fun t_ kt_ => XS.bipush XMb7.here hx rfl (hb hby d32_78) kt_) ?_
  refine own_callS own_closed XMb7 hx hZ (y := (⟨"com/example/carter/carter/IncompleteEnqueueExceptionCountByFatePinLaw", "at", "(Ljava/lang/String;ILjava/lang/String;I)Z"⟩ : MethodName)) hown (hw _ (List.mem_of_getElem? (i := 180) rfl)) (hw _ (List.mem_of_getElem? (i := 181) rfl)) (by decide) (rl_at l Z a0 hw [] h0 n0 O cs Scs hcs fo hfo Sfo t td kt n TX S u ud ku z us U p (6 : Int32) (by decide) (hA (6 : Int32) (by decide))) (hw _ (List.mem_of_getElem? (i := 182) rfl)) (hw _ (List.mem_of_getElem? (i := 177) rfl)) eMb7 (pc := 80) (Ls := #[.val (.ref t), .val (.int p), .val (.ref u), .unset]) (argsL := [(.ref t), (.int p), (.ref u), (.int (6 : Int32))]) (rest := []) (by rw [hml]; rfl) (lenOf pd_21 rfl) (W := 0) (Nat.le_of_eq rfl) (by decide) (by decide) (by decide) (by decide) (hb hby d32_80) rfl rfl ?_
  intro TMb8 LMb8 vMb8 XMb8 hQMb8
  obtain ⟨rfl, rfl, eMb8⟩ := hQMb8
  show own_Ends pP eE bB sS _ _ TMb8 (mkF mI 83 #[.val (.ref t), .val (.int p), .val (.ref u), .unset] [(.int (1 : Int32))])
  refine own_go (T' := TMb8) (g' := (mkF mI 86 #[.val (.ref t), .val (.int p), .val (.ref u), .unset] [])) (fun t_ kt_ => XS.ifNo XMb8.here hx rfl (hb hby d32_83) rfl ((if0 _ _).trans (feq (by decide : ¬ ((1 : Int32) = (0 : Int32)))).1) kt_) ?_
  refine own_go (T' := TMb8) (g' := (mkF mI 87 #[.val (.ref t), .val (.int p), .val (.ref u), .unset] [(.ref t)])) (fun t_ kt_ => XS.aloadN XMb8.here hx rfl (hb hby d32_86) rfl rfl kt_) ?_
  refine own_go (T' := TMb8) (g' := (mkF mI 88 #[.val (.ref t), .val (.int p), .val (.ref u), .unset] [(.int p), (.ref t)])) (fun t_ kt_ => XS.iloadN XMb8.here hx rfl (hb hby d32_87) rfl kt_) ?_
  refine own_go (T' := TMb8) (g' := (mkF mI 89 #[.val (.ref t), .val (.int p), .val (.ref u), .unset] [(.ref u), (.int p), (.ref t)])) (fun t_ kt_ => XS.aloadN XMb8.here hx rfl (hb hby d32_88) rfl rfl kt_) ?_
  refine own_go (T' := TMb8) (g' := (mkF mI 91 #[.val (.ref t), .val (.int p), .val (.ref u), .unset] [(.int (7 : Int32)), (.ref u), (.int p), (.ref t)])) (fun t_ kt_ => XS.bipush XMb8.here hx rfl (hb hby d32_89) kt_) ?_
  refine own_callS own_closed XMb8 hx hZ (y := (⟨"com/example/carter/carter/IncompleteEnqueueExceptionCountByFatePinLaw", "at", "(Ljava/lang/String;ILjava/lang/String;I)Z"⟩ : MethodName)) hown (hw _ (List.mem_of_getElem? (i := 180) rfl)) (hw _ (List.mem_of_getElem? (i := 181) rfl)) (by decide) (rl_at l Z a0 hw [] h0 n0 O cs Scs hcs fo hfo Sfo t td kt n TX S u ud ku z us U p (7 : Int32) (by decide) (hA (7 : Int32) (by decide))) (hw _ (List.mem_of_getElem? (i := 182) rfl)) (hw _ (List.mem_of_getElem? (i := 177) rfl)) eMb8 (pc := 91) (Ls := #[.val (.ref t), .val (.int p), .val (.ref u), .unset]) (argsL := [(.ref t), (.int p), (.ref u), (.int (7 : Int32))]) (rest := []) (by rw [hml]; rfl) (lenOf pd_21 rfl) (W := 0) (Nat.le_of_eq rfl) (by decide) (by decide) (by decide) (by decide) (hb hby d32_91) rfl rfl ?_
  intro TMb9 LMb9 vMb9 XMb9 hQMb9
  obtain ⟨rfl, rfl, eMb9⟩ := hQMb9
  show own_Ends pP eE bB sS _ _ TMb9 (mkF mI 94 #[.val (.ref t), .val (.int p), .val (.ref u), .unset] [(.int (1 : Int32))])
  refine own_go (T' := TMb9) (g' := (mkF mI 97 #[.val (.ref t), .val (.int p), .val (.ref u), .unset] [])) (fun t_ kt_ => XS.ifNo XMb9.here hx rfl (hb hby d32_94) rfl ((if0 _ _).trans (feq (by decide : ¬ ((1 : Int32) = (0 : Int32)))).1) kt_) ?_
  refine own_go (T' := TMb9) (g' := (mkF mI 98 #[.val (.ref t), .val (.int p), .val (.ref u), .unset] [(.ref t)])) (fun t_ kt_ => XS.aloadN XMb9.here hx rfl (hb hby d32_97) rfl rfl kt_) ?_
  refine own_go (T' := TMb9) (g' := (mkF mI 99 #[.val (.ref t), .val (.int p), .val (.ref u), .unset] [(.int p), (.ref t)])) (fun t_ kt_ => XS.iloadN XMb9.here hx rfl (hb hby d32_98) rfl kt_) ?_
  refine own_go (T' := TMb9) (g' := (mkF mI 100 #[.val (.ref t), .val (.int p), .val (.ref u), .unset] [(.ref u), (.int p), (.ref t)])) (fun t_ kt_ => XS.aloadN XMb9.here hx rfl (hb hby d32_99) rfl rfl kt_) ?_
  refine own_go (T' := TMb9) (g' := (mkF mI 102 #[.val (.ref t), .val (.int p), .val (.ref u), .unset] [(.int (8 : Int32)), (.ref u), (.int p), (.ref t)])) (fun t_ kt_ => XS.bipush XMb9.here hx rfl (hb hby d32_100) kt_) ?_
  refine own_callS own_closed XMb9 hx hZ (y := (⟨"com/example/carter/carter/IncompleteEnqueueExceptionCountByFatePinLaw", "at", "(Ljava/lang/String;ILjava/lang/String;I)Z"⟩ : MethodName)) hown (hw _ (List.mem_of_getElem? (i := 180) rfl)) (hw _ (List.mem_of_getElem? (i := 181) rfl)) (by decide) (rl_at l Z a0 hw [] h0 n0 O cs Scs hcs fo hfo Sfo t td kt n TX S u ud ku z us U p (8 : Int32) (by decide) (hA (8 : Int32) (by decide))) (hw _ (List.mem_of_getElem? (i := 182) rfl)) (hw _ (List.mem_of_getElem? (i := 177) rfl)) eMb9 (pc := 102) (Ls := #[.val (.ref t), .val (.int p), .val (.ref u), .unset]) (argsL := [(.ref t), (.int p), (.ref u), (.int (8 : Int32))]) (rest := []) (by rw [hml]; rfl) (lenOf pd_21 rfl) (W := 0) (Nat.le_of_eq rfl) (by decide) (by decide) (by decide) (by decide) (hb hby d32_102) rfl rfl ?_
  intro TMb10 LMb10 vMb10 XMb10 hQMb10
  obtain ⟨rfl, rfl, eMb10⟩ := hQMb10
  show own_Ends pP eE bB sS _ _ TMb10 (mkF mI 105 #[.val (.ref t), .val (.int p), .val (.ref u), .unset] [(.int (1 : Int32))])
  refine own_go (T' := TMb10) (g' := (mkF mI 108 #[.val (.ref t), .val (.int p), .val (.ref u), .unset] [])) (fun t_ kt_ => XS.ifNo XMb10.here hx rfl (hb hby d32_105) rfl ((if0 _ _).trans (feq (by decide : ¬ ((1 : Int32) = (0 : Int32)))).1) kt_) ?_
  refine own_go (T' := TMb10) (g' := (mkF mI 109 #[.val (.ref t), .val (.int p), .val (.ref u), .unset] [(.ref t)])) (fun t_ kt_ => XS.aloadN XMb10.here hx rfl (hb hby d32_108) rfl rfl kt_) ?_
  refine own_go (T' := TMb10) (g' := (mkF mI 110 #[.val (.ref t), .val (.int p), .val (.ref u), .unset] [(.int p), (.ref t)])) (fun t_ kt_ => XS.iloadN XMb10.here hx rfl (hb hby d32_109) rfl kt_) ?_
  refine own_go (T' := TMb10) (g' := (mkF mI 111 #[.val (.ref t), .val (.int p), .val (.ref u), .unset] [(.ref u), (.int p), (.ref t)])) (fun t_ kt_ => XS.aloadN XMb10.here hx rfl (hb hby d32_110) rfl rfl kt_) ?_
  refine own_go (T' := TMb10) (g' := (mkF mI 113 #[.val (.ref t), .val (.int p), .val (.ref u), .unset] [(.int (9 : Int32)), (.ref u), (.int p), (.ref t)])) (fun t_ kt_ => XS.bipush XMb10.here hx rfl (hb hby d32_111) kt_) ?_
  refine own_callS own_closed XMb10 hx hZ (y := (⟨"com/example/carter/carter/IncompleteEnqueueExceptionCountByFatePinLaw", "at", "(Ljava/lang/String;ILjava/lang/String;I)Z"⟩ : MethodName)) hown (hw _ (List.mem_of_getElem? (i := 180) rfl)) (hw _ (List.mem_of_getElem? (i := 181) rfl)) (by decide) (rl_at l Z a0 hw [] h0 n0 O cs Scs hcs fo hfo Sfo t td kt n TX S u ud ku z us U p (9 : Int32) (by decide) (hA (9 : Int32) (by decide))) (hw _ (List.mem_of_getElem? (i := 182) rfl)) (hw _ (List.mem_of_getElem? (i := 177) rfl)) eMb10 (pc := 113) (Ls := #[.val (.ref t), .val (.int p), .val (.ref u), .unset]) (argsL := [(.ref t), (.int p), (.ref u), (.int (9 : Int32))]) (rest := []) (by rw [hml]; rfl) (lenOf pd_21 rfl) (W := 0) (Nat.le_of_eq rfl) (by decide) (by decide) (by decide) (by decide) (hb hby d32_113) rfl rfl ?_
  intro TMb11 LMb11 vMb11 XMb11 hQMb11
  obtain ⟨rfl, rfl, eMb11⟩ := hQMb11
  show own_Ends pP eE bB sS _ _ TMb11 (mkF mI 116 #[.val (.ref t), .val (.int p), .val (.ref u), .unset] [(.int (1 : Int32))])
  refine own_go (T' := TMb11) (g' := (mkF mI 119 #[.val (.ref t), .val (.int p), .val (.ref u), .unset] [])) (fun t_ kt_ => XS.ifNo XMb11.here hx rfl (hb hby d32_116) rfl ((if0 _ _).trans (feq (by decide : ¬ ((1 : Int32) = (0 : Int32)))).1) kt_) ?_
  refine own_go (T' := TMb11) (g' := (mkF mI 120 #[.val (.ref t), .val (.int p), .val (.ref u), .unset] [(.ref t)])) (fun t_ kt_ => XS.aloadN XMb11.here hx rfl (hb hby d32_119) rfl rfl kt_) ?_
  refine own_go (T' := TMb11) (g' := (mkF mI 121 #[.val (.ref t), .val (.int p), .val (.ref u), .unset] [(.int p), (.ref t)])) (fun t_ kt_ => XS.iloadN XMb11.here hx rfl (hb hby d32_120) rfl kt_) ?_
  refine own_go (T' := TMb11) (g' := (mkF mI 122 #[.val (.ref t), .val (.int p), .val (.ref u), .unset] [(.ref u), (.int p), (.ref t)])) (fun t_ kt_ => XS.aloadN XMb11.here hx rfl (hb hby d32_121) rfl rfl kt_) ?_
  refine own_go (T' := TMb11) (g' := (mkF mI 124 #[.val (.ref t), .val (.int p), .val (.ref u), .unset] [(.int (10 : Int32)), (.ref u), (.int p), (.ref t)])) (fun t_ kt_ => XS.bipush XMb11.here hx rfl (hb hby d32_122) kt_) ?_
  refine own_callS own_closed XMb11 hx hZ (y := (⟨"com/example/carter/carter/IncompleteEnqueueExceptionCountByFatePinLaw", "at", "(Ljava/lang/String;ILjava/lang/String;I)Z"⟩ : MethodName)) hown (hw _ (List.mem_of_getElem? (i := 180) rfl)) (hw _ (List.mem_of_getElem? (i := 181) rfl)) (by decide) (rl_at l Z a0 hw [] h0 n0 O cs Scs hcs fo hfo Sfo t td kt n TX S u ud ku z us U p (10 : Int32) (by decide) (hA (10 : Int32) (by decide))) (hw _ (List.mem_of_getElem? (i := 182) rfl)) (hw _ (List.mem_of_getElem? (i := 177) rfl)) eMb11 (pc := 124) (Ls := #[.val (.ref t), .val (.int p), .val (.ref u), .unset]) (argsL := [(.ref t), (.int p), (.ref u), (.int (10 : Int32))]) (rest := []) (by rw [hml]; rfl) (lenOf pd_21 rfl) (W := 0) (Nat.le_of_eq rfl) (by decide) (by decide) (by decide) (by decide) (hb hby d32_124) rfl rfl ?_
  intro TMb12 LMb12 vMb12 XMb12 hQMb12
  obtain ⟨rfl, rfl, eMb12⟩ := hQMb12
  show own_Ends pP eE bB sS _ _ TMb12 (mkF mI 127 #[.val (.ref t), .val (.int p), .val (.ref u), .unset] [(.int (1 : Int32))])
  refine own_go (T' := TMb12) (g' := (mkF mI 130 #[.val (.ref t), .val (.int p), .val (.ref u), .unset] [])) (fun t_ kt_ => XS.ifNo XMb12.here hx rfl (hb hby d32_127) rfl ((if0 _ _).trans (feq (by decide : ¬ ((1 : Int32) = (0 : Int32)))).1) kt_) ?_
  refine own_go (T' := TMb12) (g' := (mkF mI 131 #[.val (.ref t), .val (.int p), .val (.ref u), .unset] [(.ref t)])) (fun t_ kt_ => XS.aloadN XMb12.here hx rfl (hb hby d32_130) rfl rfl kt_) ?_
  refine own_go (T' := TMb12) (g' := (mkF mI 132 #[.val (.ref t), .val (.int p), .val (.ref u), .unset] [(.int p), (.ref t)])) (fun t_ kt_ => XS.iloadN XMb12.here hx rfl (hb hby d32_131) rfl kt_) ?_
  refine own_go (T' := TMb12) (g' := (mkF mI 133 #[.val (.ref t), .val (.int p), .val (.ref u), .unset] [(.ref u), (.int p), (.ref t)])) (fun t_ kt_ => XS.aloadN XMb12.here hx rfl (hb hby d32_132) rfl rfl kt_) ?_
  refine own_go (T' := TMb12) (g' := (mkF mI 135 #[.val (.ref t), .val (.int p), .val (.ref u), .unset] [(.int (11 : Int32)), (.ref u), (.int p), (.ref t)])) (fun t_ kt_ => XS.bipush XMb12.here hx rfl (hb hby d32_133) kt_) ?_
  refine own_callS own_closed XMb12 hx hZ (y := (⟨"com/example/carter/carter/IncompleteEnqueueExceptionCountByFatePinLaw", "at", "(Ljava/lang/String;ILjava/lang/String;I)Z"⟩ : MethodName)) hown (hw _ (List.mem_of_getElem? (i := 180) rfl)) (hw _ (List.mem_of_getElem? (i := 181) rfl)) (by decide) (rl_at l Z a0 hw [] h0 n0 O cs Scs hcs fo hfo Sfo t td kt n TX S u ud ku z us U p (11 : Int32) (by decide) (hA (11 : Int32) (by decide))) (hw _ (List.mem_of_getElem? (i := 182) rfl)) (hw _ (List.mem_of_getElem? (i := 177) rfl)) eMb12 (pc := 135) (Ls := #[.val (.ref t), .val (.int p), .val (.ref u), .unset]) (argsL := [(.ref t), (.int p), (.ref u), (.int (11 : Int32))]) (rest := []) (by rw [hml]; rfl) (lenOf pd_21 rfl) (W := 0) (Nat.le_of_eq rfl) (by decide) (by decide) (by decide) (by decide) (hb hby d32_135) rfl rfl ?_
  intro TMb13 LMb13 vMb13 XMb13 hQMb13
  obtain ⟨rfl, rfl, eMb13⟩ := hQMb13
  show own_Ends pP eE bB sS _ _ TMb13 (mkF mI 138 #[.val (.ref t), .val (.int p), .val (.ref u), .unset] [(.int (1 : Int32))])
  refine own_go (T' := TMb13) (g' := (mkF mI 141 #[.val (.ref t), .val (.int p), .val (.ref u), .unset] [])) (fun t_ kt_ => XS.ifNo XMb13.here hx rfl (hb hby d32_138) rfl ((if0 _ _).trans (feq (by decide : ¬ ((1 : Int32) = (0 : Int32)))).1) kt_) ?_
  refine own_go (T' := TMb13) (g' := (mkF mI 142 #[.val (.ref t), .val (.int p), .val (.ref u), .unset] [(.ref t)])) (fun t_ kt_ => XS.aloadN XMb13.here hx rfl (hb hby d32_141) rfl rfl kt_) ?_
  refine own_go (T' := TMb13) (g' := (mkF mI 143 #[.val (.ref t), .val (.int p), .val (.ref u), .unset] [(.int p), (.ref t)])) (fun t_ kt_ => XS.iloadN XMb13.here hx rfl (hb hby d32_142) rfl kt_) ?_
  refine own_go (T' := TMb13) (g' := (mkF mI 144 #[.val (.ref t), .val (.int p), .val (.ref u), .unset] [(.ref u), (.int p), (.ref t)])) (fun t_ kt_ => XS.aloadN XMb13.here hx rfl (hb hby d32_143) rfl rfl kt_) ?_
  refine own_go (T' := TMb13) (g' := (mkF mI 146 #[.val (.ref t), .val (.int p), .val (.ref u), .unset] [(.int (12 : Int32)), (.ref u), (.int p), (.ref t)])) (fun t_ kt_ => XS.bipush XMb13.here hx rfl (hb hby d32_144) kt_) ?_
  refine own_callS own_closed XMb13 hx hZ (y := (⟨"com/example/carter/carter/IncompleteEnqueueExceptionCountByFatePinLaw", "at", "(Ljava/lang/String;ILjava/lang/String;I)Z"⟩ : MethodName)) hown (hw _ (List.mem_of_getElem? (i := 180) rfl)) (hw _ (List.mem_of_getElem? (i := 181) rfl)) (by decide) (rl_at l Z a0 hw [] h0 n0 O cs Scs hcs fo hfo Sfo t td kt n TX S u ud ku z us U p (12 : Int32) (by decide) (hA (12 : Int32) (by decide))) (hw _ (List.mem_of_getElem? (i := 182) rfl)) (hw _ (List.mem_of_getElem? (i := 177) rfl)) eMb13 (pc := 146) (Ls := #[.val (.ref t), .val (.int p), .val (.ref u), .unset]) (argsL := [(.ref t), (.int p), (.ref u), (.int (12 : Int32))]) (rest := []) (by rw [hml]; rfl) (lenOf pd_21 rfl) (W := 0) (Nat.le_of_eq rfl) (by decide) (by decide) (by decide) (by decide) (hb hby d32_146) rfl rfl ?_
  intro TMb14 LMb14 vMb14 XMb14 hQMb14
  obtain ⟨rfl, rfl, eMb14⟩ := hQMb14
  show own_Ends pP eE bB sS _ _ TMb14 (mkF mI 149 #[.val (.ref t), .val (.int p), .val (.ref u), .unset] [(.int (1 : Int32))])
  refine own_go (T' := TMb14) (g' := (mkF mI 152 #[.val (.ref t), .val (.int p), .val (.ref u), .unset] [])) (fun t_ kt_ => XS.ifNo XMb14.here hx rfl (hb hby d32_149) rfl ((if0 _ _).trans (feq (by decide : ¬ ((1 : Int32) = (0 : Int32)))).1) kt_) ?_
  refine own_go (T' := TMb14) (g' := (mkF mI 153 #[.val (.ref t), .val (.int p), .val (.ref u), .unset] [(.int (1 : Int32))])) (fun t_ kt_ => XS.iconst XMb14.here hx rfl (hb hby d32_152) kt_) ?_
  refine own_go (T' := TMb14) (g' := (mkF mI 157 #[.val (.ref t), .val (.int p), .val (.ref u), .unset] [(.int (1 : Int32))])) (fun t_ kt_ => XS.goto XMb14.here hx rfl (pc0 := 153) (pc' := 157) rfl (hb hby d32_153) (by decide) (by decide) kt_) ?_
  refine own_go (T' := TMb14) (g' := (mkF mI 158 #[.val (.ref t), .val (.int p), .val (.ref u), .val (.int (1 : Int32))] [])) (fun t_ kt_ => XS.istoreN XMb14.here hx rfl (hb hby d32_157) rfl (l' := #[.val (.ref t), .val (.int p), .val (.ref u), .val (.int (1 : Int32))]) rfl kt_) ?_
  refine own_go (T' := TMb14) (g' := (mkF mI 159 #[.val (.ref t), .val (.int p), .val (.ref u), .val (.int (1 : Int32))] [(.int (1 : Int32))])) (fun t_ kt_ => XS.iloadN XMb14.here hx rfl (hb hby d32_158) rfl kt_) ?_
  refine own_go (T' := TMb14) (g' := (mkF mI 162 #[.val (.ref t), .val (.int p), .val (.ref u), .val (.int (1 : Int32))] [])) (fun t_ kt_ => XS.ifNo XMb14.here hx rfl (hb hby d32_159) rfl ((if0 _ _).trans (feq (by decide : ¬ ((1 : Int32) = (0 : Int32)))).1) kt_) ?_
  refine own_go (T' := TMb14) (g' := (mkF mI 163 #[.val (.ref t), .val (.int p), .val (.ref u), .val (.int (1 : Int32))] [(.int p)])) (fun t_ kt_ => XS.iloadN XMb14.here hx rfl (hb hby d32_162) rfl kt_) ?_
  refine own_go (T' := TMb14) (g' := (mkF mI 164 #[.val (.ref t), .val (.int p), .val (.ref u), .val (.int (1 : Int32))] [(.ref u), (.int p)])) (fun t_ kt_ => XS.aloadN XMb14.here hx rfl (hb hby d32_163) rfl rfl kt_) ?_
  refine own_callV own_closed XMb14 hx hZ (y := (⟨"java/lang/String", "length", "()I"⟩ : MethodName)) (z := (⟨"java/lang/String", "length", "()I"⟩ : MethodName)) hown (hw _ (List.mem_of_getElem? (i := 179) rfl)) (hw _ (List.mem_of_getElem? (i := 43) rfl)) (hw _ (List.mem_of_getElem? (i := 45) rfl)) (hw _ (List.mem_of_getElem? (i := 44) rfl)) (hw _ (List.mem_of_getElem? (i := 45) rfl)) rfl (by decide) (rj_len l Z a0 hw [] h0 n0 O cs Scs hcs u ud _ z _ U.1 U.2.1 U.2.2.1 U.2.2.2) (hw _ (List.mem_of_getElem? (i := 46) rfl)) (hw _ (List.mem_of_getElem? (i := 20) rfl)) eMb14 U.1 (pc := 164) (Ls := #[.val (.ref t), .val (.int p), .val (.ref u), .val (.int (1 : Int32))]) (argsL := []) (rest := [(.int p)]) (by rw [hml]; rfl) (lenOf pd_11 rfl) (W := 1) (Nat.le_of_eq rfl) (by decide) (by decide) (by decide) (by decide) (hb hby d32_164) rfl rfl ?_
  intro TMb15 LMb15 vMb15 XMb15 hQMb15
  obtain ⟨rfl, rfl, eMb15⟩ := hQMb15
  show own_Ends pP eE bB sS _ _ TMb15 (mkF mI 167 #[.val (.ref t), .val (.int p), .val (.ref u), .val (.int (1 : Int32))] [(.int z), (.int p)])
  refine own_go (T' := TMb15) (g' := (mkF mI 168 #[.val (.ref t), .val (.int p), .val (.ref u), .val (.int (1 : Int32))] [(.int (p + z))])) (fun t_ kt_ => XS.iadd XMb15.here hx rfl (hb hby d32_167) rfl kt_) ?_
  rw [hr]
  refine own_go (T' := TMb15) (g' := (mkF mI 172 #[.val (.ref t), .val (.int p), .val (.ref u), .val (.int (1 : Int32))] [(.int r)])) (fun t_ kt_ => XS.goto XMb15.here hx rfl (pc0 := 168) (pc' := 172) rfl (hb hby d32_168) (by decide) (by decide) kt_) ?_
  refine own_retI XMb15 hx hlk hret (hb hby d32_172) (by decide) (by decide) ?_
  exact ⟨rfl, rfl, eMb15⟩
theorem d40_0 : decode method_5_code 0 = .ok (.iload_n 1, 1) := by decide +kernel
theorem d40_1 : decode method_5_code 1 = .ok (.ifCond .ge 5, 3) := by decide +kernel
theorem d40_6 : decode method_5_code 6 = .ok (.lload 4, 2) := by decide +kernel
theorem d40_8 : decode method_5_code 8 = .ok (.lconst 1, 1) := by decide +kernel
theorem d40_9 : decode method_5_code 9 = .ok (.lcmp, 1) := by decide +kernel
theorem d40_10 : decode method_5_code 10 = .ok (.ifCond .eq 13, 3) := by decide +kernel
theorem d40_13 : decode method_5_code 13 = .ok (.lload_n 2, 1) := by decide +kernel
theorem d40_14 : decode method_5_code 14 = .ok (.lload 4, 2) := by decide +kernel
theorem d40_16 : decode method_5_code 16 = .ok (.lneg, 1) := by decide +kernel
theorem d40_17 : decode method_5_code 17 = .ok (.lcmp, 1) := by decide +kernel
theorem d40_18 : decode method_5_code 18 = .ok (.ifCond .le 5, 3) := by decide +kernel
theorem d40_21 : decode method_5_code 21 = .ok (.iload_n 1, 1) := by decide +kernel
theorem d40_22 : decode method_5_code 22 = .ok (.ireturn, 1) := by decide +kernel
theorem d40_23 : decode method_5_code 23 = .ok (.lload_n 2, 1) := by decide +kernel
theorem d40_24 : decode method_5_code 24 = .ok (.lload 4, 2) := by decide +kernel
theorem d40_26 : decode method_5_code 26 = .ok (.ldiv, 1) := by decide +kernel
theorem d40_27 : decode method_5_code 27 = .ok (.ldc2_w 47, 3) := by decide +kernel
theorem d40_30 : decode method_5_code 30 = .ok (.lrem, 1) := by decide +kernel
theorem d40_31 : decode method_5_code 31 = .ok (.lneg, 1) := by decide +kernel
theorem d40_32 : decode method_5_code 32 = .ok (.l2i, 1) := by decide +kernel
theorem d40_33 : decode method_5_code 33 = .ok (.istore 6, 2) := by decide +kernel
theorem d40_35 : decode method_5_code 35 = .ok (.iload_n 1, 1) := by decide +kernel
theorem d40_36 : decode method_5_code 36 = .ok (.aload_n 0, 1) := by decide +kernel
theorem d40_37 : decode method_5_code 37 = .ok (.invokevirtual 33, 3) := by decide +kernel
theorem d40_40 : decode method_5_code 40 = .ok (.if_icmp .ge 17, 3) := by decide +kernel
theorem d40_43 : decode method_5_code 43 = .ok (.aload_n 0, 1) := by decide +kernel
theorem d40_44 : decode method_5_code 44 = .ok (.iload_n 1, 1) := by decide +kernel
theorem d40_45 : decode method_5_code 45 = .ok (.invokevirtual 39, 3) := by decide +kernel
theorem d40_48 : decode method_5_code 48 = .ok (.bipush 48, 2) := by decide +kernel
theorem d40_50 : decode method_5_code 50 = .ok (.iload 6, 2) := by decide +kernel
theorem d40_52 : decode method_5_code 52 = .ok (.iadd, 1) := by decide +kernel
theorem d40_53 : decode method_5_code 53 = .ok (.i2c, 1) := by decide +kernel
theorem d40_54 : decode method_5_code 54 = .ok (.if_icmp .eq 5, 3) := by decide +kernel
theorem d40_59 : decode method_5_code 59 = .ok (.iload_n 1, 1) := by decide +kernel
theorem d40_60 : decode method_5_code 60 = .ok (.iconst 1, 1) := by decide +kernel
theorem d40_61 : decode method_5_code 61 = .ok (.iadd, 1) := by decide +kernel
theorem d40_62 : decode method_5_code 62 = .ok (.ireturn, 1) := by decide +kernel
theorem rl_dig_pn : plainFor (⟨"com/example/carter/carter/IncompleteEnqueueExceptionCountByFatePinLaw", "dig", "(Ljava/lang/String;IJJ)I"⟩ : MethodName) = true := plainFor_of_name (show plainName "com/example/carter/carter/IncompleteEnqueueExceptionCountByFatePinLaw" = true by first | (simp [plainName, overriddenIn]; done) | decide +kernel)
theorem rl_dig_ef (mI : MethodId) (t : Addr) (p : Int32) (m : Int64) (d : Int64) : entryFrame mI #[(.ref t), (.int p), (.long m), (.long d)] 7 = mkF mI 0 #[.val (.ref t), .val (.int p), .val (.long m), .second, .val (.long d), .second, .unset] [] := by first | (simp [entryFrame, mkF, argsToLocals, Value.category]; done) | rfl
set_option maxRecDepth 65536 in
set_option maxHeartbeats 40000000 in
theorem rl_dig (l : Launch) (Z : State) (a0 : Array Value) (hw : ∀ d ∈ tables_1, d.before a0 Z = true) (ws : List Jvm.Cond) (h0 : Heap) (n0 : Nat) (O : Old Z n0 h0) (cs : Int32) (Scs : Sta Z Z.heap "java/lang/String" "COMPACT_STRINGS" "Z" (.int cs)) (hcs : ¬ cs = 0) (fo : Value) (hfo : fo.isRef = true) (Sfo : Sta Z Z.heap "jdk/internal/util/Preconditions" "SIOOBE_FORMATTER" "Ljava/util/function/BiFunction;" fo) (t td : Addr) (kt : ClassId) (n : Int32) (TX : List Value) (S : own_St Z h0 t td kt n TX) (p q : Int32) (m d : Int64) (hp0 : ¬ p < 0) (hd0 : ¬ d = 0) (hA : (d = 1 ∨ ¬ (-d) < m) → p < n ∧ ∃ w : Int32, TX.getD p.toNatClampNeg (.int 0) = .int w ∧ w &&& 255 = w ∧ (((48 : Int32) + (-((m / d) % (10 : Int64))).toInt32).toUInt32.toUInt16.toUInt32.toInt32) = w) (hq1 : (d = 1 ∨ ¬ (-d) < m) → p + 1 = q) (hq2 : ¬ d = 1 → (-d) < m → p = q) :
    own_Met l Z (⟨"com/example/carter/carter/IncompleteEnqueueExceptionCountByFatePinLaw", "dig", "(Ljava/lang/String;IJJ)I"⟩ : MethodName) method_5_code 7 (some .int) ws ({ frames := 4, cells := 0, slots := 0, locals := 53 } : Room) #[(.ref t), (.int p), (.long m), (.long d)] h0 (own_QP h0 (some (.int q))) := by
  refine own_met rl_dig_pn ?_
  intro pP eE sS mI bB mT cC s₁ hx hby hml hown hnm hret hlk hZ X0 e0
  replace hown : sS.vm.findClass "com/example/carter/carter/IncompleteEnqueueExceptionCountByFatePinLaw" = some mI.cls := hown
  refine own_cast (rl_dig_ef mI t p m d) ?_
  refine own_go (T' := s₁) (g' := (mkF mI 1 #[.val (.ref t), .val (.int p), .val (.long m), .second, .val (.long d), .second, .unset] [(.int p)])) (fun t_ kt_ => XS.iloadN X0.here hx rfl (hb hby d40_0) rfl kt_) ?_
  refine own_go (T' := s₁) (g' := (mkF mI 6 #[.val (.ref t), .val (.int p), .val (.long m), .second, .val (.long d), .second, .unset] [])) (fun t_ kt_ => XS.ifYes X0.here hx rfl (pc0 := 1) (pc' := 6) rfl (hb hby d40_1) rfl ((if0 _ _).trans (flt (hp0 : ¬ (p < (0 : Int32)))).2.1) (by decide) (by decide) kt_) ?_
  refine own_go (T' := s₁) (g' := (mkF mI 8 #[.val (.ref t), .val (.int p), .val (.long m), .second, .val (.long d), .second, .unset] [(.long d)])) (fun t_ kt_ => XS.lload X0.here hx rfl (hb hby d40_6) rfl kt_) ?_
  refine own_go (T' := s₁) (g' := (mkF mI 9 #[.val (.ref t), .val (.int p), .val (.long m), .second, .val (.long d), .second, .unset] [(.long (1 : Int64)), (.long d)])) (fun t_ kt_ => XS.lconst X0.here hx rfl (hb hby d40_8) kt_) ?_
  refine own_go (T' := s₁) (g' := (mkF mI 10 #[.val (.ref t), .val (.int p), .val (.long m), .second, .val (.long d), .second, .unset] [(.int (lcmpW d (1 : Int64)))])) (fun t_ kt_ => XS.lcmp X0.here hx rfl (hb hby d40_9) rfl kt_) ?_
  by_cases hc10_Mc1 : d = (1 : Int64)
  · skip
    refine own_go (T' := s₁) (g' := (mkF mI 23 #[.val (.ref t), .val (.int p), .val (.long m), .second, .val (.long d), .second, .unset] [])) (fun t_ kt_ => XS.ifYes X0.here hx rfl (pc0 := 10) (pc' := 23) rfl (hb hby d40_10) rfl (XT.ll_eq_t hc10_Mc1) (by decide) (by decide) kt_) ?_
    obtain ⟨hpn, w, hw2, hw4, hwE⟩ := hA (Or.inl hc10_Mc1)
    have hq := hq1 (Or.inl hc10_Mc1)
    refine own_go (T' := s₁) (g' := (mkF mI 24 #[.val (.ref t), .val (.int p), .val (.long m), .second, .val (.long d), .second, .unset] [(.long m)])) (fun t_ kt_ => XS.lloadN X0.here hx rfl (hb hby d40_23) rfl kt_) ?_
    refine own_go (T' := s₁) (g' := (mkF mI 26 #[.val (.ref t), .val (.int p), .val (.long m), .second, .val (.long d), .second, .unset] [(.long d), (.long m)])) (fun t_ kt_ => XS.lload X0.here hx rfl (hb hby d40_24) rfl kt_) ?_
    refine own_go (T' := s₁) (g' := (mkF mI 27 #[.val (.ref t), .val (.int p), .val (.long m), .second, .val (.long d), .second, .unset] [(.long (m / d))])) (fun t_ kt_ => XS.ldiv X0.here hx rfl (hb hby d40_26) rfl hd0 kt_) ?_
    refine own_go (T' := s₁) (g' := (mkF mI 30 #[.val (.ref t), .val (.int p), .val (.long m), .second, .val (.long d), .second, .unset] [(.long (10 : Int64)), (.long (m / d))])) (fun t_ kt_ => ldc2J X0 hx hown (mvT hZ (hw _ (List.mem_of_getElem? (i := 228) rfl))) rfl (hb hby d40_27) kt_) ?_
    refine own_go (T' := s₁) (g' := (mkF mI 31 #[.val (.ref t), .val (.int p), .val (.long m), .second, .val (.long d), .second, .unset] [(.long ((m / d) % (10 : Int64)))])) (fun t_ kt_ => own_lremM X0 hx rfl (hb hby d40_30) rfl (by decide) kt_) ?_
    refine own_go (T' := s₁) (g' := (mkF mI 32 #[.val (.ref t), .val (.int p), .val (.long m), .second, .val (.long d), .second, .unset] [(.long (-((m / d) % (10 : Int64))))])) (fun t_ kt_ => XS.lneg X0.here hx rfl (hb hby d40_31) rfl kt_) ?_
    refine own_go (T' := s₁) (g' := (mkF mI 33 #[.val (.ref t), .val (.int p), .val (.long m), .second, .val (.long d), .second, .unset] [(.int ((-((m / d) % (10 : Int64))).toInt32))])) (fun t_ kt_ => XS.l2i X0.here hx rfl (hb hby d40_32) rfl kt_) ?_
    refine own_go (T' := s₁) (g' := (mkF mI 35 #[.val (.ref t), .val (.int p), .val (.long m), .second, .val (.long d), .second, .val (.int ((-((m / d) % (10 : Int64))).toInt32))] [])) (fun t_ kt_ => XS.istore X0.here hx rfl (hb hby d40_33) rfl (l' := #[.val (.ref t), .val (.int p), .val (.long m), .second, .val (.long d), .second, .val (.int ((-((m / d) % (10 : Int64))).toInt32))]) rfl kt_) ?_
    refine own_go (T' := s₁) (g' := (mkF mI 36 #[.val (.ref t), .val (.int p), .val (.long m), .second, .val (.long d), .second, .val (.int ((-((m / d) % (10 : Int64))).toInt32))] [(.int p)])) (fun t_ kt_ => XS.iloadN X0.here hx rfl (hb hby d40_35) rfl kt_) ?_
    refine own_go (T' := s₁) (g' := (mkF mI 37 #[.val (.ref t), .val (.int p), .val (.long m), .second, .val (.long d), .second, .val (.int ((-((m / d) % (10 : Int64))).toInt32))] [(.ref t), (.int p)])) (fun t_ kt_ => XS.aloadN X0.here hx rfl (hb hby d40_36) rfl rfl kt_) ?_
    refine own_callV own_closed X0 hx hZ (y := (⟨"java/lang/String", "length", "()I"⟩ : MethodName)) (z := (⟨"java/lang/String", "length", "()I"⟩ : MethodName)) hown (hw _ (List.mem_of_getElem? (i := 179) rfl)) (hw _ (List.mem_of_getElem? (i := 43) rfl)) (hw _ (List.mem_of_getElem? (i := 45) rfl)) (hw _ (List.mem_of_getElem? (i := 44) rfl)) (hw _ (List.mem_of_getElem? (i := 45) rfl)) rfl (by decide) (rj_len l Z a0 hw [] h0 n0 O cs Scs hcs t td _ n _ S.1 S.2.1 S.2.2.1 S.2.2.2) (hw _ (List.mem_of_getElem? (i := 46) rfl)) (hw _ (List.mem_of_getElem? (i := 20) rfl)) e0 S.1 (pc := 37) (Ls := #[.val (.ref t), .val (.int p), .val (.long m), .second, .val (.long d), .second, .val (.int ((-((m / d) % (10 : Int64))).toInt32))]) (argsL := []) (rest := [(.int p)]) (by rw [hml]; rfl) (lenOf pd_11 rfl) (W := 1) (Nat.le_of_eq rfl) (by decide) (by decide) (by decide) (by decide) (hb hby d40_37) rfl rfl ?_
    intro TMc2 LMc2 vMc2 XMc2 hQMc2
    obtain ⟨rfl, rfl, eMc2⟩ := hQMc2
    show own_Ends pP eE bB sS _ _ TMc2 (mkF mI 40 #[.val (.ref t), .val (.int p), .val (.long m), .second, .val (.long d), .second, .val (.int ((-((m / d) % (10 : Int64))).toInt32))] [(.int n), (.int p)])
    refine own_go (T' := TMc2) (g' := (mkF mI 43 #[.val (.ref t), .val (.int p), .val (.long m), .second, .val (.long d), .second, .val (.int ((-((m / d) % (10 : Int64))).toInt32))] [])) (fun t_ kt_ => XS.icmpNo XMc2.here hx rfl (hb hby d40_40) rfl (tlt (hpn : p < n)).2.1 kt_) ?_
    refine own_go (T' := TMc2) (g' := (mkF mI 44 #[.val (.ref t), .val (.int p), .val (.long m), .second, .val (.long d), .second, .val (.int ((-((m / d) % (10 : Int64))).toInt32))] [(.ref t)])) (fun t_ kt_ => XS.aloadN XMc2.here hx rfl (hb hby d40_43) rfl rfl kt_) ?_
    refine own_go (T' := TMc2) (g' := (mkF mI 45 #[.val (.ref t), .val (.int p), .val (.long m), .second, .val (.long d), .second, .val (.int ((-((m / d) % (10 : Int64))).toInt32))] [(.int p), (.ref t)])) (fun t_ kt_ => XS.iloadN XMc2.here hx rfl (hb hby d40_44) rfl kt_) ?_
    refine own_callV own_closed XMc2 hx hZ (y := (⟨"java/lang/String", "charAt", "(I)C"⟩ : MethodName)) (z := (⟨"java/lang/String", "charAt", "(I)C"⟩ : MethodName)) hown (hw _ (List.mem_of_getElem? (i := 183) rfl)) (hw _ (List.mem_of_getElem? (i := 184) rfl)) (hw _ (List.mem_of_getElem? (i := 186) rfl)) (hw _ (List.mem_of_getElem? (i := 185) rfl)) (hw _ (List.mem_of_getElem? (i := 186) rfl)) rfl (by decide) (rj_cha l Z a0 hw [] h0 n0 O cs Scs hcs fo hfo Sfo t p td kt n TX S.1 S.2.1 S.2.2.1 w S.2.2.2 hp0 hpn hw2 hw4) (hw _ (List.mem_of_getElem? (i := 187) rfl)) (hw _ (List.mem_of_getElem? (i := 20) rfl)) eMc2 S.1 (pc := 45) (Ls := #[.val (.ref t), .val (.int p), .val (.long m), .second, .val (.long d), .second, .val (.int ((-((m / d) % (10 : Int64))).toInt32))]) (argsL := [(.int p)]) (rest := []) (by rw [hml]; rfl) (lenOf pd_20 rfl) (W := 0) (Nat.le_of_eq rfl) (by decide) (by decide) (by decide) (by decide) (hb hby d40_45) rfl rfl ?_
    intro TMc3 LMc3 vMc3 XMc3 hQMc3
    obtain ⟨rfl, rfl, eMc3⟩ := hQMc3
    show own_Ends pP eE bB sS _ _ TMc3 (mkF mI 48 #[.val (.ref t), .val (.int p), .val (.long m), .second, .val (.long d), .second, .val (.int ((-((m / d) % (10 : Int64))).toInt32))] [(.int w)])
    refine own_go (T' := TMc3) (g' := (mkF mI 50 #[.val (.ref t), .val (.int p), .val (.long m), .second, .val (.long d), .second, .val (.int ((-((m / d) % (10 : Int64))).toInt32))] [(.int (48 : Int32)), (.int w)])) (fun t_ kt_ => XS.bipush XMc3.here hx rfl (hb hby d40_48) kt_) ?_
    refine own_go (T' := TMc3) (g' := (mkF mI 52 #[.val (.ref t), .val (.int p), .val (.long m), .second, .val (.long d), .second, .val (.int ((-((m / d) % (10 : Int64))).toInt32))] [(.int ((-((m / d) % (10 : Int64))).toInt32)), (.int (48 : Int32)), (.int w)])) (fun t_ kt_ => XS.iload XMc3.here hx rfl (hb hby d40_50) rfl kt_) ?_
    refine own_go (T' := TMc3) (g' := (mkF mI 53 #[.val (.ref t), .val (.int p), .val (.long m), .second, .val (.long d), .second, .val (.int ((-((m / d) % (10 : Int64))).toInt32))] [(.int ((48 : Int32) + ((-((m / d) % (10 : Int64))).toInt32))), (.int w)])) (fun t_ kt_ => XS.iadd XMc3.here hx rfl (hb hby d40_52) rfl kt_) ?_
    refine own_go (T' := TMc3) (g' := (mkF mI 54 #[.val (.ref t), .val (.int p), .val (.long m), .second, .val (.long d), .second, .val (.int ((-((m / d) % (10 : Int64))).toInt32))] [(.int (((48 : Int32) + ((-((m / d) % (10 : Int64))).toInt32)).toUInt32.toUInt16.toUInt32.toInt32)), (.int w)])) (fun t_ kt_ => XS.i2c XMc3.here hx rfl (hb hby d40_53) rfl kt_) ?_
    rw [hwE]
    refine own_go (T' := TMc3) (g' := (mkF mI 59 #[.val (.ref t), .val (.int p), .val (.long m), .second, .val (.long d), .second, .val (.int ((-((m / d) % (10 : Int64))).toInt32))] [])) (fun t_ kt_ => XS.icmpYes XMc3.here hx rfl (pc0 := 54) (pc' := 59) rfl (hb hby d40_54) rfl (teq (rfl : w = w)).1 (by decide) (by decide) kt_) ?_
    refine own_go (T' := TMc3) (g' := (mkF mI 60 #[.val (.ref t), .val (.int p), .val (.long m), .second, .val (.long d), .second, .val (.int ((-((m / d) % (10 : Int64))).toInt32))] [(.int p)])) (fun t_ kt_ => XS.iloadN XMc3.here hx rfl (hb hby d40_59) rfl kt_) ?_
    refine own_go (T' := TMc3) (g' := (mkF mI 61 #[.val (.ref t), .val (.int p), .val (.long m), .second, .val (.long d), .second, .val (.int ((-((m / d) % (10 : Int64))).toInt32))] [(.int (1 : Int32)), (.int p)])) (fun t_ kt_ => XS.iconst XMc3.here hx rfl (hb hby d40_60) kt_) ?_
    refine own_go (T' := TMc3) (g' := (mkF mI 62 #[.val (.ref t), .val (.int p), .val (.long m), .second, .val (.long d), .second, .val (.int ((-((m / d) % (10 : Int64))).toInt32))] [(.int (p + (1 : Int32)))])) (fun t_ kt_ => XS.iadd XMc3.here hx rfl (hb hby d40_61) rfl kt_) ?_
    rw [hq]
    refine own_retI XMc3 hx hlk hret (hb hby d40_62) (by decide) (by decide) ?_
    exact ⟨rfl, rfl, eMc3⟩
  · skip
    refine own_go (T' := s₁) (g' := (mkF mI 13 #[.val (.ref t), .val (.int p), .val (.long m), .second, .val (.long d), .second, .unset] [])) (fun t_ kt_ => XS.ifNo X0.here hx rfl (hb hby d40_10) rfl (XT.ll_eq_f hc10_Mc1) kt_) ?_
    refine own_go (T' := s₁) (g' := (mkF mI 14 #[.val (.ref t), .val (.int p), .val (.long m), .second, .val (.long d), .second, .unset] [(.long m)])) (fun t_ kt_ => XS.lloadN X0.here hx rfl (hb hby d40_13) rfl kt_) ?_
    refine own_go (T' := s₁) (g' := (mkF mI 16 #[.val (.ref t), .val (.int p), .val (.long m), .second, .val (.long d), .second, .unset] [(.long d), (.long m)])) (fun t_ kt_ => XS.lload X0.here hx rfl (hb hby d40_14) rfl kt_) ?_
    refine own_go (T' := s₁) (g' := (mkF mI 17 #[.val (.ref t), .val (.int p), .val (.long m), .second, .val (.long d), .second, .unset] [(.long (-d)), (.long m)])) (fun t_ kt_ => XS.lneg X0.here hx rfl (hb hby d40_16) rfl kt_) ?_
    refine own_go (T' := s₁) (g' := (mkF mI 18 #[.val (.ref t), .val (.int p), .val (.long m), .second, .val (.long d), .second, .unset] [(.int (lcmpW m (-d)))])) (fun t_ kt_ => XS.lcmp X0.here hx rfl (hb hby d40_17) rfl kt_) ?_
    by_cases hc18_Mc4 : (-d) < m
    · skip
      refine own_go (T' := s₁) (g' := (mkF mI 21 #[.val (.ref t), .val (.int p), .val (.long m), .second, .val (.long d), .second, .unset] [])) (fun t_ kt_ => XS.ifNo X0.here hx rfl (hb hby d40_18) rfl (XT.ll_le_f hc18_Mc4) kt_) ?_
      refine own_go (T' := s₁) (g' := (mkF mI 22 #[.val (.ref t), .val (.int p), .val (.long m), .second, .val (.long d), .second, .unset] [(.int p)])) (fun t_ kt_ => XS.iloadN X0.here hx rfl (hb hby d40_21) rfl kt_) ?_
      rw [hq2 hc10_Mc1 hc18_Mc4]
      refine own_retI X0 hx hlk hret (hb hby d40_22) (by decide) (by decide) ?_
      exact ⟨rfl, rfl, e0⟩
    · skip
      refine own_go (T' := s₁) (g' := (mkF mI 23 #[.val (.ref t), .val (.int p), .val (.long m), .second, .val (.long d), .second, .unset] [])) (fun t_ kt_ => XS.ifYes X0.here hx rfl (pc0 := 18) (pc' := 23) rfl (hb hby d40_18) rfl (XT.ll_le_t hc18_Mc4) (by decide) (by decide) kt_) ?_
      obtain ⟨hpn, w, hw2, hw4, hwE⟩ := hA (Or.inr hc18_Mc4)
      have hq := hq1 (Or.inr hc18_Mc4)
      refine own_go (T' := s₁) (g' := (mkF mI 24 #[.val (.ref t), .val (.int p), .val (.long m), .second, .val (.long d), .second, .unset] [(.long m)])) (fun t_ kt_ => XS.lloadN X0.here hx rfl (hb hby d40_23) rfl kt_) ?_
      refine own_go (T' := s₁) (g' := (mkF mI 26 #[.val (.ref t), .val (.int p), .val (.long m), .second, .val (.long d), .second, .unset] [(.long d), (.long m)])) (fun t_ kt_ => XS.lload X0.here hx rfl (hb hby d40_24) rfl kt_) ?_
      refine own_go (T' := s₁) (g' := (mkF mI 27 #[.val (.ref t), .val (.int p), .val (.long m), .second, .val (.long d), .second, .unset] [(.long (m / d))])) (fun t_ kt_ => XS.ldiv X0.here hx rfl (hb hby d40_26) rfl hd0 kt_) ?_
      refine own_go (T' := s₁) (g' := (mkF mI 30 #[.val (.ref t), .val (.int p), .val (.long m), .second, .val (.long d), .second, .unset] [(.long (10 : Int64)), (.long (m / d))])) (fun t_ kt_ => ldc2J X0 hx hown (mvT hZ (hw _ (List.mem_of_getElem? (i := 228) rfl))) rfl (hb hby d40_27) kt_) ?_
      refine own_go (T' := s₁) (g' := (mkF mI 31 #[.val (.ref t), .val (.int p), .val (.long m), .second, .val (.long d), .second, .unset] [(.long ((m / d) % (10 : Int64)))])) (fun t_ kt_ => own_lremM X0 hx rfl (hb hby d40_30) rfl (by decide) kt_) ?_
      refine own_go (T' := s₁) (g' := (mkF mI 32 #[.val (.ref t), .val (.int p), .val (.long m), .second, .val (.long d), .second, .unset] [(.long (-((m / d) % (10 : Int64))))])) (fun t_ kt_ => XS.lneg X0.here hx rfl (hb hby d40_31) rfl kt_) ?_
      refine own_go (T' := s₁) (g' := (mkF mI 33 #[.val (.ref t), .val (.int p), .val (.long m), .second, .val (.long d), .second, .unset] [(.int ((-((m / d) % (10 : Int64))).toInt32))])) (fun t_ kt_ => XS.l2i X0.here hx rfl (hb hby d40_32) rfl kt_) ?_
      refine own_go (T' := s₁) (g' := (mkF mI 35 #[.val (.ref t), .val (.int p), .val (.long m), .second, .val (.long d), .second, .val (.int ((-((m / d) % (10 : Int64))).toInt32))] [])) (fun t_ kt_ => XS.istore X0.here hx rfl (hb hby d40_33) rfl (l' := #[.val (.ref t), .val (.int p), .val (.long m), .second, .val (.long d), .second, .val (.int ((-((m / d) % (10 : Int64))).toInt32))]) rfl kt_) ?_
      refine own_go (T' := s₁) (g' := (mkF mI 36 #[.val (.ref t), .val (.int p), .val (.long m), .second, .val (.long d), .second, .val (.int ((-((m / d) % (10 : Int64))).toInt32))] [(.int p)])) (fun t_ kt_ => XS.iloadN X0.here hx rfl (hb hby d40_35) rfl kt_) ?_
      refine own_go (T' := s₁) (g' := (mkF mI 37 #[.val (.ref t), .val (.int p), .val (.long m), .second, .val (.long d), .second, .val (.int ((-((m / d) % (10 : Int64))).toInt32))] [(.ref t), (.int p)])) (fun t_ kt_ => XS.aloadN X0.here hx rfl (hb hby d40_36) rfl rfl kt_) ?_
      refine own_callV own_closed X0 hx hZ (y := (⟨"java/lang/String", "length", "()I"⟩ : MethodName)) (z := (⟨"java/lang/String", "length", "()I"⟩ : MethodName)) hown (hw _ (List.mem_of_getElem? (i := 179) rfl)) (hw _ (List.mem_of_getElem? (i := 43) rfl)) (hw _ (List.mem_of_getElem? (i := 45) rfl)) (hw _ (List.mem_of_getElem? (i := 44) rfl)) (hw _ (List.mem_of_getElem? (i := 45) rfl)) rfl (by decide) (rj_len l Z a0 hw [] h0 n0 O cs Scs hcs t td _ n _ S.1 S.2.1 S.2.2.1 S.2.2.2) (hw _ (List.mem_of_getElem? (i := 46) rfl)) (hw _ (List.mem_of_getElem? (i := 20) rfl)) e0 S.1 (pc := 37) (Ls := #[.val (.ref t), .val (.int p), .val (.long m), .second, .val (.long d), .second, .val (.int ((-((m / d) % (10 : Int64))).toInt32))]) (argsL := []) (rest := [(.int p)]) (by rw [hml]; rfl) (lenOf pd_11 rfl) (W := 1) (Nat.le_of_eq rfl) (by decide) (by decide) (by decide) (by decide) (hb hby d40_37) rfl rfl ?_
      intro TMc5 LMc5 vMc5 XMc5 hQMc5
      obtain ⟨rfl, rfl, eMc5⟩ := hQMc5
      show own_Ends pP eE bB sS _ _ TMc5 (mkF mI 40 #[.val (.ref t), .val (.int p), .val (.long m), .second, .val (.long d), .second, .val (.int ((-((m / d) % (10 : Int64))).toInt32))] [(.int n), (.int p)])
      refine own_go (T' := TMc5) (g' := (mkF mI 43 #[.val (.ref t), .val (.int p), .val (.long m), .second, .val (.long d), .second, .val (.int ((-((m / d) % (10 : Int64))).toInt32))] [])) (fun t_ kt_ => XS.icmpNo XMc5.here hx rfl (hb hby d40_40) rfl (tlt (hpn : p < n)).2.1 kt_) ?_
      refine own_go (T' := TMc5) (g' := (mkF mI 44 #[.val (.ref t), .val (.int p), .val (.long m), .second, .val (.long d), .second, .val (.int ((-((m / d) % (10 : Int64))).toInt32))] [(.ref t)])) (fun t_ kt_ => XS.aloadN XMc5.here hx rfl (hb hby d40_43) rfl rfl kt_) ?_
      refine own_go (T' := TMc5) (g' := (mkF mI 45 #[.val (.ref t), .val (.int p), .val (.long m), .second, .val (.long d), .second, .val (.int ((-((m / d) % (10 : Int64))).toInt32))] [(.int p), (.ref t)])) (fun t_ kt_ => XS.iloadN XMc5.here hx rfl (hb hby d40_44) rfl kt_) ?_
      refine own_callV own_closed XMc5 hx hZ (y := (⟨"java/lang/String", "charAt", "(I)C"⟩ : MethodName)) (z := (⟨"java/lang/String", "charAt", "(I)C"⟩ : MethodName)) hown (hw _ (List.mem_of_getElem? (i := 183) rfl)) (hw _ (List.mem_of_getElem? (i := 184) rfl)) (hw _ (List.mem_of_getElem? (i := 186) rfl)) (hw _ (List.mem_of_getElem? (i := 185) rfl)) (hw _ (List.mem_of_getElem? (i := 186) rfl)) rfl (by decide) (rj_cha l Z a0 hw [] h0 n0 O cs Scs hcs fo hfo Sfo t p td kt n TX S.1 S.2.1 S.2.2.1 w S.2.2.2 hp0 hpn hw2 hw4) (hw _ (List.mem_of_getElem? (i := 187) rfl)) (hw _ (List.mem_of_getElem? (i := 20) rfl)) eMc5 S.1 (pc := 45) (Ls := #[.val (.ref t), .val (.int p), .val (.long m), .second, .val (.long d), .second, .val (.int ((-((m / d) % (10 : Int64))).toInt32))]) (argsL := [(.int p)]) (rest := []) (by rw [hml]; rfl) (lenOf pd_20 rfl) (W := 0) (Nat.le_of_eq rfl) (by decide) (by decide) (by decide) (by decide) (hb hby d40_45) rfl rfl ?_
      intro TMc6 LMc6 vMc6 XMc6 hQMc6
      obtain ⟨rfl, rfl, eMc6⟩ := hQMc6
      show own_Ends pP eE bB sS _ _ TMc6 (mkF mI 48 #[.val (.ref t), .val (.int p), .val (.long m), .second, .val (.long d), .second, .val (.int ((-((m / d) % (10 : Int64))).toInt32))] [(.int w)])
      refine own_go (T' := TMc6) (g' := (mkF mI 50 #[.val (.ref t), .val (.int p), .val (.long m), .second, .val (.long d), .second, .val (.int ((-((m / d) % (10 : Int64))).toInt32))] [(.int (48 : Int32)), (.int w)])) (fun t_ kt_ => XS.bipush XMc6.here hx rfl (hb hby d40_48) kt_) ?_
      refine own_go (T' := TMc6) (g' := (mkF mI 52 #[.val (.ref t), .val (.int p), .val (.long m), .second, .val (.long d), .second, .val (.int ((-((m / d) % (10 : Int64))).toInt32))] [(.int ((-((m / d) % (10 : Int64))).toInt32)), (.int (48 : Int32)), (.int w)])) (fun t_ kt_ => XS.iload XMc6.here hx rfl (hb hby d40_50) rfl kt_) ?_
      refine own_go (T' := TMc6) (g' := (mkF mI 53 #[.val (.ref t), .val (.int p), .val (.long m), .second, .val (.long d), .second, .val (.int ((-((m / d) % (10 : Int64))).toInt32))] [(.int ((48 : Int32) + ((-((m / d) % (10 : Int64))).toInt32))), (.int w)])) (fun t_ kt_ => XS.iadd XMc6.here hx rfl (hb hby d40_52) rfl kt_) ?_
      refine own_go (T' := TMc6) (g' := (mkF mI 54 #[.val (.ref t), .val (.int p), .val (.long m), .second, .val (.long d), .second, .val (.int ((-((m / d) % (10 : Int64))).toInt32))] [(.int (((48 : Int32) + ((-((m / d) % (10 : Int64))).toInt32)).toUInt32.toUInt16.toUInt32.toInt32)), (.int w)])) (fun t_ kt_ => XS.i2c XMc6.here hx rfl (hb hby d40_53) rfl kt_) ?_
      rw [hwE]
      refine own_go (T' := TMc6) (g' := (mkF mI 59 #[.val (.ref t), .val (.int p), .val (.long m), .second, .val (.long d), .second, .val (.int ((-((m / d) % (10 : Int64))).toInt32))] [])) (fun t_ kt_ => XS.icmpYes XMc6.here hx rfl (pc0 := 54) (pc' := 59) rfl (hb hby d40_54) rfl (teq (rfl : w = w)).1 (by decide) (by decide) kt_) ?_
      refine own_go (T' := TMc6) (g' := (mkF mI 60 #[.val (.ref t), .val (.int p), .val (.long m), .second, .val (.long d), .second, .val (.int ((-((m / d) % (10 : Int64))).toInt32))] [(.int p)])) (fun t_ kt_ => XS.iloadN XMc6.here hx rfl (hb hby d40_59) rfl kt_) ?_
      refine own_go (T' := TMc6) (g' := (mkF mI 61 #[.val (.ref t), .val (.int p), .val (.long m), .second, .val (.long d), .second, .val (.int ((-((m / d) % (10 : Int64))).toInt32))] [(.int (1 : Int32)), (.int p)])) (fun t_ kt_ => XS.iconst XMc6.here hx rfl (hb hby d40_60) kt_) ?_
      refine own_go (T' := TMc6) (g' := (mkF mI 62 #[.val (.ref t), .val (.int p), .val (.long m), .second, .val (.long d), .second, .val (.int ((-((m / d) % (10 : Int64))).toInt32))] [(.int (p + (1 : Int32)))])) (fun t_ kt_ => XS.iadd XMc6.here hx rfl (hb hby d40_61) rfl kt_) ?_
      rw [hq]
      refine own_retI XMc6 hx hlk hret (hb hby d40_62) (by decide) (by decide) ?_
      exact ⟨rfl, rfl, eMc6⟩
theorem d39_0 : decode method_6_code 0 = .ok (.iload_n 1, 1) := by decide +kernel
theorem d39_1 : decode method_6_code 1 = .ok (.ifCond .ge 5, 3) := by decide +kernel
theorem d39_6 : decode method_6_code 6 = .ok (.iload_n 1, 1) := by decide +kernel
theorem d39_7 : decode method_6_code 7 = .ok (.istore 4, 2) := by decide +kernel
theorem d39_9 : decode method_6_code 9 = .ok (.lload_n 2, 1) := by decide +kernel
theorem d39_10 : decode method_6_code 10 = .ok (.lconst 0, 1) := by decide +kernel
theorem d39_11 : decode method_6_code 11 = .ok (.lcmp, 1) := by decide +kernel
theorem d39_12 : decode method_6_code 12 = .ok (.ifCond .ge 31, 3) := by decide +kernel
theorem d39_15 : decode method_6_code 15 = .ok (.iload 4, 2) := by decide +kernel
theorem d39_17 : decode method_6_code 17 = .ok (.aload_n 0, 1) := by decide +kernel
theorem d39_18 : decode method_6_code 18 = .ok (.invokevirtual 33, 3) := by decide +kernel
theorem d39_21 : decode method_6_code 21 = .ok (.if_icmp .ge 14, 3) := by decide +kernel
theorem d39_24 : decode method_6_code 24 = .ok (.aload_n 0, 1) := by decide +kernel
theorem d39_25 : decode method_6_code 25 = .ok (.iload 4, 2) := by decide +kernel
theorem d39_27 : decode method_6_code 27 = .ok (.invokevirtual 39, 3) := by decide +kernel
theorem d39_30 : decode method_6_code 30 = .ok (.bipush 45, 2) := by decide +kernel
theorem d39_32 : decode method_6_code 32 = .ok (.if_icmp .eq 5, 3) := by decide +kernel
theorem d39_37 : decode method_6_code 37 = .ok (.iload 4, 2) := by decide +kernel
theorem d39_39 : decode method_6_code 39 = .ok (.iconst 1, 1) := by decide +kernel
theorem d39_40 : decode method_6_code 40 = .ok (.iadd, 1) := by decide +kernel
theorem d39_41 : decode method_6_code 41 = .ok (.istore 4, 2) := by decide +kernel
theorem d39_43 : decode method_6_code 43 = .ok (.lload_n 2, 1) := by decide +kernel
theorem d39_44 : decode method_6_code 44 = .ok (.lconst 0, 1) := by decide +kernel
theorem d39_45 : decode method_6_code 45 = .ok (.lcmp, 1) := by decide +kernel
theorem d39_46 : decode method_6_code 46 = .ok (.ifCond .ge 7, 3) := by decide +kernel
theorem d39_49 : decode method_6_code 49 = .ok (.lload_n 2, 1) := by decide +kernel
theorem d39_50 : decode method_6_code 50 = .ok (.goto 5, 3) := by decide +kernel
theorem d39_53 : decode method_6_code 53 = .ok (.lload_n 2, 1) := by decide +kernel
theorem d39_54 : decode method_6_code 54 = .ok (.lneg, 1) := by decide +kernel
theorem d39_55 : decode method_6_code 55 = .ok (.lstore 5, 2) := by decide +kernel
theorem d39_57 : decode method_6_code 57 = .ok (.aload_n 0, 1) := by decide +kernel
theorem d39_58 : decode method_6_code 58 = .ok (.iload 4, 2) := by decide +kernel
theorem d39_60 : decode method_6_code 60 = .ok (.lload 5, 2) := by decide +kernel
theorem d39_62 : decode method_6_code 62 = .ok (.ldc2_w 49, 3) := by decide +kernel
theorem d39_65 : decode method_6_code 65 = .ok (.invokestatic 51, 3) := by decide +kernel
theorem d39_68 : decode method_6_code 68 = .ok (.istore 4, 2) := by decide +kernel
theorem d39_70 : decode method_6_code 70 = .ok (.aload_n 0, 1) := by decide +kernel
theorem d39_71 : decode method_6_code 71 = .ok (.iload 4, 2) := by decide +kernel
theorem d39_73 : decode method_6_code 73 = .ok (.lload 5, 2) := by decide +kernel
theorem d39_75 : decode method_6_code 75 = .ok (.ldc2_w 55, 3) := by decide +kernel
theorem d39_78 : decode method_6_code 78 = .ok (.invokestatic 51, 3) := by decide +kernel
theorem d39_81 : decode method_6_code 81 = .ok (.istore 4, 2) := by decide +kernel
theorem d39_83 : decode method_6_code 83 = .ok (.aload_n 0, 1) := by decide +kernel
theorem d39_84 : decode method_6_code 84 = .ok (.iload 4, 2) := by decide +kernel
theorem d39_86 : decode method_6_code 86 = .ok (.lload 5, 2) := by decide +kernel
theorem d39_88 : decode method_6_code 88 = .ok (.ldc2_w 57, 3) := by decide +kernel
theorem d39_91 : decode method_6_code 91 = .ok (.invokestatic 51, 3) := by decide +kernel
theorem d39_94 : decode method_6_code 94 = .ok (.istore 4, 2) := by decide +kernel
theorem d39_96 : decode method_6_code 96 = .ok (.aload_n 0, 1) := by decide +kernel
theorem d39_97 : decode method_6_code 97 = .ok (.iload 4, 2) := by decide +kernel
theorem d39_99 : decode method_6_code 99 = .ok (.lload 5, 2) := by decide +kernel
theorem d39_101 : decode method_6_code 101 = .ok (.ldc2_w 59, 3) := by decide +kernel
theorem d39_104 : decode method_6_code 104 = .ok (.invokestatic 51, 3) := by decide +kernel
theorem d39_107 : decode method_6_code 107 = .ok (.istore 4, 2) := by decide +kernel
theorem d39_109 : decode method_6_code 109 = .ok (.aload_n 0, 1) := by decide +kernel
theorem d39_110 : decode method_6_code 110 = .ok (.iload 4, 2) := by decide +kernel
theorem d39_112 : decode method_6_code 112 = .ok (.lload 5, 2) := by decide +kernel
theorem d39_114 : decode method_6_code 114 = .ok (.ldc2_w 61, 3) := by decide +kernel
theorem d39_117 : decode method_6_code 117 = .ok (.invokestatic 51, 3) := by decide +kernel
theorem d39_120 : decode method_6_code 120 = .ok (.istore 4, 2) := by decide +kernel
theorem d39_122 : decode method_6_code 122 = .ok (.aload_n 0, 1) := by decide +kernel
theorem d39_123 : decode method_6_code 123 = .ok (.iload 4, 2) := by decide +kernel
theorem d39_125 : decode method_6_code 125 = .ok (.lload 5, 2) := by decide +kernel
theorem d39_127 : decode method_6_code 127 = .ok (.ldc2_w 63, 3) := by decide +kernel
theorem d39_130 : decode method_6_code 130 = .ok (.invokestatic 51, 3) := by decide +kernel
theorem d39_133 : decode method_6_code 133 = .ok (.istore 4, 2) := by decide +kernel
theorem d39_135 : decode method_6_code 135 = .ok (.aload_n 0, 1) := by decide +kernel
theorem d39_136 : decode method_6_code 136 = .ok (.iload 4, 2) := by decide +kernel
theorem d39_138 : decode method_6_code 138 = .ok (.lload 5, 2) := by decide +kernel
theorem d39_140 : decode method_6_code 140 = .ok (.ldc2_w 65, 3) := by decide +kernel
theorem d39_143 : decode method_6_code 143 = .ok (.invokestatic 51, 3) := by decide +kernel
theorem d39_146 : decode method_6_code 146 = .ok (.istore 4, 2) := by decide +kernel
theorem d39_148 : decode method_6_code 148 = .ok (.aload_n 0, 1) := by decide +kernel
theorem d39_149 : decode method_6_code 149 = .ok (.iload 4, 2) := by decide +kernel
theorem d39_151 : decode method_6_code 151 = .ok (.lload 5, 2) := by decide +kernel
theorem d39_153 : decode method_6_code 153 = .ok (.ldc2_w 67, 3) := by decide +kernel
theorem d39_156 : decode method_6_code 156 = .ok (.invokestatic 51, 3) := by decide +kernel
theorem d39_159 : decode method_6_code 159 = .ok (.istore 4, 2) := by decide +kernel
theorem d39_161 : decode method_6_code 161 = .ok (.aload_n 0, 1) := by decide +kernel
theorem d39_162 : decode method_6_code 162 = .ok (.iload 4, 2) := by decide +kernel
theorem d39_164 : decode method_6_code 164 = .ok (.lload 5, 2) := by decide +kernel
theorem d39_166 : decode method_6_code 166 = .ok (.ldc2_w 69, 3) := by decide +kernel
theorem d39_169 : decode method_6_code 169 = .ok (.invokestatic 51, 3) := by decide +kernel
theorem d39_172 : decode method_6_code 172 = .ok (.istore 4, 2) := by decide +kernel
theorem d39_174 : decode method_6_code 174 = .ok (.aload_n 0, 1) := by decide +kernel
theorem d39_175 : decode method_6_code 175 = .ok (.iload 4, 2) := by decide +kernel
theorem d39_177 : decode method_6_code 177 = .ok (.lload 5, 2) := by decide +kernel
theorem d39_179 : decode method_6_code 179 = .ok (.ldc2_w 71, 3) := by decide +kernel
theorem d39_182 : decode method_6_code 182 = .ok (.invokestatic 51, 3) := by decide +kernel
theorem d39_185 : decode method_6_code 185 = .ok (.istore 4, 2) := by decide +kernel
theorem d39_187 : decode method_6_code 187 = .ok (.aload_n 0, 1) := by decide +kernel
theorem d39_188 : decode method_6_code 188 = .ok (.iload 4, 2) := by decide +kernel
theorem d39_190 : decode method_6_code 190 = .ok (.lload 5, 2) := by decide +kernel
theorem d39_192 : decode method_6_code 192 = .ok (.ldc2_w 73, 3) := by decide +kernel
theorem d39_195 : decode method_6_code 195 = .ok (.invokestatic 51, 3) := by decide +kernel
theorem d39_198 : decode method_6_code 198 = .ok (.istore 4, 2) := by decide +kernel
theorem d39_200 : decode method_6_code 200 = .ok (.aload_n 0, 1) := by decide +kernel
theorem d39_201 : decode method_6_code 201 = .ok (.iload 4, 2) := by decide +kernel
theorem d39_203 : decode method_6_code 203 = .ok (.lload 5, 2) := by decide +kernel
theorem d39_205 : decode method_6_code 205 = .ok (.ldc2_w 75, 3) := by decide +kernel
theorem d39_208 : decode method_6_code 208 = .ok (.invokestatic 51, 3) := by decide +kernel
theorem d39_211 : decode method_6_code 211 = .ok (.istore 4, 2) := by decide +kernel
theorem d39_213 : decode method_6_code 213 = .ok (.aload_n 0, 1) := by decide +kernel
theorem d39_214 : decode method_6_code 214 = .ok (.iload 4, 2) := by decide +kernel
theorem d39_216 : decode method_6_code 216 = .ok (.lload 5, 2) := by decide +kernel
theorem d39_218 : decode method_6_code 218 = .ok (.ldc2_w 77, 3) := by decide +kernel
theorem d39_221 : decode method_6_code 221 = .ok (.invokestatic 51, 3) := by decide +kernel
theorem d39_224 : decode method_6_code 224 = .ok (.istore 4, 2) := by decide +kernel
theorem d39_226 : decode method_6_code 226 = .ok (.aload_n 0, 1) := by decide +kernel
theorem d39_227 : decode method_6_code 227 = .ok (.iload 4, 2) := by decide +kernel
theorem d39_229 : decode method_6_code 229 = .ok (.lload 5, 2) := by decide +kernel
theorem d39_231 : decode method_6_code 231 = .ok (.ldc2_w 79, 3) := by decide +kernel
theorem d39_234 : decode method_6_code 234 = .ok (.invokestatic 51, 3) := by decide +kernel
theorem d39_237 : decode method_6_code 237 = .ok (.istore 4, 2) := by decide +kernel
theorem d39_239 : decode method_6_code 239 = .ok (.aload_n 0, 1) := by decide +kernel
theorem d39_240 : decode method_6_code 240 = .ok (.iload 4, 2) := by decide +kernel
theorem d39_242 : decode method_6_code 242 = .ok (.lload 5, 2) := by decide +kernel
theorem d39_244 : decode method_6_code 244 = .ok (.ldc2_w 81, 3) := by decide +kernel
theorem d39_247 : decode method_6_code 247 = .ok (.invokestatic 51, 3) := by decide +kernel
theorem d39_250 : decode method_6_code 250 = .ok (.istore 4, 2) := by decide +kernel
theorem d39_252 : decode method_6_code 252 = .ok (.aload_n 0, 1) := by decide +kernel
theorem d39_253 : decode method_6_code 253 = .ok (.iload 4, 2) := by decide +kernel
theorem d39_255 : decode method_6_code 255 = .ok (.lload 5, 2) := by decide +kernel
theorem d39_257 : decode method_6_code 257 = .ok (.ldc2_w 83, 3) := by decide +kernel
theorem d39_260 : decode method_6_code 260 = .ok (.invokestatic 51, 3) := by decide +kernel
theorem d39_263 : decode method_6_code 263 = .ok (.istore 4, 2) := by decide +kernel
theorem d39_265 : decode method_6_code 265 = .ok (.aload_n 0, 1) := by decide +kernel
theorem d39_266 : decode method_6_code 266 = .ok (.iload 4, 2) := by decide +kernel
theorem d39_268 : decode method_6_code 268 = .ok (.lload 5, 2) := by decide +kernel
theorem d39_270 : decode method_6_code 270 = .ok (.ldc2_w 85, 3) := by decide +kernel
theorem d39_273 : decode method_6_code 273 = .ok (.invokestatic 51, 3) := by decide +kernel
theorem d39_276 : decode method_6_code 276 = .ok (.istore 4, 2) := by decide +kernel
theorem d39_278 : decode method_6_code 278 = .ok (.aload_n 0, 1) := by decide +kernel
theorem d39_279 : decode method_6_code 279 = .ok (.iload 4, 2) := by decide +kernel
theorem d39_281 : decode method_6_code 281 = .ok (.lload 5, 2) := by decide +kernel
theorem d39_283 : decode method_6_code 283 = .ok (.ldc2_w 47, 3) := by decide +kernel
theorem d39_286 : decode method_6_code 286 = .ok (.invokestatic 51, 3) := by decide +kernel
theorem d39_289 : decode method_6_code 289 = .ok (.istore 4, 2) := by decide +kernel
theorem d39_291 : decode method_6_code 291 = .ok (.aload_n 0, 1) := by decide +kernel
theorem d39_292 : decode method_6_code 292 = .ok (.iload 4, 2) := by decide +kernel
theorem d39_294 : decode method_6_code 294 = .ok (.lload 5, 2) := by decide +kernel
theorem d39_296 : decode method_6_code 296 = .ok (.lconst 1, 1) := by decide +kernel
theorem d39_297 : decode method_6_code 297 = .ok (.invokestatic 51, 3) := by decide +kernel
theorem d39_300 : decode method_6_code 300 = .ok (.istore 4, 2) := by decide +kernel
theorem d39_302 : decode method_6_code 302 = .ok (.iload 4, 2) := by decide +kernel
theorem d39_304 : decode method_6_code 304 = .ok (.ireturn, 1) := by decide +kernel
theorem rl_num_pn : plainFor (⟨"com/example/carter/carter/IncompleteEnqueueExceptionCountByFatePinLaw", "num", "(Ljava/lang/String;IJ)I"⟩ : MethodName) = true := plainFor_of_name (show plainName "com/example/carter/carter/IncompleteEnqueueExceptionCountByFatePinLaw" = true by first | (simp [plainName, overriddenIn]; done) | decide +kernel)
theorem rl_num_ef (mI : MethodId) (t : Addr) (p : Int32) (v : Int64) : entryFrame mI #[(.ref t), (.int p), (.long v)] 7 = mkF mI 0 #[.val (.ref t), .val (.int p), .val (.long v), .second, .unset, .unset, .unset] [] := by first | (simp [entryFrame, mkF, argsToLocals, Value.category]; done) | rfl
set_option maxRecDepth 65536 in
set_option maxHeartbeats 40000000 in
theorem rl_num (l : Launch) (Z : State) (a0 : Array Value) (hw : ∀ d ∈ tables_1, d.before a0 Z = true) (ws : List Jvm.Cond) (h0 : Heap) (n0 : Nat) (O : Old Z n0 h0) (cs : Int32) (Scs : Sta Z Z.heap "java/lang/String" "COMPACT_STRINGS" "Z" (.int cs)) (hcs : ¬ cs = 0) (fo : Value) (hfo : fo.isRef = true) (Sfo : Sta Z Z.heap "jdk/internal/util/Preconditions" "SIOOBE_FORMATTER" "Ljava/util/function/BiFunction;" fo) (t td : Addr) (kt : ClassId) (n : Int32) (TX : List Value) (S : own_St Z h0 t td kt n TX) (p r : Int32) (v : Int64) (A R : List Value) (hT : TX = A ++ own_decJ v ++ R) (hn : n.toInt = TX.length) (hl : TX.length ≤ 140) (hp : p = Int32.ofNat A.length) (hp0 : ¬ p < 0) (hr : (Int32.ofNat (A.length + SBG.GetCharsL.sgnL v + (SBG.digitsL (own_magJ v) - 0))) = r) :
    own_Met l Z (⟨"com/example/carter/carter/IncompleteEnqueueExceptionCountByFatePinLaw", "num", "(Ljava/lang/String;IJ)I"⟩ : MethodName) method_6_code 7 (some .int) ws ({ frames := 5, cells := 0, slots := 0, locals := 71 } : Room) #[(.ref t), (.int p), (.long v)] h0 (own_QP h0 (some (.int r))) := by
  refine own_met rl_num_pn ?_
  intro pP eE sS mI bB mT cC s₁ hx hby hml hown hnm hret hlk hZ X0 e0
  replace hown : sS.vm.findClass "com/example/carter/carter/IncompleteEnqueueExceptionCountByFatePinLaw" = some mI.cls := hown
  refine own_cast (rl_num_ef mI t p v) ?_
  refine own_go (T' := s₁) (g' := (mkF mI 1 #[.val (.ref t), .val (.int p), .val (.long v), .second, .unset, .unset, .unset] [(.int p)])) (fun t_ kt_ => XS.iloadN X0.here hx rfl (hb hby d39_0) rfl kt_) ?_
  refine own_go (T' := s₁) (g' := (mkF mI 6 #[.val (.ref t), .val (.int p), .val (.long v), .second, .unset, .unset, .unset] [])) (fun t_ kt_ => XS.ifYes X0.here hx rfl (pc0 := 1) (pc' := 6) rfl (hb hby d39_1) rfl ((if0 _ _).trans (flt (hp0 : ¬ (p < (0 : Int32)))).2.1) (by decide) (by decide) kt_) ?_
  refine own_go (T' := s₁) (g' := (mkF mI 7 #[.val (.ref t), .val (.int p), .val (.long v), .second, .unset, .unset, .unset] [(.int p)])) (fun t_ kt_ => XS.iloadN X0.here hx rfl (hb hby d39_6) rfl kt_) ?_
  refine own_go (T' := s₁) (g' := (mkF mI 9 #[.val (.ref t), .val (.int p), .val (.long v), .second, .val (.int p), .unset, .unset] [])) (fun t_ kt_ => XS.istore X0.here hx rfl (hb hby d39_7) rfl (l' := #[.val (.ref t), .val (.int p), .val (.long v), .second, .val (.int p), .unset, .unset]) rfl kt_) ?_
  refine own_go (T' := s₁) (g' := (mkF mI 10 #[.val (.ref t), .val (.int p), .val (.long v), .second, .val (.int p), .unset, .unset] [(.long v)])) (fun t_ kt_ => XS.lloadN X0.here hx rfl (hb hby d39_9) rfl kt_) ?_
  refine own_go (T' := s₁) (g' := (mkF mI 11 #[.val (.ref t), .val (.int p), .val (.long v), .second, .val (.int p), .unset, .unset] [(.long (0 : Int64)), (.long v)])) (fun t_ kt_ => XS.lconst X0.here hx rfl (hb hby d39_10) kt_) ?_
  refine own_go (T' := s₁) (g' := (mkF mI 12 #[.val (.ref t), .val (.int p), .val (.long v), .second, .val (.int p), .unset, .unset] [(.int (lcmpW v (0 : Int64)))])) (fun t_ kt_ => XS.lcmp X0.here hx rfl (hb hby d39_11) rfl kt_) ?_
  by_cases hc12_Md1 : v < (0 : Int64)
  · skip
    refine own_go (T' := s₁) (g' := (mkF mI 15 #[.val (.ref t), .val (.int p), .val (.long v), .second, .val (.int p), .unset, .unset] [])) (fun t_ kt_ => XS.ifNo X0.here hx rfl (hb hby d39_12) rfl (XT.ll_ge_f hc12_Md1) kt_) ?_
    have hs := own_sign hT hn hl hc12_Md1
    rw [← hp] at hs
    refine own_go (T' := s₁) (g' := (mkF mI 17 #[.val (.ref t), .val (.int p), .val (.long v), .second, .val (.int p), .unset, .unset] [(.int p)])) (fun t_ kt_ => XS.iload X0.here hx rfl (hb hby d39_15) rfl kt_) ?_
    refine own_go (T' := s₁) (g' := (mkF mI 18 #[.val (.ref t), .val (.int p), .val (.long v), .second, .val (.int p), .unset, .unset] [(.ref t), (.int p)])) (fun t_ kt_ => XS.aloadN X0.here hx rfl (hb hby d39_17) rfl rfl kt_) ?_
    refine own_callV own_closed X0 hx hZ (y := (⟨"java/lang/String", "length", "()I"⟩ : MethodName)) (z := (⟨"java/lang/String", "length", "()I"⟩ : MethodName)) hown (hw _ (List.mem_of_getElem? (i := 179) rfl)) (hw _ (List.mem_of_getElem? (i := 43) rfl)) (hw _ (List.mem_of_getElem? (i := 45) rfl)) (hw _ (List.mem_of_getElem? (i := 44) rfl)) (hw _ (List.mem_of_getElem? (i := 45) rfl)) rfl (by decide) (rj_len l Z a0 hw [] h0 n0 O cs Scs hcs t td _ n _ S.1 S.2.1 S.2.2.1 S.2.2.2) (hw _ (List.mem_of_getElem? (i := 46) rfl)) (hw _ (List.mem_of_getElem? (i := 20) rfl)) e0 S.1 (pc := 18) (Ls := #[.val (.ref t), .val (.int p), .val (.long v), .second, .val (.int p), .unset, .unset]) (argsL := []) (rest := [(.int p)]) (by rw [hml]; rfl) (lenOf pd_11 rfl) (W := 1) (Nat.le_of_eq rfl) (by decide) (by decide) (by decide) (by decide) (hb hby d39_18) rfl rfl ?_
    intro TMd2 LMd2 vMd2 XMd2 hQMd2
    obtain ⟨rfl, rfl, eMd2⟩ := hQMd2
    show own_Ends pP eE bB sS _ _ TMd2 (mkF mI 21 #[.val (.ref t), .val (.int p), .val (.long v), .second, .val (.int p), .unset, .unset] [(.int n), (.int p)])
    refine own_go (T' := TMd2) (g' := (mkF mI 24 #[.val (.ref t), .val (.int p), .val (.long v), .second, .val (.int p), .unset, .unset] [])) (fun t_ kt_ => XS.icmpNo XMd2.here hx rfl (hb hby d39_21) rfl (tlt (hs.1 : p < n)).2.1 kt_) ?_
    refine own_go (T' := TMd2) (g' := (mkF mI 25 #[.val (.ref t), .val (.int p), .val (.long v), .second, .val (.int p), .unset, .unset] [(.ref t)])) (fun t_ kt_ => XS.aloadN XMd2.here hx rfl (hb hby d39_24) rfl rfl kt_) ?_
    refine own_go (T' := TMd2) (g' := (mkF mI 27 #[.val (.ref t), .val (.int p), .val (.long v), .second, .val (.int p), .unset, .unset] [(.int p), (.ref t)])) (fun t_ kt_ => XS.iload XMd2.here hx rfl (hb hby d39_25) rfl kt_) ?_
    refine own_callV own_closed XMd2 hx hZ (y := (⟨"java/lang/String", "charAt", "(I)C"⟩ : MethodName)) (z := (⟨"java/lang/String", "charAt", "(I)C"⟩ : MethodName)) hown (hw _ (List.mem_of_getElem? (i := 183) rfl)) (hw _ (List.mem_of_getElem? (i := 184) rfl)) (hw _ (List.mem_of_getElem? (i := 186) rfl)) (hw _ (List.mem_of_getElem? (i := 185) rfl)) (hw _ (List.mem_of_getElem? (i := 186) rfl)) rfl (by decide) (rj_cha l Z a0 hw [] h0 n0 O cs Scs hcs fo hfo Sfo t p td kt n TX S.1 S.2.1 S.2.2.1 (45 : Int32) S.2.2.2 hp0 hs.1 hs.2.1 (by decide)) (hw _ (List.mem_of_getElem? (i := 187) rfl)) (hw _ (List.mem_of_getElem? (i := 20) rfl)) eMd2 S.1 (pc := 27) (Ls := #[.val (.ref t), .val (.int p), .val (.long v), .second, .val (.int p), .unset, .unset]) (argsL := [(.int p)]) (rest := []) (by rw [hml]; rfl) (lenOf pd_20 rfl) (W := 0) (Nat.le_of_eq rfl) (by decide) (by decide) (by decide) (by decide) (hb hby d39_27) rfl rfl ?_
    intro TMd3 LMd3 vMd3 XMd3 hQMd3
    obtain ⟨rfl, rfl, eMd3⟩ := hQMd3
    show own_Ends pP eE bB sS _ _ TMd3 (mkF mI 30 #[.val (.ref t), .val (.int p), .val (.long v), .second, .val (.int p), .unset, .unset] [(.int (45 : Int32))])
    refine own_go (T' := TMd3) (g' := (mkF mI 32 #[.val (.ref t), .val (.int p), .val (.long v), .second, .val (.int p), .unset, .unset] [(.int (45 : Int32)), (.int (45 : Int32))])) (fun t_ kt_ => XS.bipush XMd3.here hx rfl (hb hby d39_30) kt_) ?_
    refine own_go (T' := TMd3) (g' := (mkF mI 37 #[.val (.ref t), .val (.int p), .val (.long v), .second, .val (.int p), .unset, .unset] [])) (fun t_ kt_ => XS.icmpYes XMd3.here hx rfl (pc0 := 32) (pc' := 37) rfl (hb hby d39_32) rfl (teq (by decide : (45 : Int32) = (45 : Int32))).1 (by decide) (by decide) kt_) ?_
    refine own_go (T' := TMd3) (g' := (mkF mI 39 #[.val (.ref t), .val (.int p), .val (.long v), .second, .val (.int p), .unset, .unset] [(.int p)])) (fun t_ kt_ => XS.iload XMd3.here hx rfl (hb hby d39_37) rfl kt_) ?_
    refine own_go (T' := TMd3) (g' := (mkF mI 40 #[.val (.ref t), .val (.int p), .val (.long v), .second, .val (.int p), .unset, .unset] [(.int (1 : Int32)), (.int p)])) (fun t_ kt_ => XS.iconst XMd3.here hx rfl (hb hby d39_39) kt_) ?_
    refine own_go (T' := TMd3) (g' := (mkF mI 41 #[.val (.ref t), .val (.int p), .val (.long v), .second, .val (.int p), .unset, .unset] [(.int (p + (1 : Int32)))])) (fun t_ kt_ => XS.iadd XMd3.here hx rfl (hb hby d39_40) rfl kt_) ?_
    rw [hs.2.2]
    refine own_go (T' := TMd3) (g' := (mkF mI 43 #[.val (.ref t), .val (.int p), .val (.long v), .second, .val (.int (Int32.ofNat (A.length + SBG.GetCharsL.sgnL v + (SBG.digitsL (own_magJ v) - 19)))), .unset, .unset] [])) (fun t_ kt_ => XS.istore XMd3.here hx rfl (hb hby d39_41) rfl (l' := #[.val (.ref t), .val (.int p), .val (.long v), .second, .val (.int (Int32.ofNat (A.length + SBG.GetCharsL.sgnL v + (SBG.digitsL (own_magJ v) - 19)))), .unset, .unset]) rfl kt_) ?_
    refine own_go (T' := TMd3) (g' := (mkF mI 44 #[.val (.ref t), .val (.int p), .val (.long v), .second, .val (.int (Int32.ofNat (A.length + SBG.GetCharsL.sgnL v + (SBG.digitsL (own_magJ v) - 19)))), .unset, .unset] [(.long v)])) (fun t_ kt_ => XS.lloadN XMd3.here hx rfl (hb hby d39_43) rfl kt_) ?_
    refine own_go (T' := TMd3) (g' := (mkF mI 45 #[.val (.ref t), .val (.int p), .val (.long v), .second, .val (.int (Int32.ofNat (A.length + SBG.GetCharsL.sgnL v + (SBG.digitsL (own_magJ v) - 19)))), .unset, .unset] [(.long (0 : Int64)), (.long v)])) (fun t_ kt_ => XS.lconst XMd3.here hx rfl (hb hby d39_44) kt_) ?_
    refine own_go (T' := TMd3) (g' := (mkF mI 46 #[.val (.ref t), .val (.int p), .val (.long v), .second, .val (.int (Int32.ofNat (A.length + SBG.GetCharsL.sgnL v + (SBG.digitsL (own_magJ v) - 19)))), .unset, .unset] [(.int (lcmpW v (0 : Int64)))])) (fun t_ kt_ => XS.lcmp XMd3.here hx rfl (hb hby d39_45) rfl kt_) ?_
    refine own_go (T' := TMd3) (g' := (mkF mI 49 #[.val (.ref t), .val (.int p), .val (.long v), .second, .val (.int (Int32.ofNat (A.length + SBG.GetCharsL.sgnL v + (SBG.digitsL (own_magJ v) - 19)))), .unset, .unset] [])) (fun t_ kt_ => XS.ifNo XMd3.here hx rfl (hb hby d39_46) rfl (XT.ll_ge_f (hc12_Md1 : v < (0 : Int64))) kt_) ?_
    refine own_go (T' := TMd3) (g' := (mkF mI 50 #[.val (.ref t), .val (.int p), .val (.long v), .second, .val (.int (Int32.ofNat (A.length + SBG.GetCharsL.sgnL v + (SBG.digitsL (own_magJ v) - 19)))), .unset, .unset] [(.long v)])) (fun t_ kt_ => XS.lloadN XMd3.here hx rfl (hb hby d39_49) rfl kt_) ?_
    refine own_go (T' := TMd3) (g' := (mkF mI 55 #[.val (.ref t), .val (.int p), .val (.long v), .second, .val (.int (Int32.ofNat (A.length + SBG.GetCharsL.sgnL v + (SBG.digitsL (own_magJ v) - 19)))), .unset, .unset] [(.long v)])) (fun t_ kt_ => XS.goto XMd3.here hx rfl (pc0 := 50) (pc' := 55) rfl (hb hby d39_50) (by decide) (by decide) kt_) ?_
    refine own_go (T' := TMd3) (g' := (mkF mI 57 #[.val (.ref t), .val (.int p), .val (.long v), .second, .val (.int (Int32.ofNat (A.length + SBG.GetCharsL.sgnL v + (SBG.digitsL (own_magJ v) - 19)))), .val (.long v), .second] [])) (fun t_ kt_ => XS.lstore XMd3.here hx rfl (hb hby d39_55) rfl (l' := #[.val (.ref t), .val (.int p), .val (.long v), .second, .val (.int (Int32.ofNat (A.length + SBG.GetCharsL.sgnL v + (SBG.digitsL (own_magJ v) - 19)))), .val (.long v), .second]) rfl kt_) ?_
    refine own_go (T' := TMd3) (g' := (mkF mI 58 #[.val (.ref t), .val (.int p), .val (.long v), .second, .val (.int (Int32.ofNat (A.length + SBG.GetCharsL.sgnL v + (SBG.digitsL (own_magJ v) - 19)))), .val (.long v), .second] [(.ref t)])) (fun t_ kt_ => XS.aloadN XMd3.here hx rfl (hb hby d39_57) rfl rfl kt_) ?_
    refine own_go (T' := TMd3) (g' := (mkF mI 60 #[.val (.ref t), .val (.int p), .val (.long v), .second, .val (.int (Int32.ofNat (A.length + SBG.GetCharsL.sgnL v + (SBG.digitsL (own_magJ v) - 19)))), .val (.long v), .second] [(.int (Int32.ofNat (A.length + SBG.GetCharsL.sgnL v + (SBG.digitsL (own_magJ v) - 19)))), (.ref t)])) (fun t_ kt_ => XS.iload XMd3.here hx rfl (hb hby d39_58) rfl kt_) ?_
    refine own_go (T' := TMd3) (g' := (mkF mI 62 #[.val (.ref t), .val (.int p), .val (.long v), .second, .val (.int (Int32.ofNat (A.length + SBG.GetCharsL.sgnL v + (SBG.digitsL (own_magJ v) - 19)))), .val (.long v), .second] [(.long v), (.int (Int32.ofNat (A.length + SBG.GetCharsL.sgnL v + (SBG.digitsL (own_magJ v) - 19)))), (.ref t)])) (fun t_ kt_ => XS.lload XMd3.here hx rfl (hb hby d39_60) rfl kt_) ?_
    refine own_go (T' := TMd3) (g' := (mkF mI 65 #[.val (.ref t), .val (.int p), .val (.long v), .second, .val (.int (Int32.ofNat (A.length + SBG.GetCharsL.sgnL v + (SBG.digitsL (own_magJ v) - 19)))), .val (.long v), .second] [(.long (1000000000000000000 : Int64)), (.long v), (.int (Int32.ofNat (A.length + SBG.GetCharsL.sgnL v + (SBG.digitsL (own_magJ v) - 19)))), (.ref t)])) (fun t_ kt_ => ldc2J XMd3 hx hown (mvT hZ (hw _ (List.mem_of_getElem? (i := 208) rfl))) rfl (hb hby d39_62) kt_) ?_
    have spMd4 := own_step (m := v) (d := (1000000000000000000 : Int64)) (e := 18) hT hn hl (own_mN hc12_Md1) (by decide) (by decide)
    refine own_callS own_closed XMd3 hx hZ (y := (⟨"com/example/carter/carter/IncompleteEnqueueExceptionCountByFatePinLaw", "dig", "(Ljava/lang/String;IJJ)I"⟩ : MethodName)) hown (hw _ (List.mem_of_getElem? (i := 209) rfl)) (hw _ (List.mem_of_getElem? (i := 210) rfl)) (by decide) (rl_dig l Z a0 hw [] h0 n0 O cs Scs hcs fo hfo Sfo t td kt n TX S (Int32.ofNat (A.length + SBG.GetCharsL.sgnL v + (SBG.digitsL (own_magJ v) - 19))) (Int32.ofNat (A.length + SBG.GetCharsL.sgnL v + (SBG.digitsL (own_magJ v) - 18))) v (1000000000000000000 : Int64) spMd4.1 (by decide) spMd4.2.1 spMd4.2.2.1 spMd4.2.2.2) (hw _ (List.mem_of_getElem? (i := 211) rfl)) (hw _ (List.mem_of_getElem? (i := 177) rfl)) eMd3 (pc := 65) (Ls := #[.val (.ref t), .val (.int p), .val (.long v), .second, .val (.int (Int32.ofNat (A.length + SBG.GetCharsL.sgnL v + (SBG.digitsL (own_magJ v) - 19)))), .val (.long v), .second]) (argsL := [(.ref t), (.int (Int32.ofNat (A.length + SBG.GetCharsL.sgnL v + (SBG.digitsL (own_magJ v) - 19)))), (.long v), (.long (1000000000000000000 : Int64))]) (rest := []) (by rw [hml]; rfl) (lenOf pd_22 rfl) (W := 0) (Nat.le_of_eq rfl) (by decide) (by decide) (by decide) (by decide) (hb hby d39_65) rfl rfl ?_
    intro TMd5 LMd5 vMd5 XMd5 hQMd5
    obtain ⟨rfl, rfl, eMd5⟩ := hQMd5
    show own_Ends pP eE bB sS _ _ TMd5 (mkF mI 68 #[.val (.ref t), .val (.int p), .val (.long v), .second, .val (.int (Int32.ofNat (A.length + SBG.GetCharsL.sgnL v + (SBG.digitsL (own_magJ v) - 19)))), .val (.long v), .second] [(.int (Int32.ofNat (A.length + SBG.GetCharsL.sgnL v + (SBG.digitsL (own_magJ v) - 18))))])
    refine own_go (T' := TMd5) (g' := (mkF mI 70 #[.val (.ref t), .val (.int p), .val (.long v), .second, .val (.int (Int32.ofNat (A.length + SBG.GetCharsL.sgnL v + (SBG.digitsL (own_magJ v) - 18)))), .val (.long v), .second] [])) (fun t_ kt_ => XS.istore XMd5.here hx rfl (hb hby d39_68) rfl (l' := #[.val (.ref t), .val (.int p), .val (.long v), .second, .val (.int (Int32.ofNat (A.length + SBG.GetCharsL.sgnL v + (SBG.digitsL (own_magJ v) - 18)))), .val (.long v), .second]) rfl kt_) ?_
    refine own_go (T' := TMd5) (g' := (mkF mI 71 #[.val (.ref t), .val (.int p), .val (.long v), .second, .val (.int (Int32.ofNat (A.length + SBG.GetCharsL.sgnL v + (SBG.digitsL (own_magJ v) - 18)))), .val (.long v), .second] [(.ref t)])) (fun t_ kt_ => XS.aloadN XMd5.here hx rfl (hb hby d39_70) rfl rfl kt_) ?_
    refine own_go (T' := TMd5) (g' := (mkF mI 73 #[.val (.ref t), .val (.int p), .val (.long v), .second, .val (.int (Int32.ofNat (A.length + SBG.GetCharsL.sgnL v + (SBG.digitsL (own_magJ v) - 18)))), .val (.long v), .second] [(.int (Int32.ofNat (A.length + SBG.GetCharsL.sgnL v + (SBG.digitsL (own_magJ v) - 18)))), (.ref t)])) (fun t_ kt_ => XS.iload XMd5.here hx rfl (hb hby d39_71) rfl kt_) ?_
    refine own_go (T' := TMd5) (g' := (mkF mI 75 #[.val (.ref t), .val (.int p), .val (.long v), .second, .val (.int (Int32.ofNat (A.length + SBG.GetCharsL.sgnL v + (SBG.digitsL (own_magJ v) - 18)))), .val (.long v), .second] [(.long v), (.int (Int32.ofNat (A.length + SBG.GetCharsL.sgnL v + (SBG.digitsL (own_magJ v) - 18)))), (.ref t)])) (fun t_ kt_ => XS.lload XMd5.here hx rfl (hb hby d39_73) rfl kt_) ?_
    refine own_go (T' := TMd5) (g' := (mkF mI 78 #[.val (.ref t), .val (.int p), .val (.long v), .second, .val (.int (Int32.ofNat (A.length + SBG.GetCharsL.sgnL v + (SBG.digitsL (own_magJ v) - 18)))), .val (.long v), .second] [(.long (100000000000000000 : Int64)), (.long v), (.int (Int32.ofNat (A.length + SBG.GetCharsL.sgnL v + (SBG.digitsL (own_magJ v) - 18)))), (.ref t)])) (fun t_ kt_ => ldc2J XMd5 hx hown (mvT hZ (hw _ (List.mem_of_getElem? (i := 212) rfl))) rfl (hb hby d39_75) kt_) ?_
    have spMd6 := own_step (m := v) (d := (100000000000000000 : Int64)) (e := 17) hT hn hl (own_mN hc12_Md1) (by decide) (by decide)
    refine own_callS own_closed XMd5 hx hZ (y := (⟨"com/example/carter/carter/IncompleteEnqueueExceptionCountByFatePinLaw", "dig", "(Ljava/lang/String;IJJ)I"⟩ : MethodName)) hown (hw _ (List.mem_of_getElem? (i := 209) rfl)) (hw _ (List.mem_of_getElem? (i := 210) rfl)) (by decide) (rl_dig l Z a0 hw [] h0 n0 O cs Scs hcs fo hfo Sfo t td kt n TX S (Int32.ofNat (A.length + SBG.GetCharsL.sgnL v + (SBG.digitsL (own_magJ v) - 18))) (Int32.ofNat (A.length + SBG.GetCharsL.sgnL v + (SBG.digitsL (own_magJ v) - 17))) v (100000000000000000 : Int64) spMd6.1 (by decide) spMd6.2.1 spMd6.2.2.1 spMd6.2.2.2) (hw _ (List.mem_of_getElem? (i := 211) rfl)) (hw _ (List.mem_of_getElem? (i := 177) rfl)) eMd5 (pc := 78) (Ls := #[.val (.ref t), .val (.int p), .val (.long v), .second, .val (.int (Int32.ofNat (A.length + SBG.GetCharsL.sgnL v + (SBG.digitsL (own_magJ v) - 18)))), .val (.long v), .second]) (argsL := [(.ref t), (.int (Int32.ofNat (A.length + SBG.GetCharsL.sgnL v + (SBG.digitsL (own_magJ v) - 18)))), (.long v), (.long (100000000000000000 : Int64))]) (rest := []) (by rw [hml]; rfl) (lenOf pd_22 rfl) (W := 0) (Nat.le_of_eq rfl) (by decide) (by decide) (by decide) (by decide) (hb hby d39_78) rfl rfl ?_
    intro TMd7 LMd7 vMd7 XMd7 hQMd7
    obtain ⟨rfl, rfl, eMd7⟩ := hQMd7
    show own_Ends pP eE bB sS _ _ TMd7 (mkF mI 81 #[.val (.ref t), .val (.int p), .val (.long v), .second, .val (.int (Int32.ofNat (A.length + SBG.GetCharsL.sgnL v + (SBG.digitsL (own_magJ v) - 18)))), .val (.long v), .second] [(.int (Int32.ofNat (A.length + SBG.GetCharsL.sgnL v + (SBG.digitsL (own_magJ v) - 17))))])
    refine own_go (T' := TMd7) (g' := (mkF mI 83 #[.val (.ref t), .val (.int p), .val (.long v), .second, .val (.int (Int32.ofNat (A.length + SBG.GetCharsL.sgnL v + (SBG.digitsL (own_magJ v) - 17)))), .val (.long v), .second] [])) (fun t_ kt_ => XS.istore XMd7.here hx rfl (hb hby d39_81) rfl (l' := #[.val (.ref t), .val (.int p), .val (.long v), .second, .val (.int (Int32.ofNat (A.length + SBG.GetCharsL.sgnL v + (SBG.digitsL (own_magJ v) - 17)))), .val (.long v), .second]) rfl kt_) ?_
    refine own_go (T' := TMd7) (g' := (mkF mI 84 #[.val (.ref t), .val (.int p), .val (.long v), .second, .val (.int (Int32.ofNat (A.length + SBG.GetCharsL.sgnL v + (SBG.digitsL (own_magJ v) - 17)))), .val (.long v), .second] [(.ref t)])) (fun t_ kt_ => XS.aloadN XMd7.here hx rfl (hb hby d39_83) rfl rfl kt_) ?_
    refine own_go (T' := TMd7) (g' := (mkF mI 86 #[.val (.ref t), .val (.int p), .val (.long v), .second, .val (.int (Int32.ofNat (A.length + SBG.GetCharsL.sgnL v + (SBG.digitsL (own_magJ v) - 17)))), .val (.long v), .second] [(.int (Int32.ofNat (A.length + SBG.GetCharsL.sgnL v + (SBG.digitsL (own_magJ v) - 17)))), (.ref t)])) (fun t_ kt_ => XS.iload XMd7.here hx rfl (hb hby d39_84) rfl kt_) ?_
    refine own_go (T' := TMd7) (g' := (mkF mI 88 #[.val (.ref t), .val (.int p), .val (.long v), .second, .val (.int (Int32.ofNat (A.length + SBG.GetCharsL.sgnL v + (SBG.digitsL (own_magJ v) - 17)))), .val (.long v), .second] [(.long v), (.int (Int32.ofNat (A.length + SBG.GetCharsL.sgnL v + (SBG.digitsL (own_magJ v) - 17)))), (.ref t)])) (fun t_ kt_ => XS.lload XMd7.here hx rfl (hb hby d39_86) rfl kt_) ?_
    refine own_go (T' := TMd7) (g' := (mkF mI 91 #[.val (.ref t), .val (.int p), .val (.long v), .second, .val (.int (Int32.ofNat (A.length + SBG.GetCharsL.sgnL v + (SBG.digitsL (own_magJ v) - 17)))), .val (.long v), .second] [(.long (10000000000000000 : Int64)), (.long v), (.int (Int32.ofNat (A.length + SBG.GetCharsL.sgnL v + (SBG.digitsL (own_magJ v) - 17)))), (.ref t)])) (fun t_ kt_ => ldc2J XMd7 hx hown (mvT hZ (hw _ (List.mem_of_getElem? (i := 213) rfl))) rfl (hb hby d39_88) kt_) ?_
    have spMd8 := own_step (m := v) (d := (10000000000000000 : Int64)) (e := 16) hT hn hl (own_mN hc12_Md1) (by decide) (by decide)
    refine own_callS own_closed XMd7 hx hZ (y := (⟨"com/example/carter/carter/IncompleteEnqueueExceptionCountByFatePinLaw", "dig", "(Ljava/lang/String;IJJ)I"⟩ : MethodName)) hown (hw _ (List.mem_of_getElem? (i := 209) rfl)) (hw _ (List.mem_of_getElem? (i := 210) rfl)) (by decide) (rl_dig l Z a0 hw [] h0 n0 O cs Scs hcs fo hfo Sfo t td kt n TX S (Int32.ofNat (A.length + SBG.GetCharsL.sgnL v + (SBG.digitsL (own_magJ v) - 17))) (Int32.ofNat (A.length + SBG.GetCharsL.sgnL v + (SBG.digitsL (own_magJ v) - 16))) v (10000000000000000 : Int64) spMd8.1 (by decide) spMd8.2.1 spMd8.2.2.1 spMd8.2.2.2) (hw _ (List.mem_of_getElem? (i := 211) rfl)) (hw _ (List.mem_of_getElem? (i := 177) rfl)) eMd7 (pc := 91) (Ls := #[.val (.ref t), .val (.int p), .val (.long v), .second, .val (.int (Int32.ofNat (A.length + SBG.GetCharsL.sgnL v + (SBG.digitsL (own_magJ v) - 17)))), .val (.long v), .second]) (argsL := [(.ref t), (.int (Int32.ofNat (A.length + SBG.GetCharsL.sgnL v + (SBG.digitsL (own_magJ v) - 17)))), (.long v), (.long (10000000000000000 : Int64))]) (rest := []) (by rw [hml]; rfl) (lenOf pd_22 rfl) (W := 0) (Nat.le_of_eq rfl) (by decide) (by decide) (by decide) (by decide) (hb hby d39_91) rfl rfl ?_
    intro TMd9 LMd9 vMd9 XMd9 hQMd9
    obtain ⟨rfl, rfl, eMd9⟩ := hQMd9
    show own_Ends pP eE bB sS _ _ TMd9 (mkF mI 94 #[.val (.ref t), .val (.int p), .val (.long v), .second, .val (.int (Int32.ofNat (A.length + SBG.GetCharsL.sgnL v + (SBG.digitsL (own_magJ v) - 17)))), .val (.long v), .second] [(.int (Int32.ofNat (A.length + SBG.GetCharsL.sgnL v + (SBG.digitsL (own_magJ v) - 16))))])
    refine own_go (T' := TMd9) (g' := (mkF mI 96 #[.val (.ref t), .val (.int p), .val (.long v), .second, .val (.int (Int32.ofNat (A.length + SBG.GetCharsL.sgnL v + (SBG.digitsL (own_magJ v) - 16)))), .val (.long v), .second] [])) (fun t_ kt_ => XS.istore XMd9.here hx rfl (hb hby d39_94) rfl (l' := #[.val (.ref t), .val (.int p), .val (.long v), .second, .val (.int (Int32.ofNat (A.length + SBG.GetCharsL.sgnL v + (SBG.digitsL (own_magJ v) - 16)))), .val (.long v), .second]) rfl kt_) ?_
    refine own_go (T' := TMd9) (g' := (mkF mI 97 #[.val (.ref t), .val (.int p), .val (.long v), .second, .val (.int (Int32.ofNat (A.length + SBG.GetCharsL.sgnL v + (SBG.digitsL (own_magJ v) - 16)))), .val (.long v), .second] [(.ref t)])) (fun t_ kt_ => XS.aloadN XMd9.here hx rfl (hb hby d39_96) rfl rfl kt_) ?_
    refine own_go (T' := TMd9) (g' := (mkF mI 99 #[.val (.ref t), .val (.int p), .val (.long v), .second, .val (.int (Int32.ofNat (A.length + SBG.GetCharsL.sgnL v + (SBG.digitsL (own_magJ v) - 16)))), .val (.long v), .second] [(.int (Int32.ofNat (A.length + SBG.GetCharsL.sgnL v + (SBG.digitsL (own_magJ v) - 16)))), (.ref t)])) (fun t_ kt_ => XS.iload XMd9.here hx rfl (hb hby d39_97) rfl kt_) ?_
    refine own_go (T' := TMd9) (g' := (mkF mI 101 #[.val (.ref t), .val (.int p), .val (.long v), .second, .val (.int (Int32.ofNat (A.length + SBG.GetCharsL.sgnL v + (SBG.digitsL (own_magJ v) - 16)))), .val (.long v), .second] [(.long v), (.int (Int32.ofNat (A.length + SBG.GetCharsL.sgnL v + (SBG.digitsL (own_magJ v) - 16)))), (.ref t)])) (fun t_ kt_ => XS.lload XMd9.here hx rfl (hb hby d39_99) rfl kt_) ?_
    refine own_go (T' := TMd9) (g' := (mkF mI 104 #[.val (.ref t), .val (.int p), .val (.long v), .second, .val (.int (Int32.ofNat (A.length + SBG.GetCharsL.sgnL v + (SBG.digitsL (own_magJ v) - 16)))), .val (.long v), .second] [(.long (1000000000000000 : Int64)), (.long v), (.int (Int32.ofNat (A.length + SBG.GetCharsL.sgnL v + (SBG.digitsL (own_magJ v) - 16)))), (.ref t)])) (fun t_ kt_ => ldc2J XMd9 hx hown (mvT hZ (hw _ (List.mem_of_getElem? (i := 214) rfl))) rfl (hb hby d39_101) kt_) ?_
    have spMd10 := own_step (m := v) (d := (1000000000000000 : Int64)) (e := 15) hT hn hl (own_mN hc12_Md1) (by decide) (by decide)
    refine own_callS own_closed XMd9 hx hZ (y := (⟨"com/example/carter/carter/IncompleteEnqueueExceptionCountByFatePinLaw", "dig", "(Ljava/lang/String;IJJ)I"⟩ : MethodName)) hown (hw _ (List.mem_of_getElem? (i := 209) rfl)) (hw _ (List.mem_of_getElem? (i := 210) rfl)) (by decide) (rl_dig l Z a0 hw [] h0 n0 O cs Scs hcs fo hfo Sfo t td kt n TX S (Int32.ofNat (A.length + SBG.GetCharsL.sgnL v + (SBG.digitsL (own_magJ v) - 16))) (Int32.ofNat (A.length + SBG.GetCharsL.sgnL v + (SBG.digitsL (own_magJ v) - 15))) v (1000000000000000 : Int64) spMd10.1 (by decide) spMd10.2.1 spMd10.2.2.1 spMd10.2.2.2) (hw _ (List.mem_of_getElem? (i := 211) rfl)) (hw _ (List.mem_of_getElem? (i := 177) rfl)) eMd9 (pc := 104) (Ls := #[.val (.ref t), .val (.int p), .val (.long v), .second, .val (.int (Int32.ofNat (A.length + SBG.GetCharsL.sgnL v + (SBG.digitsL (own_magJ v) - 16)))), .val (.long v), .second]) (argsL := [(.ref t), (.int (Int32.ofNat (A.length + SBG.GetCharsL.sgnL v + (SBG.digitsL (own_magJ v) - 16)))), (.long v), (.long (1000000000000000 : Int64))]) (rest := []) (by rw [hml]; rfl) (lenOf pd_22 rfl) (W := 0) (Nat.le_of_eq rfl) (by decide) (by decide) (by decide) (by decide) (hb hby d39_104) rfl rfl ?_
    intro TMd11 LMd11 vMd11 XMd11 hQMd11
    obtain ⟨rfl, rfl, eMd11⟩ := hQMd11
    show own_Ends pP eE bB sS _ _ TMd11 (mkF mI 107 #[.val (.ref t), .val (.int p), .val (.long v), .second, .val (.int (Int32.ofNat (A.length + SBG.GetCharsL.sgnL v + (SBG.digitsL (own_magJ v) - 16)))), .val (.long v), .second] [(.int (Int32.ofNat (A.length + SBG.GetCharsL.sgnL v + (SBG.digitsL (own_magJ v) - 15))))])
    refine own_go (T' := TMd11) (g' := (mkF mI 109 #[.val (.ref t), .val (.int p), .val (.long v), .second, .val (.int (Int32.ofNat (A.length + SBG.GetCharsL.sgnL v + (SBG.digitsL (own_magJ v) - 15)))), .val (.long v), .second] [])) (fun t_ kt_ => XS.istore XMd11.here hx rfl (hb hby d39_107) rfl (l' := #[.val (.ref t), .val (.int p), .val (.long v), .second, .val (.int (Int32.ofNat (A.length + SBG.GetCharsL.sgnL v + (SBG.digitsL (own_magJ v) - 15)))), .val (.long v), .second]) rfl kt_) ?_
    refine own_go (T' := TMd11) (g' := (mkF mI 110 #[.val (.ref t), .val (.int p), .val (.long v), .second, .val (.int (Int32.ofNat (A.length + SBG.GetCharsL.sgnL v + (SBG.digitsL (own_magJ v) - 15)))), .val (.long v), .second] [(.ref t)])) (fun t_ kt_ => XS.aloadN XMd11.here hx rfl (hb hby d39_109) rfl rfl kt_) ?_
    refine own_go (T' := TMd11) (g' := (mkF mI 112 #[.val (.ref t), .val (.int p), .val (.long v), .second, .val (.int (Int32.ofNat (A.length + SBG.GetCharsL.sgnL v + (SBG.digitsL (own_magJ v) - 15)))), .val (.long v), .second] [(.int (Int32.ofNat (A.length + SBG.GetCharsL.sgnL v + (SBG.digitsL (own_magJ v) - 15)))), (.ref t)])) (fun t_ kt_ => XS.iload XMd11.here hx rfl (hb hby d39_110) rfl kt_) ?_
    refine own_go (T' := TMd11) (g' := (mkF mI 114 #[.val (.ref t), .val (.int p), .val (.long v), .second, .val (.int (Int32.ofNat (A.length + SBG.GetCharsL.sgnL v + (SBG.digitsL (own_magJ v) - 15)))), .val (.long v), .second] [(.long v), (.int (Int32.ofNat (A.length + SBG.GetCharsL.sgnL v + (SBG.digitsL (own_magJ v) - 15)))), (.ref t)])) (fun t_ kt_ => XS.lload XMd11.here hx rfl (hb hby d39_112) rfl kt_) ?_
    refine own_go (T' := TMd11) (g' := (mkF mI 117 #[.val (.ref t), .val (.int p), .val (.long v), .second, .val (.int (Int32.ofNat (A.length + SBG.GetCharsL.sgnL v + (SBG.digitsL (own_magJ v) - 15)))), .val (.long v), .second] [(.long (100000000000000 : Int64)), (.long v), (.int (Int32.ofNat (A.length + SBG.GetCharsL.sgnL v + (SBG.digitsL (own_magJ v) - 15)))), (.ref t)])) (fun t_ kt_ => ldc2J XMd11 hx hown (mvT hZ (hw _ (List.mem_of_getElem? (i := 215) rfl))) rfl (hb hby d39_114) kt_) ?_
    have spMd12 := own_step (m := v) (d := (100000000000000 : Int64)) (e := 14) hT hn hl (own_mN hc12_Md1) (by decide) (by decide)
    refine own_callS own_closed XMd11 hx hZ (y := (⟨"com/example/carter/carter/IncompleteEnqueueExceptionCountByFatePinLaw", "dig", "(Ljava/lang/String;IJJ)I"⟩ : MethodName)) hown (hw _ (List.mem_of_getElem? (i := 209) rfl)) (hw _ (List.mem_of_getElem? (i := 210) rfl)) (by decide) (rl_dig l Z a0 hw [] h0 n0 O cs Scs hcs fo hfo Sfo t td kt n TX S (Int32.ofNat (A.length + SBG.GetCharsL.sgnL v + (SBG.digitsL (own_magJ v) - 15))) (Int32.ofNat (A.length + SBG.GetCharsL.sgnL v + (SBG.digitsL (own_magJ v) - 14))) v (100000000000000 : Int64) spMd12.1 (by decide) spMd12.2.1 spMd12.2.2.1 spMd12.2.2.2) (hw _ (List.mem_of_getElem? (i := 211) rfl)) (hw _ (List.mem_of_getElem? (i := 177) rfl)) eMd11 (pc := 117) (Ls := #[.val (.ref t), .val (.int p), .val (.long v), .second, .val (.int (Int32.ofNat (A.length + SBG.GetCharsL.sgnL v + (SBG.digitsL (own_magJ v) - 15)))), .val (.long v), .second]) (argsL := [(.ref t), (.int (Int32.ofNat (A.length + SBG.GetCharsL.sgnL v + (SBG.digitsL (own_magJ v) - 15)))), (.long v), (.long (100000000000000 : Int64))]) (rest := []) (by rw [hml]; rfl) (lenOf pd_22 rfl) (W := 0) (Nat.le_of_eq rfl) (by decide) (by decide) (by decide) (by decide) (hb hby d39_117) rfl rfl ?_
    intro TMd13 LMd13 vMd13 XMd13 hQMd13
    obtain ⟨rfl, rfl, eMd13⟩ := hQMd13
    show own_Ends pP eE bB sS _ _ TMd13 (mkF mI 120 #[.val (.ref t), .val (.int p), .val (.long v), .second, .val (.int (Int32.ofNat (A.length + SBG.GetCharsL.sgnL v + (SBG.digitsL (own_magJ v) - 15)))), .val (.long v), .second] [(.int (Int32.ofNat (A.length + SBG.GetCharsL.sgnL v + (SBG.digitsL (own_magJ v) - 14))))])
    refine own_go (T' := TMd13) (g' := (mkF mI 122 #[.val (.ref t), .val (.int p), .val (.long v), .second, .val (.int (Int32.ofNat (A.length + SBG.GetCharsL.sgnL v + (SBG.digitsL (own_magJ v) - 14)))), .val (.long v), .second] [])) (fun t_ kt_ => XS.istore XMd13.here hx rfl (hb hby d39_120) rfl (l' := #[.val (.ref t), .val (.int p), .val (.long v), .second, .val (.int (Int32.ofNat (A.length + SBG.GetCharsL.sgnL v + (SBG.digitsL (own_magJ v) - 14)))), .val (.long v), .second]) rfl kt_) ?_
    refine own_go (T' := TMd13) (g' := (mkF mI 123 #[.val (.ref t), .val (.int p), .val (.long v), .second, .val (.int (Int32.ofNat (A.length + SBG.GetCharsL.sgnL v + (SBG.digitsL (own_magJ v) - 14)))), .val (.long v), .second] [(.ref t)])) (fun t_ kt_ => XS.aloadN XMd13.here hx rfl (hb hby d39_122) rfl rfl kt_) ?_
    refine own_go (T' := TMd13) (g' := (mkF mI 125 #[.val (.ref t), .val (.int p), .val (.long v), .second, .val (.int (Int32.ofNat (A.length + SBG.GetCharsL.sgnL v + (SBG.digitsL (own_magJ v) - 14)))), .val (.long v), .second] [(.int (Int32.ofNat (A.length + SBG.GetCharsL.sgnL v + (SBG.digitsL (own_magJ v) - 14)))), (.ref t)])) (fun t_ kt_ => XS.iload XMd13.here hx rfl (hb hby d39_123) rfl kt_) ?_
    refine own_go (T' := TMd13) (g' := (mkF mI 127 #[.val (.ref t), .val (.int p), .val (.long v), .second, .val (.int (Int32.ofNat (A.length + SBG.GetCharsL.sgnL v + (SBG.digitsL (own_magJ v) - 14)))), .val (.long v), .second] [(.long v), (.int (Int32.ofNat (A.length + SBG.GetCharsL.sgnL v + (SBG.digitsL (own_magJ v) - 14)))), (.ref t)])) (fun t_ kt_ => XS.lload XMd13.here hx rfl (hb hby d39_125) rfl kt_) ?_
    refine own_go (T' := TMd13) (g' := (mkF mI 130 #[.val (.ref t), .val (.int p), .val (.long v), .second, .val (.int (Int32.ofNat (A.length + SBG.GetCharsL.sgnL v + (SBG.digitsL (own_magJ v) - 14)))), .val (.long v), .second] [(.long (10000000000000 : Int64)), (.long v), (.int (Int32.ofNat (A.length + SBG.GetCharsL.sgnL v + (SBG.digitsL (own_magJ v) - 14)))), (.ref t)])) (fun t_ kt_ => ldc2J XMd13 hx hown (mvT hZ (hw _ (List.mem_of_getElem? (i := 216) rfl))) rfl (hb hby d39_127) kt_) ?_
    have spMd14 := own_step (m := v) (d := (10000000000000 : Int64)) (e := 13) hT hn hl (own_mN hc12_Md1) (by decide) (by decide)
    refine own_callS own_closed XMd13 hx hZ (y := (⟨"com/example/carter/carter/IncompleteEnqueueExceptionCountByFatePinLaw", "dig", "(Ljava/lang/String;IJJ)I"⟩ : MethodName)) hown (hw _ (List.mem_of_getElem? (i := 209) rfl)) (hw _ (List.mem_of_getElem? (i := 210) rfl)) (by decide) (rl_dig l Z a0 hw [] h0 n0 O cs Scs hcs fo hfo Sfo t td kt n TX S (Int32.ofNat (A.length + SBG.GetCharsL.sgnL v + (SBG.digitsL (own_magJ v) - 14))) (Int32.ofNat (A.length + SBG.GetCharsL.sgnL v + (SBG.digitsL (own_magJ v) - 13))) v (10000000000000 : Int64) spMd14.1 (by decide) spMd14.2.1 spMd14.2.2.1 spMd14.2.2.2) (hw _ (List.mem_of_getElem? (i := 211) rfl)) (hw _ (List.mem_of_getElem? (i := 177) rfl)) eMd13 (pc := 130) (Ls := #[.val (.ref t), .val (.int p), .val (.long v), .second, .val (.int (Int32.ofNat (A.length + SBG.GetCharsL.sgnL v + (SBG.digitsL (own_magJ v) - 14)))), .val (.long v), .second]) (argsL := [(.ref t), (.int (Int32.ofNat (A.length + SBG.GetCharsL.sgnL v + (SBG.digitsL (own_magJ v) - 14)))), (.long v), (.long (10000000000000 : Int64))]) (rest := []) (by rw [hml]; rfl) (lenOf pd_22 rfl) (W := 0) (Nat.le_of_eq rfl) (by decide) (by decide) (by decide) (by decide) (hb hby d39_130) rfl rfl ?_
    intro TMd15 LMd15 vMd15 XMd15 hQMd15
    obtain ⟨rfl, rfl, eMd15⟩ := hQMd15
    show own_Ends pP eE bB sS _ _ TMd15 (mkF mI 133 #[.val (.ref t), .val (.int p), .val (.long v), .second, .val (.int (Int32.ofNat (A.length + SBG.GetCharsL.sgnL v + (SBG.digitsL (own_magJ v) - 14)))), .val (.long v), .second] [(.int (Int32.ofNat (A.length + SBG.GetCharsL.sgnL v + (SBG.digitsL (own_magJ v) - 13))))])
    refine own_go (T' := TMd15) (g' := (mkF mI 135 #[.val (.ref t), .val (.int p), .val (.long v), .second, .val (.int (Int32.ofNat (A.length + SBG.GetCharsL.sgnL v + (SBG.digitsL (own_magJ v) - 13)))), .val (.long v), .second] [])) (fun t_ kt_ => XS.istore XMd15.here hx rfl (hb hby d39_133) rfl (l' := #[.val (.ref t), .val (.int p), .val (.long v), .second, .val (.int (Int32.ofNat (A.length + SBG.GetCharsL.sgnL v + (SBG.digitsL (own_magJ v) - 13)))), .val (.long v), .second]) rfl kt_) ?_
    refine own_go (T' := TMd15) (g' := (mkF mI 136 #[.val (.ref t), .val (.int p), .val (.long v), .second, .val (.int (Int32.ofNat (A.length + SBG.GetCharsL.sgnL v + (SBG.digitsL (own_magJ v) - 13)))), .val (.long v), .second] [(.ref t)])) (fun t_ kt_ => XS.aloadN XMd15.here hx rfl (hb hby d39_135) rfl rfl kt_) ?_
    refine own_go (T' := TMd15) (g' := (mkF mI 138 #[.val (.ref t), .val (.int p), .val (.long v), .second, .val (.int (Int32.ofNat (A.length + SBG.GetCharsL.sgnL v + (SBG.digitsL (own_magJ v) - 13)))), .val (.long v), .second] [(.int (Int32.ofNat (A.length + SBG.GetCharsL.sgnL v + (SBG.digitsL (own_magJ v) - 13)))), (.ref t)])) (fun t_ kt_ => XS.iload XMd15.here hx rfl (hb hby d39_136) rfl kt_) ?_
    refine own_go (T' := TMd15) (g' := (mkF mI 140 #[.val (.ref t), .val (.int p), .val (.long v), .second, .val (.int (Int32.ofNat (A.length + SBG.GetCharsL.sgnL v + (SBG.digitsL (own_magJ v) - 13)))), .val (.long v), .second] [(.long v), (.int (Int32.ofNat (A.length + SBG.GetCharsL.sgnL v + (SBG.digitsL (own_magJ v) - 13)))), (.ref t)])) (fun t_ kt_ => XS.lload XMd15.here hx rfl (hb hby d39_138) rfl kt_) ?_
    refine own_go (T' := TMd15) (g' := (mkF mI 143 #[.val (.ref t), .val (.int p), .val (.long v), .second, .val (.int (Int32.ofNat (A.length + SBG.GetCharsL.sgnL v + (SBG.digitsL (own_magJ v) - 13)))), .val (.long v), .second] [(.long (1000000000000 : Int64)), (.long v), (.int (Int32.ofNat (A.length + SBG.GetCharsL.sgnL v + (SBG.digitsL (own_magJ v) - 13)))), (.ref t)])) (fun t_ kt_ => ldc2J XMd15 hx hown (mvT hZ (hw _ (List.mem_of_getElem? (i := 217) rfl))) rfl (hb hby d39_140) kt_) ?_
    have spMd16 := own_step (m := v) (d := (1000000000000 : Int64)) (e := 12) hT hn hl (own_mN hc12_Md1) (by decide) (by decide)
    refine own_callS own_closed XMd15 hx hZ (y := (⟨"com/example/carter/carter/IncompleteEnqueueExceptionCountByFatePinLaw", "dig", "(Ljava/lang/String;IJJ)I"⟩ : MethodName)) hown (hw _ (List.mem_of_getElem? (i := 209) rfl)) (hw _ (List.mem_of_getElem? (i := 210) rfl)) (by decide) (rl_dig l Z a0 hw [] h0 n0 O cs Scs hcs fo hfo Sfo t td kt n TX S (Int32.ofNat (A.length + SBG.GetCharsL.sgnL v + (SBG.digitsL (own_magJ v) - 13))) (Int32.ofNat (A.length + SBG.GetCharsL.sgnL v + (SBG.digitsL (own_magJ v) - 12))) v (1000000000000 : Int64) spMd16.1 (by decide) spMd16.2.1 spMd16.2.2.1 spMd16.2.2.2) (hw _ (List.mem_of_getElem? (i := 211) rfl)) (hw _ (List.mem_of_getElem? (i := 177) rfl)) eMd15 (pc := 143) (Ls := #[.val (.ref t), .val (.int p), .val (.long v), .second, .val (.int (Int32.ofNat (A.length + SBG.GetCharsL.sgnL v + (SBG.digitsL (own_magJ v) - 13)))), .val (.long v), .second]) (argsL := [(.ref t), (.int (Int32.ofNat (A.length + SBG.GetCharsL.sgnL v + (SBG.digitsL (own_magJ v) - 13)))), (.long v), (.long (1000000000000 : Int64))]) (rest := []) (by rw [hml]; rfl) (lenOf pd_22 rfl) (W := 0) (Nat.le_of_eq rfl) (by decide) (by decide) (by decide) (by decide) (hb hby d39_143) rfl rfl ?_
    intro TMd17 LMd17 vMd17 XMd17 hQMd17
    obtain ⟨rfl, rfl, eMd17⟩ := hQMd17
    show own_Ends pP eE bB sS _ _ TMd17 (mkF mI 146 #[.val (.ref t), .val (.int p), .val (.long v), .second, .val (.int (Int32.ofNat (A.length + SBG.GetCharsL.sgnL v + (SBG.digitsL (own_magJ v) - 13)))), .val (.long v), .second] [(.int (Int32.ofNat (A.length + SBG.GetCharsL.sgnL v + (SBG.digitsL (own_magJ v) - 12))))])
    refine own_go (T' := TMd17) (g' := (mkF mI 148 #[.val (.ref t), .val (.int p), .val (.long v), .second, .val (.int (Int32.ofNat (A.length + SBG.GetCharsL.sgnL v + (SBG.digitsL (own_magJ v) - 12)))), .val (.long v), .second] [])) (fun t_ kt_ => XS.istore XMd17.here hx rfl (hb hby d39_146) rfl (l' := #[.val (.ref t), .val (.int p), .val (.long v), .second, .val (.int (Int32.ofNat (A.length + SBG.GetCharsL.sgnL v + (SBG.digitsL (own_magJ v) - 12)))), .val (.long v), .second]) rfl kt_) ?_
    refine own_go (T' := TMd17) (g' := (mkF mI 149 #[.val (.ref t), .val (.int p), .val (.long v), .second, .val (.int (Int32.ofNat (A.length + SBG.GetCharsL.sgnL v + (SBG.digitsL (own_magJ v) - 12)))), .val (.long v), .second] [(.ref t)])) (fun t_ kt_ => XS.aloadN XMd17.here hx rfl (hb hby d39_148) rfl rfl kt_) ?_
    refine own_go (T' := TMd17) (g' := (mkF mI 151 #[.val (.ref t), .val (.int p), .val (.long v), .second, .val (.int (Int32.ofNat (A.length + SBG.GetCharsL.sgnL v + (SBG.digitsL (own_magJ v) - 12)))), .val (.long v), .second] [(.int (Int32.ofNat (A.length + SBG.GetCharsL.sgnL v + (SBG.digitsL (own_magJ v) - 12)))), (.ref t)])) (fun t_ kt_ => XS.iload XMd17.here hx rfl (hb hby d39_149) rfl kt_) ?_
    refine own_go (T' := TMd17) (g' := (mkF mI 153 #[.val (.ref t), .val (.int p), .val (.long v), .second, .val (.int (Int32.ofNat (A.length + SBG.GetCharsL.sgnL v + (SBG.digitsL (own_magJ v) - 12)))), .val (.long v), .second] [(.long v), (.int (Int32.ofNat (A.length + SBG.GetCharsL.sgnL v + (SBG.digitsL (own_magJ v) - 12)))), (.ref t)])) (fun t_ kt_ => XS.lload XMd17.here hx rfl (hb hby d39_151) rfl kt_) ?_
    refine own_go (T' := TMd17) (g' := (mkF mI 156 #[.val (.ref t), .val (.int p), .val (.long v), .second, .val (.int (Int32.ofNat (A.length + SBG.GetCharsL.sgnL v + (SBG.digitsL (own_magJ v) - 12)))), .val (.long v), .second] [(.long (100000000000 : Int64)), (.long v), (.int (Int32.ofNat (A.length + SBG.GetCharsL.sgnL v + (SBG.digitsL (own_magJ v) - 12)))), (.ref t)])) (fun t_ kt_ => ldc2J XMd17 hx hown (mvT hZ (hw _ (List.mem_of_getElem? (i := 218) rfl))) rfl (hb hby d39_153) kt_) ?_
    have spMd18 := own_step (m := v) (d := (100000000000 : Int64)) (e := 11) hT hn hl (own_mN hc12_Md1) (by decide) (by decide)
    refine own_callS own_closed XMd17 hx hZ (y := (⟨"com/example/carter/carter/IncompleteEnqueueExceptionCountByFatePinLaw", "dig", "(Ljava/lang/String;IJJ)I"⟩ : MethodName)) hown (hw _ (List.mem_of_getElem? (i := 209) rfl)) (hw _ (List.mem_of_getElem? (i := 210) rfl)) (by decide) (rl_dig l Z a0 hw [] h0 n0 O cs Scs hcs fo hfo Sfo t td kt n TX S (Int32.ofNat (A.length + SBG.GetCharsL.sgnL v + (SBG.digitsL (own_magJ v) - 12))) (Int32.ofNat (A.length + SBG.GetCharsL.sgnL v + (SBG.digitsL (own_magJ v) - 11))) v (100000000000 : Int64) spMd18.1 (by decide) spMd18.2.1 spMd18.2.2.1 spMd18.2.2.2) (hw _ (List.mem_of_getElem? (i := 211) rfl)) (hw _ (List.mem_of_getElem? (i := 177) rfl)) eMd17 (pc := 156) (Ls := #[.val (.ref t), .val (.int p), .val (.long v), .second, .val (.int (Int32.ofNat (A.length + SBG.GetCharsL.sgnL v + (SBG.digitsL (own_magJ v) - 12)))), .val (.long v), .second]) (argsL := [(.ref t), (.int (Int32.ofNat (A.length + SBG.GetCharsL.sgnL v + (SBG.digitsL (own_magJ v) - 12)))), (.long v), (.long (100000000000 : Int64))]) (rest := []) (by rw [hml]; rfl) (lenOf pd_22 rfl) (W := 0) (Nat.le_of_eq rfl) (by decide) (by decide) (by decide) (by decide) (hb hby d39_156) rfl rfl ?_
    intro TMd19 LMd19 vMd19 XMd19 hQMd19
    obtain ⟨rfl, rfl, eMd19⟩ := hQMd19
    show own_Ends pP eE bB sS _ _ TMd19 (mkF mI 159 #[.val (.ref t), .val (.int p), .val (.long v), .second, .val (.int (Int32.ofNat (A.length + SBG.GetCharsL.sgnL v + (SBG.digitsL (own_magJ v) - 12)))), .val (.long v), .second] [(.int (Int32.ofNat (A.length + SBG.GetCharsL.sgnL v + (SBG.digitsL (own_magJ v) - 11))))])
    refine own_go (T' := TMd19) (g' := (mkF mI 161 #[.val (.ref t), .val (.int p), .val (.long v), .second, .val (.int (Int32.ofNat (A.length + SBG.GetCharsL.sgnL v + (SBG.digitsL (own_magJ v) - 11)))), .val (.long v), .second] [])) (fun t_ kt_ => XS.istore XMd19.here hx rfl (hb hby d39_159) rfl (l' := #[.val (.ref t), .val (.int p), .val (.long v), .second, .val (.int (Int32.ofNat (A.length + SBG.GetCharsL.sgnL v + (SBG.digitsL (own_magJ v) - 11)))), .val (.long v), .second]) rfl kt_) ?_
    refine own_go (T' := TMd19) (g' := (mkF mI 162 #[.val (.ref t), .val (.int p), .val (.long v), .second, .val (.int (Int32.ofNat (A.length + SBG.GetCharsL.sgnL v + (SBG.digitsL (own_magJ v) - 11)))), .val (.long v), .second] [(.ref t)])) (fun t_ kt_ => XS.aloadN XMd19.here hx rfl (hb hby d39_161) rfl rfl kt_) ?_
    refine own_go (T' := TMd19) (g' := (mkF mI 164 #[.val (.ref t), .val (.int p), .val (.long v), .second, .val (.int (Int32.ofNat (A.length + SBG.GetCharsL.sgnL v + (SBG.digitsL (own_magJ v) - 11)))), .val (.long v), .second] [(.int (Int32.ofNat (A.length + SBG.GetCharsL.sgnL v + (SBG.digitsL (own_magJ v) - 11)))), (.ref t)])) (fun t_ kt_ => XS.iload XMd19.here hx rfl (hb hby d39_162) rfl kt_) ?_
    refine own_go (T' := TMd19) (g' := (mkF mI 166 #[.val (.ref t), .val (.int p), .val (.long v), .second, .val (.int (Int32.ofNat (A.length + SBG.GetCharsL.sgnL v + (SBG.digitsL (own_magJ v) - 11)))), .val (.long v), .second] [(.long v), (.int (Int32.ofNat (A.length + SBG.GetCharsL.sgnL v + (SBG.digitsL (own_magJ v) - 11)))), (.ref t)])) (fun t_ kt_ => XS.lload XMd19.here hx rfl (hb hby d39_164) rfl kt_) ?_
    refine own_go (T' := TMd19) (g' := (mkF mI 169 #[.val (.ref t), .val (.int p), .val (.long v), .second, .val (.int (Int32.ofNat (A.length + SBG.GetCharsL.sgnL v + (SBG.digitsL (own_magJ v) - 11)))), .val (.long v), .second] [(.long (10000000000 : Int64)), (.long v), (.int (Int32.ofNat (A.length + SBG.GetCharsL.sgnL v + (SBG.digitsL (own_magJ v) - 11)))), (.ref t)])) (fun t_ kt_ => ldc2J XMd19 hx hown (mvT hZ (hw _ (List.mem_of_getElem? (i := 219) rfl))) rfl (hb hby d39_166) kt_) ?_
    have spMd20 := own_step (m := v) (d := (10000000000 : Int64)) (e := 10) hT hn hl (own_mN hc12_Md1) (by decide) (by decide)
    refine own_callS own_closed XMd19 hx hZ (y := (⟨"com/example/carter/carter/IncompleteEnqueueExceptionCountByFatePinLaw", "dig", "(Ljava/lang/String;IJJ)I"⟩ : MethodName)) hown (hw _ (List.mem_of_getElem? (i := 209) rfl)) (hw _ (List.mem_of_getElem? (i := 210) rfl)) (by decide) (rl_dig l Z a0 hw [] h0 n0 O cs Scs hcs fo hfo Sfo t td kt n TX S (Int32.ofNat (A.length + SBG.GetCharsL.sgnL v + (SBG.digitsL (own_magJ v) - 11))) (Int32.ofNat (A.length + SBG.GetCharsL.sgnL v + (SBG.digitsL (own_magJ v) - 10))) v (10000000000 : Int64) spMd20.1 (by decide) spMd20.2.1 spMd20.2.2.1 spMd20.2.2.2) (hw _ (List.mem_of_getElem? (i := 211) rfl)) (hw _ (List.mem_of_getElem? (i := 177) rfl)) eMd19 (pc := 169) (Ls := #[.val (.ref t), .val (.int p), .val (.long v), .second, .val (.int (Int32.ofNat (A.length + SBG.GetCharsL.sgnL v + (SBG.digitsL (own_magJ v) - 11)))), .val (.long v), .second]) (argsL := [(.ref t), (.int (Int32.ofNat (A.length + SBG.GetCharsL.sgnL v + (SBG.digitsL (own_magJ v) - 11)))), (.long v), (.long (10000000000 : Int64))]) (rest := []) (by rw [hml]; rfl) (lenOf pd_22 rfl) (W := 0) (Nat.le_of_eq rfl) (by decide) (by decide) (by decide) (by decide) (hb hby d39_169) rfl rfl ?_
    intro TMd21 LMd21 vMd21 XMd21 hQMd21
    obtain ⟨rfl, rfl, eMd21⟩ := hQMd21
    show own_Ends pP eE bB sS _ _ TMd21 (mkF mI 172 #[.val (.ref t), .val (.int p), .val (.long v), .second, .val (.int (Int32.ofNat (A.length + SBG.GetCharsL.sgnL v + (SBG.digitsL (own_magJ v) - 11)))), .val (.long v), .second] [(.int (Int32.ofNat (A.length + SBG.GetCharsL.sgnL v + (SBG.digitsL (own_magJ v) - 10))))])
    refine own_go (T' := TMd21) (g' := (mkF mI 174 #[.val (.ref t), .val (.int p), .val (.long v), .second, .val (.int (Int32.ofNat (A.length + SBG.GetCharsL.sgnL v + (SBG.digitsL (own_magJ v) - 10)))), .val (.long v), .second] [])) (fun t_ kt_ => XS.istore XMd21.here hx rfl (hb hby d39_172) rfl (l' := #[.val (.ref t), .val (.int p), .val (.long v), .second, .val (.int (Int32.ofNat (A.length + SBG.GetCharsL.sgnL v + (SBG.digitsL (own_magJ v) - 10)))), .val (.long v), .second]) rfl kt_) ?_
    refine own_go (T' := TMd21) (g' := (mkF mI 175 #[.val (.ref t), .val (.int p), .val (.long v), .second, .val (.int (Int32.ofNat (A.length + SBG.GetCharsL.sgnL v + (SBG.digitsL (own_magJ v) - 10)))), .val (.long v), .second] [(.ref t)])) (fun t_ kt_ => XS.aloadN XMd21.here hx rfl (hb hby d39_174) rfl rfl kt_) ?_
    refine own_go (T' := TMd21) (g' := (mkF mI 177 #[.val (.ref t), .val (.int p), .val (.long v), .second, .val (.int (Int32.ofNat (A.length + SBG.GetCharsL.sgnL v + (SBG.digitsL (own_magJ v) - 10)))), .val (.long v), .second] [(.int (Int32.ofNat (A.length + SBG.GetCharsL.sgnL v + (SBG.digitsL (own_magJ v) - 10)))), (.ref t)])) (fun t_ kt_ => XS.iload XMd21.here hx rfl (hb hby d39_175) rfl kt_) ?_
    refine own_go (T' := TMd21) (g' := (mkF mI 179 #[.val (.ref t), .val (.int p), .val (.long v), .second, .val (.int (Int32.ofNat (A.length + SBG.GetCharsL.sgnL v + (SBG.digitsL (own_magJ v) - 10)))), .val (.long v), .second] [(.long v), (.int (Int32.ofNat (A.length + SBG.GetCharsL.sgnL v + (SBG.digitsL (own_magJ v) - 10)))), (.ref t)])) (fun t_ kt_ => XS.lload XMd21.here hx rfl (hb hby d39_177) rfl kt_) ?_
    refine own_go (T' := TMd21) (g' := (mkF mI 182 #[.val (.ref t), .val (.int p), .val (.long v), .second, .val (.int (Int32.ofNat (A.length + SBG.GetCharsL.sgnL v + (SBG.digitsL (own_magJ v) - 10)))), .val (.long v), .second] [(.long (1000000000 : Int64)), (.long v), (.int (Int32.ofNat (A.length + SBG.GetCharsL.sgnL v + (SBG.digitsL (own_magJ v) - 10)))), (.ref t)])) (fun t_ kt_ => ldc2J XMd21 hx hown (mvT hZ (hw _ (List.mem_of_getElem? (i := 220) rfl))) rfl (hb hby d39_179) kt_) ?_
    have spMd22 := own_step (m := v) (d := (1000000000 : Int64)) (e := 9) hT hn hl (own_mN hc12_Md1) (by decide) (by decide)
    refine own_callS own_closed XMd21 hx hZ (y := (⟨"com/example/carter/carter/IncompleteEnqueueExceptionCountByFatePinLaw", "dig", "(Ljava/lang/String;IJJ)I"⟩ : MethodName)) hown (hw _ (List.mem_of_getElem? (i := 209) rfl)) (hw _ (List.mem_of_getElem? (i := 210) rfl)) (by decide) (rl_dig l Z a0 hw [] h0 n0 O cs Scs hcs fo hfo Sfo t td kt n TX S (Int32.ofNat (A.length + SBG.GetCharsL.sgnL v + (SBG.digitsL (own_magJ v) - 10))) (Int32.ofNat (A.length + SBG.GetCharsL.sgnL v + (SBG.digitsL (own_magJ v) - 9))) v (1000000000 : Int64) spMd22.1 (by decide) spMd22.2.1 spMd22.2.2.1 spMd22.2.2.2) (hw _ (List.mem_of_getElem? (i := 211) rfl)) (hw _ (List.mem_of_getElem? (i := 177) rfl)) eMd21 (pc := 182) (Ls := #[.val (.ref t), .val (.int p), .val (.long v), .second, .val (.int (Int32.ofNat (A.length + SBG.GetCharsL.sgnL v + (SBG.digitsL (own_magJ v) - 10)))), .val (.long v), .second]) (argsL := [(.ref t), (.int (Int32.ofNat (A.length + SBG.GetCharsL.sgnL v + (SBG.digitsL (own_magJ v) - 10)))), (.long v), (.long (1000000000 : Int64))]) (rest := []) (by rw [hml]; rfl) (lenOf pd_22 rfl) (W := 0) (Nat.le_of_eq rfl) (by decide) (by decide) (by decide) (by decide) (hb hby d39_182) rfl rfl ?_
    intro TMd23 LMd23 vMd23 XMd23 hQMd23
    obtain ⟨rfl, rfl, eMd23⟩ := hQMd23
    show own_Ends pP eE bB sS _ _ TMd23 (mkF mI 185 #[.val (.ref t), .val (.int p), .val (.long v), .second, .val (.int (Int32.ofNat (A.length + SBG.GetCharsL.sgnL v + (SBG.digitsL (own_magJ v) - 10)))), .val (.long v), .second] [(.int (Int32.ofNat (A.length + SBG.GetCharsL.sgnL v + (SBG.digitsL (own_magJ v) - 9))))])
    refine own_go (T' := TMd23) (g' := (mkF mI 187 #[.val (.ref t), .val (.int p), .val (.long v), .second, .val (.int (Int32.ofNat (A.length + SBG.GetCharsL.sgnL v + (SBG.digitsL (own_magJ v) - 9)))), .val (.long v), .second] [])) (fun t_ kt_ => XS.istore XMd23.here hx rfl (hb hby d39_185) rfl (l' := #[.val (.ref t), .val (.int p), .val (.long v), .second, .val (.int (Int32.ofNat (A.length + SBG.GetCharsL.sgnL v + (SBG.digitsL (own_magJ v) - 9)))), .val (.long v), .second]) rfl kt_) ?_
    refine own_go (T' := TMd23) (g' := (mkF mI 188 #[.val (.ref t), .val (.int p), .val (.long v), .second, .val (.int (Int32.ofNat (A.length + SBG.GetCharsL.sgnL v + (SBG.digitsL (own_magJ v) - 9)))), .val (.long v), .second] [(.ref t)])) (fun t_ kt_ => XS.aloadN XMd23.here hx rfl (hb hby d39_187) rfl rfl kt_) ?_
    refine own_go (T' := TMd23) (g' := (mkF mI 190 #[.val (.ref t), .val (.int p), .val (.long v), .second, .val (.int (Int32.ofNat (A.length + SBG.GetCharsL.sgnL v + (SBG.digitsL (own_magJ v) - 9)))), .val (.long v), .second] [(.int (Int32.ofNat (A.length + SBG.GetCharsL.sgnL v + (SBG.digitsL (own_magJ v) - 9)))), (.ref t)])) (fun t_ kt_ => XS.iload XMd23.here hx rfl (hb hby d39_188) rfl kt_) ?_
    refine own_go (T' := TMd23) (g' := (mkF mI 192 #[.val (.ref t), .val (.int p), .val (.long v), .second, .val (.int (Int32.ofNat (A.length + SBG.GetCharsL.sgnL v + (SBG.digitsL (own_magJ v) - 9)))), .val (.long v), .second] [(.long v), (.int (Int32.ofNat (A.length + SBG.GetCharsL.sgnL v + (SBG.digitsL (own_magJ v) - 9)))), (.ref t)])) (fun t_ kt_ => XS.lload XMd23.here hx rfl (hb hby d39_190) rfl kt_) ?_
    refine own_go (T' := TMd23) (g' := (mkF mI 195 #[.val (.ref t), .val (.int p), .val (.long v), .second, .val (.int (Int32.ofNat (A.length + SBG.GetCharsL.sgnL v + (SBG.digitsL (own_magJ v) - 9)))), .val (.long v), .second] [(.long (100000000 : Int64)), (.long v), (.int (Int32.ofNat (A.length + SBG.GetCharsL.sgnL v + (SBG.digitsL (own_magJ v) - 9)))), (.ref t)])) (fun t_ kt_ => ldc2J XMd23 hx hown (mvT hZ (hw _ (List.mem_of_getElem? (i := 221) rfl))) rfl (hb hby d39_192) kt_) ?_
    have spMd24 := own_step (m := v) (d := (100000000 : Int64)) (e := 8) hT hn hl (own_mN hc12_Md1) (by decide) (by decide)
    refine own_callS own_closed XMd23 hx hZ (y := (⟨"com/example/carter/carter/IncompleteEnqueueExceptionCountByFatePinLaw", "dig", "(Ljava/lang/String;IJJ)I"⟩ : MethodName)) hown (hw _ (List.mem_of_getElem? (i := 209) rfl)) (hw _ (List.mem_of_getElem? (i := 210) rfl)) (by decide) (rl_dig l Z a0 hw [] h0 n0 O cs Scs hcs fo hfo Sfo t td kt n TX S (Int32.ofNat (A.length + SBG.GetCharsL.sgnL v + (SBG.digitsL (own_magJ v) - 9))) (Int32.ofNat (A.length + SBG.GetCharsL.sgnL v + (SBG.digitsL (own_magJ v) - 8))) v (100000000 : Int64) spMd24.1 (by decide) spMd24.2.1 spMd24.2.2.1 spMd24.2.2.2) (hw _ (List.mem_of_getElem? (i := 211) rfl)) (hw _ (List.mem_of_getElem? (i := 177) rfl)) eMd23 (pc := 195) (Ls := #[.val (.ref t), .val (.int p), .val (.long v), .second, .val (.int (Int32.ofNat (A.length + SBG.GetCharsL.sgnL v + (SBG.digitsL (own_magJ v) - 9)))), .val (.long v), .second]) (argsL := [(.ref t), (.int (Int32.ofNat (A.length + SBG.GetCharsL.sgnL v + (SBG.digitsL (own_magJ v) - 9)))), (.long v), (.long (100000000 : Int64))]) (rest := []) (by rw [hml]; rfl) (lenOf pd_22 rfl) (W := 0) (Nat.le_of_eq rfl) (by decide) (by decide) (by decide) (by decide) (hb hby d39_195) rfl rfl ?_
    intro TMd25 LMd25 vMd25 XMd25 hQMd25
    obtain ⟨rfl, rfl, eMd25⟩ := hQMd25
    show own_Ends pP eE bB sS _ _ TMd25 (mkF mI 198 #[.val (.ref t), .val (.int p), .val (.long v), .second, .val (.int (Int32.ofNat (A.length + SBG.GetCharsL.sgnL v + (SBG.digitsL (own_magJ v) - 9)))), .val (.long v), .second] [(.int (Int32.ofNat (A.length + SBG.GetCharsL.sgnL v + (SBG.digitsL (own_magJ v) - 8))))])
    refine own_go (T' := TMd25) (g' := (mkF mI 200 #[.val (.ref t), .val (.int p), .val (.long v), .second, .val (.int (Int32.ofNat (A.length + SBG.GetCharsL.sgnL v + (SBG.digitsL (own_magJ v) - 8)))), .val (.long v), .second] [])) (fun t_ kt_ => XS.istore XMd25.here hx rfl (hb hby d39_198) rfl (l' := #[.val (.ref t), .val (.int p), .val (.long v), .second, .val (.int (Int32.ofNat (A.length + SBG.GetCharsL.sgnL v + (SBG.digitsL (own_magJ v) - 8)))), .val (.long v), .second]) rfl kt_) ?_
    refine own_go (T' := TMd25) (g' := (mkF mI 201 #[.val (.ref t), .val (.int p), .val (.long v), .second, .val (.int (Int32.ofNat (A.length + SBG.GetCharsL.sgnL v + (SBG.digitsL (own_magJ v) - 8)))), .val (.long v), .second] [(.ref t)])) (fun t_ kt_ => XS.aloadN XMd25.here hx rfl (hb hby d39_200) rfl rfl kt_) ?_
    refine own_go (T' := TMd25) (g' := (mkF mI 203 #[.val (.ref t), .val (.int p), .val (.long v), .second, .val (.int (Int32.ofNat (A.length + SBG.GetCharsL.sgnL v + (SBG.digitsL (own_magJ v) - 8)))), .val (.long v), .second] [(.int (Int32.ofNat (A.length + SBG.GetCharsL.sgnL v + (SBG.digitsL (own_magJ v) - 8)))), (.ref t)])) (fun t_ kt_ => XS.iload XMd25.here hx rfl (hb hby d39_201) rfl kt_) ?_
    refine own_go (T' := TMd25) (g' := (mkF mI 205 #[.val (.ref t), .val (.int p), .val (.long v), .second, .val (.int (Int32.ofNat (A.length + SBG.GetCharsL.sgnL v + (SBG.digitsL (own_magJ v) - 8)))), .val (.long v), .second] [(.long v), (.int (Int32.ofNat (A.length + SBG.GetCharsL.sgnL v + (SBG.digitsL (own_magJ v) - 8)))), (.ref t)])) (fun t_ kt_ => XS.lload XMd25.here hx rfl (hb hby d39_203) rfl kt_) ?_
    refine own_go (T' := TMd25) (g' := (mkF mI 208 #[.val (.ref t), .val (.int p), .val (.long v), .second, .val (.int (Int32.ofNat (A.length + SBG.GetCharsL.sgnL v + (SBG.digitsL (own_magJ v) - 8)))), .val (.long v), .second] [(.long (10000000 : Int64)), (.long v), (.int (Int32.ofNat (A.length + SBG.GetCharsL.sgnL v + (SBG.digitsL (own_magJ v) - 8)))), (.ref t)])) (fun t_ kt_ => ldc2J XMd25 hx hown (mvT hZ (hw _ (List.mem_of_getElem? (i := 222) rfl))) rfl (hb hby d39_205) kt_) ?_
    have spMd26 := own_step (m := v) (d := (10000000 : Int64)) (e := 7) hT hn hl (own_mN hc12_Md1) (by decide) (by decide)
    refine own_callS own_closed XMd25 hx hZ (y := (⟨"com/example/carter/carter/IncompleteEnqueueExceptionCountByFatePinLaw", "dig", "(Ljava/lang/String;IJJ)I"⟩ : MethodName)) hown (hw _ (List.mem_of_getElem? (i := 209) rfl)) (hw _ (List.mem_of_getElem? (i := 210) rfl)) (by decide) (rl_dig l Z a0 hw [] h0 n0 O cs Scs hcs fo hfo Sfo t td kt n TX S (Int32.ofNat (A.length + SBG.GetCharsL.sgnL v + (SBG.digitsL (own_magJ v) - 8))) (Int32.ofNat (A.length + SBG.GetCharsL.sgnL v + (SBG.digitsL (own_magJ v) - 7))) v (10000000 : Int64) spMd26.1 (by decide) spMd26.2.1 spMd26.2.2.1 spMd26.2.2.2) (hw _ (List.mem_of_getElem? (i := 211) rfl)) (hw _ (List.mem_of_getElem? (i := 177) rfl)) eMd25 (pc := 208) (Ls := #[.val (.ref t), .val (.int p), .val (.long v), .second, .val (.int (Int32.ofNat (A.length + SBG.GetCharsL.sgnL v + (SBG.digitsL (own_magJ v) - 8)))), .val (.long v), .second]) (argsL := [(.ref t), (.int (Int32.ofNat (A.length + SBG.GetCharsL.sgnL v + (SBG.digitsL (own_magJ v) - 8)))), (.long v), (.long (10000000 : Int64))]) (rest := []) (by rw [hml]; rfl) (lenOf pd_22 rfl) (W := 0) (Nat.le_of_eq rfl) (by decide) (by decide) (by decide) (by decide) (hb hby d39_208) rfl rfl ?_
    intro TMd27 LMd27 vMd27 XMd27 hQMd27
    obtain ⟨rfl, rfl, eMd27⟩ := hQMd27
    show own_Ends pP eE bB sS _ _ TMd27 (mkF mI 211 #[.val (.ref t), .val (.int p), .val (.long v), .second, .val (.int (Int32.ofNat (A.length + SBG.GetCharsL.sgnL v + (SBG.digitsL (own_magJ v) - 8)))), .val (.long v), .second] [(.int (Int32.ofNat (A.length + SBG.GetCharsL.sgnL v + (SBG.digitsL (own_magJ v) - 7))))])
    refine own_go (T' := TMd27) (g' := (mkF mI 213 #[.val (.ref t), .val (.int p), .val (.long v), .second, .val (.int (Int32.ofNat (A.length + SBG.GetCharsL.sgnL v + (SBG.digitsL (own_magJ v) - 7)))), .val (.long v), .second] [])) (fun t_ kt_ => XS.istore XMd27.here hx rfl (hb hby d39_211) rfl (l' := #[.val (.ref t), .val (.int p), .val (.long v), .second, .val (.int (Int32.ofNat (A.length + SBG.GetCharsL.sgnL v + (SBG.digitsL (own_magJ v) - 7)))), .val (.long v), .second]) rfl kt_) ?_
    refine own_go (T' := TMd27) (g' := (mkF mI 214 #[.val (.ref t), .val (.int p), .val (.long v), .second, .val (.int (Int32.ofNat (A.length + SBG.GetCharsL.sgnL v + (SBG.digitsL (own_magJ v) - 7)))), .val (.long v), .second] [(.ref t)])) (fun t_ kt_ => XS.aloadN XMd27.here hx rfl (hb hby d39_213) rfl rfl kt_) ?_
    refine own_go (T' := TMd27) (g' := (mkF mI 216 #[.val (.ref t), .val (.int p), .val (.long v), .second, .val (.int (Int32.ofNat (A.length + SBG.GetCharsL.sgnL v + (SBG.digitsL (own_magJ v) - 7)))), .val (.long v), .second] [(.int (Int32.ofNat (A.length + SBG.GetCharsL.sgnL v + (SBG.digitsL (own_magJ v) - 7)))), (.ref t)])) (fun t_ kt_ => XS.iload XMd27.here hx rfl (hb hby d39_214) rfl kt_) ?_
    refine own_go (T' := TMd27) (g' := (mkF mI 218 #[.val (.ref t), .val (.int p), .val (.long v), .second, .val (.int (Int32.ofNat (A.length + SBG.GetCharsL.sgnL v + (SBG.digitsL (own_magJ v) - 7)))), .val (.long v), .second] [(.long v), (.int (Int32.ofNat (A.length + SBG.GetCharsL.sgnL v + (SBG.digitsL (own_magJ v) - 7)))), (.ref t)])) (fun t_ kt_ => XS.lload XMd27.here hx rfl (hb hby d39_216) rfl kt_) ?_
    refine own_go (T' := TMd27) (g' := (mkF mI 221 #[.val (.ref t), .val (.int p), .val (.long v), .second, .val (.int (Int32.ofNat (A.length + SBG.GetCharsL.sgnL v + (SBG.digitsL (own_magJ v) - 7)))), .val (.long v), .second] [(.long (1000000 : Int64)), (.long v), (.int (Int32.ofNat (A.length + SBG.GetCharsL.sgnL v + (SBG.digitsL (own_magJ v) - 7)))), (.ref t)])) (fun t_ kt_ => ldc2J XMd27 hx hown (mvT hZ (hw _ (List.mem_of_getElem? (i := 223) rfl))) rfl (hb hby d39_218) kt_) ?_
    have spMd28 := own_step (m := v) (d := (1000000 : Int64)) (e := 6) hT hn hl (own_mN hc12_Md1) (by decide) (by decide)
    refine own_callS own_closed XMd27 hx hZ (y := (⟨"com/example/carter/carter/IncompleteEnqueueExceptionCountByFatePinLaw", "dig", "(Ljava/lang/String;IJJ)I"⟩ : MethodName)) hown (hw _ (List.mem_of_getElem? (i := 209) rfl)) (hw _ (List.mem_of_getElem? (i := 210) rfl)) (by decide) (rl_dig l Z a0 hw [] h0 n0 O cs Scs hcs fo hfo Sfo t td kt n TX S (Int32.ofNat (A.length + SBG.GetCharsL.sgnL v + (SBG.digitsL (own_magJ v) - 7))) (Int32.ofNat (A.length + SBG.GetCharsL.sgnL v + (SBG.digitsL (own_magJ v) - 6))) v (1000000 : Int64) spMd28.1 (by decide) spMd28.2.1 spMd28.2.2.1 spMd28.2.2.2) (hw _ (List.mem_of_getElem? (i := 211) rfl)) (hw _ (List.mem_of_getElem? (i := 177) rfl)) eMd27 (pc := 221) (Ls := #[.val (.ref t), .val (.int p), .val (.long v), .second, .val (.int (Int32.ofNat (A.length + SBG.GetCharsL.sgnL v + (SBG.digitsL (own_magJ v) - 7)))), .val (.long v), .second]) (argsL := [(.ref t), (.int (Int32.ofNat (A.length + SBG.GetCharsL.sgnL v + (SBG.digitsL (own_magJ v) - 7)))), (.long v), (.long (1000000 : Int64))]) (rest := []) (by rw [hml]; rfl) (lenOf pd_22 rfl) (W := 0) (Nat.le_of_eq rfl) (by decide) (by decide) (by decide) (by decide) (hb hby d39_221) rfl rfl ?_
    intro TMd29 LMd29 vMd29 XMd29 hQMd29
    obtain ⟨rfl, rfl, eMd29⟩ := hQMd29
    show own_Ends pP eE bB sS _ _ TMd29 (mkF mI 224 #[.val (.ref t), .val (.int p), .val (.long v), .second, .val (.int (Int32.ofNat (A.length + SBG.GetCharsL.sgnL v + (SBG.digitsL (own_magJ v) - 7)))), .val (.long v), .second] [(.int (Int32.ofNat (A.length + SBG.GetCharsL.sgnL v + (SBG.digitsL (own_magJ v) - 6))))])
    refine own_go (T' := TMd29) (g' := (mkF mI 226 #[.val (.ref t), .val (.int p), .val (.long v), .second, .val (.int (Int32.ofNat (A.length + SBG.GetCharsL.sgnL v + (SBG.digitsL (own_magJ v) - 6)))), .val (.long v), .second] [])) (fun t_ kt_ => XS.istore XMd29.here hx rfl (hb hby d39_224) rfl (l' := #[.val (.ref t), .val (.int p), .val (.long v), .second, .val (.int (Int32.ofNat (A.length + SBG.GetCharsL.sgnL v + (SBG.digitsL (own_magJ v) - 6)))), .val (.long v), .second]) rfl kt_) ?_
    refine own_go (T' := TMd29) (g' := (mkF mI 227 #[.val (.ref t), .val (.int p), .val (.long v), .second, .val (.int (Int32.ofNat (A.length + SBG.GetCharsL.sgnL v + (SBG.digitsL (own_magJ v) - 6)))), .val (.long v), .second] [(.ref t)])) (fun t_ kt_ => XS.aloadN XMd29.here hx rfl (hb hby d39_226) rfl rfl kt_) ?_
    refine own_go (T' := TMd29) (g' := (mkF mI 229 #[.val (.ref t), .val (.int p), .val (.long v), .second, .val (.int (Int32.ofNat (A.length + SBG.GetCharsL.sgnL v + (SBG.digitsL (own_magJ v) - 6)))), .val (.long v), .second] [(.int (Int32.ofNat (A.length + SBG.GetCharsL.sgnL v + (SBG.digitsL (own_magJ v) - 6)))), (.ref t)])) (fun t_ kt_ => XS.iload XMd29.here hx rfl (hb hby d39_227) rfl kt_) ?_
    refine own_go (T' := TMd29) (g' := (mkF mI 231 #[.val (.ref t), .val (.int p), .val (.long v), .second, .val (.int (Int32.ofNat (A.length + SBG.GetCharsL.sgnL v + (SBG.digitsL (own_magJ v) - 6)))), .val (.long v), .second] [(.long v), (.int (Int32.ofNat (A.length + SBG.GetCharsL.sgnL v + (SBG.digitsL (own_magJ v) - 6)))), (.ref t)])) (fun t_ kt_ => XS.lload XMd29.here hx rfl (hb hby d39_229) rfl kt_) ?_
    refine own_go (T' := TMd29) (g' := (mkF mI 234 #[.val (.ref t), .val (.int p), .val (.long v), .second, .val (.int (Int32.ofNat (A.length + SBG.GetCharsL.sgnL v + (SBG.digitsL (own_magJ v) - 6)))), .val (.long v), .second] [(.long (100000 : Int64)), (.long v), (.int (Int32.ofNat (A.length + SBG.GetCharsL.sgnL v + (SBG.digitsL (own_magJ v) - 6)))), (.ref t)])) (fun t_ kt_ => ldc2J XMd29 hx hown (mvT hZ (hw _ (List.mem_of_getElem? (i := 224) rfl))) rfl (hb hby d39_231) kt_) ?_
    have spMd30 := own_step (m := v) (d := (100000 : Int64)) (e := 5) hT hn hl (own_mN hc12_Md1) (by decide) (by decide)
    refine own_callS own_closed XMd29 hx hZ (y := (⟨"com/example/carter/carter/IncompleteEnqueueExceptionCountByFatePinLaw", "dig", "(Ljava/lang/String;IJJ)I"⟩ : MethodName)) hown (hw _ (List.mem_of_getElem? (i := 209) rfl)) (hw _ (List.mem_of_getElem? (i := 210) rfl)) (by decide) (rl_dig l Z a0 hw [] h0 n0 O cs Scs hcs fo hfo Sfo t td kt n TX S (Int32.ofNat (A.length + SBG.GetCharsL.sgnL v + (SBG.digitsL (own_magJ v) - 6))) (Int32.ofNat (A.length + SBG.GetCharsL.sgnL v + (SBG.digitsL (own_magJ v) - 5))) v (100000 : Int64) spMd30.1 (by decide) spMd30.2.1 spMd30.2.2.1 spMd30.2.2.2) (hw _ (List.mem_of_getElem? (i := 211) rfl)) (hw _ (List.mem_of_getElem? (i := 177) rfl)) eMd29 (pc := 234) (Ls := #[.val (.ref t), .val (.int p), .val (.long v), .second, .val (.int (Int32.ofNat (A.length + SBG.GetCharsL.sgnL v + (SBG.digitsL (own_magJ v) - 6)))), .val (.long v), .second]) (argsL := [(.ref t), (.int (Int32.ofNat (A.length + SBG.GetCharsL.sgnL v + (SBG.digitsL (own_magJ v) - 6)))), (.long v), (.long (100000 : Int64))]) (rest := []) (by rw [hml]; rfl) (lenOf pd_22 rfl) (W := 0) (Nat.le_of_eq rfl) (by decide) (by decide) (by decide) (by decide) (hb hby d39_234) rfl rfl ?_
    intro TMd31 LMd31 vMd31 XMd31 hQMd31
    obtain ⟨rfl, rfl, eMd31⟩ := hQMd31
    show own_Ends pP eE bB sS _ _ TMd31 (mkF mI 237 #[.val (.ref t), .val (.int p), .val (.long v), .second, .val (.int (Int32.ofNat (A.length + SBG.GetCharsL.sgnL v + (SBG.digitsL (own_magJ v) - 6)))), .val (.long v), .second] [(.int (Int32.ofNat (A.length + SBG.GetCharsL.sgnL v + (SBG.digitsL (own_magJ v) - 5))))])
    refine own_go (T' := TMd31) (g' := (mkF mI 239 #[.val (.ref t), .val (.int p), .val (.long v), .second, .val (.int (Int32.ofNat (A.length + SBG.GetCharsL.sgnL v + (SBG.digitsL (own_magJ v) - 5)))), .val (.long v), .second] [])) (fun t_ kt_ => XS.istore XMd31.here hx rfl (hb hby d39_237) rfl (l' := #[.val (.ref t), .val (.int p), .val (.long v), .second, .val (.int (Int32.ofNat (A.length + SBG.GetCharsL.sgnL v + (SBG.digitsL (own_magJ v) - 5)))), .val (.long v), .second]) rfl kt_) ?_
    refine own_go (T' := TMd31) (g' := (mkF mI 240 #[.val (.ref t), .val (.int p), .val (.long v), .second, .val (.int (Int32.ofNat (A.length + SBG.GetCharsL.sgnL v + (SBG.digitsL (own_magJ v) - 5)))), .val (.long v), .second] [(.ref t)])) (fun t_ kt_ => XS.aloadN XMd31.here hx rfl (hb hby d39_239) rfl rfl kt_) ?_
    refine own_go (T' := TMd31) (g' := (mkF mI 242 #[.val (.ref t), .val (.int p), .val (.long v), .second, .val (.int (Int32.ofNat (A.length + SBG.GetCharsL.sgnL v + (SBG.digitsL (own_magJ v) - 5)))), .val (.long v), .second] [(.int (Int32.ofNat (A.length + SBG.GetCharsL.sgnL v + (SBG.digitsL (own_magJ v) - 5)))), (.ref t)])) (fun t_ kt_ => XS.iload XMd31.here hx rfl (hb hby d39_240) rfl kt_) ?_
    refine own_go (T' := TMd31) (g' := (mkF mI 244 #[.val (.ref t), .val (.int p), .val (.long v), .second, .val (.int (Int32.ofNat (A.length + SBG.GetCharsL.sgnL v + (SBG.digitsL (own_magJ v) - 5)))), .val (.long v), .second] [(.long v), (.int (Int32.ofNat (A.length + SBG.GetCharsL.sgnL v + (SBG.digitsL (own_magJ v) - 5)))), (.ref t)])) (fun t_ kt_ => XS.lload XMd31.here hx rfl (hb hby d39_242) rfl kt_) ?_
    refine own_go (T' := TMd31) (g' := (mkF mI 247 #[.val (.ref t), .val (.int p), .val (.long v), .second, .val (.int (Int32.ofNat (A.length + SBG.GetCharsL.sgnL v + (SBG.digitsL (own_magJ v) - 5)))), .val (.long v), .second] [(.long (10000 : Int64)), (.long v), (.int (Int32.ofNat (A.length + SBG.GetCharsL.sgnL v + (SBG.digitsL (own_magJ v) - 5)))), (.ref t)])) (fun t_ kt_ => ldc2J XMd31 hx hown (mvT hZ (hw _ (List.mem_of_getElem? (i := 225) rfl))) rfl (hb hby d39_244) kt_) ?_
    have spMd32 := own_step (m := v) (d := (10000 : Int64)) (e := 4) hT hn hl (own_mN hc12_Md1) (by decide) (by decide)
    refine own_callS own_closed XMd31 hx hZ (y := (⟨"com/example/carter/carter/IncompleteEnqueueExceptionCountByFatePinLaw", "dig", "(Ljava/lang/String;IJJ)I"⟩ : MethodName)) hown (hw _ (List.mem_of_getElem? (i := 209) rfl)) (hw _ (List.mem_of_getElem? (i := 210) rfl)) (by decide) (rl_dig l Z a0 hw [] h0 n0 O cs Scs hcs fo hfo Sfo t td kt n TX S (Int32.ofNat (A.length + SBG.GetCharsL.sgnL v + (SBG.digitsL (own_magJ v) - 5))) (Int32.ofNat (A.length + SBG.GetCharsL.sgnL v + (SBG.digitsL (own_magJ v) - 4))) v (10000 : Int64) spMd32.1 (by decide) spMd32.2.1 spMd32.2.2.1 spMd32.2.2.2) (hw _ (List.mem_of_getElem? (i := 211) rfl)) (hw _ (List.mem_of_getElem? (i := 177) rfl)) eMd31 (pc := 247) (Ls := #[.val (.ref t), .val (.int p), .val (.long v), .second, .val (.int (Int32.ofNat (A.length + SBG.GetCharsL.sgnL v + (SBG.digitsL (own_magJ v) - 5)))), .val (.long v), .second]) (argsL := [(.ref t), (.int (Int32.ofNat (A.length + SBG.GetCharsL.sgnL v + (SBG.digitsL (own_magJ v) - 5)))), (.long v), (.long (10000 : Int64))]) (rest := []) (by rw [hml]; rfl) (lenOf pd_22 rfl) (W := 0) (Nat.le_of_eq rfl) (by decide) (by decide) (by decide) (by decide) (hb hby d39_247) rfl rfl ?_
    intro TMd33 LMd33 vMd33 XMd33 hQMd33
    obtain ⟨rfl, rfl, eMd33⟩ := hQMd33
    show own_Ends pP eE bB sS _ _ TMd33 (mkF mI 250 #[.val (.ref t), .val (.int p), .val (.long v), .second, .val (.int (Int32.ofNat (A.length + SBG.GetCharsL.sgnL v + (SBG.digitsL (own_magJ v) - 5)))), .val (.long v), .second] [(.int (Int32.ofNat (A.length + SBG.GetCharsL.sgnL v + (SBG.digitsL (own_magJ v) - 4))))])
    refine own_go (T' := TMd33) (g' := (mkF mI 252 #[.val (.ref t), .val (.int p), .val (.long v), .second, .val (.int (Int32.ofNat (A.length + SBG.GetCharsL.sgnL v + (SBG.digitsL (own_magJ v) - 4)))), .val (.long v), .second] [])) (fun t_ kt_ => XS.istore XMd33.here hx rfl (hb hby d39_250) rfl (l' := #[.val (.ref t), .val (.int p), .val (.long v), .second, .val (.int (Int32.ofNat (A.length + SBG.GetCharsL.sgnL v + (SBG.digitsL (own_magJ v) - 4)))), .val (.long v), .second]) rfl kt_) ?_
    refine own_go (T' := TMd33) (g' := (mkF mI 253 #[.val (.ref t), .val (.int p), .val (.long v), .second, .val (.int (Int32.ofNat (A.length + SBG.GetCharsL.sgnL v + (SBG.digitsL (own_magJ v) - 4)))), .val (.long v), .second] [(.ref t)])) (fun t_ kt_ => XS.aloadN XMd33.here hx rfl (hb hby d39_252) rfl rfl kt_) ?_
    refine own_go (T' := TMd33) (g' := (mkF mI 255 #[.val (.ref t), .val (.int p), .val (.long v), .second, .val (.int (Int32.ofNat (A.length + SBG.GetCharsL.sgnL v + (SBG.digitsL (own_magJ v) - 4)))), .val (.long v), .second] [(.int (Int32.ofNat (A.length + SBG.GetCharsL.sgnL v + (SBG.digitsL (own_magJ v) - 4)))), (.ref t)])) (fun t_ kt_ => XS.iload XMd33.here hx rfl (hb hby d39_253) rfl kt_) ?_
    refine own_go (T' := TMd33) (g' := (mkF mI 257 #[.val (.ref t), .val (.int p), .val (.long v), .second, .val (.int (Int32.ofNat (A.length + SBG.GetCharsL.sgnL v + (SBG.digitsL (own_magJ v) - 4)))), .val (.long v), .second] [(.long v), (.int (Int32.ofNat (A.length + SBG.GetCharsL.sgnL v + (SBG.digitsL (own_magJ v) - 4)))), (.ref t)])) (fun t_ kt_ => XS.lload XMd33.here hx rfl (hb hby d39_255) rfl kt_) ?_
    refine own_go (T' := TMd33) (g' := (mkF mI 260 #[.val (.ref t), .val (.int p), .val (.long v), .second, .val (.int (Int32.ofNat (A.length + SBG.GetCharsL.sgnL v + (SBG.digitsL (own_magJ v) - 4)))), .val (.long v), .second] [(.long (1000 : Int64)), (.long v), (.int (Int32.ofNat (A.length + SBG.GetCharsL.sgnL v + (SBG.digitsL (own_magJ v) - 4)))), (.ref t)])) (fun t_ kt_ => ldc2J XMd33 hx hown (mvT hZ (hw _ (List.mem_of_getElem? (i := 226) rfl))) rfl (hb hby d39_257) kt_) ?_
    have spMd34 := own_step (m := v) (d := (1000 : Int64)) (e := 3) hT hn hl (own_mN hc12_Md1) (by decide) (by decide)
    refine own_callS own_closed XMd33 hx hZ (y := (⟨"com/example/carter/carter/IncompleteEnqueueExceptionCountByFatePinLaw", "dig", "(Ljava/lang/String;IJJ)I"⟩ : MethodName)) hown (hw _ (List.mem_of_getElem? (i := 209) rfl)) (hw _ (List.mem_of_getElem? (i := 210) rfl)) (by decide) (rl_dig l Z a0 hw [] h0 n0 O cs Scs hcs fo hfo Sfo t td kt n TX S (Int32.ofNat (A.length + SBG.GetCharsL.sgnL v + (SBG.digitsL (own_magJ v) - 4))) (Int32.ofNat (A.length + SBG.GetCharsL.sgnL v + (SBG.digitsL (own_magJ v) - 3))) v (1000 : Int64) spMd34.1 (by decide) spMd34.2.1 spMd34.2.2.1 spMd34.2.2.2) (hw _ (List.mem_of_getElem? (i := 211) rfl)) (hw _ (List.mem_of_getElem? (i := 177) rfl)) eMd33 (pc := 260) (Ls := #[.val (.ref t), .val (.int p), .val (.long v), .second, .val (.int (Int32.ofNat (A.length + SBG.GetCharsL.sgnL v + (SBG.digitsL (own_magJ v) - 4)))), .val (.long v), .second]) (argsL := [(.ref t), (.int (Int32.ofNat (A.length + SBG.GetCharsL.sgnL v + (SBG.digitsL (own_magJ v) - 4)))), (.long v), (.long (1000 : Int64))]) (rest := []) (by rw [hml]; rfl) (lenOf pd_22 rfl) (W := 0) (Nat.le_of_eq rfl) (by decide) (by decide) (by decide) (by decide) (hb hby d39_260) rfl rfl ?_
    intro TMd35 LMd35 vMd35 XMd35 hQMd35
    obtain ⟨rfl, rfl, eMd35⟩ := hQMd35
    show own_Ends pP eE bB sS _ _ TMd35 (mkF mI 263 #[.val (.ref t), .val (.int p), .val (.long v), .second, .val (.int (Int32.ofNat (A.length + SBG.GetCharsL.sgnL v + (SBG.digitsL (own_magJ v) - 4)))), .val (.long v), .second] [(.int (Int32.ofNat (A.length + SBG.GetCharsL.sgnL v + (SBG.digitsL (own_magJ v) - 3))))])
    refine own_go (T' := TMd35) (g' := (mkF mI 265 #[.val (.ref t), .val (.int p), .val (.long v), .second, .val (.int (Int32.ofNat (A.length + SBG.GetCharsL.sgnL v + (SBG.digitsL (own_magJ v) - 3)))), .val (.long v), .second] [])) (fun t_ kt_ => XS.istore XMd35.here hx rfl (hb hby d39_263) rfl (l' := #[.val (.ref t), .val (.int p), .val (.long v), .second, .val (.int (Int32.ofNat (A.length + SBG.GetCharsL.sgnL v + (SBG.digitsL (own_magJ v) - 3)))), .val (.long v), .second]) rfl kt_) ?_
    refine own_go (T' := TMd35) (g' := (mkF mI 266 #[.val (.ref t), .val (.int p), .val (.long v), .second, .val (.int (Int32.ofNat (A.length + SBG.GetCharsL.sgnL v + (SBG.digitsL (own_magJ v) - 3)))), .val (.long v), .second] [(.ref t)])) (fun t_ kt_ => XS.aloadN XMd35.here hx rfl (hb hby d39_265) rfl rfl kt_) ?_
    refine own_go (T' := TMd35) (g' := (mkF mI 268 #[.val (.ref t), .val (.int p), .val (.long v), .second, .val (.int (Int32.ofNat (A.length + SBG.GetCharsL.sgnL v + (SBG.digitsL (own_magJ v) - 3)))), .val (.long v), .second] [(.int (Int32.ofNat (A.length + SBG.GetCharsL.sgnL v + (SBG.digitsL (own_magJ v) - 3)))), (.ref t)])) (fun t_ kt_ => XS.iload XMd35.here hx rfl (hb hby d39_266) rfl kt_) ?_
    refine own_go (T' := TMd35) (g' := (mkF mI 270 #[.val (.ref t), .val (.int p), .val (.long v), .second, .val (.int (Int32.ofNat (A.length + SBG.GetCharsL.sgnL v + (SBG.digitsL (own_magJ v) - 3)))), .val (.long v), .second] [(.long v), (.int (Int32.ofNat (A.length + SBG.GetCharsL.sgnL v + (SBG.digitsL (own_magJ v) - 3)))), (.ref t)])) (fun t_ kt_ => XS.lload XMd35.here hx rfl (hb hby d39_268) rfl kt_) ?_
    refine own_go (T' := TMd35) (g' := (mkF mI 273 #[.val (.ref t), .val (.int p), .val (.long v), .second, .val (.int (Int32.ofNat (A.length + SBG.GetCharsL.sgnL v + (SBG.digitsL (own_magJ v) - 3)))), .val (.long v), .second] [(.long (100 : Int64)), (.long v), (.int (Int32.ofNat (A.length + SBG.GetCharsL.sgnL v + (SBG.digitsL (own_magJ v) - 3)))), (.ref t)])) (fun t_ kt_ => ldc2J XMd35 hx hown (mvT hZ (hw _ (List.mem_of_getElem? (i := 227) rfl))) rfl (hb hby d39_270) kt_) ?_
    have spMd36 := own_step (m := v) (d := (100 : Int64)) (e := 2) hT hn hl (own_mN hc12_Md1) (by decide) (by decide)
    refine own_callS own_closed XMd35 hx hZ (y := (⟨"com/example/carter/carter/IncompleteEnqueueExceptionCountByFatePinLaw", "dig", "(Ljava/lang/String;IJJ)I"⟩ : MethodName)) hown (hw _ (List.mem_of_getElem? (i := 209) rfl)) (hw _ (List.mem_of_getElem? (i := 210) rfl)) (by decide) (rl_dig l Z a0 hw [] h0 n0 O cs Scs hcs fo hfo Sfo t td kt n TX S (Int32.ofNat (A.length + SBG.GetCharsL.sgnL v + (SBG.digitsL (own_magJ v) - 3))) (Int32.ofNat (A.length + SBG.GetCharsL.sgnL v + (SBG.digitsL (own_magJ v) - 2))) v (100 : Int64) spMd36.1 (by decide) spMd36.2.1 spMd36.2.2.1 spMd36.2.2.2) (hw _ (List.mem_of_getElem? (i := 211) rfl)) (hw _ (List.mem_of_getElem? (i := 177) rfl)) eMd35 (pc := 273) (Ls := #[.val (.ref t), .val (.int p), .val (.long v), .second, .val (.int (Int32.ofNat (A.length + SBG.GetCharsL.sgnL v + (SBG.digitsL (own_magJ v) - 3)))), .val (.long v), .second]) (argsL := [(.ref t), (.int (Int32.ofNat (A.length + SBG.GetCharsL.sgnL v + (SBG.digitsL (own_magJ v) - 3)))), (.long v), (.long (100 : Int64))]) (rest := []) (by rw [hml]; rfl) (lenOf pd_22 rfl) (W := 0) (Nat.le_of_eq rfl) (by decide) (by decide) (by decide) (by decide) (hb hby d39_273) rfl rfl ?_
    intro TMd37 LMd37 vMd37 XMd37 hQMd37
    obtain ⟨rfl, rfl, eMd37⟩ := hQMd37
    show own_Ends pP eE bB sS _ _ TMd37 (mkF mI 276 #[.val (.ref t), .val (.int p), .val (.long v), .second, .val (.int (Int32.ofNat (A.length + SBG.GetCharsL.sgnL v + (SBG.digitsL (own_magJ v) - 3)))), .val (.long v), .second] [(.int (Int32.ofNat (A.length + SBG.GetCharsL.sgnL v + (SBG.digitsL (own_magJ v) - 2))))])
    refine own_go (T' := TMd37) (g' := (mkF mI 278 #[.val (.ref t), .val (.int p), .val (.long v), .second, .val (.int (Int32.ofNat (A.length + SBG.GetCharsL.sgnL v + (SBG.digitsL (own_magJ v) - 2)))), .val (.long v), .second] [])) (fun t_ kt_ => XS.istore XMd37.here hx rfl (hb hby d39_276) rfl (l' := #[.val (.ref t), .val (.int p), .val (.long v), .second, .val (.int (Int32.ofNat (A.length + SBG.GetCharsL.sgnL v + (SBG.digitsL (own_magJ v) - 2)))), .val (.long v), .second]) rfl kt_) ?_
    refine own_go (T' := TMd37) (g' := (mkF mI 279 #[.val (.ref t), .val (.int p), .val (.long v), .second, .val (.int (Int32.ofNat (A.length + SBG.GetCharsL.sgnL v + (SBG.digitsL (own_magJ v) - 2)))), .val (.long v), .second] [(.ref t)])) (fun t_ kt_ => XS.aloadN XMd37.here hx rfl (hb hby d39_278) rfl rfl kt_) ?_
    refine own_go (T' := TMd37) (g' := (mkF mI 281 #[.val (.ref t), .val (.int p), .val (.long v), .second, .val (.int (Int32.ofNat (A.length + SBG.GetCharsL.sgnL v + (SBG.digitsL (own_magJ v) - 2)))), .val (.long v), .second] [(.int (Int32.ofNat (A.length + SBG.GetCharsL.sgnL v + (SBG.digitsL (own_magJ v) - 2)))), (.ref t)])) (fun t_ kt_ => XS.iload XMd37.here hx rfl (hb hby d39_279) rfl kt_) ?_
    refine own_go (T' := TMd37) (g' := (mkF mI 283 #[.val (.ref t), .val (.int p), .val (.long v), .second, .val (.int (Int32.ofNat (A.length + SBG.GetCharsL.sgnL v + (SBG.digitsL (own_magJ v) - 2)))), .val (.long v), .second] [(.long v), (.int (Int32.ofNat (A.length + SBG.GetCharsL.sgnL v + (SBG.digitsL (own_magJ v) - 2)))), (.ref t)])) (fun t_ kt_ => XS.lload XMd37.here hx rfl (hb hby d39_281) rfl kt_) ?_
    refine own_go (T' := TMd37) (g' := (mkF mI 286 #[.val (.ref t), .val (.int p), .val (.long v), .second, .val (.int (Int32.ofNat (A.length + SBG.GetCharsL.sgnL v + (SBG.digitsL (own_magJ v) - 2)))), .val (.long v), .second] [(.long (10 : Int64)), (.long v), (.int (Int32.ofNat (A.length + SBG.GetCharsL.sgnL v + (SBG.digitsL (own_magJ v) - 2)))), (.ref t)])) (fun t_ kt_ => ldc2J XMd37 hx hown (mvT hZ (hw _ (List.mem_of_getElem? (i := 228) rfl))) rfl (hb hby d39_283) kt_) ?_
    have spMd38 := own_step (m := v) (d := (10 : Int64)) (e := 1) hT hn hl (own_mN hc12_Md1) (by decide) (by decide)
    refine own_callS own_closed XMd37 hx hZ (y := (⟨"com/example/carter/carter/IncompleteEnqueueExceptionCountByFatePinLaw", "dig", "(Ljava/lang/String;IJJ)I"⟩ : MethodName)) hown (hw _ (List.mem_of_getElem? (i := 209) rfl)) (hw _ (List.mem_of_getElem? (i := 210) rfl)) (by decide) (rl_dig l Z a0 hw [] h0 n0 O cs Scs hcs fo hfo Sfo t td kt n TX S (Int32.ofNat (A.length + SBG.GetCharsL.sgnL v + (SBG.digitsL (own_magJ v) - 2))) (Int32.ofNat (A.length + SBG.GetCharsL.sgnL v + (SBG.digitsL (own_magJ v) - 1))) v (10 : Int64) spMd38.1 (by decide) spMd38.2.1 spMd38.2.2.1 spMd38.2.2.2) (hw _ (List.mem_of_getElem? (i := 211) rfl)) (hw _ (List.mem_of_getElem? (i := 177) rfl)) eMd37 (pc := 286) (Ls := #[.val (.ref t), .val (.int p), .val (.long v), .second, .val (.int (Int32.ofNat (A.length + SBG.GetCharsL.sgnL v + (SBG.digitsL (own_magJ v) - 2)))), .val (.long v), .second]) (argsL := [(.ref t), (.int (Int32.ofNat (A.length + SBG.GetCharsL.sgnL v + (SBG.digitsL (own_magJ v) - 2)))), (.long v), (.long (10 : Int64))]) (rest := []) (by rw [hml]; rfl) (lenOf pd_22 rfl) (W := 0) (Nat.le_of_eq rfl) (by decide) (by decide) (by decide) (by decide) (hb hby d39_286) rfl rfl ?_
    intro TMd39 LMd39 vMd39 XMd39 hQMd39
    obtain ⟨rfl, rfl, eMd39⟩ := hQMd39
    show own_Ends pP eE bB sS _ _ TMd39 (mkF mI 289 #[.val (.ref t), .val (.int p), .val (.long v), .second, .val (.int (Int32.ofNat (A.length + SBG.GetCharsL.sgnL v + (SBG.digitsL (own_magJ v) - 2)))), .val (.long v), .second] [(.int (Int32.ofNat (A.length + SBG.GetCharsL.sgnL v + (SBG.digitsL (own_magJ v) - 1))))])
    refine own_go (T' := TMd39) (g' := (mkF mI 291 #[.val (.ref t), .val (.int p), .val (.long v), .second, .val (.int (Int32.ofNat (A.length + SBG.GetCharsL.sgnL v + (SBG.digitsL (own_magJ v) - 1)))), .val (.long v), .second] [])) (fun t_ kt_ => XS.istore XMd39.here hx rfl (hb hby d39_289) rfl (l' := #[.val (.ref t), .val (.int p), .val (.long v), .second, .val (.int (Int32.ofNat (A.length + SBG.GetCharsL.sgnL v + (SBG.digitsL (own_magJ v) - 1)))), .val (.long v), .second]) rfl kt_) ?_
    refine own_go (T' := TMd39) (g' := (mkF mI 292 #[.val (.ref t), .val (.int p), .val (.long v), .second, .val (.int (Int32.ofNat (A.length + SBG.GetCharsL.sgnL v + (SBG.digitsL (own_magJ v) - 1)))), .val (.long v), .second] [(.ref t)])) (fun t_ kt_ => XS.aloadN XMd39.here hx rfl (hb hby d39_291) rfl rfl kt_) ?_
    refine own_go (T' := TMd39) (g' := (mkF mI 294 #[.val (.ref t), .val (.int p), .val (.long v), .second, .val (.int (Int32.ofNat (A.length + SBG.GetCharsL.sgnL v + (SBG.digitsL (own_magJ v) - 1)))), .val (.long v), .second] [(.int (Int32.ofNat (A.length + SBG.GetCharsL.sgnL v + (SBG.digitsL (own_magJ v) - 1)))), (.ref t)])) (fun t_ kt_ => XS.iload XMd39.here hx rfl (hb hby d39_292) rfl kt_) ?_
    refine own_go (T' := TMd39) (g' := (mkF mI 296 #[.val (.ref t), .val (.int p), .val (.long v), .second, .val (.int (Int32.ofNat (A.length + SBG.GetCharsL.sgnL v + (SBG.digitsL (own_magJ v) - 1)))), .val (.long v), .second] [(.long v), (.int (Int32.ofNat (A.length + SBG.GetCharsL.sgnL v + (SBG.digitsL (own_magJ v) - 1)))), (.ref t)])) (fun t_ kt_ => XS.lload XMd39.here hx rfl (hb hby d39_294) rfl kt_) ?_
    refine own_go (T' := TMd39) (g' := (mkF mI 297 #[.val (.ref t), .val (.int p), .val (.long v), .second, .val (.int (Int32.ofNat (A.length + SBG.GetCharsL.sgnL v + (SBG.digitsL (own_magJ v) - 1)))), .val (.long v), .second] [(.long (1 : Int64)), (.long v), (.int (Int32.ofNat (A.length + SBG.GetCharsL.sgnL v + (SBG.digitsL (own_magJ v) - 1)))), (.ref t)])) (fun t_ kt_ => XS.lconst XMd39.here hx rfl (hb hby d39_296) kt_) ?_
    have spMd40 := own_step (m := v) (d := (1 : Int64)) (e := 0) hT hn hl (own_mN hc12_Md1) (by decide) (by decide)
    refine own_callS own_closed XMd39 hx hZ (y := (⟨"com/example/carter/carter/IncompleteEnqueueExceptionCountByFatePinLaw", "dig", "(Ljava/lang/String;IJJ)I"⟩ : MethodName)) hown (hw _ (List.mem_of_getElem? (i := 209) rfl)) (hw _ (List.mem_of_getElem? (i := 210) rfl)) (by decide) (rl_dig l Z a0 hw [] h0 n0 O cs Scs hcs fo hfo Sfo t td kt n TX S (Int32.ofNat (A.length + SBG.GetCharsL.sgnL v + (SBG.digitsL (own_magJ v) - 1))) (Int32.ofNat (A.length + SBG.GetCharsL.sgnL v + (SBG.digitsL (own_magJ v) - 0))) v (1 : Int64) spMd40.1 (by decide) spMd40.2.1 spMd40.2.2.1 spMd40.2.2.2) (hw _ (List.mem_of_getElem? (i := 211) rfl)) (hw _ (List.mem_of_getElem? (i := 177) rfl)) eMd39 (pc := 297) (Ls := #[.val (.ref t), .val (.int p), .val (.long v), .second, .val (.int (Int32.ofNat (A.length + SBG.GetCharsL.sgnL v + (SBG.digitsL (own_magJ v) - 1)))), .val (.long v), .second]) (argsL := [(.ref t), (.int (Int32.ofNat (A.length + SBG.GetCharsL.sgnL v + (SBG.digitsL (own_magJ v) - 1)))), (.long v), (.long (1 : Int64))]) (rest := []) (by rw [hml]; rfl) (lenOf pd_22 rfl) (W := 0) (Nat.le_of_eq rfl) (by decide) (by decide) (by decide) (by decide) (hb hby d39_297) rfl rfl ?_
    intro TMd41 LMd41 vMd41 XMd41 hQMd41
    obtain ⟨rfl, rfl, eMd41⟩ := hQMd41
    show own_Ends pP eE bB sS _ _ TMd41 (mkF mI 300 #[.val (.ref t), .val (.int p), .val (.long v), .second, .val (.int (Int32.ofNat (A.length + SBG.GetCharsL.sgnL v + (SBG.digitsL (own_magJ v) - 1)))), .val (.long v), .second] [(.int (Int32.ofNat (A.length + SBG.GetCharsL.sgnL v + (SBG.digitsL (own_magJ v) - 0))))])
    refine own_go (T' := TMd41) (g' := (mkF mI 302 #[.val (.ref t), .val (.int p), .val (.long v), .second, .val (.int (Int32.ofNat (A.length + SBG.GetCharsL.sgnL v + (SBG.digitsL (own_magJ v) - 0)))), .val (.long v), .second] [])) (fun t_ kt_ => XS.istore XMd41.here hx rfl (hb hby d39_300) rfl (l' := #[.val (.ref t), .val (.int p), .val (.long v), .second, .val (.int (Int32.ofNat (A.length + SBG.GetCharsL.sgnL v + (SBG.digitsL (own_magJ v) - 0)))), .val (.long v), .second]) rfl kt_) ?_
    refine own_go (T' := TMd41) (g' := (mkF mI 304 #[.val (.ref t), .val (.int p), .val (.long v), .second, .val (.int (Int32.ofNat (A.length + SBG.GetCharsL.sgnL v + (SBG.digitsL (own_magJ v) - 0)))), .val (.long v), .second] [(.int (Int32.ofNat (A.length + SBG.GetCharsL.sgnL v + (SBG.digitsL (own_magJ v) - 0))))])) (fun t_ kt_ => XS.iload XMd41.here hx rfl (hb hby d39_302) rfl kt_) ?_
    refine own_retI XMd41 hx hlk hret (hb hby d39_304) (by decide) (by decide) ?_
    exact ⟨by rw [hr], rfl, eMd41⟩
  · skip
    refine own_go (T' := s₁) (g' := (mkF mI 43 #[.val (.ref t), .val (.int p), .val (.long v), .second, .val (.int p), .unset, .unset] [])) (fun t_ kt_ => XS.ifYes X0.here hx rfl (pc0 := 12) (pc' := 43) rfl (hb hby d39_12) rfl (XT.ll_ge_t hc12_Md1) (by decide) (by decide) kt_) ?_
    refine own_go (T' := s₁) (g' := (mkF mI 44 #[.val (.ref t), .val (.int p), .val (.long v), .second, .val (.int p), .unset, .unset] [(.long v)])) (fun t_ kt_ => XS.lloadN X0.here hx rfl (hb hby d39_43) rfl kt_) ?_
    refine own_go (T' := s₁) (g' := (mkF mI 45 #[.val (.ref t), .val (.int p), .val (.long v), .second, .val (.int p), .unset, .unset] [(.long (0 : Int64)), (.long v)])) (fun t_ kt_ => XS.lconst X0.here hx rfl (hb hby d39_44) kt_) ?_
    refine own_go (T' := s₁) (g' := (mkF mI 46 #[.val (.ref t), .val (.int p), .val (.long v), .second, .val (.int p), .unset, .unset] [(.int (lcmpW v (0 : Int64)))])) (fun t_ kt_ => XS.lcmp X0.here hx rfl (hb hby d39_45) rfl kt_) ?_
    refine own_go (T' := s₁) (g' := (mkF mI 53 #[.val (.ref t), .val (.int p), .val (.long v), .second, .val (.int p), .unset, .unset] [])) (fun t_ kt_ => XS.ifYes X0.here hx rfl (pc0 := 46) (pc' := 53) rfl (hb hby d39_46) rfl (XT.ll_ge_t (hc12_Md1 : ¬ (v < (0 : Int64)))) (by decide) (by decide) kt_) ?_
    refine own_go (T' := s₁) (g' := (mkF mI 54 #[.val (.ref t), .val (.int p), .val (.long v), .second, .val (.int p), .unset, .unset] [(.long v)])) (fun t_ kt_ => XS.lloadN X0.here hx rfl (hb hby d39_53) rfl kt_) ?_
    refine own_go (T' := s₁) (g' := (mkF mI 55 #[.val (.ref t), .val (.int p), .val (.long v), .second, .val (.int p), .unset, .unset] [(.long (-v))])) (fun t_ kt_ => XS.lneg X0.here hx rfl (hb hby d39_54) rfl kt_) ?_
    refine own_go (T' := s₁) (g' := (mkF mI 57 #[.val (.ref t), .val (.int p), .val (.long v), .second, .val (.int p), .val (.long (-v)), .second] [])) (fun t_ kt_ => XS.lstore X0.here hx rfl (hb hby d39_55) rfl (l' := #[.val (.ref t), .val (.int p), .val (.long v), .second, .val (.int p), .val (.long (-v)), .second]) rfl kt_) ?_
    have hs := own_nosign (A := A) hc12_Md1
    rw [← hp] at hs
    refine own_cast (g' := (mkF mI 57 #[.val (.ref t), .val (.int p), .val (.long v), .second, .val (.int (Int32.ofNat (A.length + SBG.GetCharsL.sgnL v + (SBG.digitsL (own_magJ v) - 19)))), .val (.long (-v)), .second] [])) (by rw [← hs]) ?_
    refine own_go (T' := s₁) (g' := (mkF mI 58 #[.val (.ref t), .val (.int p), .val (.long v), .second, .val (.int (Int32.ofNat (A.length + SBG.GetCharsL.sgnL v + (SBG.digitsL (own_magJ v) - 19)))), .val (.long (-v)), .second] [(.ref t)])) (fun t_ kt_ => XS.aloadN X0.here hx rfl (hb hby d39_57) rfl rfl kt_) ?_
    refine own_go (T' := s₁) (g' := (mkF mI 60 #[.val (.ref t), .val (.int p), .val (.long v), .second, .val (.int (Int32.ofNat (A.length + SBG.GetCharsL.sgnL v + (SBG.digitsL (own_magJ v) - 19)))), .val (.long (-v)), .second] [(.int (Int32.ofNat (A.length + SBG.GetCharsL.sgnL v + (SBG.digitsL (own_magJ v) - 19)))), (.ref t)])) (fun t_ kt_ => XS.iload X0.here hx rfl (hb hby d39_58) rfl kt_) ?_
    refine own_go (T' := s₁) (g' := (mkF mI 62 #[.val (.ref t), .val (.int p), .val (.long v), .second, .val (.int (Int32.ofNat (A.length + SBG.GetCharsL.sgnL v + (SBG.digitsL (own_magJ v) - 19)))), .val (.long (-v)), .second] [(.long (-v)), (.int (Int32.ofNat (A.length + SBG.GetCharsL.sgnL v + (SBG.digitsL (own_magJ v) - 19)))), (.ref t)])) (fun t_ kt_ => XS.lload X0.here hx rfl (hb hby d39_60) rfl kt_) ?_
    refine own_go (T' := s₁) (g' := (mkF mI 65 #[.val (.ref t), .val (.int p), .val (.long v), .second, .val (.int (Int32.ofNat (A.length + SBG.GetCharsL.sgnL v + (SBG.digitsL (own_magJ v) - 19)))), .val (.long (-v)), .second] [(.long (1000000000000000000 : Int64)), (.long (-v)), (.int (Int32.ofNat (A.length + SBG.GetCharsL.sgnL v + (SBG.digitsL (own_magJ v) - 19)))), (.ref t)])) (fun t_ kt_ => ldc2J X0 hx hown (mvT hZ (hw _ (List.mem_of_getElem? (i := 208) rfl))) rfl (hb hby d39_62) kt_) ?_
    have spMd42 := own_step (m := (-v)) (d := (1000000000000000000 : Int64)) (e := 18) hT hn hl (own_mP hc12_Md1) (by decide) (by decide)
    refine own_callS own_closed X0 hx hZ (y := (⟨"com/example/carter/carter/IncompleteEnqueueExceptionCountByFatePinLaw", "dig", "(Ljava/lang/String;IJJ)I"⟩ : MethodName)) hown (hw _ (List.mem_of_getElem? (i := 209) rfl)) (hw _ (List.mem_of_getElem? (i := 210) rfl)) (by decide) (rl_dig l Z a0 hw [] h0 n0 O cs Scs hcs fo hfo Sfo t td kt n TX S (Int32.ofNat (A.length + SBG.GetCharsL.sgnL v + (SBG.digitsL (own_magJ v) - 19))) (Int32.ofNat (A.length + SBG.GetCharsL.sgnL v + (SBG.digitsL (own_magJ v) - 18))) (-v) (1000000000000000000 : Int64) spMd42.1 (by decide) spMd42.2.1 spMd42.2.2.1 spMd42.2.2.2) (hw _ (List.mem_of_getElem? (i := 211) rfl)) (hw _ (List.mem_of_getElem? (i := 177) rfl)) e0 (pc := 65) (Ls := #[.val (.ref t), .val (.int p), .val (.long v), .second, .val (.int (Int32.ofNat (A.length + SBG.GetCharsL.sgnL v + (SBG.digitsL (own_magJ v) - 19)))), .val (.long (-v)), .second]) (argsL := [(.ref t), (.int (Int32.ofNat (A.length + SBG.GetCharsL.sgnL v + (SBG.digitsL (own_magJ v) - 19)))), (.long (-v)), (.long (1000000000000000000 : Int64))]) (rest := []) (by rw [hml]; rfl) (lenOf pd_22 rfl) (W := 0) (Nat.le_of_eq rfl) (by decide) (by decide) (by decide) (by decide) (hb hby d39_65) rfl rfl ?_
    intro TMd43 LMd43 vMd43 XMd43 hQMd43
    obtain ⟨rfl, rfl, eMd43⟩ := hQMd43
    show own_Ends pP eE bB sS _ _ TMd43 (mkF mI 68 #[.val (.ref t), .val (.int p), .val (.long v), .second, .val (.int (Int32.ofNat (A.length + SBG.GetCharsL.sgnL v + (SBG.digitsL (own_magJ v) - 19)))), .val (.long (-v)), .second] [(.int (Int32.ofNat (A.length + SBG.GetCharsL.sgnL v + (SBG.digitsL (own_magJ v) - 18))))])
    refine own_go (T' := TMd43) (g' := (mkF mI 70 #[.val (.ref t), .val (.int p), .val (.long v), .second, .val (.int (Int32.ofNat (A.length + SBG.GetCharsL.sgnL v + (SBG.digitsL (own_magJ v) - 18)))), .val (.long (-v)), .second] [])) (fun t_ kt_ => XS.istore XMd43.here hx rfl (hb hby d39_68) rfl (l' := #[.val (.ref t), .val (.int p), .val (.long v), .second, .val (.int (Int32.ofNat (A.length + SBG.GetCharsL.sgnL v + (SBG.digitsL (own_magJ v) - 18)))), .val (.long (-v)), .second]) rfl kt_) ?_
    refine own_go (T' := TMd43) (g' := (mkF mI 71 #[.val (.ref t), .val (.int p), .val (.long v), .second, .val (.int (Int32.ofNat (A.length + SBG.GetCharsL.sgnL v + (SBG.digitsL (own_magJ v) - 18)))), .val (.long (-v)), .second] [(.ref t)])) (fun t_ kt_ => XS.aloadN XMd43.here hx rfl (hb hby d39_70) rfl rfl kt_) ?_
    refine own_go (T' := TMd43) (g' := (mkF mI 73 #[.val (.ref t), .val (.int p), .val (.long v), .second, .val (.int (Int32.ofNat (A.length + SBG.GetCharsL.sgnL v + (SBG.digitsL (own_magJ v) - 18)))), .val (.long (-v)), .second] [(.int (Int32.ofNat (A.length + SBG.GetCharsL.sgnL v + (SBG.digitsL (own_magJ v) - 18)))), (.ref t)])) (fun t_ kt_ => XS.iload XMd43.here hx rfl (hb hby d39_71) rfl kt_) ?_
    refine own_go (T' := TMd43) (g' := (mkF mI 75 #[.val (.ref t), .val (.int p), .val (.long v), .second, .val (.int (Int32.ofNat (A.length + SBG.GetCharsL.sgnL v + (SBG.digitsL (own_magJ v) - 18)))), .val (.long (-v)), .second] [(.long (-v)), (.int (Int32.ofNat (A.length + SBG.GetCharsL.sgnL v + (SBG.digitsL (own_magJ v) - 18)))), (.ref t)])) (fun t_ kt_ => XS.lload XMd43.here hx rfl (hb hby d39_73) rfl kt_) ?_
    refine own_go (T' := TMd43) (g' := (mkF mI 78 #[.val (.ref t), .val (.int p), .val (.long v), .second, .val (.int (Int32.ofNat (A.length + SBG.GetCharsL.sgnL v + (SBG.digitsL (own_magJ v) - 18)))), .val (.long (-v)), .second] [(.long (100000000000000000 : Int64)), (.long (-v)), (.int (Int32.ofNat (A.length + SBG.GetCharsL.sgnL v + (SBG.digitsL (own_magJ v) - 18)))), (.ref t)])) (fun t_ kt_ => ldc2J XMd43 hx hown (mvT hZ (hw _ (List.mem_of_getElem? (i := 212) rfl))) rfl (hb hby d39_75) kt_) ?_
    have spMd44 := own_step (m := (-v)) (d := (100000000000000000 : Int64)) (e := 17) hT hn hl (own_mP hc12_Md1) (by decide) (by decide)
    refine own_callS own_closed XMd43 hx hZ (y := (⟨"com/example/carter/carter/IncompleteEnqueueExceptionCountByFatePinLaw", "dig", "(Ljava/lang/String;IJJ)I"⟩ : MethodName)) hown (hw _ (List.mem_of_getElem? (i := 209) rfl)) (hw _ (List.mem_of_getElem? (i := 210) rfl)) (by decide) (rl_dig l Z a0 hw [] h0 n0 O cs Scs hcs fo hfo Sfo t td kt n TX S (Int32.ofNat (A.length + SBG.GetCharsL.sgnL v + (SBG.digitsL (own_magJ v) - 18))) (Int32.ofNat (A.length + SBG.GetCharsL.sgnL v + (SBG.digitsL (own_magJ v) - 17))) (-v) (100000000000000000 : Int64) spMd44.1 (by decide) spMd44.2.1 spMd44.2.2.1 spMd44.2.2.2) (hw _ (List.mem_of_getElem? (i := 211) rfl)) (hw _ (List.mem_of_getElem? (i := 177) rfl)) eMd43 (pc := 78) (Ls := #[.val (.ref t), .val (.int p), .val (.long v), .second, .val (.int (Int32.ofNat (A.length + SBG.GetCharsL.sgnL v + (SBG.digitsL (own_magJ v) - 18)))), .val (.long (-v)), .second]) (argsL := [(.ref t), (.int (Int32.ofNat (A.length + SBG.GetCharsL.sgnL v + (SBG.digitsL (own_magJ v) - 18)))), (.long (-v)), (.long (100000000000000000 : Int64))]) (rest := []) (by rw [hml]; rfl) (lenOf pd_22 rfl) (W := 0) (Nat.le_of_eq rfl) (by decide) (by decide) (by decide) (by decide) (hb hby d39_78) rfl rfl ?_
    intro TMd45 LMd45 vMd45 XMd45 hQMd45
    obtain ⟨rfl, rfl, eMd45⟩ := hQMd45
    show own_Ends pP eE bB sS _ _ TMd45 (mkF mI 81 #[.val (.ref t), .val (.int p), .val (.long v), .second, .val (.int (Int32.ofNat (A.length + SBG.GetCharsL.sgnL v + (SBG.digitsL (own_magJ v) - 18)))), .val (.long (-v)), .second] [(.int (Int32.ofNat (A.length + SBG.GetCharsL.sgnL v + (SBG.digitsL (own_magJ v) - 17))))])
    refine own_go (T' := TMd45) (g' := (mkF mI 83 #[.val (.ref t), .val (.int p), .val (.long v), .second, .val (.int (Int32.ofNat (A.length + SBG.GetCharsL.sgnL v + (SBG.digitsL (own_magJ v) - 17)))), .val (.long (-v)), .second] [])) (fun t_ kt_ => XS.istore XMd45.here hx rfl (hb hby d39_81) rfl (l' := #[.val (.ref t), .val (.int p), .val (.long v), .second, .val (.int (Int32.ofNat (A.length + SBG.GetCharsL.sgnL v + (SBG.digitsL (own_magJ v) - 17)))), .val (.long (-v)), .second]) rfl kt_) ?_
    refine own_go (T' := TMd45) (g' := (mkF mI 84 #[.val (.ref t), .val (.int p), .val (.long v), .second, .val (.int (Int32.ofNat (A.length + SBG.GetCharsL.sgnL v + (SBG.digitsL (own_magJ v) - 17)))), .val (.long (-v)), .second] [(.ref t)])) (fun t_ kt_ => XS.aloadN XMd45.here hx rfl (hb hby d39_83) rfl rfl kt_) ?_
    refine own_go (T' := TMd45) (g' := (mkF mI 86 #[.val (.ref t), .val (.int p), .val (.long v), .second, .val (.int (Int32.ofNat (A.length + SBG.GetCharsL.sgnL v + (SBG.digitsL (own_magJ v) - 17)))), .val (.long (-v)), .second] [(.int (Int32.ofNat (A.length + SBG.GetCharsL.sgnL v + (SBG.digitsL (own_magJ v) - 17)))), (.ref t)])) (fun t_ kt_ => XS.iload XMd45.here hx rfl (hb hby d39_84) rfl kt_) ?_
    refine own_go (T' := TMd45) (g' := (mkF mI 88 #[.val (.ref t), .val (.int p), .val (.long v), .second, .val (.int (Int32.ofNat (A.length + SBG.GetCharsL.sgnL v + (SBG.digitsL (own_magJ v) - 17)))), .val (.long (-v)), .second] [(.long (-v)), (.int (Int32.ofNat (A.length + SBG.GetCharsL.sgnL v + (SBG.digitsL (own_magJ v) - 17)))), (.ref t)])) (fun t_ kt_ => XS.lload XMd45.here hx rfl (hb hby d39_86) rfl kt_) ?_
    refine own_go (T' := TMd45) (g' := (mkF mI 91 #[.val (.ref t), .val (.int p), .val (.long v), .second, .val (.int (Int32.ofNat (A.length + SBG.GetCharsL.sgnL v + (SBG.digitsL (own_magJ v) - 17)))), .val (.long (-v)), .second] [(.long (10000000000000000 : Int64)), (.long (-v)), (.int (Int32.ofNat (A.length + SBG.GetCharsL.sgnL v + (SBG.digitsL (own_magJ v) - 17)))), (.ref t)])) (fun t_ kt_ => ldc2J XMd45 hx hown (mvT hZ (hw _ (List.mem_of_getElem? (i := 213) rfl))) rfl (hb hby d39_88) kt_) ?_
    have spMd46 := own_step (m := (-v)) (d := (10000000000000000 : Int64)) (e := 16) hT hn hl (own_mP hc12_Md1) (by decide) (by decide)
    refine own_callS own_closed XMd45 hx hZ (y := (⟨"com/example/carter/carter/IncompleteEnqueueExceptionCountByFatePinLaw", "dig", "(Ljava/lang/String;IJJ)I"⟩ : MethodName)) hown (hw _ (List.mem_of_getElem? (i := 209) rfl)) (hw _ (List.mem_of_getElem? (i := 210) rfl)) (by decide) (rl_dig l Z a0 hw [] h0 n0 O cs Scs hcs fo hfo Sfo t td kt n TX S (Int32.ofNat (A.length + SBG.GetCharsL.sgnL v + (SBG.digitsL (own_magJ v) - 17))) (Int32.ofNat (A.length + SBG.GetCharsL.sgnL v + (SBG.digitsL (own_magJ v) - 16))) (-v) (10000000000000000 : Int64) spMd46.1 (by decide) spMd46.2.1 spMd46.2.2.1 spMd46.2.2.2) (hw _ (List.mem_of_getElem? (i := 211) rfl)) (hw _ (List.mem_of_getElem? (i := 177) rfl)) eMd45 (pc := 91) (Ls := #[.val (.ref t), .val (.int p), .val (.long v), .second, .val (.int (Int32.ofNat (A.length + SBG.GetCharsL.sgnL v + (SBG.digitsL (own_magJ v) - 17)))), .val (.long (-v)), .second]) (argsL := [(.ref t), (.int (Int32.ofNat (A.length + SBG.GetCharsL.sgnL v + (SBG.digitsL (own_magJ v) - 17)))), (.long (-v)), (.long (10000000000000000 : Int64))]) (rest := []) (by rw [hml]; rfl) (lenOf pd_22 rfl) (W := 0) (Nat.le_of_eq rfl) (by decide) (by decide) (by decide) (by decide) (hb hby d39_91) rfl rfl ?_
    intro TMd47 LMd47 vMd47 XMd47 hQMd47
    obtain ⟨rfl, rfl, eMd47⟩ := hQMd47
    show own_Ends pP eE bB sS _ _ TMd47 (mkF mI 94 #[.val (.ref t), .val (.int p), .val (.long v), .second, .val (.int (Int32.ofNat (A.length + SBG.GetCharsL.sgnL v + (SBG.digitsL (own_magJ v) - 17)))), .val (.long (-v)), .second] [(.int (Int32.ofNat (A.length + SBG.GetCharsL.sgnL v + (SBG.digitsL (own_magJ v) - 16))))])
    refine own_go (T' := TMd47) (g' := (mkF mI 96 #[.val (.ref t), .val (.int p), .val (.long v), .second, .val (.int (Int32.ofNat (A.length + SBG.GetCharsL.sgnL v + (SBG.digitsL (own_magJ v) - 16)))), .val (.long (-v)), .second] [])) (fun t_ kt_ => XS.istore XMd47.here hx rfl (hb hby d39_94) rfl (l' := #[.val (.ref t), .val (.int p), .val (.long v), .second, .val (.int (Int32.ofNat (A.length + SBG.GetCharsL.sgnL v + (SBG.digitsL (own_magJ v) - 16)))), .val (.long (-v)), .second]) rfl kt_) ?_
    refine own_go (T' := TMd47) (g' := (mkF mI 97 #[.val (.ref t), .val (.int p), .val (.long v), .second, .val (.int (Int32.ofNat (A.length + SBG.GetCharsL.sgnL v + (SBG.digitsL (own_magJ v) - 16)))), .val (.long (-v)), .second] [(.ref t)])) (fun t_ kt_ => XS.aloadN XMd47.here hx rfl (hb hby d39_96) rfl rfl kt_) ?_
    refine own_go (T' := TMd47) (g' := (mkF mI 99 #[.val (.ref t), .val (.int p), .val (.long v), .second, .val (.int (Int32.ofNat (A.length + SBG.GetCharsL.sgnL v + (SBG.digitsL (own_magJ v) - 16)))), .val (.long (-v)), .second] [(.int (Int32.ofNat (A.length + SBG.GetCharsL.sgnL v + (SBG.digitsL (own_magJ v) - 16)))), (.ref t)])) (fun t_ kt_ => XS.iload XMd47.here hx rfl (hb hby d39_97) rfl kt_) ?_
    refine own_go (T' := TMd47) (g' := (mkF mI 101 #[.val (.ref t), .val (.int p), .val (.long v), .second, .val (.int (Int32.ofNat (A.length + SBG.GetCharsL.sgnL v + (SBG.digitsL (own_magJ v) - 16)))), .val (.long (-v)), .second] [(.long (-v)), (.int (Int32.ofNat (A.length + SBG.GetCharsL.sgnL v + (SBG.digitsL (own_magJ v) - 16)))), (.ref t)])) (fun t_ kt_ => XS.lload XMd47.here hx rfl (hb hby d39_99) rfl kt_) ?_
    refine own_go (T' := TMd47) (g' := (mkF mI 104 #[.val (.ref t), .val (.int p), .val (.long v), .second, .val (.int (Int32.ofNat (A.length + SBG.GetCharsL.sgnL v + (SBG.digitsL (own_magJ v) - 16)))), .val (.long (-v)), .second] [(.long (1000000000000000 : Int64)), (.long (-v)), (.int (Int32.ofNat (A.length + SBG.GetCharsL.sgnL v + (SBG.digitsL (own_magJ v) - 16)))), (.ref t)])) (fun t_ kt_ => ldc2J XMd47 hx hown (mvT hZ (hw _ (List.mem_of_getElem? (i := 214) rfl))) rfl (hb hby d39_101) kt_) ?_
    have spMd48 := own_step (m := (-v)) (d := (1000000000000000 : Int64)) (e := 15) hT hn hl (own_mP hc12_Md1) (by decide) (by decide)
    refine own_callS own_closed XMd47 hx hZ (y := (⟨"com/example/carter/carter/IncompleteEnqueueExceptionCountByFatePinLaw", "dig", "(Ljava/lang/String;IJJ)I"⟩ : MethodName)) hown (hw _ (List.mem_of_getElem? (i := 209) rfl)) (hw _ (List.mem_of_getElem? (i := 210) rfl)) (by decide) (rl_dig l Z a0 hw [] h0 n0 O cs Scs hcs fo hfo Sfo t td kt n TX S (Int32.ofNat (A.length + SBG.GetCharsL.sgnL v + (SBG.digitsL (own_magJ v) - 16))) (Int32.ofNat (A.length + SBG.GetCharsL.sgnL v + (SBG.digitsL (own_magJ v) - 15))) (-v) (1000000000000000 : Int64) spMd48.1 (by decide) spMd48.2.1 spMd48.2.2.1 spMd48.2.2.2) (hw _ (List.mem_of_getElem? (i := 211) rfl)) (hw _ (List.mem_of_getElem? (i := 177) rfl)) eMd47 (pc := 104) (Ls := #[.val (.ref t), .val (.int p), .val (.long v), .second, .val (.int (Int32.ofNat (A.length + SBG.GetCharsL.sgnL v + (SBG.digitsL (own_magJ v) - 16)))), .val (.long (-v)), .second]) (argsL := [(.ref t), (.int (Int32.ofNat (A.length + SBG.GetCharsL.sgnL v + (SBG.digitsL (own_magJ v) - 16)))), (.long (-v)), (.long (1000000000000000 : Int64))]) (rest := []) (by rw [hml]; rfl) (lenOf pd_22 rfl) (W := 0) (Nat.le_of_eq rfl) (by decide) (by decide) (by decide) (by decide) (hb hby d39_104) rfl rfl ?_
    intro TMd49 LMd49 vMd49 XMd49 hQMd49
    obtain ⟨rfl, rfl, eMd49⟩ := hQMd49
    show own_Ends pP eE bB sS _ _ TMd49 (mkF mI 107 #[.val (.ref t), .val (.int p), .val (.long v), .second, .val (.int (Int32.ofNat (A.length + SBG.GetCharsL.sgnL v + (SBG.digitsL (own_magJ v) - 16)))), .val (.long (-v)), .second] [(.int (Int32.ofNat (A.length + SBG.GetCharsL.sgnL v + (SBG.digitsL (own_magJ v) - 15))))])
    refine own_go (T' := TMd49) (g' := (mkF mI 109 #[.val (.ref t), .val (.int p), .val (.long v), .second, .val (.int (Int32.ofNat (A.length + SBG.GetCharsL.sgnL v + (SBG.digitsL (own_magJ v) - 15)))), .val (.long (-v)), .second] [])) (fun t_ kt_ => XS.istore XMd49.here hx rfl (hb hby d39_107) rfl (l' := #[.val (.ref t), .val (.int p), .val (.long v), .second, .val (.int (Int32.ofNat (A.length + SBG.GetCharsL.sgnL v + (SBG.digitsL (own_magJ v) - 15)))), .val (.long (-v)), .second]) rfl kt_) ?_
    refine own_go (T' := TMd49) (g' := (mkF mI 110 #[.val (.ref t), .val (.int p), .val (.long v), .second, .val (.int (Int32.ofNat (A.length + SBG.GetCharsL.sgnL v + (SBG.digitsL (own_magJ v) - 15)))), .val (.long (-v)), .second] [(.ref t)])) (fun t_ kt_ => XS.aloadN XMd49.here hx rfl (hb hby d39_109) rfl rfl kt_) ?_
    refine own_go (T' := TMd49) (g' := (mkF mI 112 #[.val (.ref t), .val (.int p), .val (.long v), .second, .val (.int (Int32.ofNat (A.length + SBG.GetCharsL.sgnL v + (SBG.digitsL (own_magJ v) - 15)))), .val (.long (-v)), .second] [(.int (Int32.ofNat (A.length + SBG.GetCharsL.sgnL v + (SBG.digitsL (own_magJ v) - 15)))), (.ref t)])) (fun t_ kt_ => XS.iload XMd49.here hx rfl (hb hby d39_110) rfl kt_) ?_
    refine own_go (T' := TMd49) (g' := (mkF mI 114 #[.val (.ref t), .val (.int p), .val (.long v), .second, .val (.int (Int32.ofNat (A.length + SBG.GetCharsL.sgnL v + (SBG.digitsL (own_magJ v) - 15)))), .val (.long (-v)), .second] [(.long (-v)), (.int (Int32.ofNat (A.length + SBG.GetCharsL.sgnL v + (SBG.digitsL (own_magJ v) - 15)))), (.ref t)])) (fun t_ kt_ => XS.lload XMd49.here hx rfl (hb hby d39_112) rfl kt_) ?_
    refine own_go (T' := TMd49) (g' := (mkF mI 117 #[.val (.ref t), .val (.int p), .val (.long v), .second, .val (.int (Int32.ofNat (A.length + SBG.GetCharsL.sgnL v + (SBG.digitsL (own_magJ v) - 15)))), .val (.long (-v)), .second] [(.long (100000000000000 : Int64)), (.long (-v)), (.int (Int32.ofNat (A.length + SBG.GetCharsL.sgnL v + (SBG.digitsL (own_magJ v) - 15)))), (.ref t)])) (fun t_ kt_ => ldc2J XMd49 hx hown (mvT hZ (hw _ (List.mem_of_getElem? (i := 215) rfl))) rfl (hb hby d39_114) kt_) ?_
    have spMd50 := own_step (m := (-v)) (d := (100000000000000 : Int64)) (e := 14) hT hn hl (own_mP hc12_Md1) (by decide) (by decide)
    refine own_callS own_closed XMd49 hx hZ (y := (⟨"com/example/carter/carter/IncompleteEnqueueExceptionCountByFatePinLaw", "dig", "(Ljava/lang/String;IJJ)I"⟩ : MethodName)) hown (hw _ (List.mem_of_getElem? (i := 209) rfl)) (hw _ (List.mem_of_getElem? (i := 210) rfl)) (by decide) (rl_dig l Z a0 hw [] h0 n0 O cs Scs hcs fo hfo Sfo t td kt n TX S (Int32.ofNat (A.length + SBG.GetCharsL.sgnL v + (SBG.digitsL (own_magJ v) - 15))) (Int32.ofNat (A.length + SBG.GetCharsL.sgnL v + (SBG.digitsL (own_magJ v) - 14))) (-v) (100000000000000 : Int64) spMd50.1 (by decide) spMd50.2.1 spMd50.2.2.1 spMd50.2.2.2) (hw _ (List.mem_of_getElem? (i := 211) rfl)) (hw _ (List.mem_of_getElem? (i := 177) rfl)) eMd49 (pc := 117) (Ls := #[.val (.ref t), .val (.int p), .val (.long v), .second, .val (.int (Int32.ofNat (A.length + SBG.GetCharsL.sgnL v + (SBG.digitsL (own_magJ v) - 15)))), .val (.long (-v)), .second]) (argsL := [(.ref t), (.int (Int32.ofNat (A.length + SBG.GetCharsL.sgnL v + (SBG.digitsL (own_magJ v) - 15)))), (.long (-v)), (.long (100000000000000 : Int64))]) (rest := []) (by rw [hml]; rfl) (lenOf pd_22 rfl) (W := 0) (Nat.le_of_eq rfl) (by decide) (by decide) (by decide) (by decide) (hb hby d39_117) rfl rfl ?_
    intro TMd51 LMd51 vMd51 XMd51 hQMd51
    obtain ⟨rfl, rfl, eMd51⟩ := hQMd51
    show own_Ends pP eE bB sS _ _ TMd51 (mkF mI 120 #[.val (.ref t), .val (.int p), .val (.long v), .second, .val (.int (Int32.ofNat (A.length + SBG.GetCharsL.sgnL v + (SBG.digitsL (own_magJ v) - 15)))), .val (.long (-v)), .second] [(.int (Int32.ofNat (A.length + SBG.GetCharsL.sgnL v + (SBG.digitsL (own_magJ v) - 14))))])
    refine own_go (T' := TMd51) (g' := (mkF mI 122 #[.val (.ref t), .val (.int p), .val (.long v), .second, .val (.int (Int32.ofNat (A.length + SBG.GetCharsL.sgnL v + (SBG.digitsL (own_magJ v) - 14)))), .val (.long (-v)), .second] [])) (fun t_ kt_ => XS.istore XMd51.here hx rfl (hb hby d39_120) rfl (l' := #[.val (.ref t), .val (.int p), .val (.long v), .second, .val (.int (Int32.ofNat (A.length + SBG.GetCharsL.sgnL v + (SBG.digitsL (own_magJ v) - 14)))), .val (.long (-v)), .second]) rfl kt_) ?_
    refine own_go (T' := TMd51) (g' := (mkF mI 123 #[.val (.ref t), .val (.int p), .val (.long v), .second, .val (.int (Int32.ofNat (A.length + SBG.GetCharsL.sgnL v + (SBG.digitsL (own_magJ v) - 14)))), .val (.long (-v)), .second] [(.ref t)])) (fun t_ kt_ => XS.aloadN XMd51.here hx rfl (hb hby d39_122) rfl rfl kt_) ?_
    refine own_go (T' := TMd51) (g' := (mkF mI 125 #[.val (.ref t), .val (.int p), .val (.long v), .second, .val (.int (Int32.ofNat (A.length + SBG.GetCharsL.sgnL v + (SBG.digitsL (own_magJ v) - 14)))), .val (.long (-v)), .second] [(.int (Int32.ofNat (A.length + SBG.GetCharsL.sgnL v + (SBG.digitsL (own_magJ v) - 14)))), (.ref t)])) (fun t_ kt_ => XS.iload XMd51.here hx rfl (hb hby d39_123) rfl kt_) ?_
    refine own_go (T' := TMd51) (g' := (mkF mI 127 #[.val (.ref t), .val (.int p), .val (.long v), .second, .val (.int (Int32.ofNat (A.length + SBG.GetCharsL.sgnL v + (SBG.digitsL (own_magJ v) - 14)))), .val (.long (-v)), .second] [(.long (-v)), (.int (Int32.ofNat (A.length + SBG.GetCharsL.sgnL v + (SBG.digitsL (own_magJ v) - 14)))), (.ref t)])) (fun t_ kt_ => XS.lload XMd51.here hx rfl (hb hby d39_125) rfl kt_) ?_
    refine own_go (T' := TMd51) (g' := (mkF mI 130 #[.val (.ref t), .val (.int p), .val (.long v), .second, .val (.int (Int32.ofNat (A.length + SBG.GetCharsL.sgnL v + (SBG.digitsL (own_magJ v) - 14)))), .val (.long (-v)), .second] [(.long (10000000000000 : Int64)), (.long (-v)), (.int (Int32.ofNat (A.length + SBG.GetCharsL.sgnL v + (SBG.digitsL (own_magJ v) - 14)))), (.ref t)])) (fun t_ kt_ => ldc2J XMd51 hx hown (mvT hZ (hw _ (List.mem_of_getElem? (i := 216) rfl))) rfl (hb hby d39_127) kt_) ?_
    have spMd52 := own_step (m := (-v)) (d := (10000000000000 : Int64)) (e := 13) hT hn hl (own_mP hc12_Md1) (by decide) (by decide)
    refine own_callS own_closed XMd51 hx hZ (y := (⟨"com/example/carter/carter/IncompleteEnqueueExceptionCountByFatePinLaw", "dig", "(Ljava/lang/String;IJJ)I"⟩ : MethodName)) hown (hw _ (List.mem_of_getElem? (i := 209) rfl)) (hw _ (List.mem_of_getElem? (i := 210) rfl)) (by decide) (rl_dig l Z a0 hw [] h0 n0 O cs Scs hcs fo hfo Sfo t td kt n TX S (Int32.ofNat (A.length + SBG.GetCharsL.sgnL v + (SBG.digitsL (own_magJ v) - 14))) (Int32.ofNat (A.length + SBG.GetCharsL.sgnL v + (SBG.digitsL (own_magJ v) - 13))) (-v) (10000000000000 : Int64) spMd52.1 (by decide) spMd52.2.1 spMd52.2.2.1 spMd52.2.2.2) (hw _ (List.mem_of_getElem? (i := 211) rfl)) (hw _ (List.mem_of_getElem? (i := 177) rfl)) eMd51 (pc := 130) (Ls := #[.val (.ref t), .val (.int p), .val (.long v), .second, .val (.int (Int32.ofNat (A.length + SBG.GetCharsL.sgnL v + (SBG.digitsL (own_magJ v) - 14)))), .val (.long (-v)), .second]) (argsL := [(.ref t), (.int (Int32.ofNat (A.length + SBG.GetCharsL.sgnL v + (SBG.digitsL (own_magJ v) - 14)))), (.long (-v)), (.long (10000000000000 : Int64))]) (rest := []) (by rw [hml]; rfl) (lenOf pd_22 rfl) (W := 0) (Nat.le_of_eq rfl) (by decide) (by decide) (by decide) (by decide) (hb hby d39_130) rfl rfl ?_
    intro TMd53 LMd53 vMd53 XMd53 hQMd53
    obtain ⟨rfl, rfl, eMd53⟩ := hQMd53
    show own_Ends pP eE bB sS _ _ TMd53 (mkF mI 133 #[.val (.ref t), .val (.int p), .val (.long v), .second, .val (.int (Int32.ofNat (A.length + SBG.GetCharsL.sgnL v + (SBG.digitsL (own_magJ v) - 14)))), .val (.long (-v)), .second] [(.int (Int32.ofNat (A.length + SBG.GetCharsL.sgnL v + (SBG.digitsL (own_magJ v) - 13))))])
    refine own_go (T' := TMd53) (g' := (mkF mI 135 #[.val (.ref t), .val (.int p), .val (.long v), .second, .val (.int (Int32.ofNat (A.length + SBG.GetCharsL.sgnL v + (SBG.digitsL (own_magJ v) - 13)))), .val (.long (-v)), .second] [])) (fun t_ kt_ => XS.istore XMd53.here hx rfl (hb hby d39_133) rfl (l' := #[.val (.ref t), .val (.int p), .val (.long v), .second, .val (.int (Int32.ofNat (A.length + SBG.GetCharsL.sgnL v + (SBG.digitsL (own_magJ v) - 13)))), .val (.long (-v)), .second]) rfl kt_) ?_
    refine own_go (T' := TMd53) (g' := (mkF mI 136 #[.val (.ref t), .val (.int p), .val (.long v), .second, .val (.int (Int32.ofNat (A.length + SBG.GetCharsL.sgnL v + (SBG.digitsL (own_magJ v) - 13)))), .val (.long (-v)), .second] [(.ref t)])) (fun t_ kt_ => XS.aloadN XMd53.here hx rfl (hb hby d39_135) rfl rfl kt_) ?_
    refine own_go (T' := TMd53) (g' := (mkF mI 138 #[.val (.ref t), .val (.int p), .val (.long v), .second, .val (.int (Int32.ofNat (A.length + SBG.GetCharsL.sgnL v + (SBG.digitsL (own_magJ v) - 13)))), .val (.long (-v)), .second] [(.int (Int32.ofNat (A.length + SBG.GetCharsL.sgnL v + (SBG.digitsL (own_magJ v) - 13)))), (.ref t)])) (fun t_ kt_ => XS.iload XMd53.here hx rfl (hb hby d39_136) rfl kt_) ?_
    refine own_go (T' := TMd53) (g' := (mkF mI 140 #[.val (.ref t), .val (.int p), .val (.long v), .second, .val (.int (Int32.ofNat (A.length + SBG.GetCharsL.sgnL v + (SBG.digitsL (own_magJ v) - 13)))), .val (.long (-v)), .second] [(.long (-v)), (.int (Int32.ofNat (A.length + SBG.GetCharsL.sgnL v + (SBG.digitsL (own_magJ v) - 13)))), (.ref t)])) (fun t_ kt_ => XS.lload XMd53.here hx rfl (hb hby d39_138) rfl kt_) ?_
    refine own_go (T' := TMd53) (g' := (mkF mI 143 #[.val (.ref t), .val (.int p), .val (.long v), .second, .val (.int (Int32.ofNat (A.length + SBG.GetCharsL.sgnL v + (SBG.digitsL (own_magJ v) - 13)))), .val (.long (-v)), .second] [(.long (1000000000000 : Int64)), (.long (-v)), (.int (Int32.ofNat (A.length + SBG.GetCharsL.sgnL v + (SBG.digitsL (own_magJ v) - 13)))), (.ref t)])) (fun t_ kt_ => ldc2J XMd53 hx hown (mvT hZ (hw _ (List.mem_of_getElem? (i := 217) rfl))) rfl (hb hby d39_140) kt_) ?_
    have spMd54 := own_step (m := (-v)) (d := (1000000000000 : Int64)) (e := 12) hT hn hl (own_mP hc12_Md1) (by decide) (by decide)
    refine own_callS own_closed XMd53 hx hZ (y := (⟨"com/example/carter/carter/IncompleteEnqueueExceptionCountByFatePinLaw", "dig", "(Ljava/lang/String;IJJ)I"⟩ : MethodName)) hown (hw _ (List.mem_of_getElem? (i := 209) rfl)) (hw _ (List.mem_of_getElem? (i := 210) rfl)) (by decide) (rl_dig l Z a0 hw [] h0 n0 O cs Scs hcs fo hfo Sfo t td kt n TX S (Int32.ofNat (A.length + SBG.GetCharsL.sgnL v + (SBG.digitsL (own_magJ v) - 13))) (Int32.ofNat (A.length + SBG.GetCharsL.sgnL v + (SBG.digitsL (own_magJ v) - 12))) (-v) (1000000000000 : Int64) spMd54.1 (by decide) spMd54.2.1 spMd54.2.2.1 spMd54.2.2.2) (hw _ (List.mem_of_getElem? (i := 211) rfl)) (hw _ (List.mem_of_getElem? (i := 177) rfl)) eMd53 (pc := 143) (Ls := #[.val (.ref t), .val (.int p), .val (.long v), .second, .val (.int (Int32.ofNat (A.length + SBG.GetCharsL.sgnL v + (SBG.digitsL (own_magJ v) - 13)))), .val (.long (-v)), .second]) (argsL := [(.ref t), (.int (Int32.ofNat (A.length + SBG.GetCharsL.sgnL v + (SBG.digitsL (own_magJ v) - 13)))), (.long (-v)), (.long (1000000000000 : Int64))]) (rest := []) (by rw [hml]; rfl) (lenOf pd_22 rfl) (W := 0) (Nat.le_of_eq rfl) (by decide) (by decide) (by decide) (by decide) (hb hby d39_143) rfl rfl ?_
    intro TMd55 LMd55 vMd55 XMd55 hQMd55
    obtain ⟨rfl, rfl, eMd55⟩ := hQMd55
    show own_Ends pP eE bB sS _ _ TMd55 (mkF mI 146 #[.val (.ref t), .val (.int p), .val (.long v), .second, .val (.int (Int32.ofNat (A.length + SBG.GetCharsL.sgnL v + (SBG.digitsL (own_magJ v) - 13)))), .val (.long (-v)), .second] [(.int (Int32.ofNat (A.length + SBG.GetCharsL.sgnL v + (SBG.digitsL (own_magJ v) - 12))))])
    refine own_go (T' := TMd55) (g' := (mkF mI 148 #[.val (.ref t), .val (.int p), .val (.long v), .second, .val (.int (Int32.ofNat (A.length + SBG.GetCharsL.sgnL v + (SBG.digitsL (own_magJ v) - 12)))), .val (.long (-v)), .second] [])) (fun t_ kt_ => XS.istore XMd55.here hx rfl (hb hby d39_146) rfl (l' := #[.val (.ref t), .val (.int p), .val (.long v), .second, .val (.int (Int32.ofNat (A.length + SBG.GetCharsL.sgnL v + (SBG.digitsL (own_magJ v) - 12)))), .val (.long (-v)), .second]) rfl kt_) ?_
    refine own_go (T' := TMd55) (g' := (mkF mI 149 #[.val (.ref t), .val (.int p), .val (.long v), .second, .val (.int (Int32.ofNat (A.length + SBG.GetCharsL.sgnL v + (SBG.digitsL (own_magJ v) - 12)))), .val (.long (-v)), .second] [(.ref t)])) (fun t_ kt_ => XS.aloadN XMd55.here hx rfl (hb hby d39_148) rfl rfl kt_) ?_
    refine own_go (T' := TMd55) (g' := (mkF mI 151 #[.val (.ref t), .val (.int p), .val (.long v), .second, .val (.int (Int32.ofNat (A.length + SBG.GetCharsL.sgnL v + (SBG.digitsL (own_magJ v) - 12)))), .val (.long (-v)), .second] [(.int (Int32.ofNat (A.length + SBG.GetCharsL.sgnL v + (SBG.digitsL (own_magJ v) - 12)))), (.ref t)])) (fun t_ kt_ => XS.iload XMd55.here hx rfl (hb hby d39_149) rfl kt_) ?_
    refine own_go (T' := TMd55) (g' := (mkF mI 153 #[.val (.ref t), .val (.int p), .val (.long v), .second, .val (.int (Int32.ofNat (A.length + SBG.GetCharsL.sgnL v + (SBG.digitsL (own_magJ v) - 12)))), .val (.long (-v)), .second] [(.long (-v)), (.int (Int32.ofNat (A.length + SBG.GetCharsL.sgnL v + (SBG.digitsL (own_magJ v) - 12)))), (.ref t)])) (fun t_ kt_ => XS.lload XMd55.here hx rfl (hb hby d39_151) rfl kt_) ?_
    refine own_go (T' := TMd55) (g' := (mkF mI 156 #[.val (.ref t), .val (.int p), .val (.long v), .second, .val (.int (Int32.ofNat (A.length + SBG.GetCharsL.sgnL v + (SBG.digitsL (own_magJ v) - 12)))), .val (.long (-v)), .second] [(.long (100000000000 : Int64)), (.long (-v)), (.int (Int32.ofNat (A.length + SBG.GetCharsL.sgnL v + (SBG.digitsL (own_magJ v) - 12)))), (.ref t)])) (fun t_ kt_ => ldc2J XMd55 hx hown (mvT hZ (hw _ (List.mem_of_getElem? (i := 218) rfl))) rfl (hb hby d39_153) kt_) ?_
    have spMd56 := own_step (m := (-v)) (d := (100000000000 : Int64)) (e := 11) hT hn hl (own_mP hc12_Md1) (by decide) (by decide)
    refine own_callS own_closed XMd55 hx hZ (y := (⟨"com/example/carter/carter/IncompleteEnqueueExceptionCountByFatePinLaw", "dig", "(Ljava/lang/String;IJJ)I"⟩ : MethodName)) hown (hw _ (List.mem_of_getElem? (i := 209) rfl)) (hw _ (List.mem_of_getElem? (i := 210) rfl)) (by decide) (rl_dig l Z a0 hw [] h0 n0 O cs Scs hcs fo hfo Sfo t td kt n TX S (Int32.ofNat (A.length + SBG.GetCharsL.sgnL v + (SBG.digitsL (own_magJ v) - 12))) (Int32.ofNat (A.length + SBG.GetCharsL.sgnL v + (SBG.digitsL (own_magJ v) - 11))) (-v) (100000000000 : Int64) spMd56.1 (by decide) spMd56.2.1 spMd56.2.2.1 spMd56.2.2.2) (hw _ (List.mem_of_getElem? (i := 211) rfl)) (hw _ (List.mem_of_getElem? (i := 177) rfl)) eMd55 (pc := 156) (Ls := #[.val (.ref t), .val (.int p), .val (.long v), .second, .val (.int (Int32.ofNat (A.length + SBG.GetCharsL.sgnL v + (SBG.digitsL (own_magJ v) - 12)))), .val (.long (-v)), .second]) (argsL := [(.ref t), (.int (Int32.ofNat (A.length + SBG.GetCharsL.sgnL v + (SBG.digitsL (own_magJ v) - 12)))), (.long (-v)), (.long (100000000000 : Int64))]) (rest := []) (by rw [hml]; rfl) (lenOf pd_22 rfl) (W := 0) (Nat.le_of_eq rfl) (by decide) (by decide) (by decide) (by decide) (hb hby d39_156) rfl rfl ?_
    intro TMd57 LMd57 vMd57 XMd57 hQMd57
    obtain ⟨rfl, rfl, eMd57⟩ := hQMd57
    show own_Ends pP eE bB sS _ _ TMd57 (mkF mI 159 #[.val (.ref t), .val (.int p), .val (.long v), .second, .val (.int (Int32.ofNat (A.length + SBG.GetCharsL.sgnL v + (SBG.digitsL (own_magJ v) - 12)))), .val (.long (-v)), .second] [(.int (Int32.ofNat (A.length + SBG.GetCharsL.sgnL v + (SBG.digitsL (own_magJ v) - 11))))])
    refine own_go (T' := TMd57) (g' := (mkF mI 161 #[.val (.ref t), .val (.int p), .val (.long v), .second, .val (.int (Int32.ofNat (A.length + SBG.GetCharsL.sgnL v + (SBG.digitsL (own_magJ v) - 11)))), .val (.long (-v)), .second] [])) (fun t_ kt_ => XS.istore XMd57.here hx rfl (hb hby d39_159) rfl (l' := #[.val (.ref t), .val (.int p), .val (.long v), .second, .val (.int (Int32.ofNat (A.length + SBG.GetCharsL.sgnL v + (SBG.digitsL (own_magJ v) - 11)))), .val (.long (-v)), .second]) rfl kt_) ?_
    refine own_go (T' := TMd57) (g' := (mkF mI 162 #[.val (.ref t), .val (.int p), .val (.long v), .second, .val (.int (Int32.ofNat (A.length + SBG.GetCharsL.sgnL v + (SBG.digitsL (own_magJ v) - 11)))), .val (.long (-v)), .second] [(.ref t)])) (fun t_ kt_ => XS.aloadN XMd57.here hx rfl (hb hby d39_161) rfl rfl kt_) ?_
    refine own_go (T' := TMd57) (g' := (mkF mI 164 #[.val (.ref t), .val (.int p), .val (.long v), .second, .val (.int (Int32.ofNat (A.length + SBG.GetCharsL.sgnL v + (SBG.digitsL (own_magJ v) - 11)))), .val (.long (-v)), .second] [(.int (Int32.ofNat (A.length + SBG.GetCharsL.sgnL v + (SBG.digitsL (own_magJ v) - 11)))), (.ref t)])) (fun t_ kt_ => XS.iload XMd57.here hx rfl (hb hby d39_162) rfl kt_) ?_
    refine own_go (T' := TMd57) (g' := (mkF mI 166 #[.val (.ref t), .val (.int p), .val (.long v), .second, .val (.int (Int32.ofNat (A.length + SBG.GetCharsL.sgnL v + (SBG.digitsL (own_magJ v) - 11)))), .val (.long (-v)), .second] [(.long (-v)), (.int (Int32.ofNat (A.length + SBG.GetCharsL.sgnL v + (SBG.digitsL (own_magJ v) - 11)))), (.ref t)])) (fun t_ kt_ => XS.lload XMd57.here hx rfl (hb hby d39_164) rfl kt_) ?_
    refine own_go (T' := TMd57) (g' := (mkF mI 169 #[.val (.ref t), .val (.int p), .val (.long v), .second, .val (.int (Int32.ofNat (A.length + SBG.GetCharsL.sgnL v + (SBG.digitsL (own_magJ v) - 11)))), .val (.long (-v)), .second] [(.long (10000000000 : Int64)), (.long (-v)), (.int (Int32.ofNat (A.length + SBG.GetCharsL.sgnL v + (SBG.digitsL (own_magJ v) - 11)))), (.ref t)])) (fun t_ kt_ => ldc2J XMd57 hx hown (mvT hZ (hw _ (List.mem_of_getElem? (i := 219) rfl))) rfl (hb hby d39_166) kt_) ?_
    have spMd58 := own_step (m := (-v)) (d := (10000000000 : Int64)) (e := 10) hT hn hl (own_mP hc12_Md1) (by decide) (by decide)
    refine own_callS own_closed XMd57 hx hZ (y := (⟨"com/example/carter/carter/IncompleteEnqueueExceptionCountByFatePinLaw", "dig", "(Ljava/lang/String;IJJ)I"⟩ : MethodName)) hown (hw _ (List.mem_of_getElem? (i := 209) rfl)) (hw _ (List.mem_of_getElem? (i := 210) rfl)) (by decide) (rl_dig l Z a0 hw [] h0 n0 O cs Scs hcs fo hfo Sfo t td kt n TX S (Int32.ofNat (A.length + SBG.GetCharsL.sgnL v + (SBG.digitsL (own_magJ v) - 11))) (Int32.ofNat (A.length + SBG.GetCharsL.sgnL v + (SBG.digitsL (own_magJ v) - 10))) (-v) (10000000000 : Int64) spMd58.1 (by decide) spMd58.2.1 spMd58.2.2.1 spMd58.2.2.2) (hw _ (List.mem_of_getElem? (i := 211) rfl)) (hw _ (List.mem_of_getElem? (i := 177) rfl)) eMd57 (pc := 169) (Ls := #[.val (.ref t), .val (.int p), .val (.long v), .second, .val (.int (Int32.ofNat (A.length + SBG.GetCharsL.sgnL v + (SBG.digitsL (own_magJ v) - 11)))), .val (.long (-v)), .second]) (argsL := [(.ref t), (.int (Int32.ofNat (A.length + SBG.GetCharsL.sgnL v + (SBG.digitsL (own_magJ v) - 11)))), (.long (-v)), (.long (10000000000 : Int64))]) (rest := []) (by rw [hml]; rfl) (lenOf pd_22 rfl) (W := 0) (Nat.le_of_eq rfl) (by decide) (by decide) (by decide) (by decide) (hb hby d39_169) rfl rfl ?_
    intro TMd59 LMd59 vMd59 XMd59 hQMd59
    obtain ⟨rfl, rfl, eMd59⟩ := hQMd59
    show own_Ends pP eE bB sS _ _ TMd59 (mkF mI 172 #[.val (.ref t), .val (.int p), .val (.long v), .second, .val (.int (Int32.ofNat (A.length + SBG.GetCharsL.sgnL v + (SBG.digitsL (own_magJ v) - 11)))), .val (.long (-v)), .second] [(.int (Int32.ofNat (A.length + SBG.GetCharsL.sgnL v + (SBG.digitsL (own_magJ v) - 10))))])
    refine own_go (T' := TMd59) (g' := (mkF mI 174 #[.val (.ref t), .val (.int p), .val (.long v), .second, .val (.int (Int32.ofNat (A.length + SBG.GetCharsL.sgnL v + (SBG.digitsL (own_magJ v) - 10)))), .val (.long (-v)), .second] [])) (fun t_ kt_ => XS.istore XMd59.here hx rfl (hb hby d39_172) rfl (l' := #[.val (.ref t), .val (.int p), .val (.long v), .second, .val (.int (Int32.ofNat (A.length + SBG.GetCharsL.sgnL v + (SBG.digitsL (own_magJ v) - 10)))), .val (.long (-v)), .second]) rfl kt_) ?_
    refine own_go (T' := TMd59) (g' := (mkF mI 175 #[.val (.ref t), .val (.int p), .val (.long v), .second, .val (.int (Int32.ofNat (A.length + SBG.GetCharsL.sgnL v + (SBG.digitsL (own_magJ v) - 10)))), .val (.long (-v)), .second] [(.ref t)])) (fun t_ kt_ => XS.aloadN XMd59.here hx rfl (hb hby d39_174) rfl rfl kt_) ?_
    refine own_go (T' := TMd59) (g' := (mkF mI 177 #[.val (.ref t), .val (.int p), .val (.long v), .second, .val (.int (Int32.ofNat (A.length + SBG.GetCharsL.sgnL v + (SBG.digitsL (own_magJ v) - 10)))), .val (.long (-v)), .second] [(.int (Int32.ofNat (A.length + SBG.GetCharsL.sgnL v + (SBG.digitsL (own_magJ v) - 10)))), (.ref t)])) (fun t_ kt_ => XS.iload XMd59.here hx rfl (hb hby d39_175) rfl kt_) ?_
    refine own_go (T' := TMd59) (g' := (mkF mI 179 #[.val (.ref t), .val (.int p), .val (.long v), .second, .val (.int (Int32.ofNat (A.length + SBG.GetCharsL.sgnL v + (SBG.digitsL (own_magJ v) - 10)))), .val (.long (-v)), .second] [(.long (-v)), (.int (Int32.ofNat (A.length + SBG.GetCharsL.sgnL v + (SBG.digitsL (own_magJ v) - 10)))), (.ref t)])) (fun t_ kt_ => XS.lload XMd59.here hx rfl (hb hby d39_177) rfl kt_) ?_
    refine own_go (T' := TMd59) (g' := (mkF mI 182 #[.val (.ref t), .val (.int p), .val (.long v), .second, .val (.int (Int32.ofNat (A.length + SBG.GetCharsL.sgnL v + (SBG.digitsL (own_magJ v) - 10)))), .val (.long (-v)), .second] [(.long (1000000000 : Int64)), (.long (-v)), (.int (Int32.ofNat (A.length + SBG.GetCharsL.sgnL v + (SBG.digitsL (own_magJ v) - 10)))), (.ref t)])) (fun t_ kt_ => ldc2J XMd59 hx hown (mvT hZ (hw _ (List.mem_of_getElem? (i := 220) rfl))) rfl (hb hby d39_179) kt_) ?_
    have spMd60 := own_step (m := (-v)) (d := (1000000000 : Int64)) (e := 9) hT hn hl (own_mP hc12_Md1) (by decide) (by decide)
    refine own_callS own_closed XMd59 hx hZ (y := (⟨"com/example/carter/carter/IncompleteEnqueueExceptionCountByFatePinLaw", "dig", "(Ljava/lang/String;IJJ)I"⟩ : MethodName)) hown (hw _ (List.mem_of_getElem? (i := 209) rfl)) (hw _ (List.mem_of_getElem? (i := 210) rfl)) (by decide) (rl_dig l Z a0 hw [] h0 n0 O cs Scs hcs fo hfo Sfo t td kt n TX S (Int32.ofNat (A.length + SBG.GetCharsL.sgnL v + (SBG.digitsL (own_magJ v) - 10))) (Int32.ofNat (A.length + SBG.GetCharsL.sgnL v + (SBG.digitsL (own_magJ v) - 9))) (-v) (1000000000 : Int64) spMd60.1 (by decide) spMd60.2.1 spMd60.2.2.1 spMd60.2.2.2) (hw _ (List.mem_of_getElem? (i := 211) rfl)) (hw _ (List.mem_of_getElem? (i := 177) rfl)) eMd59 (pc := 182) (Ls := #[.val (.ref t), .val (.int p), .val (.long v), .second, .val (.int (Int32.ofNat (A.length + SBG.GetCharsL.sgnL v + (SBG.digitsL (own_magJ v) - 10)))), .val (.long (-v)), .second]) (argsL := [(.ref t), (.int (Int32.ofNat (A.length + SBG.GetCharsL.sgnL v + (SBG.digitsL (own_magJ v) - 10)))), (.long (-v)), (.long (1000000000 : Int64))]) (rest := []) (by rw [hml]; rfl) (lenOf pd_22 rfl) (W := 0) (Nat.le_of_eq rfl) (by decide) (by decide) (by decide) (by decide) (hb hby d39_182) rfl rfl ?_
    intro TMd61 LMd61 vMd61 XMd61 hQMd61
    obtain ⟨rfl, rfl, eMd61⟩ := hQMd61
    show own_Ends pP eE bB sS _ _ TMd61 (mkF mI 185 #[.val (.ref t), .val (.int p), .val (.long v), .second, .val (.int (Int32.ofNat (A.length + SBG.GetCharsL.sgnL v + (SBG.digitsL (own_magJ v) - 10)))), .val (.long (-v)), .second] [(.int (Int32.ofNat (A.length + SBG.GetCharsL.sgnL v + (SBG.digitsL (own_magJ v) - 9))))])
    refine own_go (T' := TMd61) (g' := (mkF mI 187 #[.val (.ref t), .val (.int p), .val (.long v), .second, .val (.int (Int32.ofNat (A.length + SBG.GetCharsL.sgnL v + (SBG.digitsL (own_magJ v) - 9)))), .val (.long (-v)), .second] [])) (fun t_ kt_ => XS.istore XMd61.here hx rfl (hb hby d39_185) rfl (l' := #[.val (.ref t), .val (.int p), .val (.long v), .second, .val (.int (Int32.ofNat (A.length + SBG.GetCharsL.sgnL v + (SBG.digitsL (own_magJ v) - 9)))), .val (.long (-v)), .second]) rfl kt_) ?_
    refine own_go (T' := TMd61) (g' := (mkF mI 188 #[.val (.ref t), .val (.int p), .val (.long v), .second, .val (.int (Int32.ofNat (A.length + SBG.GetCharsL.sgnL v + (SBG.digitsL (own_magJ v) - 9)))), .val (.long (-v)), .second] [(.ref t)])) (fun t_ kt_ => XS.aloadN XMd61.here hx rfl (hb hby d39_187) rfl rfl kt_) ?_
    refine own_go (T' := TMd61) (g' := (mkF mI 190 #[.val (.ref t), .val (.int p), .val (.long v), .second, .val (.int (Int32.ofNat (A.length + SBG.GetCharsL.sgnL v + (SBG.digitsL (own_magJ v) - 9)))), .val (.long (-v)), .second] [(.int (Int32.ofNat (A.length + SBG.GetCharsL.sgnL v + (SBG.digitsL (own_magJ v) - 9)))), (.ref t)])) (fun t_ kt_ => XS.iload XMd61.here hx rfl (hb hby d39_188) rfl kt_) ?_
    refine own_go (T' := TMd61) (g' := (mkF mI 192 #[.val (.ref t), .val (.int p), .val (.long v), .second, .val (.int (Int32.ofNat (A.length + SBG.GetCharsL.sgnL v + (SBG.digitsL (own_magJ v) - 9)))), .val (.long (-v)), .second] [(.long (-v)), (.int (Int32.ofNat (A.length + SBG.GetCharsL.sgnL v + (SBG.digitsL (own_magJ v) - 9)))), (.ref t)])) (fun t_ kt_ => XS.lload XMd61.here hx rfl (hb hby d39_190) rfl kt_) ?_
    refine own_go (T' := TMd61) (g' := (mkF mI 195 #[.val (.ref t), .val (.int p), .val (.long v), .second, .val (.int (Int32.ofNat (A.length + SBG.GetCharsL.sgnL v + (SBG.digitsL (own_magJ v) - 9)))), .val (.long (-v)), .second] [(.long (100000000 : Int64)), (.long (-v)), (.int (Int32.ofNat (A.length + SBG.GetCharsL.sgnL v + (SBG.digitsL (own_magJ v) - 9)))), (.ref t)])) (fun t_ kt_ => ldc2J XMd61 hx hown (mvT hZ (hw _ (List.mem_of_getElem? (i := 221) rfl))) rfl (hb hby d39_192) kt_) ?_
    have spMd62 := own_step (m := (-v)) (d := (100000000 : Int64)) (e := 8) hT hn hl (own_mP hc12_Md1) (by decide) (by decide)
    refine own_callS own_closed XMd61 hx hZ (y := (⟨"com/example/carter/carter/IncompleteEnqueueExceptionCountByFatePinLaw", "dig", "(Ljava/lang/String;IJJ)I"⟩ : MethodName)) hown (hw _ (List.mem_of_getElem? (i := 209) rfl)) (hw _ (List.mem_of_getElem? (i := 210) rfl)) (by decide) (rl_dig l Z a0 hw [] h0 n0 O cs Scs hcs fo hfo Sfo t td kt n TX S (Int32.ofNat (A.length + SBG.GetCharsL.sgnL v + (SBG.digitsL (own_magJ v) - 9))) (Int32.ofNat (A.length + SBG.GetCharsL.sgnL v + (SBG.digitsL (own_magJ v) - 8))) (-v) (100000000 : Int64) spMd62.1 (by decide) spMd62.2.1 spMd62.2.2.1 spMd62.2.2.2) (hw _ (List.mem_of_getElem? (i := 211) rfl)) (hw _ (List.mem_of_getElem? (i := 177) rfl)) eMd61 (pc := 195) (Ls := #[.val (.ref t), .val (.int p), .val (.long v), .second, .val (.int (Int32.ofNat (A.length + SBG.GetCharsL.sgnL v + (SBG.digitsL (own_magJ v) - 9)))), .val (.long (-v)), .second]) (argsL := [(.ref t), (.int (Int32.ofNat (A.length + SBG.GetCharsL.sgnL v + (SBG.digitsL (own_magJ v) - 9)))), (.long (-v)), (.long (100000000 : Int64))]) (rest := []) (by rw [hml]; rfl) (lenOf pd_22 rfl) (W := 0) (Nat.le_of_eq rfl) (by decide) (by decide) (by decide) (by decide) (hb hby d39_195) rfl rfl ?_
    intro TMd63 LMd63 vMd63 XMd63 hQMd63
    obtain ⟨rfl, rfl, eMd63⟩ := hQMd63
    show own_Ends pP eE bB sS _ _ TMd63 (mkF mI 198 #[.val (.ref t), .val (.int p), .val (.long v), .second, .val (.int (Int32.ofNat (A.length + SBG.GetCharsL.sgnL v + (SBG.digitsL (own_magJ v) - 9)))), .val (.long (-v)), .second] [(.int (Int32.ofNat (A.length + SBG.GetCharsL.sgnL v + (SBG.digitsL (own_magJ v) - 8))))])
    refine own_go (T' := TMd63) (g' := (mkF mI 200 #[.val (.ref t), .val (.int p), .val (.long v), .second, .val (.int (Int32.ofNat (A.length + SBG.GetCharsL.sgnL v + (SBG.digitsL (own_magJ v) - 8)))), .val (.long (-v)), .second] [])) (fun t_ kt_ => XS.istore XMd63.here hx rfl (hb hby d39_198) rfl (l' := #[.val (.ref t), .val (.int p), .val (.long v), .second, .val (.int (Int32.ofNat (A.length + SBG.GetCharsL.sgnL v + (SBG.digitsL (own_magJ v) - 8)))), .val (.long (-v)), .second]) rfl kt_) ?_
    refine own_go (T' := TMd63) (g' := (mkF mI 201 #[.val (.ref t), .val (.int p), .val (.long v), .second, .val (.int (Int32.ofNat (A.length + SBG.GetCharsL.sgnL v + (SBG.digitsL (own_magJ v) - 8)))), .val (.long (-v)), .second] [(.ref t)])) (fun t_ kt_ => XS.aloadN XMd63.here hx rfl (hb hby d39_200) rfl rfl kt_) ?_
    refine own_go (T' := TMd63) (g' := (mkF mI 203 #[.val (.ref t), .val (.int p), .val (.long v), .second, .val (.int (Int32.ofNat (A.length + SBG.GetCharsL.sgnL v + (SBG.digitsL (own_magJ v) - 8)))), .val (.long (-v)), .second] [(.int (Int32.ofNat (A.length + SBG.GetCharsL.sgnL v + (SBG.digitsL (own_magJ v) - 8)))), (.ref t)])) (fun t_ kt_ => XS.iload XMd63.here hx rfl (hb hby d39_201) rfl kt_) ?_
    refine own_go (T' := TMd63) (g' := (mkF mI 205 #[.val (.ref t), .val (.int p), .val (.long v), .second, .val (.int (Int32.ofNat (A.length + SBG.GetCharsL.sgnL v + (SBG.digitsL (own_magJ v) - 8)))), .val (.long (-v)), .second] [(.long (-v)), (.int (Int32.ofNat (A.length + SBG.GetCharsL.sgnL v + (SBG.digitsL (own_magJ v) - 8)))), (.ref t)])) (fun t_ kt_ => XS.lload XMd63.here hx rfl (hb hby d39_203) rfl kt_) ?_
    refine own_go (T' := TMd63) (g' := (mkF mI 208 #[.val (.ref t), .val (.int p), .val (.long v), .second, .val (.int (Int32.ofNat (A.length + SBG.GetCharsL.sgnL v + (SBG.digitsL (own_magJ v) - 8)))), .val (.long (-v)), .second] [(.long (10000000 : Int64)), (.long (-v)), (.int (Int32.ofNat (A.length + SBG.GetCharsL.sgnL v + (SBG.digitsL (own_magJ v) - 8)))), (.ref t)])) (fun t_ kt_ => ldc2J XMd63 hx hown (mvT hZ (hw _ (List.mem_of_getElem? (i := 222) rfl))) rfl (hb hby d39_205) kt_) ?_
    have spMd64 := own_step (m := (-v)) (d := (10000000 : Int64)) (e := 7) hT hn hl (own_mP hc12_Md1) (by decide) (by decide)
    refine own_callS own_closed XMd63 hx hZ (y := (⟨"com/example/carter/carter/IncompleteEnqueueExceptionCountByFatePinLaw", "dig", "(Ljava/lang/String;IJJ)I"⟩ : MethodName)) hown (hw _ (List.mem_of_getElem? (i := 209) rfl)) (hw _ (List.mem_of_getElem? (i := 210) rfl)) (by decide) (rl_dig l Z a0 hw [] h0 n0 O cs Scs hcs fo hfo Sfo t td kt n TX S (Int32.ofNat (A.length + SBG.GetCharsL.sgnL v + (SBG.digitsL (own_magJ v) - 8))) (Int32.ofNat (A.length + SBG.GetCharsL.sgnL v + (SBG.digitsL (own_magJ v) - 7))) (-v) (10000000 : Int64) spMd64.1 (by decide) spMd64.2.1 spMd64.2.2.1 spMd64.2.2.2) (hw _ (List.mem_of_getElem? (i := 211) rfl)) (hw _ (List.mem_of_getElem? (i := 177) rfl)) eMd63 (pc := 208) (Ls := #[.val (.ref t), .val (.int p), .val (.long v), .second, .val (.int (Int32.ofNat (A.length + SBG.GetCharsL.sgnL v + (SBG.digitsL (own_magJ v) - 8)))), .val (.long (-v)), .second]) (argsL := [(.ref t), (.int (Int32.ofNat (A.length + SBG.GetCharsL.sgnL v + (SBG.digitsL (own_magJ v) - 8)))), (.long (-v)), (.long (10000000 : Int64))]) (rest := []) (by rw [hml]; rfl) (lenOf pd_22 rfl) (W := 0) (Nat.le_of_eq rfl) (by decide) (by decide) (by decide) (by decide) (hb hby d39_208) rfl rfl ?_
    intro TMd65 LMd65 vMd65 XMd65 hQMd65
    obtain ⟨rfl, rfl, eMd65⟩ := hQMd65
    show own_Ends pP eE bB sS _ _ TMd65 (mkF mI 211 #[.val (.ref t), .val (.int p), .val (.long v), .second, .val (.int (Int32.ofNat (A.length + SBG.GetCharsL.sgnL v + (SBG.digitsL (own_magJ v) - 8)))), .val (.long (-v)), .second] [(.int (Int32.ofNat (A.length + SBG.GetCharsL.sgnL v + (SBG.digitsL (own_magJ v) - 7))))])
    refine own_go (T' := TMd65) (g' := (mkF mI 213 #[.val (.ref t), .val (.int p), .val (.long v), .second, .val (.int (Int32.ofNat (A.length + SBG.GetCharsL.sgnL v + (SBG.digitsL (own_magJ v) - 7)))), .val (.long (-v)), .second] [])) (fun t_ kt_ => XS.istore XMd65.here hx rfl (hb hby d39_211) rfl (l' := #[.val (.ref t), .val (.int p), .val (.long v), .second, .val (.int (Int32.ofNat (A.length + SBG.GetCharsL.sgnL v + (SBG.digitsL (own_magJ v) - 7)))), .val (.long (-v)), .second]) rfl kt_) ?_
    refine own_go (T' := TMd65) (g' := (mkF mI 214 #[.val (.ref t), .val (.int p), .val (.long v), .second, .val (.int (Int32.ofNat (A.length + SBG.GetCharsL.sgnL v + (SBG.digitsL (own_magJ v) - 7)))), .val (.long (-v)), .second] [(.ref t)])) (fun t_ kt_ => XS.aloadN XMd65.here hx rfl (hb hby d39_213) rfl rfl kt_) ?_
    refine own_go (T' := TMd65) (g' := (mkF mI 216 #[.val (.ref t), .val (.int p), .val (.long v), .second, .val (.int (Int32.ofNat (A.length + SBG.GetCharsL.sgnL v + (SBG.digitsL (own_magJ v) - 7)))), .val (.long (-v)), .second] [(.int (Int32.ofNat (A.length + SBG.GetCharsL.sgnL v + (SBG.digitsL (own_magJ v) - 7)))), (.ref t)])) (fun t_ kt_ => XS.iload XMd65.here hx rfl (hb hby d39_214) rfl kt_) ?_
    refine own_go (T' := TMd65) (g' := (mkF mI 218 #[.val (.ref t), .val (.int p), .val (.long v), .second, .val (.int (Int32.ofNat (A.length + SBG.GetCharsL.sgnL v + (SBG.digitsL (own_magJ v) - 7)))), .val (.long (-v)), .second] [(.long (-v)), (.int (Int32.ofNat (A.length + SBG.GetCharsL.sgnL v + (SBG.digitsL (own_magJ v) - 7)))), (.ref t)])) (fun t_ kt_ => XS.lload XMd65.here hx rfl (hb hby d39_216) rfl kt_) ?_
    refine own_go (T' := TMd65) (g' := (mkF mI 221 #[.val (.ref t), .val (.int p), .val (.long v), .second, .val (.int (Int32.ofNat (A.length + SBG.GetCharsL.sgnL v + (SBG.digitsL (own_magJ v) - 7)))), .val (.long (-v)), .second] [(.long (1000000 : Int64)), (.long (-v)), (.int (Int32.ofNat (A.length + SBG.GetCharsL.sgnL v + (SBG.digitsL (own_magJ v) - 7)))), (.ref t)])) (fun t_ kt_ => ldc2J XMd65 hx hown (mvT hZ (hw _ (List.mem_of_getElem? (i := 223) rfl))) rfl (hb hby d39_218) kt_) ?_
    have spMd66 := own_step (m := (-v)) (d := (1000000 : Int64)) (e := 6) hT hn hl (own_mP hc12_Md1) (by decide) (by decide)
    refine own_callS own_closed XMd65 hx hZ (y := (⟨"com/example/carter/carter/IncompleteEnqueueExceptionCountByFatePinLaw", "dig", "(Ljava/lang/String;IJJ)I"⟩ : MethodName)) hown (hw _ (List.mem_of_getElem? (i := 209) rfl)) (hw _ (List.mem_of_getElem? (i := 210) rfl)) (by decide) (rl_dig l Z a0 hw [] h0 n0 O cs Scs hcs fo hfo Sfo t td kt n TX S (Int32.ofNat (A.length + SBG.GetCharsL.sgnL v + (SBG.digitsL (own_magJ v) - 7))) (Int32.ofNat (A.length + SBG.GetCharsL.sgnL v + (SBG.digitsL (own_magJ v) - 6))) (-v) (1000000 : Int64) spMd66.1 (by decide) spMd66.2.1 spMd66.2.2.1 spMd66.2.2.2) (hw _ (List.mem_of_getElem? (i := 211) rfl)) (hw _ (List.mem_of_getElem? (i := 177) rfl)) eMd65 (pc := 221) (Ls := #[.val (.ref t), .val (.int p), .val (.long v), .second, .val (.int (Int32.ofNat (A.length + SBG.GetCharsL.sgnL v + (SBG.digitsL (own_magJ v) - 7)))), .val (.long (-v)), .second]) (argsL := [(.ref t), (.int (Int32.ofNat (A.length + SBG.GetCharsL.sgnL v + (SBG.digitsL (own_magJ v) - 7)))), (.long (-v)), (.long (1000000 : Int64))]) (rest := []) (by rw [hml]; rfl) (lenOf pd_22 rfl) (W := 0) (Nat.le_of_eq rfl) (by decide) (by decide) (by decide) (by decide) (hb hby d39_221) rfl rfl ?_
    intro TMd67 LMd67 vMd67 XMd67 hQMd67
    obtain ⟨rfl, rfl, eMd67⟩ := hQMd67
    show own_Ends pP eE bB sS _ _ TMd67 (mkF mI 224 #[.val (.ref t), .val (.int p), .val (.long v), .second, .val (.int (Int32.ofNat (A.length + SBG.GetCharsL.sgnL v + (SBG.digitsL (own_magJ v) - 7)))), .val (.long (-v)), .second] [(.int (Int32.ofNat (A.length + SBG.GetCharsL.sgnL v + (SBG.digitsL (own_magJ v) - 6))))])
    refine own_go (T' := TMd67) (g' := (mkF mI 226 #[.val (.ref t), .val (.int p), .val (.long v), .second, .val (.int (Int32.ofNat (A.length + SBG.GetCharsL.sgnL v + (SBG.digitsL (own_magJ v) - 6)))), .val (.long (-v)), .second] [])) (fun t_ kt_ => XS.istore XMd67.here hx rfl (hb hby d39_224) rfl (l' := #[.val (.ref t), .val (.int p), .val (.long v), .second, .val (.int (Int32.ofNat (A.length + SBG.GetCharsL.sgnL v + (SBG.digitsL (own_magJ v) - 6)))), .val (.long (-v)), .second]) rfl kt_) ?_
    refine own_go (T' := TMd67) (g' := (mkF mI 227 #[.val (.ref t), .val (.int p), .val (.long v), .second, .val (.int (Int32.ofNat (A.length + SBG.GetCharsL.sgnL v + (SBG.digitsL (own_magJ v) - 6)))), .val (.long (-v)), .second] [(.ref t)])) (fun t_ kt_ => XS.aloadN XMd67.here hx rfl (hb hby d39_226) rfl rfl kt_) ?_
    refine own_go (T' := TMd67) (g' := (mkF mI 229 #[.val (.ref t), .val (.int p), .val (.long v), .second, .val (.int (Int32.ofNat (A.length + SBG.GetCharsL.sgnL v + (SBG.digitsL (own_magJ v) - 6)))), .val (.long (-v)), .second] [(.int (Int32.ofNat (A.length + SBG.GetCharsL.sgnL v + (SBG.digitsL (own_magJ v) - 6)))), (.ref t)])) (fun t_ kt_ => XS.iload XMd67.here hx rfl (hb hby d39_227) rfl kt_) ?_
    refine own_go (T' := TMd67) (g' := (mkF mI 231 #[.val (.ref t), .val (.int p), .val (.long v), .second, .val (.int (Int32.ofNat (A.length + SBG.GetCharsL.sgnL v + (SBG.digitsL (own_magJ v) - 6)))), .val (.long (-v)), .second] [(.long (-v)), (.int (Int32.ofNat (A.length + SBG.GetCharsL.sgnL v + (SBG.digitsL (own_magJ v) - 6)))), (.ref t)])) (fun t_ kt_ => XS.lload XMd67.here hx rfl (hb hby d39_229) rfl kt_) ?_
    refine own_go (T' := TMd67) (g' := (mkF mI 234 #[.val (.ref t), .val (.int p), .val (.long v), .second, .val (.int (Int32.ofNat (A.length + SBG.GetCharsL.sgnL v + (SBG.digitsL (own_magJ v) - 6)))), .val (.long (-v)), .second] [(.long (100000 : Int64)), (.long (-v)), (.int (Int32.ofNat (A.length + SBG.GetCharsL.sgnL v + (SBG.digitsL (own_magJ v) - 6)))), (.ref t)])) (fun t_ kt_ => ldc2J XMd67 hx hown (mvT hZ (hw _ (List.mem_of_getElem? (i := 224) rfl))) rfl (hb hby d39_231) kt_) ?_
    have spMd68 := own_step (m := (-v)) (d := (100000 : Int64)) (e := 5) hT hn hl (own_mP hc12_Md1) (by decide) (by decide)
    refine own_callS own_closed XMd67 hx hZ (y := (⟨"com/example/carter/carter/IncompleteEnqueueExceptionCountByFatePinLaw", "dig", "(Ljava/lang/String;IJJ)I"⟩ : MethodName)) hown (hw _ (List.mem_of_getElem? (i := 209) rfl)) (hw _ (List.mem_of_getElem? (i := 210) rfl)) (by decide) (rl_dig l Z a0 hw [] h0 n0 O cs Scs hcs fo hfo Sfo t td kt n TX S (Int32.ofNat (A.length + SBG.GetCharsL.sgnL v + (SBG.digitsL (own_magJ v) - 6))) (Int32.ofNat (A.length + SBG.GetCharsL.sgnL v + (SBG.digitsL (own_magJ v) - 5))) (-v) (100000 : Int64) spMd68.1 (by decide) spMd68.2.1 spMd68.2.2.1 spMd68.2.2.2) (hw _ (List.mem_of_getElem? (i := 211) rfl)) (hw _ (List.mem_of_getElem? (i := 177) rfl)) eMd67 (pc := 234) (Ls := #[.val (.ref t), .val (.int p), .val (.long v), .second, .val (.int (Int32.ofNat (A.length + SBG.GetCharsL.sgnL v + (SBG.digitsL (own_magJ v) - 6)))), .val (.long (-v)), .second]) (argsL := [(.ref t), (.int (Int32.ofNat (A.length + SBG.GetCharsL.sgnL v + (SBG.digitsL (own_magJ v) - 6)))), (.long (-v)), (.long (100000 : Int64))]) (rest := []) (by rw [hml]; rfl) (lenOf pd_22 rfl) (W := 0) (Nat.le_of_eq rfl) (by decide) (by decide) (by decide) (by decide) (hb hby d39_234) rfl rfl ?_
    intro TMd69 LMd69 vMd69 XMd69 hQMd69
    obtain ⟨rfl, rfl, eMd69⟩ := hQMd69
    show own_Ends pP eE bB sS _ _ TMd69 (mkF mI 237 #[.val (.ref t), .val (.int p), .val (.long v), .second, .val (.int (Int32.ofNat (A.length + SBG.GetCharsL.sgnL v + (SBG.digitsL (own_magJ v) - 6)))), .val (.long (-v)), .second] [(.int (Int32.ofNat (A.length + SBG.GetCharsL.sgnL v + (SBG.digitsL (own_magJ v) - 5))))])
    refine own_go (T' := TMd69) (g' := (mkF mI 239 #[.val (.ref t), .val (.int p), .val (.long v), .second, .val (.int (Int32.ofNat (A.length + SBG.GetCharsL.sgnL v + (SBG.digitsL (own_magJ v) - 5)))), .val (.long (-v)), .second] [])) (fun t_ kt_ => XS.istore XMd69.here hx rfl (hb hby d39_237) rfl (l' := #[.val (.ref t), .val (.int p), .val (.long v), .second, .val (.int (Int32.ofNat (A.length + SBG.GetCharsL.sgnL v + (SBG.digitsL (own_magJ v) - 5)))), .val (.long (-v)), .second]) rfl kt_) ?_
    refine own_go (T' := TMd69) (g' := (mkF mI 240 #[.val (.ref t), .val (.int p), .val (.long v), .second, .val (.int (Int32.ofNat (A.length + SBG.GetCharsL.sgnL v + (SBG.digitsL (own_magJ v) - 5)))), .val (.long (-v)), .second] [(.ref t)])) (fun t_ kt_ => XS.aloadN XMd69.here hx rfl (hb hby d39_239) rfl rfl kt_) ?_
    refine own_go (T' := TMd69) (g' := (mkF mI 242 #[.val (.ref t), .val (.int p), .val (.long v), .second, .val (.int (Int32.ofNat (A.length + SBG.GetCharsL.sgnL v + (SBG.digitsL (own_magJ v) - 5)))), .val (.long (-v)), .second] [(.int (Int32.ofNat (A.length + SBG.GetCharsL.sgnL v + (SBG.digitsL (own_magJ v) - 5)))), (.ref t)])) (fun t_ kt_ => XS.iload XMd69.here hx rfl (hb hby d39_240) rfl kt_) ?_
    refine own_go (T' := TMd69) (g' := (mkF mI 244 #[.val (.ref t), .val (.int p), .val (.long v), .second, .val (.int (Int32.ofNat (A.length + SBG.GetCharsL.sgnL v + (SBG.digitsL (own_magJ v) - 5)))), .val (.long (-v)), .second] [(.long (-v)), (.int (Int32.ofNat (A.length + SBG.GetCharsL.sgnL v + (SBG.digitsL (own_magJ v) - 5)))), (.ref t)])) (fun t_ kt_ => XS.lload XMd69.here hx rfl (hb hby d39_242) rfl kt_) ?_
    refine own_go (T' := TMd69) (g' := (mkF mI 247 #[.val (.ref t), .val (.int p), .val (.long v), .second, .val (.int (Int32.ofNat (A.length + SBG.GetCharsL.sgnL v + (SBG.digitsL (own_magJ v) - 5)))), .val (.long (-v)), .second] [(.long (10000 : Int64)), (.long (-v)), (.int (Int32.ofNat (A.length + SBG.GetCharsL.sgnL v + (SBG.digitsL (own_magJ v) - 5)))), (.ref t)])) (fun t_ kt_ => ldc2J XMd69 hx hown (mvT hZ (hw _ (List.mem_of_getElem? (i := 225) rfl))) rfl (hb hby d39_244) kt_) ?_
    have spMd70 := own_step (m := (-v)) (d := (10000 : Int64)) (e := 4) hT hn hl (own_mP hc12_Md1) (by decide) (by decide)
    refine own_callS own_closed XMd69 hx hZ (y := (⟨"com/example/carter/carter/IncompleteEnqueueExceptionCountByFatePinLaw", "dig", "(Ljava/lang/String;IJJ)I"⟩ : MethodName)) hown (hw _ (List.mem_of_getElem? (i := 209) rfl)) (hw _ (List.mem_of_getElem? (i := 210) rfl)) (by decide) (rl_dig l Z a0 hw [] h0 n0 O cs Scs hcs fo hfo Sfo t td kt n TX S (Int32.ofNat (A.length + SBG.GetCharsL.sgnL v + (SBG.digitsL (own_magJ v) - 5))) (Int32.ofNat (A.length + SBG.GetCharsL.sgnL v + (SBG.digitsL (own_magJ v) - 4))) (-v) (10000 : Int64) spMd70.1 (by decide) spMd70.2.1 spMd70.2.2.1 spMd70.2.2.2) (hw _ (List.mem_of_getElem? (i := 211) rfl)) (hw _ (List.mem_of_getElem? (i := 177) rfl)) eMd69 (pc := 247) (Ls := #[.val (.ref t), .val (.int p), .val (.long v), .second, .val (.int (Int32.ofNat (A.length + SBG.GetCharsL.sgnL v + (SBG.digitsL (own_magJ v) - 5)))), .val (.long (-v)), .second]) (argsL := [(.ref t), (.int (Int32.ofNat (A.length + SBG.GetCharsL.sgnL v + (SBG.digitsL (own_magJ v) - 5)))), (.long (-v)), (.long (10000 : Int64))]) (rest := []) (by rw [hml]; rfl) (lenOf pd_22 rfl) (W := 0) (Nat.le_of_eq rfl) (by decide) (by decide) (by decide) (by decide) (hb hby d39_247) rfl rfl ?_
    intro TMd71 LMd71 vMd71 XMd71 hQMd71
    obtain ⟨rfl, rfl, eMd71⟩ := hQMd71
    show own_Ends pP eE bB sS _ _ TMd71 (mkF mI 250 #[.val (.ref t), .val (.int p), .val (.long v), .second, .val (.int (Int32.ofNat (A.length + SBG.GetCharsL.sgnL v + (SBG.digitsL (own_magJ v) - 5)))), .val (.long (-v)), .second] [(.int (Int32.ofNat (A.length + SBG.GetCharsL.sgnL v + (SBG.digitsL (own_magJ v) - 4))))])
    refine own_go (T' := TMd71) (g' := (mkF mI 252 #[.val (.ref t), .val (.int p), .val (.long v), .second, .val (.int (Int32.ofNat (A.length + SBG.GetCharsL.sgnL v + (SBG.digitsL (own_magJ v) - 4)))), .val (.long (-v)), .second] [])) (fun t_ kt_ => XS.istore XMd71.here hx rfl (hb hby d39_250) rfl (l' := #[.val (.ref t), .val (.int p), .val (.long v), .second, .val (.int (Int32.ofNat (A.length + SBG.GetCharsL.sgnL v + (SBG.digitsL (own_magJ v) - 4)))), .val (.long (-v)), .second]) rfl kt_) ?_
    refine own_go (T' := TMd71) (g' := (mkF mI 253 #[.val (.ref t), .val (.int p), .val (.long v), .second, .val (.int (Int32.ofNat (A.length + SBG.GetCharsL.sgnL v + (SBG.digitsL (own_magJ v) - 4)))), .val (.long (-v)), .second] [(.ref t)])) (fun t_ kt_ => XS.aloadN XMd71.here hx rfl (hb hby d39_252) rfl rfl kt_) ?_
    refine own_go (T' := TMd71) (g' := (mkF mI 255 #[.val (.ref t), .val (.int p), .val (.long v), .second, .val (.int (Int32.ofNat (A.length + SBG.GetCharsL.sgnL v + (SBG.digitsL (own_magJ v) - 4)))), .val (.long (-v)), .second] [(.int (Int32.ofNat (A.length + SBG.GetCharsL.sgnL v + (SBG.digitsL (own_magJ v) - 4)))), (.ref t)])) (fun t_ kt_ => XS.iload XMd71.here hx rfl (hb hby d39_253) rfl kt_) ?_
    refine own_go (T' := TMd71) (g' := (mkF mI 257 #[.val (.ref t), .val (.int p), .val (.long v), .second, .val (.int (Int32.ofNat (A.length + SBG.GetCharsL.sgnL v + (SBG.digitsL (own_magJ v) - 4)))), .val (.long (-v)), .second] [(.long (-v)), (.int (Int32.ofNat (A.length + SBG.GetCharsL.sgnL v + (SBG.digitsL (own_magJ v) - 4)))), (.ref t)])) (fun t_ kt_ => XS.lload XMd71.here hx rfl (hb hby d39_255) rfl kt_) ?_
    refine own_go (T' := TMd71) (g' := (mkF mI 260 #[.val (.ref t), .val (.int p), .val (.long v), .second, .val (.int (Int32.ofNat (A.length + SBG.GetCharsL.sgnL v + (SBG.digitsL (own_magJ v) - 4)))), .val (.long (-v)), .second] [(.long (1000 : Int64)), (.long (-v)), (.int (Int32.ofNat (A.length + SBG.GetCharsL.sgnL v + (SBG.digitsL (own_magJ v) - 4)))), (.ref t)])) (fun t_ kt_ => ldc2J XMd71 hx hown (mvT hZ (hw _ (List.mem_of_getElem? (i := 226) rfl))) rfl (hb hby d39_257) kt_) ?_
    have spMd72 := own_step (m := (-v)) (d := (1000 : Int64)) (e := 3) hT hn hl (own_mP hc12_Md1) (by decide) (by decide)
    refine own_callS own_closed XMd71 hx hZ (y := (⟨"com/example/carter/carter/IncompleteEnqueueExceptionCountByFatePinLaw", "dig", "(Ljava/lang/String;IJJ)I"⟩ : MethodName)) hown (hw _ (List.mem_of_getElem? (i := 209) rfl)) (hw _ (List.mem_of_getElem? (i := 210) rfl)) (by decide) (rl_dig l Z a0 hw [] h0 n0 O cs Scs hcs fo hfo Sfo t td kt n TX S (Int32.ofNat (A.length + SBG.GetCharsL.sgnL v + (SBG.digitsL (own_magJ v) - 4))) (Int32.ofNat (A.length + SBG.GetCharsL.sgnL v + (SBG.digitsL (own_magJ v) - 3))) (-v) (1000 : Int64) spMd72.1 (by decide) spMd72.2.1 spMd72.2.2.1 spMd72.2.2.2) (hw _ (List.mem_of_getElem? (i := 211) rfl)) (hw _ (List.mem_of_getElem? (i := 177) rfl)) eMd71 (pc := 260) (Ls := #[.val (.ref t), .val (.int p), .val (.long v), .second, .val (.int (Int32.ofNat (A.length + SBG.GetCharsL.sgnL v + (SBG.digitsL (own_magJ v) - 4)))), .val (.long (-v)), .second]) (argsL := [(.ref t), (.int (Int32.ofNat (A.length + SBG.GetCharsL.sgnL v + (SBG.digitsL (own_magJ v) - 4)))), (.long (-v)), (.long (1000 : Int64))]) (rest := []) (by rw [hml]; rfl) (lenOf pd_22 rfl) (W := 0) (Nat.le_of_eq rfl) (by decide) (by decide) (by decide) (by decide) (hb hby d39_260) rfl rfl ?_
    intro TMd73 LMd73 vMd73 XMd73 hQMd73
    obtain ⟨rfl, rfl, eMd73⟩ := hQMd73
    show own_Ends pP eE bB sS _ _ TMd73 (mkF mI 263 #[.val (.ref t), .val (.int p), .val (.long v), .second, .val (.int (Int32.ofNat (A.length + SBG.GetCharsL.sgnL v + (SBG.digitsL (own_magJ v) - 4)))), .val (.long (-v)), .second] [(.int (Int32.ofNat (A.length + SBG.GetCharsL.sgnL v + (SBG.digitsL (own_magJ v) - 3))))])
    refine own_go (T' := TMd73) (g' := (mkF mI 265 #[.val (.ref t), .val (.int p), .val (.long v), .second, .val (.int (Int32.ofNat (A.length + SBG.GetCharsL.sgnL v + (SBG.digitsL (own_magJ v) - 3)))), .val (.long (-v)), .second] [])) (fun t_ kt_ => XS.istore XMd73.here hx rfl (hb hby d39_263) rfl (l' := #[.val (.ref t), .val (.int p), .val (.long v), .second, .val (.int (Int32.ofNat (A.length + SBG.GetCharsL.sgnL v + (SBG.digitsL (own_magJ v) - 3)))), .val (.long (-v)), .second]) rfl kt_) ?_
    refine own_go (T' := TMd73) (g' := (mkF mI 266 #[.val (.ref t), .val (.int p), .val (.long v), .second, .val (.int (Int32.ofNat (A.length + SBG.GetCharsL.sgnL v + (SBG.digitsL (own_magJ v) - 3)))), .val (.long (-v)), .second] [(.ref t)])) (fun t_ kt_ => XS.aloadN XMd73.here hx rfl (hb hby d39_265) rfl rfl kt_) ?_
    refine own_go (T' := TMd73) (g' := (mkF mI 268 #[.val (.ref t), .val (.int p), .val (.long v), .second, .val (.int (Int32.ofNat (A.length + SBG.GetCharsL.sgnL v + (SBG.digitsL (own_magJ v) - 3)))), .val (.long (-v)), .second] [(.int (Int32.ofNat (A.length + SBG.GetCharsL.sgnL v + (SBG.digitsL (own_magJ v) - 3)))), (.ref t)])) (fun t_ kt_ => XS.iload XMd73.here hx rfl (hb hby d39_266) rfl kt_) ?_
    refine own_go (T' := TMd73) (g' := (mkF mI 270 #[.val (.ref t), .val (.int p), .val (.long v), .second, .val (.int (Int32.ofNat (A.length + SBG.GetCharsL.sgnL v + (SBG.digitsL (own_magJ v) - 3)))), .val (.long (-v)), .second] [(.long (-v)), (.int (Int32.ofNat (A.length + SBG.GetCharsL.sgnL v + (SBG.digitsL (own_magJ v) - 3)))), (.ref t)])) (fun t_ kt_ => XS.lload XMd73.here hx rfl (hb hby d39_268) rfl kt_) ?_
    refine own_go (T' := TMd73) (g' := (mkF mI 273 #[.val (.ref t), .val (.int p), .val (.long v), .second, .val (.int (Int32.ofNat (A.length + SBG.GetCharsL.sgnL v + (SBG.digitsL (own_magJ v) - 3)))), .val (.long (-v)), .second] [(.long (100 : Int64)), (.long (-v)), (.int (Int32.ofNat (A.length + SBG.GetCharsL.sgnL v + (SBG.digitsL (own_magJ v) - 3)))), (.ref t)])) (fun t_ kt_ => ldc2J XMd73 hx hown (mvT hZ (hw _ (List.mem_of_getElem? (i := 227) rfl))) rfl (hb hby d39_270) kt_) ?_
    have spMd74 := own_step (m := (-v)) (d := (100 : Int64)) (e := 2) hT hn hl (own_mP hc12_Md1) (by decide) (by decide)
    refine own_callS own_closed XMd73 hx hZ (y := (⟨"com/example/carter/carter/IncompleteEnqueueExceptionCountByFatePinLaw", "dig", "(Ljava/lang/String;IJJ)I"⟩ : MethodName)) hown (hw _ (List.mem_of_getElem? (i := 209) rfl)) (hw _ (List.mem_of_getElem? (i := 210) rfl)) (by decide) (rl_dig l Z a0 hw [] h0 n0 O cs Scs hcs fo hfo Sfo t td kt n TX S (Int32.ofNat (A.length + SBG.GetCharsL.sgnL v + (SBG.digitsL (own_magJ v) - 3))) (Int32.ofNat (A.length + SBG.GetCharsL.sgnL v + (SBG.digitsL (own_magJ v) - 2))) (-v) (100 : Int64) spMd74.1 (by decide) spMd74.2.1 spMd74.2.2.1 spMd74.2.2.2) (hw _ (List.mem_of_getElem? (i := 211) rfl)) (hw _ (List.mem_of_getElem? (i := 177) rfl)) eMd73 (pc := 273) (Ls := #[.val (.ref t), .val (.int p), .val (.long v), .second, .val (.int (Int32.ofNat (A.length + SBG.GetCharsL.sgnL v + (SBG.digitsL (own_magJ v) - 3)))), .val (.long (-v)), .second]) (argsL := [(.ref t), (.int (Int32.ofNat (A.length + SBG.GetCharsL.sgnL v + (SBG.digitsL (own_magJ v) - 3)))), (.long (-v)), (.long (100 : Int64))]) (rest := []) (by rw [hml]; rfl) (lenOf pd_22 rfl) (W := 0) (Nat.le_of_eq rfl) (by decide) (by decide) (by decide) (by decide) (hb hby d39_273) rfl rfl ?_
    intro TMd75 LMd75 vMd75 XMd75 hQMd75
    obtain ⟨rfl, rfl, eMd75⟩ := hQMd75
    show own_Ends pP eE bB sS _ _ TMd75 (mkF mI 276 #[.val (.ref t), .val (.int p), .val (.long v), .second, .val (.int (Int32.ofNat (A.length + SBG.GetCharsL.sgnL v + (SBG.digitsL (own_magJ v) - 3)))), .val (.long (-v)), .second] [(.int (Int32.ofNat (A.length + SBG.GetCharsL.sgnL v + (SBG.digitsL (own_magJ v) - 2))))])
    refine own_go (T' := TMd75) (g' := (mkF mI 278 #[.val (.ref t), .val (.int p), .val (.long v), .second, .val (.int (Int32.ofNat (A.length + SBG.GetCharsL.sgnL v + (SBG.digitsL (own_magJ v) - 2)))), .val (.long (-v)), .second] [])) (fun t_ kt_ => XS.istore XMd75.here hx rfl (hb hby d39_276) rfl (l' := #[.val (.ref t), .val (.int p), .val (.long v), .second, .val (.int (Int32.ofNat (A.length + SBG.GetCharsL.sgnL v + (SBG.digitsL (own_magJ v) - 2)))), .val (.long (-v)), .second]) rfl kt_) ?_
    refine own_go (T' := TMd75) (g' := (mkF mI 279 #[.val (.ref t), .val (.int p), .val (.long v), .second, .val (.int (Int32.ofNat (A.length + SBG.GetCharsL.sgnL v + (SBG.digitsL (own_magJ v) - 2)))), .val (.long (-v)), .second] [(.ref t)])) (fun t_ kt_ => XS.aloadN XMd75.here hx rfl (hb hby d39_278) rfl rfl kt_) ?_
    refine own_go (T' := TMd75) (g' := (mkF mI 281 #[.val (.ref t), .val (.int p), .val (.long v), .second, .val (.int (Int32.ofNat (A.length + SBG.GetCharsL.sgnL v + (SBG.digitsL (own_magJ v) - 2)))), .val (.long (-v)), .second] [(.int (Int32.ofNat (A.length + SBG.GetCharsL.sgnL v + (SBG.digitsL (own_magJ v) - 2)))), (.ref t)])) (fun t_ kt_ => XS.iload XMd75.here hx rfl (hb hby d39_279) rfl kt_) ?_
    refine own_go (T' := TMd75) (g' := (mkF mI 283 #[.val (.ref t), .val (.int p), .val (.long v), .second, .val (.int (Int32.ofNat (A.length + SBG.GetCharsL.sgnL v + (SBG.digitsL (own_magJ v) - 2)))), .val (.long (-v)), .second] [(.long (-v)), (.int (Int32.ofNat (A.length + SBG.GetCharsL.sgnL v + (SBG.digitsL (own_magJ v) - 2)))), (.ref t)])) (fun t_ kt_ => XS.lload XMd75.here hx rfl (hb hby d39_281) rfl kt_) ?_
    refine own_go (T' := TMd75) (g' := (mkF mI 286 #[.val (.ref t), .val (.int p), .val (.long v), .second, .val (.int (Int32.ofNat (A.length + SBG.GetCharsL.sgnL v + (SBG.digitsL (own_magJ v) - 2)))), .val (.long (-v)), .second] [(.long (10 : Int64)), (.long (-v)), (.int (Int32.ofNat (A.length + SBG.GetCharsL.sgnL v + (SBG.digitsL (own_magJ v) - 2)))), (.ref t)])) (fun t_ kt_ => ldc2J XMd75 hx hown (mvT hZ (hw _ (List.mem_of_getElem? (i := 228) rfl))) rfl (hb hby d39_283) kt_) ?_
    have spMd76 := own_step (m := (-v)) (d := (10 : Int64)) (e := 1) hT hn hl (own_mP hc12_Md1) (by decide) (by decide)
    refine own_callS own_closed XMd75 hx hZ (y := (⟨"com/example/carter/carter/IncompleteEnqueueExceptionCountByFatePinLaw", "dig", "(Ljava/lang/String;IJJ)I"⟩ : MethodName)) hown (hw _ (List.mem_of_getElem? (i := 209) rfl)) (hw _ (List.mem_of_getElem? (i := 210) rfl)) (by decide) (rl_dig l Z a0 hw [] h0 n0 O cs Scs hcs fo hfo Sfo t td kt n TX S (Int32.ofNat (A.length + SBG.GetCharsL.sgnL v + (SBG.digitsL (own_magJ v) - 2))) (Int32.ofNat (A.length + SBG.GetCharsL.sgnL v + (SBG.digitsL (own_magJ v) - 1))) (-v) (10 : Int64) spMd76.1 (by decide) spMd76.2.1 spMd76.2.2.1 spMd76.2.2.2) (hw _ (List.mem_of_getElem? (i := 211) rfl)) (hw _ (List.mem_of_getElem? (i := 177) rfl)) eMd75 (pc := 286) (Ls := #[.val (.ref t), .val (.int p), .val (.long v), .second, .val (.int (Int32.ofNat (A.length + SBG.GetCharsL.sgnL v + (SBG.digitsL (own_magJ v) - 2)))), .val (.long (-v)), .second]) (argsL := [(.ref t), (.int (Int32.ofNat (A.length + SBG.GetCharsL.sgnL v + (SBG.digitsL (own_magJ v) - 2)))), (.long (-v)), (.long (10 : Int64))]) (rest := []) (by rw [hml]; rfl) (lenOf pd_22 rfl) (W := 0) (Nat.le_of_eq rfl) (by decide) (by decide) (by decide) (by decide) (hb hby d39_286) rfl rfl ?_
    intro TMd77 LMd77 vMd77 XMd77 hQMd77
    obtain ⟨rfl, rfl, eMd77⟩ := hQMd77
    show own_Ends pP eE bB sS _ _ TMd77 (mkF mI 289 #[.val (.ref t), .val (.int p), .val (.long v), .second, .val (.int (Int32.ofNat (A.length + SBG.GetCharsL.sgnL v + (SBG.digitsL (own_magJ v) - 2)))), .val (.long (-v)), .second] [(.int (Int32.ofNat (A.length + SBG.GetCharsL.sgnL v + (SBG.digitsL (own_magJ v) - 1))))])
    refine own_go (T' := TMd77) (g' := (mkF mI 291 #[.val (.ref t), .val (.int p), .val (.long v), .second, .val (.int (Int32.ofNat (A.length + SBG.GetCharsL.sgnL v + (SBG.digitsL (own_magJ v) - 1)))), .val (.long (-v)), .second] [])) (fun t_ kt_ => XS.istore XMd77.here hx rfl (hb hby d39_289) rfl (l' := #[.val (.ref t), .val (.int p), .val (.long v), .second, .val (.int (Int32.ofNat (A.length + SBG.GetCharsL.sgnL v + (SBG.digitsL (own_magJ v) - 1)))), .val (.long (-v)), .second]) rfl kt_) ?_
    refine own_go (T' := TMd77) (g' := (mkF mI 292 #[.val (.ref t), .val (.int p), .val (.long v), .second, .val (.int (Int32.ofNat (A.length + SBG.GetCharsL.sgnL v + (SBG.digitsL (own_magJ v) - 1)))), .val (.long (-v)), .second] [(.ref t)])) (fun t_ kt_ => XS.aloadN XMd77.here hx rfl (hb hby d39_291) rfl rfl kt_) ?_
    refine own_go (T' := TMd77) (g' := (mkF mI 294 #[.val (.ref t), .val (.int p), .val (.long v), .second, .val (.int (Int32.ofNat (A.length + SBG.GetCharsL.sgnL v + (SBG.digitsL (own_magJ v) - 1)))), .val (.long (-v)), .second] [(.int (Int32.ofNat (A.length + SBG.GetCharsL.sgnL v + (SBG.digitsL (own_magJ v) - 1)))), (.ref t)])) (fun t_ kt_ => XS.iload XMd77.here hx rfl (hb hby d39_292) rfl kt_) ?_
    refine own_go (T' := TMd77) (g' := (mkF mI 296 #[.val (.ref t), .val (.int p), .val (.long v), .second, .val (.int (Int32.ofNat (A.length + SBG.GetCharsL.sgnL v + (SBG.digitsL (own_magJ v) - 1)))), .val (.long (-v)), .second] [(.long (-v)), (.int (Int32.ofNat (A.length + SBG.GetCharsL.sgnL v + (SBG.digitsL (own_magJ v) - 1)))), (.ref t)])) (fun t_ kt_ => XS.lload XMd77.here hx rfl (hb hby d39_294) rfl kt_) ?_
    refine own_go (T' := TMd77) (g' := (mkF mI 297 #[.val (.ref t), .val (.int p), .val (.long v), .second, .val (.int (Int32.ofNat (A.length + SBG.GetCharsL.sgnL v + (SBG.digitsL (own_magJ v) - 1)))), .val (.long (-v)), .second] [(.long (1 : Int64)), (.long (-v)), (.int (Int32.ofNat (A.length + SBG.GetCharsL.sgnL v + (SBG.digitsL (own_magJ v) - 1)))), (.ref t)])) (fun t_ kt_ => XS.lconst XMd77.here hx rfl (hb hby d39_296) kt_) ?_
    have spMd78 := own_step (m := (-v)) (d := (1 : Int64)) (e := 0) hT hn hl (own_mP hc12_Md1) (by decide) (by decide)
    refine own_callS own_closed XMd77 hx hZ (y := (⟨"com/example/carter/carter/IncompleteEnqueueExceptionCountByFatePinLaw", "dig", "(Ljava/lang/String;IJJ)I"⟩ : MethodName)) hown (hw _ (List.mem_of_getElem? (i := 209) rfl)) (hw _ (List.mem_of_getElem? (i := 210) rfl)) (by decide) (rl_dig l Z a0 hw [] h0 n0 O cs Scs hcs fo hfo Sfo t td kt n TX S (Int32.ofNat (A.length + SBG.GetCharsL.sgnL v + (SBG.digitsL (own_magJ v) - 1))) (Int32.ofNat (A.length + SBG.GetCharsL.sgnL v + (SBG.digitsL (own_magJ v) - 0))) (-v) (1 : Int64) spMd78.1 (by decide) spMd78.2.1 spMd78.2.2.1 spMd78.2.2.2) (hw _ (List.mem_of_getElem? (i := 211) rfl)) (hw _ (List.mem_of_getElem? (i := 177) rfl)) eMd77 (pc := 297) (Ls := #[.val (.ref t), .val (.int p), .val (.long v), .second, .val (.int (Int32.ofNat (A.length + SBG.GetCharsL.sgnL v + (SBG.digitsL (own_magJ v) - 1)))), .val (.long (-v)), .second]) (argsL := [(.ref t), (.int (Int32.ofNat (A.length + SBG.GetCharsL.sgnL v + (SBG.digitsL (own_magJ v) - 1)))), (.long (-v)), (.long (1 : Int64))]) (rest := []) (by rw [hml]; rfl) (lenOf pd_22 rfl) (W := 0) (Nat.le_of_eq rfl) (by decide) (by decide) (by decide) (by decide) (hb hby d39_297) rfl rfl ?_
    intro TMd79 LMd79 vMd79 XMd79 hQMd79
    obtain ⟨rfl, rfl, eMd79⟩ := hQMd79
    show own_Ends pP eE bB sS _ _ TMd79 (mkF mI 300 #[.val (.ref t), .val (.int p), .val (.long v), .second, .val (.int (Int32.ofNat (A.length + SBG.GetCharsL.sgnL v + (SBG.digitsL (own_magJ v) - 1)))), .val (.long (-v)), .second] [(.int (Int32.ofNat (A.length + SBG.GetCharsL.sgnL v + (SBG.digitsL (own_magJ v) - 0))))])
    refine own_go (T' := TMd79) (g' := (mkF mI 302 #[.val (.ref t), .val (.int p), .val (.long v), .second, .val (.int (Int32.ofNat (A.length + SBG.GetCharsL.sgnL v + (SBG.digitsL (own_magJ v) - 0)))), .val (.long (-v)), .second] [])) (fun t_ kt_ => XS.istore XMd79.here hx rfl (hb hby d39_300) rfl (l' := #[.val (.ref t), .val (.int p), .val (.long v), .second, .val (.int (Int32.ofNat (A.length + SBG.GetCharsL.sgnL v + (SBG.digitsL (own_magJ v) - 0)))), .val (.long (-v)), .second]) rfl kt_) ?_
    refine own_go (T' := TMd79) (g' := (mkF mI 304 #[.val (.ref t), .val (.int p), .val (.long v), .second, .val (.int (Int32.ofNat (A.length + SBG.GetCharsL.sgnL v + (SBG.digitsL (own_magJ v) - 0)))), .val (.long (-v)), .second] [(.int (Int32.ofNat (A.length + SBG.GetCharsL.sgnL v + (SBG.digitsL (own_magJ v) - 0))))])) (fun t_ kt_ => XS.iload XMd79.here hx rfl (hb hby d39_302) rfl kt_) ?_
    refine own_retI XMd79 hx hlk hret (hb hby d39_304) (by decide) (by decide) ?_
    exact ⟨by rw [hr], rfl, eMd79⟩
def own_EL : List (String × Nat) := [("com/example/carter/carter/IncompleteEnqueueException", 63), ("com/example/carter/carter/IncompleteEnqueueException", 68), ("com/example/carter/carter/IncompleteEnqueueException", 70), ("com/example/carter/carter/IncompleteEnqueueException", 72), ("com/example/carter/carter/IncompleteEnqueueException", 74), ("com/example/carter/carter/IncompleteEnqueueExceptionCountByFatePinLaw", 13), ("com/example/carter/carter/IncompleteEnqueueExceptionCountByFatePinLaw", 25), ("com/example/carter/carter/IncompleteEnqueueExceptionCountByFatePinLaw", 27), ("com/example/carter/carter/IncompleteEnqueueExceptionCountByFatePinLaw", 29), ("com/example/carter/carter/IncompleteEnqueueExceptionCountByFatePinLaw", 31)]
def own_txt (va vb vc : Int64) : List Value := (((((((((([] : List Value) ++ ([(.int (111 : Int32)), (.int (102 : Int32)), (.int (32 : Int32))] : List Value)) ++ own_decJ va) ++ ([(.int (32 : Int32)), (.int (106 : Int32)), (.int (111 : Int32)), (.int (98 : Int32)), (.int (115 : Int32)), (.int (44 : Int32)), (.int (32 : Int32))] : List Value)) ++ own_decJ vb) ++ ([(.int (32 : Int32)), (.int (97 : Int32)), (.int (114 : Int32)), (.int (101 : Int32)), (.int (32 : Int32)), (.int (115 : Int32)), (.int (116 : Int32)), (.int (111 : Int32)), (.int (114 : Int32)), (.int (101 : Int32)), (.int (100 : Int32)), (.int (44 : Int32)), (.int (32 : Int32))] : List Value)) ++ own_decJ vc) ++ ([(.int (32 : Int32)), (.int (109 : Int32)), (.int (97 : Int32)), (.int (121 : Int32)), (.int (32 : Int32)), (.int (98 : Int32)), (.int (101 : Int32)), (.int (32 : Int32)), (.int (97 : Int32)), (.int (110 : Int32)), (.int (100 : Int32)), (.int (32 : Int32))] : List Value)) ++ own_decJ ((va - vb) - vc)) ++ ([(.int (32 : Int32)), (.int (97 : Int32)), (.int (114 : Int32)), (.int (101 : Int32)), (.int (32 : Int32)), (.int (110 : Int32)), (.int (111 : Int32)), (.int (116 : Int32))] : List Value))
theorem own_txtLen (va vb vc : Int64) : (own_txt va vb vc).length ≤ 140 := by
  have h1 := own_decJLe va
  have h2 := own_decJLe vb
  have h3 := own_decJLe vc
  have h4 := own_decJLe ((va - vb) - vc)
  unfold own_txt
  simp only [List.length_append, List.length_cons, List.length_nil]
  omega
theorem own_parts (va vb vc : Int64) : ∃ P1 P2 P3 P4 P5 P6 P7 P8 P9 : Int32, own_At (own_txt va vb vc) (0 : Int32) ([(.int (111 : Int32)), (.int (102 : Int32)), (.int (32 : Int32))] : List Value) P1 ∧ own_At (own_txt va vb vc) P1 (own_decJ va) P2 ∧ own_At (own_txt va vb vc) P2 ([(.int (32 : Int32)), (.int (106 : Int32)), (.int (111 : Int32)), (.int (98 : Int32)), (.int (115 : Int32)), (.int (44 : Int32)), (.int (32 : Int32))] : List Value) P3 ∧ own_At (own_txt va vb vc) P3 (own_decJ vb) P4 ∧ own_At (own_txt va vb vc) P4 ([(.int (32 : Int32)), (.int (97 : Int32)), (.int (114 : Int32)), (.int (101 : Int32)), (.int (32 : Int32)), (.int (115 : Int32)), (.int (116 : Int32)), (.int (111 : Int32)), (.int (114 : Int32)), (.int (101 : Int32)), (.int (100 : Int32)), (.int (44 : Int32)), (.int (32 : Int32))] : List Value) P5 ∧ own_At (own_txt va vb vc) P5 (own_decJ vc) P6 ∧ own_At (own_txt va vb vc) P6 ([(.int (32 : Int32)), (.int (109 : Int32)), (.int (97 : Int32)), (.int (121 : Int32)), (.int (32 : Int32)), (.int (98 : Int32)), (.int (101 : Int32)), (.int (32 : Int32)), (.int (97 : Int32)), (.int (110 : Int32)), (.int (100 : Int32)), (.int (32 : Int32))] : List Value) P7 ∧ own_At (own_txt va vb vc) P7 (own_decJ ((va - vb) - vc)) P8 ∧ own_At (own_txt va vb vc) P8 ([(.int (32 : Int32)), (.int (97 : Int32)), (.int (114 : Int32)), (.int (101 : Int32)), (.int (32 : Int32)), (.int (110 : Int32)), (.int (111 : Int32)), (.int (116 : Int32))] : List Value) P9 ∧ P9.toInt = (own_txt va vb vc).length := by
  refine ⟨Int32.ofNat ((([] : List Value) ++ ([(.int (111 : Int32)), (.int (102 : Int32)), (.int (32 : Int32))] : List Value))).length, Int32.ofNat (((([] : List Value) ++ ([(.int (111 : Int32)), (.int (102 : Int32)), (.int (32 : Int32))] : List Value)) ++ own_decJ va)).length, Int32.ofNat ((((([] : List Value) ++ ([(.int (111 : Int32)), (.int (102 : Int32)), (.int (32 : Int32))] : List Value)) ++ own_decJ va) ++ ([(.int (32 : Int32)), (.int (106 : Int32)), (.int (111 : Int32)), (.int (98 : Int32)), (.int (115 : Int32)), (.int (44 : Int32)), (.int (32 : Int32))] : List Value))).length, Int32.ofNat (((((([] : List Value) ++ ([(.int (111 : Int32)), (.int (102 : Int32)), (.int (32 : Int32))] : List Value)) ++ own_decJ va) ++ ([(.int (32 : Int32)), (.int (106 : Int32)), (.int (111 : Int32)), (.int (98 : Int32)), (.int (115 : Int32)), (.int (44 : Int32)), (.int (32 : Int32))] : List Value)) ++ own_decJ vb)).length, Int32.ofNat ((((((([] : List Value) ++ ([(.int (111 : Int32)), (.int (102 : Int32)), (.int (32 : Int32))] : List Value)) ++ own_decJ va) ++ ([(.int (32 : Int32)), (.int (106 : Int32)), (.int (111 : Int32)), (.int (98 : Int32)), (.int (115 : Int32)), (.int (44 : Int32)), (.int (32 : Int32))] : List Value)) ++ own_decJ vb) ++ ([(.int (32 : Int32)), (.int (97 : Int32)), (.int (114 : Int32)), (.int (101 : Int32)), (.int (32 : Int32)), (.int (115 : Int32)), (.int (116 : Int32)), (.int (111 : Int32)), (.int (114 : Int32)), (.int (101 : Int32)), (.int (100 : Int32)), (.int (44 : Int32)), (.int (32 : Int32))] : List Value))).length, Int32.ofNat (((((((([] : List Value) ++ ([(.int (111 : Int32)), (.int (102 : Int32)), (.int (32 : Int32))] : List Value)) ++ own_decJ va) ++ ([(.int (32 : Int32)), (.int (106 : Int32)), (.int (111 : Int32)), (.int (98 : Int32)), (.int (115 : Int32)), (.int (44 : Int32)), (.int (32 : Int32))] : List Value)) ++ own_decJ vb) ++ ([(.int (32 : Int32)), (.int (97 : Int32)), (.int (114 : Int32)), (.int (101 : Int32)), (.int (32 : Int32)), (.int (115 : Int32)), (.int (116 : Int32)), (.int (111 : Int32)), (.int (114 : Int32)), (.int (101 : Int32)), (.int (100 : Int32)), (.int (44 : Int32)), (.int (32 : Int32))] : List Value)) ++ own_decJ vc)).length, Int32.ofNat ((((((((([] : List Value) ++ ([(.int (111 : Int32)), (.int (102 : Int32)), (.int (32 : Int32))] : List Value)) ++ own_decJ va) ++ ([(.int (32 : Int32)), (.int (106 : Int32)), (.int (111 : Int32)), (.int (98 : Int32)), (.int (115 : Int32)), (.int (44 : Int32)), (.int (32 : Int32))] : List Value)) ++ own_decJ vb) ++ ([(.int (32 : Int32)), (.int (97 : Int32)), (.int (114 : Int32)), (.int (101 : Int32)), (.int (32 : Int32)), (.int (115 : Int32)), (.int (116 : Int32)), (.int (111 : Int32)), (.int (114 : Int32)), (.int (101 : Int32)), (.int (100 : Int32)), (.int (44 : Int32)), (.int (32 : Int32))] : List Value)) ++ own_decJ vc) ++ ([(.int (32 : Int32)), (.int (109 : Int32)), (.int (97 : Int32)), (.int (121 : Int32)), (.int (32 : Int32)), (.int (98 : Int32)), (.int (101 : Int32)), (.int (32 : Int32)), (.int (97 : Int32)), (.int (110 : Int32)), (.int (100 : Int32)), (.int (32 : Int32))] : List Value))).length, Int32.ofNat (((((((((([] : List Value) ++ ([(.int (111 : Int32)), (.int (102 : Int32)), (.int (32 : Int32))] : List Value)) ++ own_decJ va) ++ ([(.int (32 : Int32)), (.int (106 : Int32)), (.int (111 : Int32)), (.int (98 : Int32)), (.int (115 : Int32)), (.int (44 : Int32)), (.int (32 : Int32))] : List Value)) ++ own_decJ vb) ++ ([(.int (32 : Int32)), (.int (97 : Int32)), (.int (114 : Int32)), (.int (101 : Int32)), (.int (32 : Int32)), (.int (115 : Int32)), (.int (116 : Int32)), (.int (111 : Int32)), (.int (114 : Int32)), (.int (101 : Int32)), (.int (100 : Int32)), (.int (44 : Int32)), (.int (32 : Int32))] : List Value)) ++ own_decJ vc) ++ ([(.int (32 : Int32)), (.int (109 : Int32)), (.int (97 : Int32)), (.int (121 : Int32)), (.int (32 : Int32)), (.int (98 : Int32)), (.int (101 : Int32)), (.int (32 : Int32)), (.int (97 : Int32)), (.int (110 : Int32)), (.int (100 : Int32)), (.int (32 : Int32))] : List Value)) ++ own_decJ ((va - vb) - vc))).length, Int32.ofNat ((((((((((([] : List Value) ++ ([(.int (111 : Int32)), (.int (102 : Int32)), (.int (32 : Int32))] : List Value)) ++ own_decJ va) ++ ([(.int (32 : Int32)), (.int (106 : Int32)), (.int (111 : Int32)), (.int (98 : Int32)), (.int (115 : Int32)), (.int (44 : Int32)), (.int (32 : Int32))] : List Value)) ++ own_decJ vb) ++ ([(.int (32 : Int32)), (.int (97 : Int32)), (.int (114 : Int32)), (.int (101 : Int32)), (.int (32 : Int32)), (.int (115 : Int32)), (.int (116 : Int32)), (.int (111 : Int32)), (.int (114 : Int32)), (.int (101 : Int32)), (.int (100 : Int32)), (.int (44 : Int32)), (.int (32 : Int32))] : List Value)) ++ own_decJ vc) ++ ([(.int (32 : Int32)), (.int (109 : Int32)), (.int (97 : Int32)), (.int (121 : Int32)), (.int (32 : Int32)), (.int (98 : Int32)), (.int (101 : Int32)), (.int (32 : Int32)), (.int (97 : Int32)), (.int (110 : Int32)), (.int (100 : Int32)), (.int (32 : Int32))] : List Value)) ++ own_decJ ((va - vb) - vc)) ++ ([(.int (32 : Int32)), (.int (97 : Int32)), (.int (114 : Int32)), (.int (101 : Int32)), (.int (32 : Int32)), (.int (110 : Int32)), (.int (111 : Int32)), (.int (116 : Int32))] : List Value))).length, ?_, ?_, ?_, ?_, ?_, ?_, ?_, ?_, ?_, ?_⟩
  · exact ⟨([] : List Value), (own_decJ va ++ (([(.int (32 : Int32)), (.int (106 : Int32)), (.int (111 : Int32)), (.int (98 : Int32)), (.int (115 : Int32)), (.int (44 : Int32)), (.int (32 : Int32))] : List Value) ++ (own_decJ vb ++ (([(.int (32 : Int32)), (.int (97 : Int32)), (.int (114 : Int32)), (.int (101 : Int32)), (.int (32 : Int32)), (.int (115 : Int32)), (.int (116 : Int32)), (.int (111 : Int32)), (.int (114 : Int32)), (.int (101 : Int32)), (.int (100 : Int32)), (.int (44 : Int32)), (.int (32 : Int32))] : List Value) ++ (own_decJ vc ++ (([(.int (32 : Int32)), (.int (109 : Int32)), (.int (97 : Int32)), (.int (121 : Int32)), (.int (32 : Int32)), (.int (98 : Int32)), (.int (101 : Int32)), (.int (32 : Int32)), (.int (97 : Int32)), (.int (110 : Int32)), (.int (100 : Int32)), (.int (32 : Int32))] : List Value) ++ (own_decJ ((va - vb) - vc) ++ (([(.int (32 : Int32)), (.int (97 : Int32)), (.int (114 : Int32)), (.int (101 : Int32)), (.int (32 : Int32)), (.int (110 : Int32)), (.int (111 : Int32)), (.int (116 : Int32))] : List Value) ++ ([] : List Value))))))))), by simp only [own_txt, List.append_assoc, List.nil_append, List.append_nil], rfl, by rw [List.length_append]⟩
  · exact ⟨(([] : List Value) ++ ([(.int (111 : Int32)), (.int (102 : Int32)), (.int (32 : Int32))] : List Value)), (([(.int (32 : Int32)), (.int (106 : Int32)), (.int (111 : Int32)), (.int (98 : Int32)), (.int (115 : Int32)), (.int (44 : Int32)), (.int (32 : Int32))] : List Value) ++ (own_decJ vb ++ (([(.int (32 : Int32)), (.int (97 : Int32)), (.int (114 : Int32)), (.int (101 : Int32)), (.int (32 : Int32)), (.int (115 : Int32)), (.int (116 : Int32)), (.int (111 : Int32)), (.int (114 : Int32)), (.int (101 : Int32)), (.int (100 : Int32)), (.int (44 : Int32)), (.int (32 : Int32))] : List Value) ++ (own_decJ vc ++ (([(.int (32 : Int32)), (.int (109 : Int32)), (.int (97 : Int32)), (.int (121 : Int32)), (.int (32 : Int32)), (.int (98 : Int32)), (.int (101 : Int32)), (.int (32 : Int32)), (.int (97 : Int32)), (.int (110 : Int32)), (.int (100 : Int32)), (.int (32 : Int32))] : List Value) ++ (own_decJ ((va - vb) - vc) ++ (([(.int (32 : Int32)), (.int (97 : Int32)), (.int (114 : Int32)), (.int (101 : Int32)), (.int (32 : Int32)), (.int (110 : Int32)), (.int (111 : Int32)), (.int (116 : Int32))] : List Value) ++ ([] : List Value)))))))), by simp only [own_txt, List.append_assoc, List.nil_append, List.append_nil], rfl, by rw [List.length_append]⟩
  · exact ⟨((([] : List Value) ++ ([(.int (111 : Int32)), (.int (102 : Int32)), (.int (32 : Int32))] : List Value)) ++ own_decJ va), (own_decJ vb ++ (([(.int (32 : Int32)), (.int (97 : Int32)), (.int (114 : Int32)), (.int (101 : Int32)), (.int (32 : Int32)), (.int (115 : Int32)), (.int (116 : Int32)), (.int (111 : Int32)), (.int (114 : Int32)), (.int (101 : Int32)), (.int (100 : Int32)), (.int (44 : Int32)), (.int (32 : Int32))] : List Value) ++ (own_decJ vc ++ (([(.int (32 : Int32)), (.int (109 : Int32)), (.int (97 : Int32)), (.int (121 : Int32)), (.int (32 : Int32)), (.int (98 : Int32)), (.int (101 : Int32)), (.int (32 : Int32)), (.int (97 : Int32)), (.int (110 : Int32)), (.int (100 : Int32)), (.int (32 : Int32))] : List Value) ++ (own_decJ ((va - vb) - vc) ++ (([(.int (32 : Int32)), (.int (97 : Int32)), (.int (114 : Int32)), (.int (101 : Int32)), (.int (32 : Int32)), (.int (110 : Int32)), (.int (111 : Int32)), (.int (116 : Int32))] : List Value) ++ ([] : List Value))))))), by simp only [own_txt, List.append_assoc, List.nil_append, List.append_nil], rfl, by rw [List.length_append]⟩
  · exact ⟨(((([] : List Value) ++ ([(.int (111 : Int32)), (.int (102 : Int32)), (.int (32 : Int32))] : List Value)) ++ own_decJ va) ++ ([(.int (32 : Int32)), (.int (106 : Int32)), (.int (111 : Int32)), (.int (98 : Int32)), (.int (115 : Int32)), (.int (44 : Int32)), (.int (32 : Int32))] : List Value)), (([(.int (32 : Int32)), (.int (97 : Int32)), (.int (114 : Int32)), (.int (101 : Int32)), (.int (32 : Int32)), (.int (115 : Int32)), (.int (116 : Int32)), (.int (111 : Int32)), (.int (114 : Int32)), (.int (101 : Int32)), (.int (100 : Int32)), (.int (44 : Int32)), (.int (32 : Int32))] : List Value) ++ (own_decJ vc ++ (([(.int (32 : Int32)), (.int (109 : Int32)), (.int (97 : Int32)), (.int (121 : Int32)), (.int (32 : Int32)), (.int (98 : Int32)), (.int (101 : Int32)), (.int (32 : Int32)), (.int (97 : Int32)), (.int (110 : Int32)), (.int (100 : Int32)), (.int (32 : Int32))] : List Value) ++ (own_decJ ((va - vb) - vc) ++ (([(.int (32 : Int32)), (.int (97 : Int32)), (.int (114 : Int32)), (.int (101 : Int32)), (.int (32 : Int32)), (.int (110 : Int32)), (.int (111 : Int32)), (.int (116 : Int32))] : List Value) ++ ([] : List Value)))))), by simp only [own_txt, List.append_assoc, List.nil_append, List.append_nil], rfl, by rw [List.length_append]⟩
  · exact ⟨((((([] : List Value) ++ ([(.int (111 : Int32)), (.int (102 : Int32)), (.int (32 : Int32))] : List Value)) ++ own_decJ va) ++ ([(.int (32 : Int32)), (.int (106 : Int32)), (.int (111 : Int32)), (.int (98 : Int32)), (.int (115 : Int32)), (.int (44 : Int32)), (.int (32 : Int32))] : List Value)) ++ own_decJ vb), (own_decJ vc ++ (([(.int (32 : Int32)), (.int (109 : Int32)), (.int (97 : Int32)), (.int (121 : Int32)), (.int (32 : Int32)), (.int (98 : Int32)), (.int (101 : Int32)), (.int (32 : Int32)), (.int (97 : Int32)), (.int (110 : Int32)), (.int (100 : Int32)), (.int (32 : Int32))] : List Value) ++ (own_decJ ((va - vb) - vc) ++ (([(.int (32 : Int32)), (.int (97 : Int32)), (.int (114 : Int32)), (.int (101 : Int32)), (.int (32 : Int32)), (.int (110 : Int32)), (.int (111 : Int32)), (.int (116 : Int32))] : List Value) ++ ([] : List Value))))), by simp only [own_txt, List.append_assoc, List.nil_append, List.append_nil], rfl, by rw [List.length_append]⟩
  · exact ⟨(((((([] : List Value) ++ ([(.int (111 : Int32)), (.int (102 : Int32)), (.int (32 : Int32))] : List Value)) ++ own_decJ va) ++ ([(.int (32 : Int32)), (.int (106 : Int32)), (.int (111 : Int32)), (.int (98 : Int32)), (.int (115 : Int32)), (.int (44 : Int32)), (.int (32 : Int32))] : List Value)) ++ own_decJ vb) ++ ([(.int (32 : Int32)), (.int (97 : Int32)), (.int (114 : Int32)), (.int (101 : Int32)), (.int (32 : Int32)), (.int (115 : Int32)), (.int (116 : Int32)), (.int (111 : Int32)), (.int (114 : Int32)), (.int (101 : Int32)), (.int (100 : Int32)), (.int (44 : Int32)), (.int (32 : Int32))] : List Value)), (([(.int (32 : Int32)), (.int (109 : Int32)), (.int (97 : Int32)), (.int (121 : Int32)), (.int (32 : Int32)), (.int (98 : Int32)), (.int (101 : Int32)), (.int (32 : Int32)), (.int (97 : Int32)), (.int (110 : Int32)), (.int (100 : Int32)), (.int (32 : Int32))] : List Value) ++ (own_decJ ((va - vb) - vc) ++ (([(.int (32 : Int32)), (.int (97 : Int32)), (.int (114 : Int32)), (.int (101 : Int32)), (.int (32 : Int32)), (.int (110 : Int32)), (.int (111 : Int32)), (.int (116 : Int32))] : List Value) ++ ([] : List Value)))), by simp only [own_txt, List.append_assoc, List.nil_append, List.append_nil], rfl, by rw [List.length_append]⟩
  · exact ⟨((((((([] : List Value) ++ ([(.int (111 : Int32)), (.int (102 : Int32)), (.int (32 : Int32))] : List Value)) ++ own_decJ va) ++ ([(.int (32 : Int32)), (.int (106 : Int32)), (.int (111 : Int32)), (.int (98 : Int32)), (.int (115 : Int32)), (.int (44 : Int32)), (.int (32 : Int32))] : List Value)) ++ own_decJ vb) ++ ([(.int (32 : Int32)), (.int (97 : Int32)), (.int (114 : Int32)), (.int (101 : Int32)), (.int (32 : Int32)), (.int (115 : Int32)), (.int (116 : Int32)), (.int (111 : Int32)), (.int (114 : Int32)), (.int (101 : Int32)), (.int (100 : Int32)), (.int (44 : Int32)), (.int (32 : Int32))] : List Value)) ++ own_decJ vc), (own_decJ ((va - vb) - vc) ++ (([(.int (32 : Int32)), (.int (97 : Int32)), (.int (114 : Int32)), (.int (101 : Int32)), (.int (32 : Int32)), (.int (110 : Int32)), (.int (111 : Int32)), (.int (116 : Int32))] : List Value) ++ ([] : List Value))), by simp only [own_txt, List.append_assoc, List.nil_append, List.append_nil], rfl, by rw [List.length_append]⟩
  · exact ⟨(((((((([] : List Value) ++ ([(.int (111 : Int32)), (.int (102 : Int32)), (.int (32 : Int32))] : List Value)) ++ own_decJ va) ++ ([(.int (32 : Int32)), (.int (106 : Int32)), (.int (111 : Int32)), (.int (98 : Int32)), (.int (115 : Int32)), (.int (44 : Int32)), (.int (32 : Int32))] : List Value)) ++ own_decJ vb) ++ ([(.int (32 : Int32)), (.int (97 : Int32)), (.int (114 : Int32)), (.int (101 : Int32)), (.int (32 : Int32)), (.int (115 : Int32)), (.int (116 : Int32)), (.int (111 : Int32)), (.int (114 : Int32)), (.int (101 : Int32)), (.int (100 : Int32)), (.int (44 : Int32)), (.int (32 : Int32))] : List Value)) ++ own_decJ vc) ++ ([(.int (32 : Int32)), (.int (109 : Int32)), (.int (97 : Int32)), (.int (121 : Int32)), (.int (32 : Int32)), (.int (98 : Int32)), (.int (101 : Int32)), (.int (32 : Int32)), (.int (97 : Int32)), (.int (110 : Int32)), (.int (100 : Int32)), (.int (32 : Int32))] : List Value)), (([(.int (32 : Int32)), (.int (97 : Int32)), (.int (114 : Int32)), (.int (101 : Int32)), (.int (32 : Int32)), (.int (110 : Int32)), (.int (111 : Int32)), (.int (116 : Int32))] : List Value) ++ ([] : List Value)), by simp only [own_txt, List.append_assoc, List.nil_append, List.append_nil], rfl, by rw [List.length_append]⟩
  · exact ⟨((((((((([] : List Value) ++ ([(.int (111 : Int32)), (.int (102 : Int32)), (.int (32 : Int32))] : List Value)) ++ own_decJ va) ++ ([(.int (32 : Int32)), (.int (106 : Int32)), (.int (111 : Int32)), (.int (98 : Int32)), (.int (115 : Int32)), (.int (44 : Int32)), (.int (32 : Int32))] : List Value)) ++ own_decJ vb) ++ ([(.int (32 : Int32)), (.int (97 : Int32)), (.int (114 : Int32)), (.int (101 : Int32)), (.int (32 : Int32)), (.int (115 : Int32)), (.int (116 : Int32)), (.int (111 : Int32)), (.int (114 : Int32)), (.int (101 : Int32)), (.int (100 : Int32)), (.int (44 : Int32)), (.int (32 : Int32))] : List Value)) ++ own_decJ vc) ++ ([(.int (32 : Int32)), (.int (109 : Int32)), (.int (97 : Int32)), (.int (121 : Int32)), (.int (32 : Int32)), (.int (98 : Int32)), (.int (101 : Int32)), (.int (32 : Int32)), (.int (97 : Int32)), (.int (110 : Int32)), (.int (100 : Int32)), (.int (32 : Int32))] : List Value)) ++ own_decJ ((va - vb) - vc)), ([] : List Value), by simp only [own_txt, List.append_assoc, List.nil_append, List.append_nil], rfl, by rw [List.length_append]⟩
  · exact own_ofN (Nat.le_trans (own_txtLen va vb vc) (by decide))
theorem own_numF {TX : List Value} {p r : Int32} {v : Int64} (h : own_At TX p (own_decJ v) r) (hl : TX.length ≤ 140) : ∃ A R : List Value, TX = A ++ own_decJ v ++ R ∧ p = Int32.ofNat A.length ∧ ¬ p < 0 ∧ (Int32.ofNat (A.length + SBG.GetCharsL.sgnL v + (SBG.digitsL (own_magJ v) - 0))) = r := by
  obtain ⟨A, R, hT, hp, hr⟩ := h
  have hl' : TX.length = A.length + (own_decJ v).length + R.length := by rw [hT]; simp only [List.length_append]
  refine ⟨A, R, hT, hp, ?_, ?_⟩
  · rw [hp, Int32.lt_iff_toInt_lt, own_ofN (by omega), show (0 : Int32).toInt = 0 from by decide]; omega
  · rw [hr, own_decJLen, Nat.sub_zero, Nat.add_assoc, Nat.add_comm (SBG.GetCharsL.sgnL v)]
def own_QY (Z : State) (h0 : Heap) (n0 : Nat) (vs : List Value) (v : Option Value) (h : Heap) (L : List Loc) : Prop := ∃ (a d : Addr) (k : ClassId) (n : Int32), v = some (.ref a) ∧ Fr n0 L ∧ Keep h0 h [] ∧ own_St Z h a d k n vs ∧ n.toInt = vs.length
theorem d1_0 : decode prog_7_method_2_code 0 = .ok (.new 1, 3) := by decide +kernel
theorem d1_3 : decode prog_7_method_2_code 3 = .ok (.dup, 1) := by decide +kernel
theorem d1_4 : decode prog_7_method_2_code 4 = .ok (.invokespecial 3, 3) := by decide +kernel
theorem d1_7 : decode prog_7_method_2_code 7 = .ok (.ldc 63, 2) := by decide +kernel
theorem d1_9 : decode prog_7_method_2_code 9 = .ok (.invokevirtual 7, 3) := by decide +kernel
theorem d1_12 : decode prog_7_method_2_code 12 = .ok (.lload_n 0, 1) := by decide +kernel
theorem d1_13 : decode prog_7_method_2_code 13 = .ok (.invokevirtual 65, 3) := by decide +kernel
theorem d1_16 : decode prog_7_method_2_code 16 = .ok (.ldc 68, 2) := by decide +kernel
theorem d1_18 : decode prog_7_method_2_code 18 = .ok (.invokevirtual 7, 3) := by decide +kernel
theorem d1_21 : decode prog_7_method_2_code 21 = .ok (.lload_n 2, 1) := by decide +kernel
theorem d1_22 : decode prog_7_method_2_code 22 = .ok (.invokevirtual 65, 3) := by decide +kernel
theorem d1_25 : decode prog_7_method_2_code 25 = .ok (.ldc 70, 2) := by decide +kernel
theorem d1_27 : decode prog_7_method_2_code 27 = .ok (.invokevirtual 7, 3) := by decide +kernel
theorem d1_30 : decode prog_7_method_2_code 30 = .ok (.lload 4, 2) := by decide +kernel
theorem d1_32 : decode prog_7_method_2_code 32 = .ok (.invokevirtual 65, 3) := by decide +kernel
theorem d1_35 : decode prog_7_method_2_code 35 = .ok (.ldc 72, 2) := by decide +kernel
theorem d1_37 : decode prog_7_method_2_code 37 = .ok (.invokevirtual 7, 3) := by decide +kernel
theorem d1_40 : decode prog_7_method_2_code 40 = .ok (.lload_n 0, 1) := by decide +kernel
theorem d1_41 : decode prog_7_method_2_code 41 = .ok (.lload_n 2, 1) := by decide +kernel
theorem d1_42 : decode prog_7_method_2_code 42 = .ok (.lsub, 1) := by decide +kernel
theorem d1_43 : decode prog_7_method_2_code 43 = .ok (.lload 4, 2) := by decide +kernel
theorem d1_45 : decode prog_7_method_2_code 45 = .ok (.lsub, 1) := by decide +kernel
theorem d1_46 : decode prog_7_method_2_code 46 = .ok (.invokevirtual 65, 3) := by decide +kernel
theorem d1_49 : decode prog_7_method_2_code 49 = .ok (.ldc 74, 2) := by decide +kernel
theorem d1_51 : decode prog_7_method_2_code 51 = .ok (.invokevirtual 7, 3) := by decide +kernel
theorem d1_54 : decode prog_7_method_2_code 54 = .ok (.invokevirtual 25, 3) := by decide +kernel
theorem d1_57 : decode prog_7_method_2_code 57 = .ok (.areturn, 1) := by decide +kernel
theorem rl_cb_pn : plainFor (⟨"com/example/carter/carter/IncompleteEnqueueException", "countByFate", "(JJJ)Ljava/lang/String;"⟩ : MethodName) = true := plainFor_of_name (show plainName "com/example/carter/carter/IncompleteEnqueueException" = true by first | (simp [plainName, overriddenIn]; done) | decide +kernel)
theorem rl_cb_ef (mI : MethodId) (va : Int64) (vb : Int64) (vc : Int64) : entryFrame mI #[(.long va), (.long vb), (.long vc)] 6 = mkF mI 0 #[.val (.long va), .second, .val (.long vb), .second, .val (.long vc), .second] [] := by first | (simp [entryFrame, mkF, argsToLocals, Value.category]; done) | rfl
set_option maxRecDepth 65536 in
set_option maxHeartbeats 40000000 in
theorem rl_cb (l : Launch) (Z : State) (a0 : Array Value) (hw : ∀ d ∈ tables_1, d.before a0 Z = true) (ws : List Jvm.Cond) (h0 : Heap) (n0 : Nat) (O : Old Z n0 h0) (cs : Int32) (Scs : Sta Z Z.heap "java/lang/String" "COMPACT_STRINGS" "Z" (.int cs)) (hcs : ¬ cs = 0) (hEL : EW Z a0 own_EL) (hStr : ∀ a ∈ Bundle.stringAtoms, a.before a0 Z = true) (Z0 : n0 ≤ h0.size) (va vb vc : Int64) (sT d1 d2 : Addr) (D1 D2 : Cell) (TB : own_Tb Z sT d1 d2 D1 D2) :
    own_MetS l Z own_EL (⟨"com/example/carter/carter/IncompleteEnqueueException", "countByFate", "(JJJ)Ljava/lang/String;"⟩ : MethodName) prog_7_method_2_code 6 (some (.object "java/lang/String")) ws ({ frames := 6, cells := 23, slots := 3216, locals := 132 } : Room) #[(.long va), (.long vb), (.long vc)] h0 (own_QY Z h0 n0 (own_txt va vb vc)) := by
  refine own_metS rl_cb_pn ?_
  intro pP eE sS mI bB mT cC s₁ hx hby hml hown hnm hret hlk hZ X0 e0 hS hk C0 hh0
  replace hown : (sS.setVm sS.vm).vm.findClass "com/example/carter/carter/IncompleteEnqueueException" = some mI.cls := hown
  refine own_castS (rl_cb_ef mI va vb vc) ?_
  obtain ⟨TNa1, hNa1, XNa1, eNa1, ExNa1, ANa1, DNa1, -, stNa1⟩ := newO X0 hx hZ hown (hw _ (List.mem_of_getElem? (i := 4) rfl)) (hw _ (List.mem_of_getElem? (i := 5) rfl)) (hw _ (List.mem_of_getElem? (i := 6) rfl)) e0 (g := (mkF mI 0 #[.val (.long va), .second, .val (.long vb), .second, .val (.long vc), .second] [])) rfl (hb hby d1_0) (by decide) (by decide)
  obtain ⟨bNa1, gNa1⟩ : ∃ z, z = h0.size := ⟨_, rfl⟩
  rw [← gNa1] at ANa1 DNa1 stNa1
  have g_bNa1 : n0 ≤ bNa1 := Nat.le_trans Z0 (Nat.le_of_eq gNa1.symm)
  have sz_bNa1 : h0.size ≤ bNa1 := Nat.le_trans (Keep.refl h0 []).1 (Nat.le_of_eq gNa1.symm)
  have ZNa4 : n0 ≤ hNa1.size := Nat.le_trans Z0 ExNa1.1
  have KNa5 : Keep h0 hNa1 [] := (Keep.refl h0 []).ext ExNa1
  have ONa6 : Old Z n0 hNa1 := Old.ext O ExNa1
  have CNa7 := own_ce C0 ExNa1
  replace hk := Nat.le_trans hk ExNa1.1
  have F_value_bNa1 : Fld Z hNa1 bNa1 "java/lang/AbstractStringBuilder" "value" "[B" .null := DNa1 (Or.inl (hw _ (List.mem_of_getElem? (i := 23) rfl))) (ty := (.array .byte)) (by decide)
  have F_coder_bNa1 : Fld Z hNa1 bNa1 "java/lang/AbstractStringBuilder" "coder" "B" (.int (0 : Int32)) := DNa1 (Or.inl (hw _ (List.mem_of_getElem? (i := 25) rfl))) (ty := .byte) (by decide)
  have F_count_bNa1 : Fld Z hNa1 bNa1 "java/lang/AbstractStringBuilder" "count" "I" (.int (0 : Int32)) := DNa1 (Or.inl (hw _ (List.mem_of_getElem? (i := 56) rfl))) (ty := .int) (by decide)
  refine own_goS (T' := TNa1) (g' := (mkF mI 3 #[.val (.long va), .second, .val (.long vb), .second, .val (.long vc), .second] [(.ref bNa1)])) (fun t_ kt_ => stNa1 _ kt_) ?_
  refine own_goS (T' := TNa1) (g' := (mkF mI 4 #[.val (.long va), .second, .val (.long vb), .second, .val (.long vc), .second] [(.ref bNa1), (.ref bNa1)])) (fun t_ kt_ => XS.dup XNa1.here hx rfl (hb hby d1_3) rfl rfl kt_) ?_
  refine own_callI own_closedS XNa1 hx hZ (y := (⟨"java/lang/StringBuilder", "<init>", "()V"⟩ : MethodName)) rfl hown (hw _ (List.mem_of_getElem? (i := 7) rfl)) (hw _ (List.mem_of_getElem? (i := 8) rfl)) (by decide) (rj_sbInit l Z a0 hw [] hNa1 n0 ONa6 cs Scs hcs ZNa4 bNa1 ANa1 F_value_bNa1 F_coder_bNa1 F_count_bNa1 g_bNa1) (hw _ (List.mem_of_getElem? (i := 9) rfl)) (hw _ (List.mem_of_getElem? (i := 6) rfl)) (b := bNa1) eNa1 (pc := 4) (Ls := #[.val (.long va), .second, .val (.long vb), .second, .val (.long vc), .second]) (argsL := []) (rest := [(.ref bNa1)]) (by rw [hml]; rfl) (lenOf pd_23 rfl) (W := 1) (Nat.le_of_eq rfl) (by decide) (by decide) (by decide) (by decide) (hb hby d1_4) rfl rfl ?_
  intro TNa8 LNa8 vNa8 XNa8 hQNa8
  obtain ⟨rfl, NNa8, KNa8, daNa8, kNa8, BNa8, hdaNa8⟩ := hQNa8
  have CNa8 := own_ck CNa7 KNa8 (allS (own_sb hZ.alike ANa1) all0)
  have SFNa8 := own_sk CNa7 KNa8 (allS (own_sb hZ.alike ANa1) all0) (Safe.new hdaNa8)
  have ONa8 : Old Z n0 TNa8.heap := ONa6.keep KNa8 (allS g_bNa1 all0)
  have ZNa8 : n0 ≤ TNa8.heap.size := Nat.le_trans ZNa4 KNa8.1
  have KxNa8 : Keep h0 TNa8.heap [] := KNa5.trans KNa8 (allS (Or.inr sz_bNa1) all0)
  have g_dNa8 : n0 ≤ daNa8 := Nat.le_trans ZNa4 hdaNa8
  have szNa8 : h0.size ≤ daNa8 := Nat.le_trans KNa5.1 hdaNa8
  have NNa8a := Fr.app (Fr.nil n0) NNa8
  replace hk := Nat.le_trans hk KNa8.1
  show own_EndsS _ _ pP eE bB sS _ _ TNa8 (mkF mI 7 #[.val (.long va), .second, .val (.long vb), .second, .val (.long vc), .second] [(.ref bNa1)])
  obtain ⟨aNa9, TNa9, hNa9, vmNa9, kNa9, bNa9, kkNa9, XNa9, eNa9, ExNa9, hS, hk, hZ, hown, ENa9, FcNa9, FvNa9, VNa9, CNa9, CsNa9, sfNa9, stNa9⟩ := own_ldc XNa8 hx hZ hown (hw _ (List.mem_of_getElem? (i := 26) rfl)) hStr rfl hS hk hEL (List.mem_of_getElem? (i := 0) rfl) CNa8 (vs := [(.int (111 : Int32)), (.int (102 : Int32)), (.int (32 : Int32))]) (z := 3) ⟨by decide, by decide⟩ (by decide) rfl (g := (mkF mI 7 #[.val (.long va), .second, .val (.long vb), .second, .val (.long vc), .second] [(.ref bNa1)])) rfl (hb hby d1_7) (n := 12) (by decide) (by decide) (by decide) (by decide)
  have BNa9 := BNa8.ext ExNa9
  have SFNa9 := CsNa9.safe BNa8.2.2.2.2.1.lt SFNa8
  have qbNa9 := sfNa9 bNa1 (own_sb hZ.alike BNa9.1)
  have qdNa9 := sfNa9 daNa8 SFNa9
  have ONa9 := Old.ext ONa8 ExNa9
  have ZNa9 : n0 ≤ hNa9.size := Nat.le_trans ZNa8 ExNa9.1
  have KxNa9 : Keep h0 hNa9 [] := KxNa8.ext ExNa9
  refine own_goS (T' := TNa9) (g' := (mkF mI 9 #[.val (.long va), .second, .val (.long vb), .second, .val (.long vc), .second] [(.ref aNa9), (.ref bNa1)])) (fun t_ kt_ => stNa9 _ kt_) ?_
  have ubNa10 : ([(.int (111 : Int32)), (.int (102 : Int32)), (.int (32 : Int32))] : List Value).length ≤ 3 := Nat.le_refl 3
  have sdNa10 := own_side (n := (0 : Int32)) (z := (16 : Int32)) (vs := ([] : List Value)) (us := [(.int (111 : Int32)), (.int (102 : Int32)), (.int (32 : Int32))]) (by decide) (by decide) (by have h1 := (show ([] : List Value).length ≤ 0 from Nat.le_refl 0); have h2 := ubNa10; omega)
  refine own_callV own_closedS XNa9 hx hZ (y := (⟨"java/lang/StringBuilder", "append", "(Ljava/lang/String;)Ljava/lang/StringBuilder;"⟩ : MethodName)) (z := (⟨"java/lang/StringBuilder", "append", "(Ljava/lang/String;)Ljava/lang/StringBuilder;"⟩ : MethodName)) hown (hw _ (List.mem_of_getElem? (i := 32) rfl)) (hw _ (List.mem_of_getElem? (i := 33) rfl)) (hw _ (List.mem_of_getElem? (i := 35) rfl)) (hw _ (List.mem_of_getElem? (i := 34) rfl)) (hw _ (List.mem_of_getElem? (i := 35) rfl)) rfl (by decide) (rj_appS l Z a0 hw [] hNa9 n0 ONa9 cs Scs hcs ZNa9 bNa1 aNa9 daNa8 bNa9 kNa8 kkNa9 (16 : Int32) 3 (0 : Int32) (Int32.ofNat (([] : List Value).length + ([(.int (111 : Int32)), (.int (102 : Int32)), (.int (32 : Int32))] : List Value).length)) ([] : List Value) [(.int (111 : Int32)), (.int (102 : Int32)), (.int (32 : Int32))] BNa9 ⟨ENa9, FcNa9, FvNa9, VNa9⟩ g_bNa1 g_dNa8 (Ne.symm qbNa9.1) (Ne.symm qbNa9.2) (Ne.symm qdNa9.2) sdNa10.1 sdNa10.2.1 (by decide) sdNa10.2.2.1 sdNa10.2.2.2.1 sdNa10.2.2.2.2.1 (by decide) rfl sdNa10.2.2.2.2.2.1 sdNa10.2.2.2.2.2.2.1 sdNa10.2.2.2.2.2.2.2.1 sdNa10.2.2.2.2.2.2.2.2.1) (hw _ (List.mem_of_getElem? (i := 36) rfl)) (hw _ (List.mem_of_getElem? (i := 6) rfl)) eNa9 BNa9.1 (pc := 9) (Ls := #[.val (.long va), .second, .val (.long vb), .second, .val (.long vc), .second]) (argsL := [(.ref aNa9)]) (rest := []) (by rw [hml]; rfl) (lenOf pd_24 rfl) (W := 0) (Nat.le_of_eq rfl) (by decide) (by decide) (by decide) (by decide) (hb hby d1_9) rfl rfl ?_
  intro TNa11 LNa11 vNa11 XNa11 hQNa11
  obtain ⟨rfl, NNa11, KNa11, daNa11, kNa11, zNa11, BNa11, hdaNa11, hzaNa11, hzbNa11⟩ := hQNa11
  have CNa11 := own_ck CNa9 KNa11 (allS (own_sb hZ.alike BNa9.1) (allS SFNa9 all0))
  have SFNa11 := own_sn CNa9 KNa11 (allS (own_sb hZ.alike BNa9.1) (allS SFNa9 all0)) SFNa9 hdaNa11
  have ONa11 : Old Z n0 TNa11.heap := ONa9.keep KNa11 (allS g_bNa1 (allS g_dNa8 all0))
  have ZNa11 : n0 ≤ TNa11.heap.size := Nat.le_trans ZNa9 KNa11.1
  have KxNa11 : Keep h0 TNa11.heap [] := KxNa9.trans KNa11 (allS (Or.inr sz_bNa1) (allS (Or.inr szNa8) all0))
  have g_dNa11 : n0 ≤ daNa11 := hdaNa11.elim (fun q => by rw [q]; exact g_dNa8) (fun q => Nat.le_trans ZNa9 q)
  have szNa11 : h0.size ≤ daNa11 := hdaNa11.elim (fun q => by rw [q]; exact szNa8) (fun q => Nat.le_trans KxNa9.1 q)
  have NNa11a := Fr.app NNa8a NNa11
  replace hk := Nat.le_trans hk KNa11.1
  have hiNa11 := sdNa10.2.2.2.2.2.2.2.2.2
  obtain ⟨wNa11, hwNa11⟩ : ∃ w : List Value, w = ([] : List Value) ++ [(.int (111 : Int32)), (.int (102 : Int32)), (.int (32 : Int32))] := ⟨_, rfl⟩
  rw [← hwNa11] at BNa11 hiNa11
  obtain ⟨mNa11, hmNa11⟩ : ∃ m, m = (Int32.ofNat (([] : List Value).length + ([(.int (111 : Int32)), (.int (102 : Int32)), (.int (32 : Int32))] : List Value).length)) := ⟨_, rfl⟩
  rw [← hmNa11] at BNa11 hiNa11 hzaNa11
  have hlNa11 : wNa11.length ≤ 3 := by rw [hwNa11, List.length_append]; have h1 := (show ([] : List Value).length ≤ 0 from Nat.le_refl 0); have h2 := ubNa10; omega
  show own_EndsS _ _ pP eE bB sS _ _ TNa11 (mkF mI 12 #[.val (.long va), .second, .val (.long vb), .second, .val (.long vc), .second] [(.ref bNa1)])
  refine own_goS (T' := TNa11) (g' := (mkF mI 13 #[.val (.long va), .second, .val (.long vb), .second, .val (.long vc), .second] [(.long va), (.ref bNa1)])) (fun t_ kt_ => XS.lloadN XNa11.here hx rfl (hb hby d1_12) rfl kt_) ?_
  have ubNa12 : ((own_decJ va) : List Value).length ≤ 21 := own_decJLe va
  have sdNa12 := own_side (n := mNa11) (z := zNa11) (vs := wNa11) (us := (own_decJ va)) hiNa11 hzaNa11 (by have h1 := hlNa11; have h2 := ubNa12; omega)
  refine own_callV own_closedS XNa11 hx hZ (y := (⟨"java/lang/StringBuilder", "append", "(J)Ljava/lang/StringBuilder;"⟩ : MethodName)) (z := (⟨"java/lang/StringBuilder", "append", "(J)Ljava/lang/StringBuilder;"⟩ : MethodName)) hown (hw _ (List.mem_of_getElem? (i := 82) rfl)) (hw _ (List.mem_of_getElem? (i := 83) rfl)) (hw _ (List.mem_of_getElem? (i := 85) rfl)) (hw _ (List.mem_of_getElem? (i := 84) rfl)) (hw _ (List.mem_of_getElem? (i := 85) rfl)) rfl (by decide) (rj_appJ l Z a0 hw [] TNa11.heap n0 ONa11 cs Scs hcs ZNa11 bNa1 va daNa11 kNa11 zNa11 (Int32.ofNat ((own_decJ va) : List Value).length) mNa11 (Int32.ofNat (wNa11.length + ((own_decJ va) : List Value).length)) wNa11 BNa11 g_bNa1 g_dNa11 sdNa12.1 sdNa12.2.1 hzbNa11 sdNa12.2.2.1 sdNa12.2.2.2.1 sdNa12.2.2.2.2.1 rfl sdNa12.2.2.2.2.2.1 sdNa12.2.2.2.2.2.2.1 sdNa12.2.2.2.2.2.2.2.1 sdNa12.2.2.2.2.2.2.2.2.1 sT d1 d2 D1 D2 TB) (hw _ (List.mem_of_getElem? (i := 86) rfl)) (hw _ (List.mem_of_getElem? (i := 6) rfl)) rfl BNa11.1 (pc := 13) (Ls := #[.val (.long va), .second, .val (.long vb), .second, .val (.long vc), .second]) (argsL := [(.long va)]) (rest := []) (by rw [hml]; rfl) (lenOf pd_25 rfl) (W := 0) (Nat.le_of_eq rfl) (by decide) (by decide) (by decide) (by decide) (hb hby d1_13) rfl rfl ?_
  intro TNa13 LNa13 vNa13 XNa13 hQNa13
  obtain ⟨rfl, NNa13, KNa13, daNa13, kNa13, zNa13, BNa13, hdaNa13, hzaNa13, hzbNa13⟩ := hQNa13
  have CNa13 := own_ck CNa11 KNa13 (allS (own_sb hZ.alike BNa11.1) (allS SFNa11 all0))
  have SFNa13 := own_sn CNa11 KNa13 (allS (own_sb hZ.alike BNa11.1) (allS SFNa11 all0)) SFNa11 hdaNa13
  have ONa13 : Old Z n0 TNa13.heap := ONa11.keep KNa13 (allS g_bNa1 (allS g_dNa11 all0))
  have ZNa13 : n0 ≤ TNa13.heap.size := Nat.le_trans ZNa11 KNa13.1
  have KxNa13 : Keep h0 TNa13.heap [] := KxNa11.trans KNa13 (allS (Or.inr sz_bNa1) (allS (Or.inr szNa11) all0))
  have g_dNa13 : n0 ≤ daNa13 := hdaNa13.elim (fun q => by rw [q]; exact g_dNa11) (fun q => Nat.le_trans ZNa11 q)
  have szNa13 : h0.size ≤ daNa13 := hdaNa13.elim (fun q => by rw [q]; exact szNa11) (fun q => Nat.le_trans KxNa11.1 q)
  have NNa13a := Fr.app NNa11a NNa13
  replace hk := Nat.le_trans hk KNa13.1
  have hiNa13 := sdNa12.2.2.2.2.2.2.2.2.2
  obtain ⟨wNa13, hwNa13⟩ : ∃ w : List Value, w = wNa11 ++ (own_decJ va) := ⟨_, rfl⟩
  rw [← hwNa13] at BNa13 hiNa13
  obtain ⟨mNa13, hmNa13⟩ : ∃ m, m = (Int32.ofNat (wNa11.length + ((own_decJ va) : List Value).length)) := ⟨_, rfl⟩
  rw [← hmNa13] at BNa13 hiNa13 hzaNa13
  have hlNa13 : wNa13.length ≤ 24 := by rw [hwNa13, List.length_append]; have h1 := hlNa11; have h2 := ubNa12; omega
  show own_EndsS _ _ pP eE bB sS _ _ TNa13 (mkF mI 16 #[.val (.long va), .second, .val (.long vb), .second, .val (.long vc), .second] [(.ref bNa1)])
  obtain ⟨aNa14, TNa14, hNa14, vmNa14, kNa14, bNa14, kkNa14, XNa14, eNa14, ExNa14, hS, hk, hZ, hown, ENa14, FcNa14, FvNa14, VNa14, CNa14, CsNa14, sfNa14, stNa14⟩ := own_ldc XNa13 hx hZ hown (hw _ (List.mem_of_getElem? (i := 107) rfl)) hStr rfl hS hk hEL (List.mem_of_getElem? (i := 1) rfl) CNa13 (vs := [(.int (32 : Int32)), (.int (106 : Int32)), (.int (111 : Int32)), (.int (98 : Int32)), (.int (115 : Int32)), (.int (44 : Int32)), (.int (32 : Int32))]) (z := 7) ⟨by decide, by decide⟩ (by decide) rfl (g := (mkF mI 16 #[.val (.long va), .second, .val (.long vb), .second, .val (.long vc), .second] [(.ref bNa1)])) rfl (hb hby d1_16) (n := 28) (by decide) (by decide) (by decide) (by decide)
  have BNa14 := BNa13.ext ExNa14
  have SFNa14 := CsNa14.safe BNa13.2.2.2.2.1.lt SFNa13
  have qbNa14 := sfNa14 bNa1 (own_sb hZ.alike BNa14.1)
  have qdNa14 := sfNa14 daNa13 SFNa14
  have ONa14 := Old.ext ONa13 ExNa14
  have ZNa14 : n0 ≤ hNa14.size := Nat.le_trans ZNa13 ExNa14.1
  have KxNa14 : Keep h0 hNa14 [] := KxNa13.ext ExNa14
  refine own_goS (T' := TNa14) (g' := (mkF mI 18 #[.val (.long va), .second, .val (.long vb), .second, .val (.long vc), .second] [(.ref aNa14), (.ref bNa1)])) (fun t_ kt_ => stNa14 _ kt_) ?_
  have ubNa15 : ([(.int (32 : Int32)), (.int (106 : Int32)), (.int (111 : Int32)), (.int (98 : Int32)), (.int (115 : Int32)), (.int (44 : Int32)), (.int (32 : Int32))] : List Value).length ≤ 7 := Nat.le_refl 7
  have sdNa15 := own_side (n := mNa13) (z := zNa13) (vs := wNa13) (us := [(.int (32 : Int32)), (.int (106 : Int32)), (.int (111 : Int32)), (.int (98 : Int32)), (.int (115 : Int32)), (.int (44 : Int32)), (.int (32 : Int32))]) hiNa13 hzaNa13 (by have h1 := hlNa13; have h2 := ubNa15; omega)
  refine own_callV own_closedS XNa14 hx hZ (y := (⟨"java/lang/StringBuilder", "append", "(Ljava/lang/String;)Ljava/lang/StringBuilder;"⟩ : MethodName)) (z := (⟨"java/lang/StringBuilder", "append", "(Ljava/lang/String;)Ljava/lang/StringBuilder;"⟩ : MethodName)) hown (hw _ (List.mem_of_getElem? (i := 32) rfl)) (hw _ (List.mem_of_getElem? (i := 33) rfl)) (hw _ (List.mem_of_getElem? (i := 35) rfl)) (hw _ (List.mem_of_getElem? (i := 34) rfl)) (hw _ (List.mem_of_getElem? (i := 35) rfl)) rfl (by decide) (rj_appS l Z a0 hw [] hNa14 n0 ONa14 cs Scs hcs ZNa14 bNa1 aNa14 daNa13 bNa14 kNa13 kkNa14 zNa13 7 mNa13 (Int32.ofNat (wNa13.length + ([(.int (32 : Int32)), (.int (106 : Int32)), (.int (111 : Int32)), (.int (98 : Int32)), (.int (115 : Int32)), (.int (44 : Int32)), (.int (32 : Int32))] : List Value).length)) wNa13 [(.int (32 : Int32)), (.int (106 : Int32)), (.int (111 : Int32)), (.int (98 : Int32)), (.int (115 : Int32)), (.int (44 : Int32)), (.int (32 : Int32))] BNa14 ⟨ENa14, FcNa14, FvNa14, VNa14⟩ g_bNa1 g_dNa13 (Ne.symm qbNa14.1) (Ne.symm qbNa14.2) (Ne.symm qdNa14.2) sdNa15.1 sdNa15.2.1 hzbNa13 sdNa15.2.2.1 sdNa15.2.2.2.1 sdNa15.2.2.2.2.1 (by decide) rfl sdNa15.2.2.2.2.2.1 sdNa15.2.2.2.2.2.2.1 sdNa15.2.2.2.2.2.2.2.1 sdNa15.2.2.2.2.2.2.2.2.1) (hw _ (List.mem_of_getElem? (i := 36) rfl)) (hw _ (List.mem_of_getElem? (i := 6) rfl)) eNa14 BNa14.1 (pc := 18) (Ls := #[.val (.long va), .second, .val (.long vb), .second, .val (.long vc), .second]) (argsL := [(.ref aNa14)]) (rest := []) (by rw [hml]; rfl) (lenOf pd_24 rfl) (W := 0) (Nat.le_of_eq rfl) (by decide) (by decide) (by decide) (by decide) (hb hby d1_18) rfl rfl ?_
  intro TNa16 LNa16 vNa16 XNa16 hQNa16
  obtain ⟨rfl, NNa16, KNa16, daNa16, kNa16, zNa16, BNa16, hdaNa16, hzaNa16, hzbNa16⟩ := hQNa16
  have CNa16 := own_ck CNa14 KNa16 (allS (own_sb hZ.alike BNa14.1) (allS SFNa14 all0))
  have SFNa16 := own_sn CNa14 KNa16 (allS (own_sb hZ.alike BNa14.1) (allS SFNa14 all0)) SFNa14 hdaNa16
  have ONa16 : Old Z n0 TNa16.heap := ONa14.keep KNa16 (allS g_bNa1 (allS g_dNa13 all0))
  have ZNa16 : n0 ≤ TNa16.heap.size := Nat.le_trans ZNa14 KNa16.1
  have KxNa16 : Keep h0 TNa16.heap [] := KxNa14.trans KNa16 (allS (Or.inr sz_bNa1) (allS (Or.inr szNa13) all0))
  have g_dNa16 : n0 ≤ daNa16 := hdaNa16.elim (fun q => by rw [q]; exact g_dNa13) (fun q => Nat.le_trans ZNa14 q)
  have szNa16 : h0.size ≤ daNa16 := hdaNa16.elim (fun q => by rw [q]; exact szNa13) (fun q => Nat.le_trans KxNa14.1 q)
  have NNa16a := Fr.app NNa13a NNa16
  replace hk := Nat.le_trans hk KNa16.1
  have hiNa16 := sdNa15.2.2.2.2.2.2.2.2.2
  obtain ⟨wNa16, hwNa16⟩ : ∃ w : List Value, w = wNa13 ++ [(.int (32 : Int32)), (.int (106 : Int32)), (.int (111 : Int32)), (.int (98 : Int32)), (.int (115 : Int32)), (.int (44 : Int32)), (.int (32 : Int32))] := ⟨_, rfl⟩
  rw [← hwNa16] at BNa16 hiNa16
  obtain ⟨mNa16, hmNa16⟩ : ∃ m, m = (Int32.ofNat (wNa13.length + ([(.int (32 : Int32)), (.int (106 : Int32)), (.int (111 : Int32)), (.int (98 : Int32)), (.int (115 : Int32)), (.int (44 : Int32)), (.int (32 : Int32))] : List Value).length)) := ⟨_, rfl⟩
  rw [← hmNa16] at BNa16 hiNa16 hzaNa16
  have hlNa16 : wNa16.length ≤ 31 := by rw [hwNa16, List.length_append]; have h1 := hlNa13; have h2 := ubNa15; omega
  show own_EndsS _ _ pP eE bB sS _ _ TNa16 (mkF mI 21 #[.val (.long va), .second, .val (.long vb), .second, .val (.long vc), .second] [(.ref bNa1)])
  refine own_goS (T' := TNa16) (g' := (mkF mI 22 #[.val (.long va), .second, .val (.long vb), .second, .val (.long vc), .second] [(.long vb), (.ref bNa1)])) (fun t_ kt_ => XS.lloadN XNa16.here hx rfl (hb hby d1_21) rfl kt_) ?_
  have ubNa17 : ((own_decJ vb) : List Value).length ≤ 21 := own_decJLe vb
  have sdNa17 := own_side (n := mNa16) (z := zNa16) (vs := wNa16) (us := (own_decJ vb)) hiNa16 hzaNa16 (by have h1 := hlNa16; have h2 := ubNa17; omega)
  refine own_callV own_closedS XNa16 hx hZ (y := (⟨"java/lang/StringBuilder", "append", "(J)Ljava/lang/StringBuilder;"⟩ : MethodName)) (z := (⟨"java/lang/StringBuilder", "append", "(J)Ljava/lang/StringBuilder;"⟩ : MethodName)) hown (hw _ (List.mem_of_getElem? (i := 82) rfl)) (hw _ (List.mem_of_getElem? (i := 83) rfl)) (hw _ (List.mem_of_getElem? (i := 85) rfl)) (hw _ (List.mem_of_getElem? (i := 84) rfl)) (hw _ (List.mem_of_getElem? (i := 85) rfl)) rfl (by decide) (rj_appJ l Z a0 hw [] TNa16.heap n0 ONa16 cs Scs hcs ZNa16 bNa1 vb daNa16 kNa16 zNa16 (Int32.ofNat ((own_decJ vb) : List Value).length) mNa16 (Int32.ofNat (wNa16.length + ((own_decJ vb) : List Value).length)) wNa16 BNa16 g_bNa1 g_dNa16 sdNa17.1 sdNa17.2.1 hzbNa16 sdNa17.2.2.1 sdNa17.2.2.2.1 sdNa17.2.2.2.2.1 rfl sdNa17.2.2.2.2.2.1 sdNa17.2.2.2.2.2.2.1 sdNa17.2.2.2.2.2.2.2.1 sdNa17.2.2.2.2.2.2.2.2.1 sT d1 d2 D1 D2 TB) (hw _ (List.mem_of_getElem? (i := 86) rfl)) (hw _ (List.mem_of_getElem? (i := 6) rfl)) rfl BNa16.1 (pc := 22) (Ls := #[.val (.long va), .second, .val (.long vb), .second, .val (.long vc), .second]) (argsL := [(.long vb)]) (rest := []) (by rw [hml]; rfl) (lenOf pd_25 rfl) (W := 0) (Nat.le_of_eq rfl) (by decide) (by decide) (by decide) (by decide) (hb hby d1_22) rfl rfl ?_
  intro TNa18 LNa18 vNa18 XNa18 hQNa18
  obtain ⟨rfl, NNa18, KNa18, daNa18, kNa18, zNa18, BNa18, hdaNa18, hzaNa18, hzbNa18⟩ := hQNa18
  have CNa18 := own_ck CNa16 KNa18 (allS (own_sb hZ.alike BNa16.1) (allS SFNa16 all0))
  have SFNa18 := own_sn CNa16 KNa18 (allS (own_sb hZ.alike BNa16.1) (allS SFNa16 all0)) SFNa16 hdaNa18
  have ONa18 : Old Z n0 TNa18.heap := ONa16.keep KNa18 (allS g_bNa1 (allS g_dNa16 all0))
  have ZNa18 : n0 ≤ TNa18.heap.size := Nat.le_trans ZNa16 KNa18.1
  have KxNa18 : Keep h0 TNa18.heap [] := KxNa16.trans KNa18 (allS (Or.inr sz_bNa1) (allS (Or.inr szNa16) all0))
  have g_dNa18 : n0 ≤ daNa18 := hdaNa18.elim (fun q => by rw [q]; exact g_dNa16) (fun q => Nat.le_trans ZNa16 q)
  have szNa18 : h0.size ≤ daNa18 := hdaNa18.elim (fun q => by rw [q]; exact szNa16) (fun q => Nat.le_trans KxNa16.1 q)
  have NNa18a := Fr.app NNa16a NNa18
  replace hk := Nat.le_trans hk KNa18.1
  have hiNa18 := sdNa17.2.2.2.2.2.2.2.2.2
  obtain ⟨wNa18, hwNa18⟩ : ∃ w : List Value, w = wNa16 ++ (own_decJ vb) := ⟨_, rfl⟩
  rw [← hwNa18] at BNa18 hiNa18
  obtain ⟨mNa18, hmNa18⟩ : ∃ m, m = (Int32.ofNat (wNa16.length + ((own_decJ vb) : List Value).length)) := ⟨_, rfl⟩
  rw [← hmNa18] at BNa18 hiNa18 hzaNa18
  have hlNa18 : wNa18.length ≤ 52 := by rw [hwNa18, List.length_append]; have h1 := hlNa16; have h2 := ubNa17; omega
  show own_EndsS _ _ pP eE bB sS _ _ TNa18 (mkF mI 25 #[.val (.long va), .second, .val (.long vb), .second, .val (.long vc), .second] [(.ref bNa1)])
  obtain ⟨aNa19, TNa19, hNa19, vmNa19, kNa19, bNa19, kkNa19, XNa19, eNa19, ExNa19, hS, hk, hZ, hown, ENa19, FcNa19, FvNa19, VNa19, CNa19, CsNa19, sfNa19, stNa19⟩ := own_ldc XNa18 hx hZ hown (hw _ (List.mem_of_getElem? (i := 108) rfl)) hStr rfl hS hk hEL (List.mem_of_getElem? (i := 2) rfl) CNa18 (vs := [(.int (32 : Int32)), (.int (97 : Int32)), (.int (114 : Int32)), (.int (101 : Int32)), (.int (32 : Int32)), (.int (115 : Int32)), (.int (116 : Int32)), (.int (111 : Int32)), (.int (114 : Int32)), (.int (101 : Int32)), (.int (100 : Int32)), (.int (44 : Int32)), (.int (32 : Int32))]) (z := 13) ⟨by decide, by decide⟩ (by decide) rfl (g := (mkF mI 25 #[.val (.long va), .second, .val (.long vb), .second, .val (.long vc), .second] [(.ref bNa1)])) rfl (hb hby d1_25) (n := 52) (by decide) (by decide) (by decide) (by decide)
  have BNa19 := BNa18.ext ExNa19
  have SFNa19 := CsNa19.safe BNa18.2.2.2.2.1.lt SFNa18
  have qbNa19 := sfNa19 bNa1 (own_sb hZ.alike BNa19.1)
  have qdNa19 := sfNa19 daNa18 SFNa19
  have ONa19 := Old.ext ONa18 ExNa19
  have ZNa19 : n0 ≤ hNa19.size := Nat.le_trans ZNa18 ExNa19.1
  have KxNa19 : Keep h0 hNa19 [] := KxNa18.ext ExNa19
  refine own_goS (T' := TNa19) (g' := (mkF mI 27 #[.val (.long va), .second, .val (.long vb), .second, .val (.long vc), .second] [(.ref aNa19), (.ref bNa1)])) (fun t_ kt_ => stNa19 _ kt_) ?_
  have ubNa20 : ([(.int (32 : Int32)), (.int (97 : Int32)), (.int (114 : Int32)), (.int (101 : Int32)), (.int (32 : Int32)), (.int (115 : Int32)), (.int (116 : Int32)), (.int (111 : Int32)), (.int (114 : Int32)), (.int (101 : Int32)), (.int (100 : Int32)), (.int (44 : Int32)), (.int (32 : Int32))] : List Value).length ≤ 13 := Nat.le_refl 13
  have sdNa20 := own_side (n := mNa18) (z := zNa18) (vs := wNa18) (us := [(.int (32 : Int32)), (.int (97 : Int32)), (.int (114 : Int32)), (.int (101 : Int32)), (.int (32 : Int32)), (.int (115 : Int32)), (.int (116 : Int32)), (.int (111 : Int32)), (.int (114 : Int32)), (.int (101 : Int32)), (.int (100 : Int32)), (.int (44 : Int32)), (.int (32 : Int32))]) hiNa18 hzaNa18 (by have h1 := hlNa18; have h2 := ubNa20; omega)
  refine own_callV own_closedS XNa19 hx hZ (y := (⟨"java/lang/StringBuilder", "append", "(Ljava/lang/String;)Ljava/lang/StringBuilder;"⟩ : MethodName)) (z := (⟨"java/lang/StringBuilder", "append", "(Ljava/lang/String;)Ljava/lang/StringBuilder;"⟩ : MethodName)) hown (hw _ (List.mem_of_getElem? (i := 32) rfl)) (hw _ (List.mem_of_getElem? (i := 33) rfl)) (hw _ (List.mem_of_getElem? (i := 35) rfl)) (hw _ (List.mem_of_getElem? (i := 34) rfl)) (hw _ (List.mem_of_getElem? (i := 35) rfl)) rfl (by decide) (rj_appS l Z a0 hw [] hNa19 n0 ONa19 cs Scs hcs ZNa19 bNa1 aNa19 daNa18 bNa19 kNa18 kkNa19 zNa18 13 mNa18 (Int32.ofNat (wNa18.length + ([(.int (32 : Int32)), (.int (97 : Int32)), (.int (114 : Int32)), (.int (101 : Int32)), (.int (32 : Int32)), (.int (115 : Int32)), (.int (116 : Int32)), (.int (111 : Int32)), (.int (114 : Int32)), (.int (101 : Int32)), (.int (100 : Int32)), (.int (44 : Int32)), (.int (32 : Int32))] : List Value).length)) wNa18 [(.int (32 : Int32)), (.int (97 : Int32)), (.int (114 : Int32)), (.int (101 : Int32)), (.int (32 : Int32)), (.int (115 : Int32)), (.int (116 : Int32)), (.int (111 : Int32)), (.int (114 : Int32)), (.int (101 : Int32)), (.int (100 : Int32)), (.int (44 : Int32)), (.int (32 : Int32))] BNa19 ⟨ENa19, FcNa19, FvNa19, VNa19⟩ g_bNa1 g_dNa18 (Ne.symm qbNa19.1) (Ne.symm qbNa19.2) (Ne.symm qdNa19.2) sdNa20.1 sdNa20.2.1 hzbNa18 sdNa20.2.2.1 sdNa20.2.2.2.1 sdNa20.2.2.2.2.1 (by decide) rfl sdNa20.2.2.2.2.2.1 sdNa20.2.2.2.2.2.2.1 sdNa20.2.2.2.2.2.2.2.1 sdNa20.2.2.2.2.2.2.2.2.1) (hw _ (List.mem_of_getElem? (i := 36) rfl)) (hw _ (List.mem_of_getElem? (i := 6) rfl)) eNa19 BNa19.1 (pc := 27) (Ls := #[.val (.long va), .second, .val (.long vb), .second, .val (.long vc), .second]) (argsL := [(.ref aNa19)]) (rest := []) (by rw [hml]; rfl) (lenOf pd_24 rfl) (W := 0) (Nat.le_of_eq rfl) (by decide) (by decide) (by decide) (by decide) (hb hby d1_27) rfl rfl ?_
  intro TNa21 LNa21 vNa21 XNa21 hQNa21
  obtain ⟨rfl, NNa21, KNa21, daNa21, kNa21, zNa21, BNa21, hdaNa21, hzaNa21, hzbNa21⟩ := hQNa21
  have CNa21 := own_ck CNa19 KNa21 (allS (own_sb hZ.alike BNa19.1) (allS SFNa19 all0))
  have SFNa21 := own_sn CNa19 KNa21 (allS (own_sb hZ.alike BNa19.1) (allS SFNa19 all0)) SFNa19 hdaNa21
  have ONa21 : Old Z n0 TNa21.heap := ONa19.keep KNa21 (allS g_bNa1 (allS g_dNa18 all0))
  have ZNa21 : n0 ≤ TNa21.heap.size := Nat.le_trans ZNa19 KNa21.1
  have KxNa21 : Keep h0 TNa21.heap [] := KxNa19.trans KNa21 (allS (Or.inr sz_bNa1) (allS (Or.inr szNa18) all0))
  have g_dNa21 : n0 ≤ daNa21 := hdaNa21.elim (fun q => by rw [q]; exact g_dNa18) (fun q => Nat.le_trans ZNa19 q)
  have szNa21 : h0.size ≤ daNa21 := hdaNa21.elim (fun q => by rw [q]; exact szNa18) (fun q => Nat.le_trans KxNa19.1 q)
  have NNa21a := Fr.app NNa18a NNa21
  replace hk := Nat.le_trans hk KNa21.1
  have hiNa21 := sdNa20.2.2.2.2.2.2.2.2.2
  obtain ⟨wNa21, hwNa21⟩ : ∃ w : List Value, w = wNa18 ++ [(.int (32 : Int32)), (.int (97 : Int32)), (.int (114 : Int32)), (.int (101 : Int32)), (.int (32 : Int32)), (.int (115 : Int32)), (.int (116 : Int32)), (.int (111 : Int32)), (.int (114 : Int32)), (.int (101 : Int32)), (.int (100 : Int32)), (.int (44 : Int32)), (.int (32 : Int32))] := ⟨_, rfl⟩
  rw [← hwNa21] at BNa21 hiNa21
  obtain ⟨mNa21, hmNa21⟩ : ∃ m, m = (Int32.ofNat (wNa18.length + ([(.int (32 : Int32)), (.int (97 : Int32)), (.int (114 : Int32)), (.int (101 : Int32)), (.int (32 : Int32)), (.int (115 : Int32)), (.int (116 : Int32)), (.int (111 : Int32)), (.int (114 : Int32)), (.int (101 : Int32)), (.int (100 : Int32)), (.int (44 : Int32)), (.int (32 : Int32))] : List Value).length)) := ⟨_, rfl⟩
  rw [← hmNa21] at BNa21 hiNa21 hzaNa21
  have hlNa21 : wNa21.length ≤ 65 := by rw [hwNa21, List.length_append]; have h1 := hlNa18; have h2 := ubNa20; omega
  show own_EndsS _ _ pP eE bB sS _ _ TNa21 (mkF mI 30 #[.val (.long va), .second, .val (.long vb), .second, .val (.long vc), .second] [(.ref bNa1)])
  refine own_goS (T' := TNa21) (g' := (mkF mI 32 #[.val (.long va), .second, .val (.long vb), .second, .val (.long vc), .second] [(.long vc), (.ref bNa1)])) (fun t_ kt_ => XS.lload XNa21.here hx rfl (hb hby d1_30) rfl kt_) ?_
  have ubNa22 : ((own_decJ vc) : List Value).length ≤ 21 := own_decJLe vc
  have sdNa22 := own_side (n := mNa21) (z := zNa21) (vs := wNa21) (us := (own_decJ vc)) hiNa21 hzaNa21 (by have h1 := hlNa21; have h2 := ubNa22; omega)
  refine own_callV own_closedS XNa21 hx hZ (y := (⟨"java/lang/StringBuilder", "append", "(J)Ljava/lang/StringBuilder;"⟩ : MethodName)) (z := (⟨"java/lang/StringBuilder", "append", "(J)Ljava/lang/StringBuilder;"⟩ : MethodName)) hown (hw _ (List.mem_of_getElem? (i := 82) rfl)) (hw _ (List.mem_of_getElem? (i := 83) rfl)) (hw _ (List.mem_of_getElem? (i := 85) rfl)) (hw _ (List.mem_of_getElem? (i := 84) rfl)) (hw _ (List.mem_of_getElem? (i := 85) rfl)) rfl (by decide) (rj_appJ l Z a0 hw [] TNa21.heap n0 ONa21 cs Scs hcs ZNa21 bNa1 vc daNa21 kNa21 zNa21 (Int32.ofNat ((own_decJ vc) : List Value).length) mNa21 (Int32.ofNat (wNa21.length + ((own_decJ vc) : List Value).length)) wNa21 BNa21 g_bNa1 g_dNa21 sdNa22.1 sdNa22.2.1 hzbNa21 sdNa22.2.2.1 sdNa22.2.2.2.1 sdNa22.2.2.2.2.1 rfl sdNa22.2.2.2.2.2.1 sdNa22.2.2.2.2.2.2.1 sdNa22.2.2.2.2.2.2.2.1 sdNa22.2.2.2.2.2.2.2.2.1 sT d1 d2 D1 D2 TB) (hw _ (List.mem_of_getElem? (i := 86) rfl)) (hw _ (List.mem_of_getElem? (i := 6) rfl)) rfl BNa21.1 (pc := 32) (Ls := #[.val (.long va), .second, .val (.long vb), .second, .val (.long vc), .second]) (argsL := [(.long vc)]) (rest := []) (by rw [hml]; rfl) (lenOf pd_25 rfl) (W := 0) (Nat.le_of_eq rfl) (by decide) (by decide) (by decide) (by decide) (hb hby d1_32) rfl rfl ?_
  intro TNa23 LNa23 vNa23 XNa23 hQNa23
  obtain ⟨rfl, NNa23, KNa23, daNa23, kNa23, zNa23, BNa23, hdaNa23, hzaNa23, hzbNa23⟩ := hQNa23
  have CNa23 := own_ck CNa21 KNa23 (allS (own_sb hZ.alike BNa21.1) (allS SFNa21 all0))
  have SFNa23 := own_sn CNa21 KNa23 (allS (own_sb hZ.alike BNa21.1) (allS SFNa21 all0)) SFNa21 hdaNa23
  have ONa23 : Old Z n0 TNa23.heap := ONa21.keep KNa23 (allS g_bNa1 (allS g_dNa21 all0))
  have ZNa23 : n0 ≤ TNa23.heap.size := Nat.le_trans ZNa21 KNa23.1
  have KxNa23 : Keep h0 TNa23.heap [] := KxNa21.trans KNa23 (allS (Or.inr sz_bNa1) (allS (Or.inr szNa21) all0))
  have g_dNa23 : n0 ≤ daNa23 := hdaNa23.elim (fun q => by rw [q]; exact g_dNa21) (fun q => Nat.le_trans ZNa21 q)
  have szNa23 : h0.size ≤ daNa23 := hdaNa23.elim (fun q => by rw [q]; exact szNa21) (fun q => Nat.le_trans KxNa21.1 q)
  have NNa23a := Fr.app NNa21a NNa23
  replace hk := Nat.le_trans hk KNa23.1
  have hiNa23 := sdNa22.2.2.2.2.2.2.2.2.2
  obtain ⟨wNa23, hwNa23⟩ : ∃ w : List Value, w = wNa21 ++ (own_decJ vc) := ⟨_, rfl⟩
  rw [← hwNa23] at BNa23 hiNa23
  obtain ⟨mNa23, hmNa23⟩ : ∃ m, m = (Int32.ofNat (wNa21.length + ((own_decJ vc) : List Value).length)) := ⟨_, rfl⟩
  rw [← hmNa23] at BNa23 hiNa23 hzaNa23
  have hlNa23 : wNa23.length ≤ 86 := by rw [hwNa23, List.length_append]; have h1 := hlNa21; have h2 := ubNa22; omega
  show own_EndsS _ _ pP eE bB sS _ _ TNa23 (mkF mI 35 #[.val (.long va), .second, .val (.long vb), .second, .val (.long vc), .second] [(.ref bNa1)])
  obtain ⟨aNa24, TNa24, hNa24, vmNa24, kNa24, bNa24, kkNa24, XNa24, eNa24, ExNa24, hS, hk, hZ, hown, ENa24, FcNa24, FvNa24, VNa24, CNa24, CsNa24, sfNa24, stNa24⟩ := own_ldc XNa23 hx hZ hown (hw _ (List.mem_of_getElem? (i := 135) rfl)) hStr rfl hS hk hEL (List.mem_of_getElem? (i := 3) rfl) CNa23 (vs := [(.int (32 : Int32)), (.int (109 : Int32)), (.int (97 : Int32)), (.int (121 : Int32)), (.int (32 : Int32)), (.int (98 : Int32)), (.int (101 : Int32)), (.int (32 : Int32)), (.int (97 : Int32)), (.int (110 : Int32)), (.int (100 : Int32)), (.int (32 : Int32))]) (z := 12) ⟨by decide, by decide⟩ (by decide) rfl (g := (mkF mI 35 #[.val (.long va), .second, .val (.long vb), .second, .val (.long vc), .second] [(.ref bNa1)])) rfl (hb hby d1_35) (n := 48) (by decide) (by decide) (by decide) (by decide)
  have BNa24 := BNa23.ext ExNa24
  have SFNa24 := CsNa24.safe BNa23.2.2.2.2.1.lt SFNa23
  have qbNa24 := sfNa24 bNa1 (own_sb hZ.alike BNa24.1)
  have qdNa24 := sfNa24 daNa23 SFNa24
  have ONa24 := Old.ext ONa23 ExNa24
  have ZNa24 : n0 ≤ hNa24.size := Nat.le_trans ZNa23 ExNa24.1
  have KxNa24 : Keep h0 hNa24 [] := KxNa23.ext ExNa24
  refine own_goS (T' := TNa24) (g' := (mkF mI 37 #[.val (.long va), .second, .val (.long vb), .second, .val (.long vc), .second] [(.ref aNa24), (.ref bNa1)])) (fun t_ kt_ => stNa24 _ kt_) ?_
  have ubNa25 : ([(.int (32 : Int32)), (.int (109 : Int32)), (.int (97 : Int32)), (.int (121 : Int32)), (.int (32 : Int32)), (.int (98 : Int32)), (.int (101 : Int32)), (.int (32 : Int32)), (.int (97 : Int32)), (.int (110 : Int32)), (.int (100 : Int32)), (.int (32 : Int32))] : List Value).length ≤ 12 := Nat.le_refl 12
  have sdNa25 := own_side (n := mNa23) (z := zNa23) (vs := wNa23) (us := [(.int (32 : Int32)), (.int (109 : Int32)), (.int (97 : Int32)), (.int (121 : Int32)), (.int (32 : Int32)), (.int (98 : Int32)), (.int (101 : Int32)), (.int (32 : Int32)), (.int (97 : Int32)), (.int (110 : Int32)), (.int (100 : Int32)), (.int (32 : Int32))]) hiNa23 hzaNa23 (by have h1 := hlNa23; have h2 := ubNa25; omega)
  refine own_callV own_closedS XNa24 hx hZ (y := (⟨"java/lang/StringBuilder", "append", "(Ljava/lang/String;)Ljava/lang/StringBuilder;"⟩ : MethodName)) (z := (⟨"java/lang/StringBuilder", "append", "(Ljava/lang/String;)Ljava/lang/StringBuilder;"⟩ : MethodName)) hown (hw _ (List.mem_of_getElem? (i := 32) rfl)) (hw _ (List.mem_of_getElem? (i := 33) rfl)) (hw _ (List.mem_of_getElem? (i := 35) rfl)) (hw _ (List.mem_of_getElem? (i := 34) rfl)) (hw _ (List.mem_of_getElem? (i := 35) rfl)) rfl (by decide) (rj_appS l Z a0 hw [] hNa24 n0 ONa24 cs Scs hcs ZNa24 bNa1 aNa24 daNa23 bNa24 kNa23 kkNa24 zNa23 12 mNa23 (Int32.ofNat (wNa23.length + ([(.int (32 : Int32)), (.int (109 : Int32)), (.int (97 : Int32)), (.int (121 : Int32)), (.int (32 : Int32)), (.int (98 : Int32)), (.int (101 : Int32)), (.int (32 : Int32)), (.int (97 : Int32)), (.int (110 : Int32)), (.int (100 : Int32)), (.int (32 : Int32))] : List Value).length)) wNa23 [(.int (32 : Int32)), (.int (109 : Int32)), (.int (97 : Int32)), (.int (121 : Int32)), (.int (32 : Int32)), (.int (98 : Int32)), (.int (101 : Int32)), (.int (32 : Int32)), (.int (97 : Int32)), (.int (110 : Int32)), (.int (100 : Int32)), (.int (32 : Int32))] BNa24 ⟨ENa24, FcNa24, FvNa24, VNa24⟩ g_bNa1 g_dNa23 (Ne.symm qbNa24.1) (Ne.symm qbNa24.2) (Ne.symm qdNa24.2) sdNa25.1 sdNa25.2.1 hzbNa23 sdNa25.2.2.1 sdNa25.2.2.2.1 sdNa25.2.2.2.2.1 (by decide) rfl sdNa25.2.2.2.2.2.1 sdNa25.2.2.2.2.2.2.1 sdNa25.2.2.2.2.2.2.2.1 sdNa25.2.2.2.2.2.2.2.2.1) (hw _ (List.mem_of_getElem? (i := 36) rfl)) (hw _ (List.mem_of_getElem? (i := 6) rfl)) eNa24 BNa24.1 (pc := 37) (Ls := #[.val (.long va), .second, .val (.long vb), .second, .val (.long vc), .second]) (argsL := [(.ref aNa24)]) (rest := []) (by rw [hml]; rfl) (lenOf pd_24 rfl) (W := 0) (Nat.le_of_eq rfl) (by decide) (by decide) (by decide) (by decide) (hb hby d1_37) rfl rfl ?_
  intro TNa26 LNa26 vNa26 XNa26 hQNa26
  obtain ⟨rfl, NNa26, KNa26, daNa26, kNa26, zNa26, BNa26, hdaNa26, hzaNa26, hzbNa26⟩ := hQNa26
  have CNa26 := own_ck CNa24 KNa26 (allS (own_sb hZ.alike BNa24.1) (allS SFNa24 all0))
  have SFNa26 := own_sn CNa24 KNa26 (allS (own_sb hZ.alike BNa24.1) (allS SFNa24 all0)) SFNa24 hdaNa26
  have ONa26 : Old Z n0 TNa26.heap := ONa24.keep KNa26 (allS g_bNa1 (allS g_dNa23 all0))
  have ZNa26 : n0 ≤ TNa26.heap.size := Nat.le_trans ZNa24 KNa26.1
  have KxNa26 : Keep h0 TNa26.heap [] := KxNa24.trans KNa26 (allS (Or.inr sz_bNa1) (allS (Or.inr szNa23) all0))
  have g_dNa26 : n0 ≤ daNa26 := hdaNa26.elim (fun q => by rw [q]; exact g_dNa23) (fun q => Nat.le_trans ZNa24 q)
  have szNa26 : h0.size ≤ daNa26 := hdaNa26.elim (fun q => by rw [q]; exact szNa23) (fun q => Nat.le_trans KxNa24.1 q)
  have NNa26a := Fr.app NNa23a NNa26
  replace hk := Nat.le_trans hk KNa26.1
  have hiNa26 := sdNa25.2.2.2.2.2.2.2.2.2
  obtain ⟨wNa26, hwNa26⟩ : ∃ w : List Value, w = wNa23 ++ [(.int (32 : Int32)), (.int (109 : Int32)), (.int (97 : Int32)), (.int (121 : Int32)), (.int (32 : Int32)), (.int (98 : Int32)), (.int (101 : Int32)), (.int (32 : Int32)), (.int (97 : Int32)), (.int (110 : Int32)), (.int (100 : Int32)), (.int (32 : Int32))] := ⟨_, rfl⟩
  rw [← hwNa26] at BNa26 hiNa26
  obtain ⟨mNa26, hmNa26⟩ : ∃ m, m = (Int32.ofNat (wNa23.length + ([(.int (32 : Int32)), (.int (109 : Int32)), (.int (97 : Int32)), (.int (121 : Int32)), (.int (32 : Int32)), (.int (98 : Int32)), (.int (101 : Int32)), (.int (32 : Int32)), (.int (97 : Int32)), (.int (110 : Int32)), (.int (100 : Int32)), (.int (32 : Int32))] : List Value).length)) := ⟨_, rfl⟩
  rw [← hmNa26] at BNa26 hiNa26 hzaNa26
  have hlNa26 : wNa26.length ≤ 98 := by rw [hwNa26, List.length_append]; have h1 := hlNa23; have h2 := ubNa25; omega
  show own_EndsS _ _ pP eE bB sS _ _ TNa26 (mkF mI 40 #[.val (.long va), .second, .val (.long vb), .second, .val (.long vc), .second] [(.ref bNa1)])
  refine own_goS (T' := TNa26) (g' := (mkF mI 41 #[.val (.long va), .second, .val (.long vb), .second, .val (.long vc), .second] [(.long va), (.ref bNa1)])) (fun t_ kt_ => XS.lloadN XNa26.here hx rfl (hb hby d1_40) rfl kt_) ?_
  refine own_goS (T' := TNa26) (g' := (mkF mI 42 #[.val (.long va), .second, .val (.long vb), .second, .val (.long vc), .second] [(.long vb), (.long va), (.ref bNa1)])) (fun t_ kt_ => XS.lloadN XNa26.here hx rfl (hb hby d1_41) rfl kt_) ?_
  refine own_goS (T' := TNa26) (g' := (mkF mI 43 #[.val (.long va), .second, .val (.long vb), .second, .val (.long vc), .second] [(.long (va - vb)), (.ref bNa1)])) (fun t_ kt_ => XS.lsub XNa26.here hx rfl (hb hby d1_42) rfl kt_) ?_
  refine own_goS (T' := TNa26) (g' := (mkF mI 45 #[.val (.long va), .second, .val (.long vb), .second, .val (.long vc), .second] [(.long vc), (.long (va - vb)), (.ref bNa1)])) (fun t_ kt_ => XS.lload XNa26.here hx rfl (hb hby d1_43) rfl kt_) ?_
  refine own_goS (T' := TNa26) (g' := (mkF mI 46 #[.val (.long va), .second, .val (.long vb), .second, .val (.long vc), .second] [(.long ((va - vb) - vc)), (.ref bNa1)])) (fun t_ kt_ => XS.lsub XNa26.here hx rfl (hb hby d1_45) rfl kt_) ?_
  have ubNa27 : ((own_decJ ((va - vb) - vc)) : List Value).length ≤ 21 := own_decJLe ((va - vb) - vc)
  have sdNa27 := own_side (n := mNa26) (z := zNa26) (vs := wNa26) (us := (own_decJ ((va - vb) - vc))) hiNa26 hzaNa26 (by have h1 := hlNa26; have h2 := ubNa27; omega)
  refine own_callV own_closedS XNa26 hx hZ (y := (⟨"java/lang/StringBuilder", "append", "(J)Ljava/lang/StringBuilder;"⟩ : MethodName)) (z := (⟨"java/lang/StringBuilder", "append", "(J)Ljava/lang/StringBuilder;"⟩ : MethodName)) hown (hw _ (List.mem_of_getElem? (i := 82) rfl)) (hw _ (List.mem_of_getElem? (i := 83) rfl)) (hw _ (List.mem_of_getElem? (i := 85) rfl)) (hw _ (List.mem_of_getElem? (i := 84) rfl)) (hw _ (List.mem_of_getElem? (i := 85) rfl)) rfl (by decide) (rj_appJ l Z a0 hw [] TNa26.heap n0 ONa26 cs Scs hcs ZNa26 bNa1 ((va - vb) - vc) daNa26 kNa26 zNa26 (Int32.ofNat ((own_decJ ((va - vb) - vc)) : List Value).length) mNa26 (Int32.ofNat (wNa26.length + ((own_decJ ((va - vb) - vc)) : List Value).length)) wNa26 BNa26 g_bNa1 g_dNa26 sdNa27.1 sdNa27.2.1 hzbNa26 sdNa27.2.2.1 sdNa27.2.2.2.1 sdNa27.2.2.2.2.1 rfl sdNa27.2.2.2.2.2.1 sdNa27.2.2.2.2.2.2.1 sdNa27.2.2.2.2.2.2.2.1 sdNa27.2.2.2.2.2.2.2.2.1 sT d1 d2 D1 D2 TB) (hw _ (List.mem_of_getElem? (i := 86) rfl)) (hw _ (List.mem_of_getElem? (i := 6) rfl)) rfl BNa26.1 (pc := 46) (Ls := #[.val (.long va), .second, .val (.long vb), .second, .val (.long vc), .second]) (argsL := [(.long ((va - vb) - vc))]) (rest := []) (by rw [hml]; rfl) (lenOf pd_25 rfl) (W := 0) (Nat.le_of_eq rfl) (by decide) (by decide) (by decide) (by decide) (hb hby d1_46) rfl rfl ?_
  intro TNa28 LNa28 vNa28 XNa28 hQNa28
  obtain ⟨rfl, NNa28, KNa28, daNa28, kNa28, zNa28, BNa28, hdaNa28, hzaNa28, hzbNa28⟩ := hQNa28
  have CNa28 := own_ck CNa26 KNa28 (allS (own_sb hZ.alike BNa26.1) (allS SFNa26 all0))
  have SFNa28 := own_sn CNa26 KNa28 (allS (own_sb hZ.alike BNa26.1) (allS SFNa26 all0)) SFNa26 hdaNa28
  have ONa28 : Old Z n0 TNa28.heap := ONa26.keep KNa28 (allS g_bNa1 (allS g_dNa26 all0))
  have ZNa28 : n0 ≤ TNa28.heap.size := Nat.le_trans ZNa26 KNa28.1
  have KxNa28 : Keep h0 TNa28.heap [] := KxNa26.trans KNa28 (allS (Or.inr sz_bNa1) (allS (Or.inr szNa26) all0))
  have g_dNa28 : n0 ≤ daNa28 := hdaNa28.elim (fun q => by rw [q]; exact g_dNa26) (fun q => Nat.le_trans ZNa26 q)
  have szNa28 : h0.size ≤ daNa28 := hdaNa28.elim (fun q => by rw [q]; exact szNa26) (fun q => Nat.le_trans KxNa26.1 q)
  have NNa28a := Fr.app NNa26a NNa28
  replace hk := Nat.le_trans hk KNa28.1
  have hiNa28 := sdNa27.2.2.2.2.2.2.2.2.2
  obtain ⟨wNa28, hwNa28⟩ : ∃ w : List Value, w = wNa26 ++ (own_decJ ((va - vb) - vc)) := ⟨_, rfl⟩
  rw [← hwNa28] at BNa28 hiNa28
  obtain ⟨mNa28, hmNa28⟩ : ∃ m, m = (Int32.ofNat (wNa26.length + ((own_decJ ((va - vb) - vc)) : List Value).length)) := ⟨_, rfl⟩
  rw [← hmNa28] at BNa28 hiNa28 hzaNa28
  have hlNa28 : wNa28.length ≤ 119 := by rw [hwNa28, List.length_append]; have h1 := hlNa26; have h2 := ubNa27; omega
  show own_EndsS _ _ pP eE bB sS _ _ TNa28 (mkF mI 49 #[.val (.long va), .second, .val (.long vb), .second, .val (.long vc), .second] [(.ref bNa1)])
  obtain ⟨aNa29, TNa29, hNa29, vmNa29, kNa29, bNa29, kkNa29, XNa29, eNa29, ExNa29, hS, hk, hZ, hown, ENa29, FcNa29, FvNa29, VNa29, CNa29, CsNa29, sfNa29, stNa29⟩ := own_ldc XNa28 hx hZ hown (hw _ (List.mem_of_getElem? (i := 136) rfl)) hStr rfl hS hk hEL (List.mem_of_getElem? (i := 4) rfl) CNa28 (vs := [(.int (32 : Int32)), (.int (97 : Int32)), (.int (114 : Int32)), (.int (101 : Int32)), (.int (32 : Int32)), (.int (110 : Int32)), (.int (111 : Int32)), (.int (116 : Int32))]) (z := 8) ⟨by decide, by decide⟩ (by decide) rfl (g := (mkF mI 49 #[.val (.long va), .second, .val (.long vb), .second, .val (.long vc), .second] [(.ref bNa1)])) rfl (hb hby d1_49) (n := 32) (by decide) (by decide) (by decide) (by decide)
  have BNa29 := BNa28.ext ExNa29
  have SFNa29 := CsNa29.safe BNa28.2.2.2.2.1.lt SFNa28
  have qbNa29 := sfNa29 bNa1 (own_sb hZ.alike BNa29.1)
  have qdNa29 := sfNa29 daNa28 SFNa29
  have ONa29 := Old.ext ONa28 ExNa29
  have ZNa29 : n0 ≤ hNa29.size := Nat.le_trans ZNa28 ExNa29.1
  have KxNa29 : Keep h0 hNa29 [] := KxNa28.ext ExNa29
  refine own_goS (T' := TNa29) (g' := (mkF mI 51 #[.val (.long va), .second, .val (.long vb), .second, .val (.long vc), .second] [(.ref aNa29), (.ref bNa1)])) (fun t_ kt_ => stNa29 _ kt_) ?_
  have ubNa30 : ([(.int (32 : Int32)), (.int (97 : Int32)), (.int (114 : Int32)), (.int (101 : Int32)), (.int (32 : Int32)), (.int (110 : Int32)), (.int (111 : Int32)), (.int (116 : Int32))] : List Value).length ≤ 8 := Nat.le_refl 8
  have sdNa30 := own_side (n := mNa28) (z := zNa28) (vs := wNa28) (us := [(.int (32 : Int32)), (.int (97 : Int32)), (.int (114 : Int32)), (.int (101 : Int32)), (.int (32 : Int32)), (.int (110 : Int32)), (.int (111 : Int32)), (.int (116 : Int32))]) hiNa28 hzaNa28 (by have h1 := hlNa28; have h2 := ubNa30; omega)
  refine own_callV own_closedS XNa29 hx hZ (y := (⟨"java/lang/StringBuilder", "append", "(Ljava/lang/String;)Ljava/lang/StringBuilder;"⟩ : MethodName)) (z := (⟨"java/lang/StringBuilder", "append", "(Ljava/lang/String;)Ljava/lang/StringBuilder;"⟩ : MethodName)) hown (hw _ (List.mem_of_getElem? (i := 32) rfl)) (hw _ (List.mem_of_getElem? (i := 33) rfl)) (hw _ (List.mem_of_getElem? (i := 35) rfl)) (hw _ (List.mem_of_getElem? (i := 34) rfl)) (hw _ (List.mem_of_getElem? (i := 35) rfl)) rfl (by decide) (rj_appS l Z a0 hw [] hNa29 n0 ONa29 cs Scs hcs ZNa29 bNa1 aNa29 daNa28 bNa29 kNa28 kkNa29 zNa28 8 mNa28 (Int32.ofNat (wNa28.length + ([(.int (32 : Int32)), (.int (97 : Int32)), (.int (114 : Int32)), (.int (101 : Int32)), (.int (32 : Int32)), (.int (110 : Int32)), (.int (111 : Int32)), (.int (116 : Int32))] : List Value).length)) wNa28 [(.int (32 : Int32)), (.int (97 : Int32)), (.int (114 : Int32)), (.int (101 : Int32)), (.int (32 : Int32)), (.int (110 : Int32)), (.int (111 : Int32)), (.int (116 : Int32))] BNa29 ⟨ENa29, FcNa29, FvNa29, VNa29⟩ g_bNa1 g_dNa28 (Ne.symm qbNa29.1) (Ne.symm qbNa29.2) (Ne.symm qdNa29.2) sdNa30.1 sdNa30.2.1 hzbNa28 sdNa30.2.2.1 sdNa30.2.2.2.1 sdNa30.2.2.2.2.1 (by decide) rfl sdNa30.2.2.2.2.2.1 sdNa30.2.2.2.2.2.2.1 sdNa30.2.2.2.2.2.2.2.1 sdNa30.2.2.2.2.2.2.2.2.1) (hw _ (List.mem_of_getElem? (i := 36) rfl)) (hw _ (List.mem_of_getElem? (i := 6) rfl)) eNa29 BNa29.1 (pc := 51) (Ls := #[.val (.long va), .second, .val (.long vb), .second, .val (.long vc), .second]) (argsL := [(.ref aNa29)]) (rest := []) (by rw [hml]; rfl) (lenOf pd_24 rfl) (W := 0) (Nat.le_of_eq rfl) (by decide) (by decide) (by decide) (by decide) (hb hby d1_51) rfl rfl ?_
  intro TNa31 LNa31 vNa31 XNa31 hQNa31
  obtain ⟨rfl, NNa31, KNa31, daNa31, kNa31, zNa31, BNa31, hdaNa31, hzaNa31, hzbNa31⟩ := hQNa31
  have CNa31 := own_ck CNa29 KNa31 (allS (own_sb hZ.alike BNa29.1) (allS SFNa29 all0))
  have SFNa31 := own_sn CNa29 KNa31 (allS (own_sb hZ.alike BNa29.1) (allS SFNa29 all0)) SFNa29 hdaNa31
  have ONa31 : Old Z n0 TNa31.heap := ONa29.keep KNa31 (allS g_bNa1 (allS g_dNa28 all0))
  have ZNa31 : n0 ≤ TNa31.heap.size := Nat.le_trans ZNa29 KNa31.1
  have KxNa31 : Keep h0 TNa31.heap [] := KxNa29.trans KNa31 (allS (Or.inr sz_bNa1) (allS (Or.inr szNa28) all0))
  have g_dNa31 : n0 ≤ daNa31 := hdaNa31.elim (fun q => by rw [q]; exact g_dNa28) (fun q => Nat.le_trans ZNa29 q)
  have szNa31 : h0.size ≤ daNa31 := hdaNa31.elim (fun q => by rw [q]; exact szNa28) (fun q => Nat.le_trans KxNa29.1 q)
  have NNa31a := Fr.app NNa28a NNa31
  replace hk := Nat.le_trans hk KNa31.1
  have hiNa31 := sdNa30.2.2.2.2.2.2.2.2.2
  obtain ⟨wNa31, hwNa31⟩ : ∃ w : List Value, w = wNa28 ++ [(.int (32 : Int32)), (.int (97 : Int32)), (.int (114 : Int32)), (.int (101 : Int32)), (.int (32 : Int32)), (.int (110 : Int32)), (.int (111 : Int32)), (.int (116 : Int32))] := ⟨_, rfl⟩
  rw [← hwNa31] at BNa31 hiNa31
  obtain ⟨mNa31, hmNa31⟩ : ∃ m, m = (Int32.ofNat (wNa28.length + ([(.int (32 : Int32)), (.int (97 : Int32)), (.int (114 : Int32)), (.int (101 : Int32)), (.int (32 : Int32)), (.int (110 : Int32)), (.int (111 : Int32)), (.int (116 : Int32))] : List Value).length)) := ⟨_, rfl⟩
  rw [← hmNa31] at BNa31 hiNa31 hzaNa31
  have hlNa31 : wNa31.length ≤ 127 := by rw [hwNa31, List.length_append]; have h1 := hlNa28; have h2 := ubNa30; omega
  show own_EndsS _ _ pP eE bB sS _ _ TNa31 (mkF mI 54 #[.val (.long va), .second, .val (.long vb), .second, .val (.long vc), .second] [(.ref bNa1)])
  have seNa32 := own_side2 (n := mNa31) (z := zNa31) (vs := wNa31) hiNa31 hzaNa31 (by have h1 := hlNa31; omega)
  refine own_callV own_closedS XNa31 hx hZ (y := (⟨"java/lang/StringBuilder", "toString", "()Ljava/lang/String;"⟩ : MethodName)) (z := (⟨"java/lang/StringBuilder", "toString", "()Ljava/lang/String;"⟩ : MethodName)) hown (hw _ (List.mem_of_getElem? (i := 137) rfl)) (hw _ (List.mem_of_getElem? (i := 138) rfl)) (hw _ (List.mem_of_getElem? (i := 140) rfl)) (hw _ (List.mem_of_getElem? (i := 139) rfl)) (hw _ (List.mem_of_getElem? (i := 140) rfl)) rfl (by decide) (rj_toStr l Z a0 hw [] TNa31.heap n0 ONa31 cs Scs hcs ZNa31 bNa1 daNa31 kNa31 zNa31 mNa31 wNa31 BNa31 seNa32.1 seNa32.2.1 seNa32.2.2.1 seNa32.2.2.2) (hw _ (List.mem_of_getElem? (i := 141) rfl)) (hw _ (List.mem_of_getElem? (i := 6) rfl)) rfl BNa31.1 (pc := 54) (Ls := #[.val (.long va), .second, .val (.long vb), .second, .val (.long vc), .second]) (argsL := []) (rest := []) (by rw [hml]; rfl) (lenOf pd_26 rfl) (W := 0) (Nat.le_of_eq rfl) (by decide) (by decide) (by decide) (by decide) (hb hby d1_54) rfl rfl ?_
  intro TNa33 LNa33 vNa33 XNa33 hQNa33
  obtain ⟨aNa33, dNa33, kNa33, rfl, NNa33, KNa33, SNa33, haNa33, hdNa33⟩ := hQNa33
  have CNa33 := own_ck CNa31 KNa33 all0
  replace hk := Nat.le_trans hk KNa33.1
  have NNa33a := Fr.app NNa31a NNa33
  have KxNa33 : Keep h0 TNa33.heap [] := KxNa31.trans KNa33 all0
  have hfin : wNa31 = own_txt va vb vc := by rw [hwNa31, hwNa28, hwNa26, hwNa23, hwNa21, hwNa18, hwNa16, hwNa13, hwNa11]; rfl
  show own_EndsS _ _ pP eE bB sS _ _ TNa33 (mkF mI 57 #[.val (.long va), .second, .val (.long vb), .second, .val (.long vc), .second] [(.ref aNa33)])
  refine own_leaveS XNa33 hlk (some (.ref aNa33)) (fun h => by rw [hret] at h; cases h) hS rfl hk hZ hEL CNa33 (by decide) (by decide) ?_ (fun fs hr => retOut XNa33 hx hret rfl (Or.inr (Or.inr (Or.inr (Or.inr ⟨rfl, rfl, rfl⟩)))) (hb hby d1_57) hr)
  exact ⟨aNa33, dNa33, kNa33, _, rfl, NNa33a, KxNa33, by rw [← hfin]; exact SNa33, by rw [← hfin]; exact hiNa31⟩
def own_Q1 (n0 : Nat) (v : Option Value) (h : Heap) (L : List Loc) : Prop := v = some (.int 1) ∧ Fr n0 L
theorem rm0_pn : plainFor x = true := plainFor_of_name (show plainName "com/example/carter/carter/IncompleteEnqueueExceptionCountByFatePinLaw" = true by first | (simp [plainName, overriddenIn]; done) | decide +kernel)
theorem rm0_ef (mI : MethodId) (va : Int64) (vb : Int64) (vc : Int64) : entryFrame mI #[(.long va), (.long vb), (.long vc)] maxLocals = mkF mI 0 #[.val (.long va), .second, .val (.long vb), .second, .val (.long vc), .second, .unset, .unset, .unset, .unset] [] := by first | (simp [entryFrame, mkF, argsToLocals, Value.category, maxLocals]; done) | rfl
set_option maxRecDepth 65536 in
set_option maxHeartbeats 40000000 in
theorem rm0 (l : Launch) (Z : State) (a0 : Array Value) (hw : ∀ d ∈ tables_1, d.before a0 Z = true) (ws : List Jvm.Cond) (h0 : Heap) (n0 : Nat) (O : Old Z n0 h0) (cs : Int32) (Scs : Sta Z Z.heap "java/lang/String" "COMPACT_STRINGS" "Z" (.int cs)) (hcs : ¬ cs = 0) (fo : Value) (hfo : fo.isRef = true) (Sfo : Sta Z Z.heap "jdk/internal/util/Preconditions" "SIOOBE_FORMATTER" "Ljava/util/function/BiFunction;" fo) (hEL : EW Z a0 own_EL) (hStr : ∀ a ∈ Bundle.stringAtoms, a.before a0 Z = true) (Z0 : n0 ≤ h0.size) (va vb vc : Int64) (sT d1 d2 : Addr) (D1 D2 : Cell) (TB : own_Tb Z sT d1 d2 D1 D2) :
    own_MetS l Z own_EL x code maxLocals ret ws room_1 #[(.long va), (.long vb), (.long vc)] h0 (own_Q1 n0) := by
  refine own_metS rm0_pn ?_
  intro pP eE sS mI bB mT cC s₁ hx hby hml hown hnm hret hlk hZ X0 e0 hS hk C0 hh0
  replace hown : (sS.setVm sS.vm).vm.findClass "com/example/carter/carter/IncompleteEnqueueExceptionCountByFatePinLaw" = some mI.cls := hown
  replace hml : cC.maxLocals = 10 := hml
  replace hret : mT.sig.returnType = (some .boolean) := hret
  refine own_castS (rm0_ef mI va vb vc) ?_
  refine own_goS (T' := s₁) (g' := (mkF mI 1 #[.val (.long va), .second, .val (.long vb), .second, .val (.long vc), .second, .unset, .unset, .unset, .unset] [(.long va)])) (fun t_ kt_ => XS.lloadN X0.here hx rfl (hb hby at_0) rfl kt_) ?_
  refine own_goS (T' := s₁) (g' := (mkF mI 2 #[.val (.long va), .second, .val (.long vb), .second, .val (.long vc), .second, .unset, .unset, .unset, .unset] [(.long vb), (.long va)])) (fun t_ kt_ => XS.lloadN X0.here hx rfl (hb hby at_1) rfl kt_) ?_
  refine own_goS (T' := s₁) (g' := (mkF mI 4 #[.val (.long va), .second, .val (.long vb), .second, .val (.long vc), .second, .unset, .unset, .unset, .unset] [(.long vc), (.long vb), (.long va)])) (fun t_ kt_ => XS.lload X0.here hx rfl (hb hby at_2) rfl kt_) ?_
  refine own_callSS X0 hx hZ (y := (⟨"com/example/carter/carter/IncompleteEnqueueException", "countByFate", "(JJJ)Ljava/lang/String;"⟩ : MethodName)) hown (hw _ (List.mem_of_getElem? (i := 0) rfl)) (hw _ (List.mem_of_getElem? (i := 1) rfl)) (by decide) (rl_cb l Z a0 hw [] h0 n0 O cs Scs hcs hEL hStr Z0 va vb vc sT d1 d2 D1 D2 TB) (hw _ (List.mem_of_getElem? (i := 3) rfl)) (hw _ (List.mem_of_getElem? (i := 2) rfl)) e0 hS hk hEL C0 (pc := 4) (Ls := #[.val (.long va), .second, .val (.long vb), .second, .val (.long vc), .second, .unset, .unset, .unset, .unset]) (argsL := [(.long va), (.long vb), (.long vc)]) (rest := []) (by rw [hml]; rfl) (lenOf pd_27 rfl) (W := 0) (Nat.le_of_eq rfl) (by decide) (by decide) (by decide) (by decide) (hb hby at_4) rfl rfl ?_
  intro TNb1 LNb1 vNb1 vmNb1 k1Nb1 XNb1 hQNb1 hS hk hZ hown CNb1
  obtain ⟨aNb1, dNb1, kNb1, nNb1, rfl, NNb1, KNb1, SNb1, hnNb1⟩ := hQNb1
  have ONb1 : Old Z n0 TNb1.heap := O.keep KNb1 all0
  have ZNb1 : n0 ≤ TNb1.heap.size := Nat.le_trans Z0 KNb1.1
  have NNb1a := Fr.app (Fr.nil n0) NNb1
  have hl := own_txtLen va vb vc
  obtain ⟨P1, P2, P3, P4, P5, P6, P7, P8, P9, hp0, hp1, hp2, hp3, hp4, hp5, hp6, hp7, hp8, hP9⟩ := own_parts va vb vc
  have he : P9 = nNb1 := Int32.toInt_inj.mp (hP9.trans hnNb1.symm)
  show own_EndsS _ _ pP eE bB sS _ _ TNb1 (mkF mI 7 #[.val (.long va), .second, .val (.long vb), .second, .val (.long vc), .second, .unset, .unset, .unset, .unset] [(.ref aNb1)])
  refine own_goS (T' := TNb1) (g' := (mkF mI 9 #[.val (.long va), .second, .val (.long vb), .second, .val (.long vc), .second, .val (.ref aNb1), .unset, .unset, .unset] [])) (fun t_ kt_ => XS.astore XNb1.here hx rfl (hb hby at_7) rfl rfl (l' := #[.val (.long va), .second, .val (.long vb), .second, .val (.long vc), .second, .val (.ref aNb1), .unset, .unset, .unset]) rfl kt_) ?_
  refine own_goS (T' := TNb1) (g' := (mkF mI 11 #[.val (.long va), .second, .val (.long vb), .second, .val (.long vc), .second, .val (.ref aNb1), .unset, .unset, .unset] [(.ref aNb1)])) (fun t_ kt_ => XS.aload XNb1.here hx rfl (hb hby at_9) rfl rfl kt_) ?_
  refine own_goS (T' := TNb1) (g' := (mkF mI 16 #[.val (.long va), .second, .val (.long vb), .second, .val (.long vc), .second, .val (.ref aNb1), .unset, .unset, .unset] [])) (fun t_ kt_ => XS.ifnonnullYes XNb1.here hx rfl (pc0 := 11) (pc' := 16) rfl (hb hby at_11) rfl (by decide) (by decide) kt_) ?_
  refine own_goS (T' := TNb1) (g' := (mkF mI 17 #[.val (.long va), .second, .val (.long vb), .second, .val (.long vc), .second, .val (.ref aNb1), .unset, .unset, .unset] [(.long va)])) (fun t_ kt_ => XS.lloadN XNb1.here hx rfl (hb hby at_16) rfl kt_) ?_
  refine own_goS (T' := TNb1) (g' := (mkF mI 18 #[.val (.long va), .second, .val (.long vb), .second, .val (.long vc), .second, .val (.ref aNb1), .unset, .unset, .unset] [(.long vb), (.long va)])) (fun t_ kt_ => XS.lloadN XNb1.here hx rfl (hb hby at_17) rfl kt_) ?_
  refine own_goS (T' := TNb1) (g' := (mkF mI 20 #[.val (.long va), .second, .val (.long vb), .second, .val (.long vc), .second, .val (.ref aNb1), .unset, .unset, .unset] [(.long vc), (.long vb), (.long va)])) (fun t_ kt_ => XS.lload XNb1.here hx rfl (hb hby at_18) rfl kt_) ?_
  refine own_goS (T' := TNb1) (g' := (mkF mI 21 #[.val (.long va), .second, .val (.long vb), .second, .val (.long vc), .second, .val (.ref aNb1), .unset, .unset, .unset] [(.long (vb + vc)), (.long va)])) (fun t_ kt_ => XS.ladd XNb1.here hx rfl (hb hby at_20) rfl kt_) ?_
  refine own_goS (T' := TNb1) (g' := (mkF mI 22 #[.val (.long va), .second, .val (.long vb), .second, .val (.long vc), .second, .val (.ref aNb1), .unset, .unset, .unset] [(.long (va - (vb + vc)))])) (fun t_ kt_ => XS.lsub XNb1.here hx rfl (hb hby at_21) rfl kt_) ?_
  rw [own_sub3]
  refine own_goS (T' := TNb1) (g' := (mkF mI 24 #[.val (.long va), .second, .val (.long vb), .second, .val (.long vc), .second, .val (.ref aNb1), .val (.long ((va - vb) - vc)), .second, .unset] [])) (fun t_ kt_ => XS.lstore XNb1.here hx rfl (hb hby at_22) rfl (l' := #[.val (.long va), .second, .val (.long vb), .second, .val (.long vc), .second, .val (.ref aNb1), .val (.long ((va - vb) - vc)), .second, .unset]) rfl kt_) ?_
  refine own_goS (T' := TNb1) (g' := (mkF mI 26 #[.val (.long va), .second, .val (.long vb), .second, .val (.long vc), .second, .val (.ref aNb1), .val (.long ((va - vb) - vc)), .second, .unset] [(.ref aNb1)])) (fun t_ kt_ => XS.aload XNb1.here hx rfl (hb hby at_24) rfl rfl kt_) ?_
  refine own_goS (T' := TNb1) (g' := (mkF mI 27 #[.val (.long va), .second, .val (.long vb), .second, .val (.long vc), .second, .val (.ref aNb1), .val (.long ((va - vb) - vc)), .second, .unset] [(.int (0 : Int32)), (.ref aNb1)])) (fun t_ kt_ => XS.iconst XNb1.here hx rfl (hb hby at_26) kt_) ?_
  obtain ⟨aNb2, TNb2, hNb2, vmNb2, kNb2, bNb2, kkNb2, XNb2, eNb2, ExNb2, hS, hk, hZ, hown, ENb2, FcNb2, FvNb2, VNb2, CNb2, CsNb2, sfNb2, stNb2⟩ := own_ldc XNb1 hx hZ hown (hw _ (List.mem_of_getElem? (i := 174) rfl)) hStr rfl hS hk hEL (List.mem_of_getElem? (i := 5) rfl) CNb1 (vs := [(.int (111 : Int32)), (.int (102 : Int32)), (.int (32 : Int32))]) (z := 3) ⟨by decide, by decide⟩ (by decide) rfl (g := (mkF mI 27 #[.val (.long va), .second, .val (.long vb), .second, .val (.long vc), .second, .val (.ref aNb1), .val (.long ((va - vb) - vc)), .second, .unset] [(.int (0 : Int32)), (.ref aNb1)])) rfl (hb hby at_27) (n := 12) (by decide) (by decide) (by decide) (by decide)
  have SNb2 := SNb1.ext ExNb2
  have ONb2 := Old.ext ONb1 ExNb2
  have ZNb2 : n0 ≤ hNb2.size := Nat.le_trans ZNb1 ExNb2.1
  have KxNb2 : Keep h0 hNb2 [] := KNb1.ext ExNb2
  refine own_goS (T' := TNb2) (g' := (mkF mI 29 #[.val (.long va), .second, .val (.long vb), .second, .val (.long vc), .second, .val (.ref aNb1), .val (.long ((va - vb) - vc)), .second, .unset] [(.ref aNb2), (.int (0 : Int32)), (.ref aNb1)])) (fun t_ kt_ => stNb2 _ kt_) ?_
  obtain ⟨u0Nb3, u1Nb3, u2Nb3⟩ := own_litF (z := (3 : Int32)) hp0 hnNb1 hl (by decide) (by decide)
  refine own_callS own_closedS XNb2 hx hZ (y := (⟨"com/example/carter/carter/IncompleteEnqueueExceptionCountByFatePinLaw", "lit", "(Ljava/lang/String;ILjava/lang/String;)I"⟩ : MethodName)) hown (hw _ (List.mem_of_getElem? (i := 175) rfl)) (hw _ (List.mem_of_getElem? (i := 176) rfl)) (by decide) (rl_lit l Z a0 hw [] hNb2 n0 ONb2 cs Scs hcs fo hfo Sfo aNb1 dNb1 kNb1 nNb1 (own_txt va vb vc) SNb2 aNb2 bNb2 kkNb2 3 [(.int (111 : Int32)), (.int (102 : Int32)), (.int (32 : Int32))] ⟨ENb2, FcNb2, FvNb2, VNb2⟩ (0 : Int32) P1 u0Nb3 (by decide) u1Nb3 u2Nb3) (hw _ (List.mem_of_getElem? (i := 178) rfl)) (hw _ (List.mem_of_getElem? (i := 177) rfl)) eNb2 (pc := 29) (Ls := #[.val (.long va), .second, .val (.long vb), .second, .val (.long vc), .second, .val (.ref aNb1), .val (.long ((va - vb) - vc)), .second, .unset]) (argsL := [(.ref aNb1), (.int (0 : Int32)), (.ref aNb2)]) (rest := []) (by rw [hml]; rfl) (lenOf pd_28 rfl) (W := 0) (Nat.le_of_eq rfl) (by decide) (by decide) (by decide) (by decide) (hb hby at_29) rfl rfl ?_
  intro TNb4 LNb4 vNb4 XNb4 hQNb4
  obtain ⟨rfl, rfl, eNb4⟩ := hQNb4
  have NNb4z := Fr.app NNb1a (Fr.nil n0)
  show own_EndsS _ _ pP eE bB sS _ _ TNb4 (mkF mI 32 #[.val (.long va), .second, .val (.long vb), .second, .val (.long vc), .second, .val (.ref aNb1), .val (.long ((va - vb) - vc)), .second, .unset] [(.int P1)])
  refine own_goS (T' := TNb4) (g' := (mkF mI 34 #[.val (.long va), .second, .val (.long vb), .second, .val (.long vc), .second, .val (.ref aNb1), .val (.long ((va - vb) - vc)), .second, .val (.int P1)] [])) (fun t_ kt_ => XS.istore XNb4.here hx rfl (hb hby at_32) rfl (l' := #[.val (.long va), .second, .val (.long vb), .second, .val (.long vc), .second, .val (.ref aNb1), .val (.long ((va - vb) - vc)), .second, .val (.int P1)]) rfl kt_) ?_
  refine own_goS (T' := TNb4) (g' := (mkF mI 36 #[.val (.long va), .second, .val (.long vb), .second, .val (.long vc), .second, .val (.ref aNb1), .val (.long ((va - vb) - vc)), .second, .val (.int P1)] [(.ref aNb1)])) (fun t_ kt_ => XS.aload XNb4.here hx rfl (hb hby at_34) rfl rfl kt_) ?_
  refine own_goS (T' := TNb4) (g' := (mkF mI 38 #[.val (.long va), .second, .val (.long vb), .second, .val (.long vc), .second, .val (.ref aNb1), .val (.long ((va - vb) - vc)), .second, .val (.int P1)] [(.int P1), (.ref aNb1)])) (fun t_ kt_ => XS.iload XNb4.here hx rfl (hb hby at_36) rfl kt_) ?_
  refine own_goS (T' := TNb4) (g' := (mkF mI 39 #[.val (.long va), .second, .val (.long vb), .second, .val (.long vc), .second, .val (.ref aNb1), .val (.long ((va - vb) - vc)), .second, .val (.int P1)] [(.long va), (.int P1), (.ref aNb1)])) (fun t_ kt_ => XS.lloadN XNb4.here hx rfl (hb hby at_38) rfl kt_) ?_
  obtain ⟨ANb5, RNb5, q1Nb5, q2Nb5, q3Nb5, q4Nb5⟩ := own_numF hp1 hl
  refine own_callS own_closedS XNb4 hx hZ (y := (⟨"com/example/carter/carter/IncompleteEnqueueExceptionCountByFatePinLaw", "num", "(Ljava/lang/String;IJ)I"⟩ : MethodName)) hown (hw _ (List.mem_of_getElem? (i := 205) rfl)) (hw _ (List.mem_of_getElem? (i := 206) rfl)) (by decide) (rl_num l Z a0 hw [] hNb2 n0 ONb2 cs Scs hcs fo hfo Sfo aNb1 dNb1 kNb1 nNb1 (own_txt va vb vc) SNb2 P1 P2 va ANb5 RNb5 q1Nb5 hnNb1 hl q2Nb5 q3Nb5 q4Nb5) (hw _ (List.mem_of_getElem? (i := 207) rfl)) (hw _ (List.mem_of_getElem? (i := 177) rfl)) eNb4 (pc := 39) (Ls := #[.val (.long va), .second, .val (.long vb), .second, .val (.long vc), .second, .val (.ref aNb1), .val (.long ((va - vb) - vc)), .second, .val (.int P1)]) (argsL := [(.ref aNb1), (.int P1), (.long va)]) (rest := []) (by rw [hml]; rfl) (lenOf pd_29 rfl) (W := 0) (Nat.le_of_eq rfl) (by decide) (by decide) (by decide) (by decide) (hb hby at_39) rfl rfl ?_
  intro TNb6 LNb6 vNb6 XNb6 hQNb6
  obtain ⟨rfl, rfl, eNb6⟩ := hQNb6
  have NNb6z := Fr.app NNb4z (Fr.nil n0)
  show own_EndsS _ _ pP eE bB sS _ _ TNb6 (mkF mI 42 #[.val (.long va), .second, .val (.long vb), .second, .val (.long vc), .second, .val (.ref aNb1), .val (.long ((va - vb) - vc)), .second, .val (.int P1)] [(.int P2)])
  refine own_goS (T' := TNb6) (g' := (mkF mI 44 #[.val (.long va), .second, .val (.long vb), .second, .val (.long vc), .second, .val (.ref aNb1), .val (.long ((va - vb) - vc)), .second, .val (.int P2)] [])) (fun t_ kt_ => XS.istore XNb6.here hx rfl (hb hby at_42) rfl (l' := #[.val (.long va), .second, .val (.long vb), .second, .val (.long vc), .second, .val (.ref aNb1), .val (.long ((va - vb) - vc)), .second, .val (.int P2)]) rfl kt_) ?_
  refine own_goS (T' := TNb6) (g' := (mkF mI 46 #[.val (.long va), .second, .val (.long vb), .second, .val (.long vc), .second, .val (.ref aNb1), .val (.long ((va - vb) - vc)), .second, .val (.int P2)] [(.ref aNb1)])) (fun t_ kt_ => XS.aload XNb6.here hx rfl (hb hby at_44) rfl rfl kt_) ?_
  refine own_goS (T' := TNb6) (g' := (mkF mI 48 #[.val (.long va), .second, .val (.long vb), .second, .val (.long vc), .second, .val (.ref aNb1), .val (.long ((va - vb) - vc)), .second, .val (.int P2)] [(.int P2), (.ref aNb1)])) (fun t_ kt_ => XS.iload XNb6.here hx rfl (hb hby at_46) rfl kt_) ?_
  obtain ⟨aNb7, TNb7, hNb7, vmNb7, kNb7, bNb7, kkNb7, XNb7, eNb7, ExNb7, hS, hk, hZ, hown, ENb7, FcNb7, FvNb7, VNb7, CNb7, CsNb7, sfNb7, stNb7⟩ := own_ldc XNb6 hx hZ hown (hw _ (List.mem_of_getElem? (i := 229) rfl)) hStr eNb6 hS hk hEL (List.mem_of_getElem? (i := 6) rfl) CNb2 (vs := [(.int (32 : Int32)), (.int (106 : Int32)), (.int (111 : Int32)), (.int (98 : Int32)), (.int (115 : Int32)), (.int (44 : Int32)), (.int (32 : Int32))]) (z := 7) ⟨by decide, by decide⟩ (by decide) rfl (g := (mkF mI 48 #[.val (.long va), .second, .val (.long vb), .second, .val (.long vc), .second, .val (.ref aNb1), .val (.long ((va - vb) - vc)), .second, .val (.int P2)] [(.int P2), (.ref aNb1)])) rfl (hb hby at_48) (n := 28) (by decide) (by decide) (by decide) (by decide)
  have SNb7 := SNb2.ext ExNb7
  have ONb7 := Old.ext ONb2 ExNb7
  have ZNb7 : n0 ≤ hNb7.size := Nat.le_trans ZNb2 ExNb7.1
  have KxNb7 : Keep h0 hNb7 [] := KxNb2.ext ExNb7
  refine own_goS (T' := TNb7) (g' := (mkF mI 50 #[.val (.long va), .second, .val (.long vb), .second, .val (.long vc), .second, .val (.ref aNb1), .val (.long ((va - vb) - vc)), .second, .val (.int P2)] [(.ref aNb7), (.int P2), (.ref aNb1)])) (fun t_ kt_ => stNb7 _ kt_) ?_
  obtain ⟨u0Nb8, u1Nb8, u2Nb8⟩ := own_litF (z := (7 : Int32)) hp2 hnNb1 hl (by decide) (by decide)
  refine own_callS own_closedS XNb7 hx hZ (y := (⟨"com/example/carter/carter/IncompleteEnqueueExceptionCountByFatePinLaw", "lit", "(Ljava/lang/String;ILjava/lang/String;)I"⟩ : MethodName)) hown (hw _ (List.mem_of_getElem? (i := 175) rfl)) (hw _ (List.mem_of_getElem? (i := 176) rfl)) (by decide) (rl_lit l Z a0 hw [] hNb7 n0 ONb7 cs Scs hcs fo hfo Sfo aNb1 dNb1 kNb1 nNb1 (own_txt va vb vc) SNb7 aNb7 bNb7 kkNb7 7 [(.int (32 : Int32)), (.int (106 : Int32)), (.int (111 : Int32)), (.int (98 : Int32)), (.int (115 : Int32)), (.int (44 : Int32)), (.int (32 : Int32))] ⟨ENb7, FcNb7, FvNb7, VNb7⟩ P2 P3 u0Nb8 (by decide) u1Nb8 u2Nb8) (hw _ (List.mem_of_getElem? (i := 178) rfl)) (hw _ (List.mem_of_getElem? (i := 177) rfl)) eNb7 (pc := 50) (Ls := #[.val (.long va), .second, .val (.long vb), .second, .val (.long vc), .second, .val (.ref aNb1), .val (.long ((va - vb) - vc)), .second, .val (.int P2)]) (argsL := [(.ref aNb1), (.int P2), (.ref aNb7)]) (rest := []) (by rw [hml]; rfl) (lenOf pd_28 rfl) (W := 0) (Nat.le_of_eq rfl) (by decide) (by decide) (by decide) (by decide) (hb hby at_50) rfl rfl ?_
  intro TNb9 LNb9 vNb9 XNb9 hQNb9
  obtain ⟨rfl, rfl, eNb9⟩ := hQNb9
  have NNb9z := Fr.app NNb6z (Fr.nil n0)
  show own_EndsS _ _ pP eE bB sS _ _ TNb9 (mkF mI 53 #[.val (.long va), .second, .val (.long vb), .second, .val (.long vc), .second, .val (.ref aNb1), .val (.long ((va - vb) - vc)), .second, .val (.int P2)] [(.int P3)])
  refine own_goS (T' := TNb9) (g' := (mkF mI 55 #[.val (.long va), .second, .val (.long vb), .second, .val (.long vc), .second, .val (.ref aNb1), .val (.long ((va - vb) - vc)), .second, .val (.int P3)] [])) (fun t_ kt_ => XS.istore XNb9.here hx rfl (hb hby at_53) rfl (l' := #[.val (.long va), .second, .val (.long vb), .second, .val (.long vc), .second, .val (.ref aNb1), .val (.long ((va - vb) - vc)), .second, .val (.int P3)]) rfl kt_) ?_
  refine own_goS (T' := TNb9) (g' := (mkF mI 57 #[.val (.long va), .second, .val (.long vb), .second, .val (.long vc), .second, .val (.ref aNb1), .val (.long ((va - vb) - vc)), .second, .val (.int P3)] [(.ref aNb1)])) (fun t_ kt_ => XS.aload XNb9.here hx rfl (hb hby at_55) rfl rfl kt_) ?_
  refine own_goS (T' := TNb9) (g' := (mkF mI 59 #[.val (.long va), .second, .val (.long vb), .second, .val (.long vc), .second, .val (.ref aNb1), .val (.long ((va - vb) - vc)), .second, .val (.int P3)] [(.int P3), (.ref aNb1)])) (fun t_ kt_ => XS.iload XNb9.here hx rfl (hb hby at_57) rfl kt_) ?_
  refine own_goS (T' := TNb9) (g' := (mkF mI 60 #[.val (.long va), .second, .val (.long vb), .second, .val (.long vc), .second, .val (.ref aNb1), .val (.long ((va - vb) - vc)), .second, .val (.int P3)] [(.long vb), (.int P3), (.ref aNb1)])) (fun t_ kt_ => XS.lloadN XNb9.here hx rfl (hb hby at_59) rfl kt_) ?_
  obtain ⟨ANb10, RNb10, q1Nb10, q2Nb10, q3Nb10, q4Nb10⟩ := own_numF hp3 hl
  refine own_callS own_closedS XNb9 hx hZ (y := (⟨"com/example/carter/carter/IncompleteEnqueueExceptionCountByFatePinLaw", "num", "(Ljava/lang/String;IJ)I"⟩ : MethodName)) hown (hw _ (List.mem_of_getElem? (i := 205) rfl)) (hw _ (List.mem_of_getElem? (i := 206) rfl)) (by decide) (rl_num l Z a0 hw [] hNb7 n0 ONb7 cs Scs hcs fo hfo Sfo aNb1 dNb1 kNb1 nNb1 (own_txt va vb vc) SNb7 P3 P4 vb ANb10 RNb10 q1Nb10 hnNb1 hl q2Nb10 q3Nb10 q4Nb10) (hw _ (List.mem_of_getElem? (i := 207) rfl)) (hw _ (List.mem_of_getElem? (i := 177) rfl)) eNb9 (pc := 60) (Ls := #[.val (.long va), .second, .val (.long vb), .second, .val (.long vc), .second, .val (.ref aNb1), .val (.long ((va - vb) - vc)), .second, .val (.int P3)]) (argsL := [(.ref aNb1), (.int P3), (.long vb)]) (rest := []) (by rw [hml]; rfl) (lenOf pd_29 rfl) (W := 0) (Nat.le_of_eq rfl) (by decide) (by decide) (by decide) (by decide) (hb hby at_60) rfl rfl ?_
  intro TNb11 LNb11 vNb11 XNb11 hQNb11
  obtain ⟨rfl, rfl, eNb11⟩ := hQNb11
  have NNb11z := Fr.app NNb9z (Fr.nil n0)
  show own_EndsS _ _ pP eE bB sS _ _ TNb11 (mkF mI 63 #[.val (.long va), .second, .val (.long vb), .second, .val (.long vc), .second, .val (.ref aNb1), .val (.long ((va - vb) - vc)), .second, .val (.int P3)] [(.int P4)])
  refine own_goS (T' := TNb11) (g' := (mkF mI 65 #[.val (.long va), .second, .val (.long vb), .second, .val (.long vc), .second, .val (.ref aNb1), .val (.long ((va - vb) - vc)), .second, .val (.int P4)] [])) (fun t_ kt_ => XS.istore XNb11.here hx rfl (hb hby at_63) rfl (l' := #[.val (.long va), .second, .val (.long vb), .second, .val (.long vc), .second, .val (.ref aNb1), .val (.long ((va - vb) - vc)), .second, .val (.int P4)]) rfl kt_) ?_
  refine own_goS (T' := TNb11) (g' := (mkF mI 67 #[.val (.long va), .second, .val (.long vb), .second, .val (.long vc), .second, .val (.ref aNb1), .val (.long ((va - vb) - vc)), .second, .val (.int P4)] [(.ref aNb1)])) (fun t_ kt_ => XS.aload XNb11.here hx rfl (hb hby at_65) rfl rfl kt_) ?_
  refine own_goS (T' := TNb11) (g' := (mkF mI 69 #[.val (.long va), .second, .val (.long vb), .second, .val (.long vc), .second, .val (.ref aNb1), .val (.long ((va - vb) - vc)), .second, .val (.int P4)] [(.int P4), (.ref aNb1)])) (fun t_ kt_ => XS.iload XNb11.here hx rfl (hb hby at_67) rfl kt_) ?_
  obtain ⟨aNb12, TNb12, hNb12, vmNb12, kNb12, bNb12, kkNb12, XNb12, eNb12, ExNb12, hS, hk, hZ, hown, ENb12, FcNb12, FvNb12, VNb12, CNb12, CsNb12, sfNb12, stNb12⟩ := own_ldc XNb11 hx hZ hown (hw _ (List.mem_of_getElem? (i := 230) rfl)) hStr eNb11 hS hk hEL (List.mem_of_getElem? (i := 7) rfl) CNb7 (vs := [(.int (32 : Int32)), (.int (97 : Int32)), (.int (114 : Int32)), (.int (101 : Int32)), (.int (32 : Int32)), (.int (115 : Int32)), (.int (116 : Int32)), (.int (111 : Int32)), (.int (114 : Int32)), (.int (101 : Int32)), (.int (100 : Int32)), (.int (44 : Int32)), (.int (32 : Int32))]) (z := 13) ⟨by decide, by decide⟩ (by decide) rfl (g := (mkF mI 69 #[.val (.long va), .second, .val (.long vb), .second, .val (.long vc), .second, .val (.ref aNb1), .val (.long ((va - vb) - vc)), .second, .val (.int P4)] [(.int P4), (.ref aNb1)])) rfl (hb hby at_69) (n := 52) (by decide) (by decide) (by decide) (by decide)
  have SNb12 := SNb7.ext ExNb12
  have ONb12 := Old.ext ONb7 ExNb12
  have ZNb12 : n0 ≤ hNb12.size := Nat.le_trans ZNb7 ExNb12.1
  have KxNb12 : Keep h0 hNb12 [] := KxNb7.ext ExNb12
  refine own_goS (T' := TNb12) (g' := (mkF mI 71 #[.val (.long va), .second, .val (.long vb), .second, .val (.long vc), .second, .val (.ref aNb1), .val (.long ((va - vb) - vc)), .second, .val (.int P4)] [(.ref aNb12), (.int P4), (.ref aNb1)])) (fun t_ kt_ => stNb12 _ kt_) ?_
  obtain ⟨u0Nb13, u1Nb13, u2Nb13⟩ := own_litF (z := (13 : Int32)) hp4 hnNb1 hl (by decide) (by decide)
  refine own_callS own_closedS XNb12 hx hZ (y := (⟨"com/example/carter/carter/IncompleteEnqueueExceptionCountByFatePinLaw", "lit", "(Ljava/lang/String;ILjava/lang/String;)I"⟩ : MethodName)) hown (hw _ (List.mem_of_getElem? (i := 175) rfl)) (hw _ (List.mem_of_getElem? (i := 176) rfl)) (by decide) (rl_lit l Z a0 hw [] hNb12 n0 ONb12 cs Scs hcs fo hfo Sfo aNb1 dNb1 kNb1 nNb1 (own_txt va vb vc) SNb12 aNb12 bNb12 kkNb12 13 [(.int (32 : Int32)), (.int (97 : Int32)), (.int (114 : Int32)), (.int (101 : Int32)), (.int (32 : Int32)), (.int (115 : Int32)), (.int (116 : Int32)), (.int (111 : Int32)), (.int (114 : Int32)), (.int (101 : Int32)), (.int (100 : Int32)), (.int (44 : Int32)), (.int (32 : Int32))] ⟨ENb12, FcNb12, FvNb12, VNb12⟩ P4 P5 u0Nb13 (by decide) u1Nb13 u2Nb13) (hw _ (List.mem_of_getElem? (i := 178) rfl)) (hw _ (List.mem_of_getElem? (i := 177) rfl)) eNb12 (pc := 71) (Ls := #[.val (.long va), .second, .val (.long vb), .second, .val (.long vc), .second, .val (.ref aNb1), .val (.long ((va - vb) - vc)), .second, .val (.int P4)]) (argsL := [(.ref aNb1), (.int P4), (.ref aNb12)]) (rest := []) (by rw [hml]; rfl) (lenOf pd_28 rfl) (W := 0) (Nat.le_of_eq rfl) (by decide) (by decide) (by decide) (by decide) (hb hby at_71) rfl rfl ?_
  intro TNb14 LNb14 vNb14 XNb14 hQNb14
  obtain ⟨rfl, rfl, eNb14⟩ := hQNb14
  have NNb14z := Fr.app NNb11z (Fr.nil n0)
  show own_EndsS _ _ pP eE bB sS _ _ TNb14 (mkF mI 74 #[.val (.long va), .second, .val (.long vb), .second, .val (.long vc), .second, .val (.ref aNb1), .val (.long ((va - vb) - vc)), .second, .val (.int P4)] [(.int P5)])
  refine own_goS (T' := TNb14) (g' := (mkF mI 76 #[.val (.long va), .second, .val (.long vb), .second, .val (.long vc), .second, .val (.ref aNb1), .val (.long ((va - vb) - vc)), .second, .val (.int P5)] [])) (fun t_ kt_ => XS.istore XNb14.here hx rfl (hb hby at_74) rfl (l' := #[.val (.long va), .second, .val (.long vb), .second, .val (.long vc), .second, .val (.ref aNb1), .val (.long ((va - vb) - vc)), .second, .val (.int P5)]) rfl kt_) ?_
  refine own_goS (T' := TNb14) (g' := (mkF mI 78 #[.val (.long va), .second, .val (.long vb), .second, .val (.long vc), .second, .val (.ref aNb1), .val (.long ((va - vb) - vc)), .second, .val (.int P5)] [(.ref aNb1)])) (fun t_ kt_ => XS.aload XNb14.here hx rfl (hb hby at_76) rfl rfl kt_) ?_
  refine own_goS (T' := TNb14) (g' := (mkF mI 80 #[.val (.long va), .second, .val (.long vb), .second, .val (.long vc), .second, .val (.ref aNb1), .val (.long ((va - vb) - vc)), .second, .val (.int P5)] [(.int P5), (.ref aNb1)])) (fun t_ kt_ => XS.iload XNb14.here hx rfl (hb hby at_78) rfl kt_) ?_
  refine own_goS (T' := TNb14) (g' := (mkF mI 82 #[.val (.long va), .second, .val (.long vb), .second, .val (.long vc), .second, .val (.ref aNb1), .val (.long ((va - vb) - vc)), .second, .val (.int P5)] [(.long vc), (.int P5), (.ref aNb1)])) (fun t_ kt_ => XS.lload XNb14.here hx rfl (hb hby at_80) rfl kt_) ?_
  obtain ⟨ANb15, RNb15, q1Nb15, q2Nb15, q3Nb15, q4Nb15⟩ := own_numF hp5 hl
  refine own_callS own_closedS XNb14 hx hZ (y := (⟨"com/example/carter/carter/IncompleteEnqueueExceptionCountByFatePinLaw", "num", "(Ljava/lang/String;IJ)I"⟩ : MethodName)) hown (hw _ (List.mem_of_getElem? (i := 205) rfl)) (hw _ (List.mem_of_getElem? (i := 206) rfl)) (by decide) (rl_num l Z a0 hw [] hNb12 n0 ONb12 cs Scs hcs fo hfo Sfo aNb1 dNb1 kNb1 nNb1 (own_txt va vb vc) SNb12 P5 P6 vc ANb15 RNb15 q1Nb15 hnNb1 hl q2Nb15 q3Nb15 q4Nb15) (hw _ (List.mem_of_getElem? (i := 207) rfl)) (hw _ (List.mem_of_getElem? (i := 177) rfl)) eNb14 (pc := 82) (Ls := #[.val (.long va), .second, .val (.long vb), .second, .val (.long vc), .second, .val (.ref aNb1), .val (.long ((va - vb) - vc)), .second, .val (.int P5)]) (argsL := [(.ref aNb1), (.int P5), (.long vc)]) (rest := []) (by rw [hml]; rfl) (lenOf pd_29 rfl) (W := 0) (Nat.le_of_eq rfl) (by decide) (by decide) (by decide) (by decide) (hb hby at_82) rfl rfl ?_
  intro TNb16 LNb16 vNb16 XNb16 hQNb16
  obtain ⟨rfl, rfl, eNb16⟩ := hQNb16
  have NNb16z := Fr.app NNb14z (Fr.nil n0)
  show own_EndsS _ _ pP eE bB sS _ _ TNb16 (mkF mI 85 #[.val (.long va), .second, .val (.long vb), .second, .val (.long vc), .second, .val (.ref aNb1), .val (.long ((va - vb) - vc)), .second, .val (.int P5)] [(.int P6)])
  refine own_goS (T' := TNb16) (g' := (mkF mI 87 #[.val (.long va), .second, .val (.long vb), .second, .val (.long vc), .second, .val (.ref aNb1), .val (.long ((va - vb) - vc)), .second, .val (.int P6)] [])) (fun t_ kt_ => XS.istore XNb16.here hx rfl (hb hby at_85) rfl (l' := #[.val (.long va), .second, .val (.long vb), .second, .val (.long vc), .second, .val (.ref aNb1), .val (.long ((va - vb) - vc)), .second, .val (.int P6)]) rfl kt_) ?_
  refine own_goS (T' := TNb16) (g' := (mkF mI 89 #[.val (.long va), .second, .val (.long vb), .second, .val (.long vc), .second, .val (.ref aNb1), .val (.long ((va - vb) - vc)), .second, .val (.int P6)] [(.ref aNb1)])) (fun t_ kt_ => XS.aload XNb16.here hx rfl (hb hby at_87) rfl rfl kt_) ?_
  refine own_goS (T' := TNb16) (g' := (mkF mI 91 #[.val (.long va), .second, .val (.long vb), .second, .val (.long vc), .second, .val (.ref aNb1), .val (.long ((va - vb) - vc)), .second, .val (.int P6)] [(.int P6), (.ref aNb1)])) (fun t_ kt_ => XS.iload XNb16.here hx rfl (hb hby at_89) rfl kt_) ?_
  obtain ⟨aNb17, TNb17, hNb17, vmNb17, kNb17, bNb17, kkNb17, XNb17, eNb17, ExNb17, hS, hk, hZ, hown, ENb17, FcNb17, FvNb17, VNb17, CNb17, CsNb17, sfNb17, stNb17⟩ := own_ldc XNb16 hx hZ hown (hw _ (List.mem_of_getElem? (i := 231) rfl)) hStr eNb16 hS hk hEL (List.mem_of_getElem? (i := 8) rfl) CNb12 (vs := [(.int (32 : Int32)), (.int (109 : Int32)), (.int (97 : Int32)), (.int (121 : Int32)), (.int (32 : Int32)), (.int (98 : Int32)), (.int (101 : Int32)), (.int (32 : Int32)), (.int (97 : Int32)), (.int (110 : Int32)), (.int (100 : Int32)), (.int (32 : Int32))]) (z := 12) ⟨by decide, by decide⟩ (by decide) rfl (g := (mkF mI 91 #[.val (.long va), .second, .val (.long vb), .second, .val (.long vc), .second, .val (.ref aNb1), .val (.long ((va - vb) - vc)), .second, .val (.int P6)] [(.int P6), (.ref aNb1)])) rfl (hb hby at_91) (n := 48) (by decide) (by decide) (by decide) (by decide)
  have SNb17 := SNb12.ext ExNb17
  have ONb17 := Old.ext ONb12 ExNb17
  have ZNb17 : n0 ≤ hNb17.size := Nat.le_trans ZNb12 ExNb17.1
  have KxNb17 : Keep h0 hNb17 [] := KxNb12.ext ExNb17
  refine own_goS (T' := TNb17) (g' := (mkF mI 93 #[.val (.long va), .second, .val (.long vb), .second, .val (.long vc), .second, .val (.ref aNb1), .val (.long ((va - vb) - vc)), .second, .val (.int P6)] [(.ref aNb17), (.int P6), (.ref aNb1)])) (fun t_ kt_ => stNb17 _ kt_) ?_
  obtain ⟨u0Nb18, u1Nb18, u2Nb18⟩ := own_litF (z := (12 : Int32)) hp6 hnNb1 hl (by decide) (by decide)
  refine own_callS own_closedS XNb17 hx hZ (y := (⟨"com/example/carter/carter/IncompleteEnqueueExceptionCountByFatePinLaw", "lit", "(Ljava/lang/String;ILjava/lang/String;)I"⟩ : MethodName)) hown (hw _ (List.mem_of_getElem? (i := 175) rfl)) (hw _ (List.mem_of_getElem? (i := 176) rfl)) (by decide) (rl_lit l Z a0 hw [] hNb17 n0 ONb17 cs Scs hcs fo hfo Sfo aNb1 dNb1 kNb1 nNb1 (own_txt va vb vc) SNb17 aNb17 bNb17 kkNb17 12 [(.int (32 : Int32)), (.int (109 : Int32)), (.int (97 : Int32)), (.int (121 : Int32)), (.int (32 : Int32)), (.int (98 : Int32)), (.int (101 : Int32)), (.int (32 : Int32)), (.int (97 : Int32)), (.int (110 : Int32)), (.int (100 : Int32)), (.int (32 : Int32))] ⟨ENb17, FcNb17, FvNb17, VNb17⟩ P6 P7 u0Nb18 (by decide) u1Nb18 u2Nb18) (hw _ (List.mem_of_getElem? (i := 178) rfl)) (hw _ (List.mem_of_getElem? (i := 177) rfl)) eNb17 (pc := 93) (Ls := #[.val (.long va), .second, .val (.long vb), .second, .val (.long vc), .second, .val (.ref aNb1), .val (.long ((va - vb) - vc)), .second, .val (.int P6)]) (argsL := [(.ref aNb1), (.int P6), (.ref aNb17)]) (rest := []) (by rw [hml]; rfl) (lenOf pd_28 rfl) (W := 0) (Nat.le_of_eq rfl) (by decide) (by decide) (by decide) (by decide) (hb hby at_93) rfl rfl ?_
  intro TNb19 LNb19 vNb19 XNb19 hQNb19
  obtain ⟨rfl, rfl, eNb19⟩ := hQNb19
  have NNb19z := Fr.app NNb16z (Fr.nil n0)
  show own_EndsS _ _ pP eE bB sS _ _ TNb19 (mkF mI 96 #[.val (.long va), .second, .val (.long vb), .second, .val (.long vc), .second, .val (.ref aNb1), .val (.long ((va - vb) - vc)), .second, .val (.int P6)] [(.int P7)])
  refine own_goS (T' := TNb19) (g' := (mkF mI 98 #[.val (.long va), .second, .val (.long vb), .second, .val (.long vc), .second, .val (.ref aNb1), .val (.long ((va - vb) - vc)), .second, .val (.int P7)] [])) (fun t_ kt_ => XS.istore XNb19.here hx rfl (hb hby at_96) rfl (l' := #[.val (.long va), .second, .val (.long vb), .second, .val (.long vc), .second, .val (.ref aNb1), .val (.long ((va - vb) - vc)), .second, .val (.int P7)]) rfl kt_) ?_
  refine own_goS (T' := TNb19) (g' := (mkF mI 100 #[.val (.long va), .second, .val (.long vb), .second, .val (.long vc), .second, .val (.ref aNb1), .val (.long ((va - vb) - vc)), .second, .val (.int P7)] [(.ref aNb1)])) (fun t_ kt_ => XS.aload XNb19.here hx rfl (hb hby at_98) rfl rfl kt_) ?_
  refine own_goS (T' := TNb19) (g' := (mkF mI 102 #[.val (.long va), .second, .val (.long vb), .second, .val (.long vc), .second, .val (.ref aNb1), .val (.long ((va - vb) - vc)), .second, .val (.int P7)] [(.int P7), (.ref aNb1)])) (fun t_ kt_ => XS.iload XNb19.here hx rfl (hb hby at_100) rfl kt_) ?_
  refine own_goS (T' := TNb19) (g' := (mkF mI 104 #[.val (.long va), .second, .val (.long vb), .second, .val (.long vc), .second, .val (.ref aNb1), .val (.long ((va - vb) - vc)), .second, .val (.int P7)] [(.long ((va - vb) - vc)), (.int P7), (.ref aNb1)])) (fun t_ kt_ => XS.lload XNb19.here hx rfl (hb hby at_102) rfl kt_) ?_
  obtain ⟨ANb20, RNb20, q1Nb20, q2Nb20, q3Nb20, q4Nb20⟩ := own_numF hp7 hl
  refine own_callS own_closedS XNb19 hx hZ (y := (⟨"com/example/carter/carter/IncompleteEnqueueExceptionCountByFatePinLaw", "num", "(Ljava/lang/String;IJ)I"⟩ : MethodName)) hown (hw _ (List.mem_of_getElem? (i := 205) rfl)) (hw _ (List.mem_of_getElem? (i := 206) rfl)) (by decide) (rl_num l Z a0 hw [] hNb17 n0 ONb17 cs Scs hcs fo hfo Sfo aNb1 dNb1 kNb1 nNb1 (own_txt va vb vc) SNb17 P7 P8 ((va - vb) - vc) ANb20 RNb20 q1Nb20 hnNb1 hl q2Nb20 q3Nb20 q4Nb20) (hw _ (List.mem_of_getElem? (i := 207) rfl)) (hw _ (List.mem_of_getElem? (i := 177) rfl)) eNb19 (pc := 104) (Ls := #[.val (.long va), .second, .val (.long vb), .second, .val (.long vc), .second, .val (.ref aNb1), .val (.long ((va - vb) - vc)), .second, .val (.int P7)]) (argsL := [(.ref aNb1), (.int P7), (.long ((va - vb) - vc))]) (rest := []) (by rw [hml]; rfl) (lenOf pd_29 rfl) (W := 0) (Nat.le_of_eq rfl) (by decide) (by decide) (by decide) (by decide) (hb hby at_104) rfl rfl ?_
  intro TNb21 LNb21 vNb21 XNb21 hQNb21
  obtain ⟨rfl, rfl, eNb21⟩ := hQNb21
  have NNb21z := Fr.app NNb19z (Fr.nil n0)
  show own_EndsS _ _ pP eE bB sS _ _ TNb21 (mkF mI 107 #[.val (.long va), .second, .val (.long vb), .second, .val (.long vc), .second, .val (.ref aNb1), .val (.long ((va - vb) - vc)), .second, .val (.int P7)] [(.int P8)])
  refine own_goS (T' := TNb21) (g' := (mkF mI 109 #[.val (.long va), .second, .val (.long vb), .second, .val (.long vc), .second, .val (.ref aNb1), .val (.long ((va - vb) - vc)), .second, .val (.int P8)] [])) (fun t_ kt_ => XS.istore XNb21.here hx rfl (hb hby at_107) rfl (l' := #[.val (.long va), .second, .val (.long vb), .second, .val (.long vc), .second, .val (.ref aNb1), .val (.long ((va - vb) - vc)), .second, .val (.int P8)]) rfl kt_) ?_
  refine own_goS (T' := TNb21) (g' := (mkF mI 111 #[.val (.long va), .second, .val (.long vb), .second, .val (.long vc), .second, .val (.ref aNb1), .val (.long ((va - vb) - vc)), .second, .val (.int P8)] [(.ref aNb1)])) (fun t_ kt_ => XS.aload XNb21.here hx rfl (hb hby at_109) rfl rfl kt_) ?_
  refine own_goS (T' := TNb21) (g' := (mkF mI 113 #[.val (.long va), .second, .val (.long vb), .second, .val (.long vc), .second, .val (.ref aNb1), .val (.long ((va - vb) - vc)), .second, .val (.int P8)] [(.int P8), (.ref aNb1)])) (fun t_ kt_ => XS.iload XNb21.here hx rfl (hb hby at_111) rfl kt_) ?_
  obtain ⟨aNb22, TNb22, hNb22, vmNb22, kNb22, bNb22, kkNb22, XNb22, eNb22, ExNb22, hS, hk, hZ, hown, ENb22, FcNb22, FvNb22, VNb22, CNb22, CsNb22, sfNb22, stNb22⟩ := own_ldc XNb21 hx hZ hown (hw _ (List.mem_of_getElem? (i := 232) rfl)) hStr eNb21 hS hk hEL (List.mem_of_getElem? (i := 9) rfl) CNb17 (vs := [(.int (32 : Int32)), (.int (97 : Int32)), (.int (114 : Int32)), (.int (101 : Int32)), (.int (32 : Int32)), (.int (110 : Int32)), (.int (111 : Int32)), (.int (116 : Int32))]) (z := 8) ⟨by decide, by decide⟩ (by decide) rfl (g := (mkF mI 113 #[.val (.long va), .second, .val (.long vb), .second, .val (.long vc), .second, .val (.ref aNb1), .val (.long ((va - vb) - vc)), .second, .val (.int P8)] [(.int P8), (.ref aNb1)])) rfl (hb hby at_113) (n := 32) (by decide) (by decide) (by decide) (by decide)
  have SNb22 := SNb17.ext ExNb22
  have ONb22 := Old.ext ONb17 ExNb22
  have ZNb22 : n0 ≤ hNb22.size := Nat.le_trans ZNb17 ExNb22.1
  have KxNb22 : Keep h0 hNb22 [] := KxNb17.ext ExNb22
  refine own_goS (T' := TNb22) (g' := (mkF mI 115 #[.val (.long va), .second, .val (.long vb), .second, .val (.long vc), .second, .val (.ref aNb1), .val (.long ((va - vb) - vc)), .second, .val (.int P8)] [(.ref aNb22), (.int P8), (.ref aNb1)])) (fun t_ kt_ => stNb22 _ kt_) ?_
  obtain ⟨u0Nb23, u1Nb23, u2Nb23⟩ := own_litF (z := (8 : Int32)) hp8 hnNb1 hl (by decide) (by decide)
  refine own_callS own_closedS XNb22 hx hZ (y := (⟨"com/example/carter/carter/IncompleteEnqueueExceptionCountByFatePinLaw", "lit", "(Ljava/lang/String;ILjava/lang/String;)I"⟩ : MethodName)) hown (hw _ (List.mem_of_getElem? (i := 175) rfl)) (hw _ (List.mem_of_getElem? (i := 176) rfl)) (by decide) (rl_lit l Z a0 hw [] hNb22 n0 ONb22 cs Scs hcs fo hfo Sfo aNb1 dNb1 kNb1 nNb1 (own_txt va vb vc) SNb22 aNb22 bNb22 kkNb22 8 [(.int (32 : Int32)), (.int (97 : Int32)), (.int (114 : Int32)), (.int (101 : Int32)), (.int (32 : Int32)), (.int (110 : Int32)), (.int (111 : Int32)), (.int (116 : Int32))] ⟨ENb22, FcNb22, FvNb22, VNb22⟩ P8 P9 u0Nb23 (by decide) u1Nb23 u2Nb23) (hw _ (List.mem_of_getElem? (i := 178) rfl)) (hw _ (List.mem_of_getElem? (i := 177) rfl)) eNb22 (pc := 115) (Ls := #[.val (.long va), .second, .val (.long vb), .second, .val (.long vc), .second, .val (.ref aNb1), .val (.long ((va - vb) - vc)), .second, .val (.int P8)]) (argsL := [(.ref aNb1), (.int P8), (.ref aNb22)]) (rest := []) (by rw [hml]; rfl) (lenOf pd_28 rfl) (W := 0) (Nat.le_of_eq rfl) (by decide) (by decide) (by decide) (by decide) (hb hby at_115) rfl rfl ?_
  intro TNb24 LNb24 vNb24 XNb24 hQNb24
  obtain ⟨rfl, rfl, eNb24⟩ := hQNb24
  have NNb24z := Fr.app NNb21z (Fr.nil n0)
  show own_EndsS _ _ pP eE bB sS _ _ TNb24 (mkF mI 118 #[.val (.long va), .second, .val (.long vb), .second, .val (.long vc), .second, .val (.ref aNb1), .val (.long ((va - vb) - vc)), .second, .val (.int P8)] [(.int P9)])
  refine own_goS (T' := TNb24) (g' := (mkF mI 120 #[.val (.long va), .second, .val (.long vb), .second, .val (.long vc), .second, .val (.ref aNb1), .val (.long ((va - vb) - vc)), .second, .val (.int P9)] [])) (fun t_ kt_ => XS.istore XNb24.here hx rfl (hb hby at_118) rfl (l' := #[.val (.long va), .second, .val (.long vb), .second, .val (.long vc), .second, .val (.ref aNb1), .val (.long ((va - vb) - vc)), .second, .val (.int P9)]) rfl kt_) ?_
  refine own_goS (T' := TNb24) (g' := (mkF mI 122 #[.val (.long va), .second, .val (.long vb), .second, .val (.long vc), .second, .val (.ref aNb1), .val (.long ((va - vb) - vc)), .second, .val (.int P9)] [(.int P9)])) (fun t_ kt_ => XS.iload XNb24.here hx rfl (hb hby at_120) rfl kt_) ?_
  refine own_goS (T' := TNb24) (g' := (mkF mI 124 #[.val (.long va), .second, .val (.long vb), .second, .val (.long vc), .second, .val (.ref aNb1), .val (.long ((va - vb) - vc)), .second, .val (.int P9)] [(.ref aNb1), (.int P9)])) (fun t_ kt_ => XS.aload XNb24.here hx rfl (hb hby at_122) rfl rfl kt_) ?_
  refine own_callV own_closedS XNb24 hx hZ (y := (⟨"java/lang/String", "length", "()I"⟩ : MethodName)) (z := (⟨"java/lang/String", "length", "()I"⟩ : MethodName)) hown (hw _ (List.mem_of_getElem? (i := 179) rfl)) (hw _ (List.mem_of_getElem? (i := 43) rfl)) (hw _ (List.mem_of_getElem? (i := 45) rfl)) (hw _ (List.mem_of_getElem? (i := 44) rfl)) (hw _ (List.mem_of_getElem? (i := 45) rfl)) rfl (by decide) (rj_len l Z a0 hw [] hNb22 n0 ONb22 cs Scs hcs aNb1 dNb1 kNb1 nNb1 (own_txt va vb vc) SNb22.1 SNb22.2.1 SNb22.2.2.1 SNb22.2.2.2) (hw _ (List.mem_of_getElem? (i := 46) rfl)) (hw _ (List.mem_of_getElem? (i := 20) rfl)) eNb24 SNb22.1 (pc := 124) (Ls := #[.val (.long va), .second, .val (.long vb), .second, .val (.long vc), .second, .val (.ref aNb1), .val (.long ((va - vb) - vc)), .second, .val (.int P9)]) (argsL := []) (rest := [(.int P9)]) (by rw [hml]; rfl) (lenOf pd_11 rfl) (W := 1) (Nat.le_of_eq rfl) (by decide) (by decide) (by decide) (by decide) (hb hby at_124) rfl rfl ?_
  intro TNb25 LNb25 vNb25 XNb25 hQNb25
  obtain ⟨rfl, rfl, eNb25⟩ := hQNb25
  have NNb25z := Fr.app NNb24z (Fr.nil n0)
  show own_EndsS _ _ pP eE bB sS _ _ TNb25 (mkF mI 127 #[.val (.long va), .second, .val (.long vb), .second, .val (.long vc), .second, .val (.ref aNb1), .val (.long ((va - vb) - vc)), .second, .val (.int P9)] [(.int nNb1), (.int P9)])
  refine own_goS (T' := TNb25) (g' := (mkF mI 130 #[.val (.long va), .second, .val (.long vb), .second, .val (.long vc), .second, .val (.ref aNb1), .val (.long ((va - vb) - vc)), .second, .val (.int P9)] [])) (fun t_ kt_ => XS.icmpNo XNb25.here hx rfl (hb hby at_127) rfl (teq (he : P9 = nNb1)).2 kt_) ?_
  refine own_goS (T' := TNb25) (g' := (mkF mI 131 #[.val (.long va), .second, .val (.long vb), .second, .val (.long vc), .second, .val (.ref aNb1), .val (.long ((va - vb) - vc)), .second, .val (.int P9)] [(.int (1 : Int32))])) (fun t_ kt_ => XS.iconst XNb25.here hx rfl (hb hby at_130) kt_) ?_
  refine own_goS (T' := TNb25) (g' := (mkF mI 135 #[.val (.long va), .second, .val (.long vb), .second, .val (.long vc), .second, .val (.ref aNb1), .val (.long ((va - vb) - vc)), .second, .val (.int P9)] [(.int (1 : Int32))])) (fun t_ kt_ => XS.goto XNb25.here hx rfl (pc0 := 131) (pc' := 135) rfl (hb hby at_131) (by decide) (by decide) kt_) ?_
  refine own_leaveS XNb25 hlk (some (.int (nar .boolean (1 : Int32)))) (fun h => by rw [hret] at h; cases h) hS eNb25 hk hZ hEL CNb22 (by decide) (by decide) ?_ (fun fs hr => retN XNb25 hx (t := .boolean) hret (by simp) (hb hby at_135) hr)
  exact ⟨rfl, NNb25z⟩
set_option maxRecDepth 65536 in
set_option maxHeartbeats 40000000 in
theorem comes_1 {Post : Tables → Env → Array Value → State → Outcome → State → Prop} (hpost : ∀ tb e args s v u, (limb_1_1.after args s (.returned v) u = true ∧ limb_1_2.after args s (.returned v) u = true ∧ True) → ReturnedEndW s (.returned v) u (Jvm.fieldLocs frame_1_writes args s ++ Jvm.arrayLocs frame_1_arrays args s ++ Jvm.staticLocs frame_1_statics s) 48 11136 → Post tb e args s (.returned v) u) :
    ArmFor flags0 classFile x code maxLocals ret World_1 tables_1 room_1 Calls_1 rest_1 Pre_1 Post := by
  intro l hfl _ _ p e ha hc hk s m args below hf hA hF happ hP
  obtain ⟨hcalls, hrest, hpre⟩ := hP
  obtain ⟨-, -, -, hnamed, -, -, -, hat⟩ := (Spec.applies_iff hf).mp happ
  obtain ⟨hg, hn⟩ := and_e (Cond.before_iff.mp (show (Jvm.Cond.and given_1 narrow_1).before args s = true from hpre))
  obtain ⟨hg0, hgr0⟩ := and_e hg
  obtain ⟨hg1, hgr1⟩ := and_e hgr0
  obtain ⟨hg2, hgr2⟩ := and_e hgr1
  obtain ⟨w0, w1, w2, rfl⟩ : ∃ w0 w1 w2 : Value, args = #[w0, w1, w2] := by
    have hs : args.size = 3 := by simpa [Cond.value, given_1] using hg0
    obtain ⟨L⟩ := args
    match L, hs with
    | [w0, w1, w2], _ => exact ⟨w0, w1, w2, rfl⟩
  have hw := fun d (hd : d ∈ tables_1) => atoms_spec (ws := Jvm.Cond.code x code maxLocals ret :: tables_1) hat d (List.mem_cons_of_mem _ hd)
  have hfit : Fit s := fun {y c} hc i hi => by
    obtain ⟨ha, rfl⟩ := Array.getElem?_eq_some_iff.mp hc
    have q := List.all_eq_true.mp ((Array.all_eq_true_iff_forall_mem.mp hF) _ (Array.getElem_mem ha)) i (List.mem_range.mpr hi)
    simpa [Array.getElem?_eq_getElem hi] using q
  obtain ⟨hsets, hown0⟩ := atoms_of _ (rest_1_c_eq ▸ (show rest_1_c.before _ s = true from hrest))
  obtain ⟨i0, ei0⟩ := isL_v hg1
  obtain rfl : w0 = (.long i0) := Option.some.inj ei0
  obtain ⟨i1, ei1⟩ := isL_v hg2
  obtain rfl : w1 = (.long i1) := Option.some.inj ei1
  obtain ⟨i2, ei2⟩ := isL_v hgr2
  obtain rfl : w2 = (.long i2) := Option.some.inj ei2
  have c0 := Cond.before_iff.mp (hsets _ (List.mem_of_getElem? (i := 1) rfl))
  obtain ⟨cs, ev_cs⟩ := is_v c0
  have S_cs := Sta.start ev_cs (Or.inl (hsets _ (List.mem_of_getElem? (i := 0) rfl)))
  have hcs : ¬ cs = 0 := fun q => by
    have w := Cond.before_iff.mp (hsets _ (List.mem_of_getElem? (i := 2) rfl))
    have w2 := not_v w
    rw [eq_i ev_cs (Term.int_eval (0)) (by rw [q])] at w2
    cases w2
  obtain ⟨fo, ev_fo, hfo⟩ := isR_v (Cond.before_iff.mp (hsets _ (List.mem_of_getElem? (i := 8) rfl)))
  have S_fo := Sta.start ev_fo (Or.inl (hsets _ (List.mem_of_getElem? (i := 7) rfl)))
  obtain ⟨sT, d1, d2, D1, D2, TB⟩ := own_tb (hsets _ (List.mem_of_getElem? (i := 9) rfl)) (hw _ (List.mem_of_getElem? (i := 21) rfl)) (hsets _ (List.mem_of_getElem? (i := 10) rfl)) (hsets _ (List.mem_of_getElem? (i := 12) rfl)) (hsets _ (List.mem_of_getElem? (i := 13) rfl)) (hsets _ (List.mem_of_getElem? (i := 14) rfl)) (hsets _ (List.mem_of_getElem? (i := 15) rfl)) (hsets _ (List.mem_of_getElem? (i := 17) rfl)) (hsets _ (List.mem_of_getElem? (i := 18) rfl)) (hsets _ (List.mem_of_getElem? (i := 19) rfl))
  have hEL : EW s _ own_EL := (EW.cons (hw _ (List.mem_of_getElem? (i := 26) rfl)) (by decide) (EW.cons (hw _ (List.mem_of_getElem? (i := 107) rfl)) (by decide) (EW.cons (hw _ (List.mem_of_getElem? (i := 108) rfl)) (by decide) (EW.cons (hw _ (List.mem_of_getElem? (i := 135) rfl)) (by decide) (EW.cons (hw _ (List.mem_of_getElem? (i := 136) rfl)) (by decide) (EW.cons (hw _ (List.mem_of_getElem? (i := 174) rfl)) (by decide) (EW.cons (hw _ (List.mem_of_getElem? (i := 229) rfl)) (by decide) (EW.cons (hw _ (List.mem_of_getElem? (i := 230) rfl)) (by decide) (EW.cons (hw _ (List.mem_of_getElem? (i := 231) rfl)) (by decide) (EW.cons (hw _ (List.mem_of_getElem? (i := 232) rfl)) (by decide) EW.nil))))))))))
  have hCH : CHv s own_EL s.vm s.heap := CHv.start hEL (fun p hp => hcalls.1 p hp) (hsets _ (List.mem_of_getElem? (i := 2) rfl)) (hw _ (List.mem_of_getElem? (i := 21) rfl)) (hw _ (List.mem_of_getElem? (i := 27) rfl))
  have hStr : ∀ a ∈ Bundle.stringAtoms, a.before _ s = true := fun a ha => by
    simp only [Bundle.stringAtoms, Bundle.sN, List.mem_cons, List.not_mem_nil, or_false] at ha
    rcases ha with rfl | rfl | rfl | rfl | rfl | rfl | rfl
    · exact (hw _ (List.mem_of_getElem? (i := 20) rfl))
    · exact (hw _ (List.mem_of_getElem? (i := 27) rfl))
    · exact (hw _ (List.mem_of_getElem? (i := 21) rfl))
    · exact (hw _ (List.mem_of_getElem? (i := 28) rfl))
    · exact (hw _ (List.mem_of_getElem? (i := 29) rfl))
    · exact (hw _ (List.mem_of_getElem? (i := 30) rfl))
    · exact (hw _ (List.mem_of_getElem? (i := 31) rfl))
  obtain ⟨n, o, h1, h2, h3, _, L, rfl, ⟨rfl, N⟩, -, hq⟩ := rm0 l s _ hw tables_1 s.heap s.heap.size (Old.start s) cs S_cs hcs fo hfo S_fo hEL hStr (Nat.le_refl _) i0 i1 i2 sT d1 d2 D1 D2 TB p e ha hc hk s m _ below hf ((Spec.applies_iff_loose hf).mp happ).1 ⟨rfl, State.Warmed39.refl s, rfl, hCH⟩ trivial
  exact ⟨n, _, h1, h2, h3, hpost _ _ _ _ _ _ ⟨Cond.after_iff.mpr rfl, Cond.after_iff.mpr (eq_i res_at (Term.int_eval (1)) rfl), trivial⟩ ⟨hq.1, hq.2.1, hq.2.2.1, (hq.2.2.2.sift fun y hy => Or.inr (N y hy)).mono (by decide) (by decide)⟩⟩
theorem main_1_1 : Claimed_1_1 := comes_1 fun _ _ _ _ _ _ h hF => ⟨h.1, hF⟩
theorem main_1_2 : Claimed_1_2 := comes_1 fun _ _ _ _ _ _ h hF => ⟨h.2.1, hF⟩
end Jvm.Pilot.@@N@@
namespace Jvm.Pilot.@@N@@
open Jvm Jvm.ClassFile Sem Op Lib Jvm.Free Jvm.Stand Jvm.Pilot.@@N@@.Jvm.D
/-! MADE BY PROGRAM (witnessworld.py) out of the Statement's table words and the real class files: 30 classes; the members and pool entries that the words name. The judged class is class 1, her method 1. -/
namespace start1
open Jvm.ClassFile
def u (s : String) : CpInfo := .utf8 (stringToUtf16 s)
/-- a pool by its gaps: so many unusable entries, then the entry; so many at the end -/
def gap : Nat → List CpInfo → List CpInfo
  | 0, r => r
  | n + 1, r => .unusable :: gap n r
def poolList (es : List (Nat × CpInfo)) (last : Nat) : List CpInfo := es.foldr (fun e r => gap e.1 (e.2 :: r)) (gap last [])
def pool (es : List (Nat × CpInfo)) (last : Nat) : Array CpInfo := ⟨poolList es last⟩
def fileOf (pool : Array CpInfo) (this : Nat) (attrs : Array Attribute := #[]) (ms : Array MethodInfo := #[]) (fl : Nat := 33) (sup : Nat := 0) (ifs : Array Nat := #[]) (fds : Array FieldInfo := #[]) : ClassFile where
  minorVersion := 0
  majorVersion := 65
  constantPool := pool
  accessFlags := fl
  thisClass := this
  superClass := sup
  interfaces := ifs
  fields := fds
  methods := ms
  attributes := attrs
def plain (name : String) (sup : Option ClassId) : Class where
  name := name
  kind := .ordinary
  loader := none
  accessFlags := 33
  super := sup
  interfaces := #[]
  cf := none
  fields := #[]
  methods := #[]
  instanceTypes := #[]
  staticTypes := #[]
  resolved := #[]
  callSites := []
  init := .initialized
  statics := none
  mirror := none

def pool0 : Array CpInfo := pool [(5, u "<init>"), (0, u "()V"), (1, .class_ 10), (1, u "java/lang/Object"), (85, u "clone"), (0, u "()Ljava/lang/Object;")] 26

def k0c0 : Code := { maxStack := 0, maxLocals := 1, code := object_method_1_code, exceptionTable := #[], attributes := #[] }
def k0m0 : Method := { name := "<init>", desc := "()V", sig := { parameters := [], returnType := none }, accessFlags := 1, code := some k0c0 }
def k0m1 : Method := { name := "clone", desc := "()Ljava/lang/Object;", sig := { parameters := [], returnType := some (.object "java/lang/Object") }, accessFlags := 260, code := none }
/-- java/lang/Object -/
def k0 : Class := { plain "java/lang/Object" none with
  accessFlags := 33
  interfaces := #[]
  cf := some (fileOf pool0 8 #[] #[{ accessFlags := 1, nameIndex := 5, descriptorIndex := 6, attributes := #[] }, { accessFlags := 260, nameIndex := 96, descriptorIndex := 97, attributes := #[] }] 33 0 #[] #[])
  fields := #[]
  methods := #[k0m0, k0m1]
  instanceTypes := #[]
  staticTypes := #[]
  resolved := Array.replicate 124 none
  statics := none }

def pool1 : Array CpInfo := pool [(2, .class_ 4), (1, u "java/lang/Object"), (0, u "<init>"), (0, u "()V"), (0, .methodref 8 9), (0, .class_ 10), (0, .nameAndType 11 12), (0, u "com/example/carter/carter/IncompleteEnqueueException"), (0, u "countByFate"), (0, u "(JJJ)Ljava/lang/String;"), (0, .string 14), (0, u "of "), (0, .methodref 16 17), (0, .class_ 18), (0, .nameAndType 19 20), (0, u "com/example/carter/carter/IncompleteEnqueueExceptionCountByFatePinLaw"), (0, u "lit"), (0, u "(Ljava/lang/String;ILjava/lang/String;)I"), (0, .methodref 16 22), (0, .nameAndType 23 24), (0, u "num"), (0, u "(Ljava/lang/String;IJ)I"), (0, .string 26), (0, u " jobs, "), (0, .string 28), (0, u " are stored, "), (0, .string 30), (0, u " may be and "), (0, .string 32), (0, u " are not"), (0, .methodref 34 35), (0, .class_ 36), (0, .nameAndType 37 38), (0, u "java/lang/String"), (0, u "length"), (0, u "()I"), (0, .methodref 34 40), (0, .nameAndType 41 42), (0, u "charAt"), (0, u "(I)C"), (0, .methodref 16 44), (0, .nameAndType 45 46), (0, u "at"), (0, u "(Ljava/lang/String;ILjava/lang/String;I)Z"), (0, .long 10), (1, .long 1000000000000000000), (1, .methodref 16 52), (0, .nameAndType 53 54), (0, u "dig"), (0, u "(Ljava/lang/String;IJJ)I"), (0, .long 100000000000000000), (1, .long 10000000000000000), (1, .long 1000000000000000), (1, .long 100000000000000), (1, .long 10000000000000), (1, .long 1000000000000), (1, .long 100000000000), (1, .long 10000000000), (1, .long 1000000000), (1, .long 100000000), (1, .long 10000000), (1, .long 1000000), (1, .long 100000), (1, .long 10000), (1, .long 1000), (1, .long 100), (3, u "law"), (0, u "(JJJ)Z")] 3

def k1m0 : Method := { name := "<init>", desc := "()V", sig := { parameters := [], returnType := none }, accessFlags := 2, code := none }
def k1c1 : Code := { maxStack := 6, maxLocals := 10, code := code, exceptionTable := #[], attributes := #[] }
def k1m1 : Method := { name := "law", desc := "(JJJ)Z", sig := { parameters := [.long, .long, .long], returnType := some .boolean }, accessFlags := 9, code := some k1c1 }
def k1c2 : Code := { maxStack := 3, maxLocals := 4, code := method_3_code, exceptionTable := #[], attributes := #[] }
def k1m2 : Method := { name := "at", desc := "(Ljava/lang/String;ILjava/lang/String;I)Z", sig := { parameters := [(.object "java/lang/String"), .int, (.object "java/lang/String"), .int], returnType := some .boolean }, accessFlags := 10, code := some k1c2 }
def k1c3 : Code := { maxStack := 4, maxLocals := 4, code := method_4_code, exceptionTable := #[], attributes := #[] }
def k1m3 : Method := { name := "lit", desc := "(Ljava/lang/String;ILjava/lang/String;)I", sig := { parameters := [(.object "java/lang/String"), .int, (.object "java/lang/String")], returnType := some .int }, accessFlags := 10, code := some k1c3 }
def k1c4 : Code := { maxStack := 4, maxLocals := 7, code := method_5_code, exceptionTable := #[], attributes := #[] }
def k1m4 : Method := { name := "dig", desc := "(Ljava/lang/String;IJJ)I", sig := { parameters := [(.object "java/lang/String"), .int, .long, .long], returnType := some .int }, accessFlags := 10, code := some k1c4 }
def k1c5 : Code := { maxStack := 6, maxLocals := 7, code := method_6_code, exceptionTable := #[], attributes := #[] }
def k1m5 : Method := { name := "num", desc := "(Ljava/lang/String;IJ)I", sig := { parameters := [(.object "java/lang/String"), .int, .long], returnType := some .int }, accessFlags := 10, code := some k1c5 }
/-- com/example/carter/carter/IncompleteEnqueueExceptionCountByFatePinLaw -/
def k1 : Class := { plain "com/example/carter/carter/IncompleteEnqueueExceptionCountByFatePinLaw" (some 0) with
  accessFlags := 49
  interfaces := #[]
  cf := some (fileOf pool1 16 #[] #[{ accessFlags := 2, nameIndex := 5, descriptorIndex := 6, attributes := #[] }, { accessFlags := 9, nameIndex := 89, descriptorIndex := 90, attributes := #[] }, { accessFlags := 10, nameIndex := 45, descriptorIndex := 46, attributes := #[] }, { accessFlags := 10, nameIndex := 19, descriptorIndex := 20, attributes := #[] }, { accessFlags := 10, nameIndex := 53, descriptorIndex := 54, attributes := #[] }, { accessFlags := 10, nameIndex := 23, descriptorIndex := 24, attributes := #[] }] 49 2 #[] #[])
  fields := #[]
  methods := #[k1m0, k1m1, k1m2, k1m3, k1m4, k1m5]
  instanceTypes := #[]
  staticTypes := #[]
  resolved := Array.replicate 94 none
  statics := none }

def pool2 : Array CpInfo := pool [(1, .class_ 2), (0, u "java/io/Serializable"), (0, .class_ 4), (0, u "java/lang/Object")] 2

/-- java/io/Serializable -/
def k2 : Class := { plain "java/io/Serializable" (some 0) with
  accessFlags := 1537
  interfaces := #[]
  cf := some (fileOf pool2 1 #[] #[] 1537 3 #[] #[])
  fields := #[]
  methods := #[]
  instanceTypes := #[]
  staticTypes := #[]
  resolved := Array.replicate 7 none
  statics := none }

def pool3 : Array CpInfo := pool [(2, .class_ 4), (1, u "java/lang/Object"), (0, u "<init>"), (0, u "()V"), (1, .class_ 10), (1, u "java/lang/Throwable"), (0, u "cause"), (0, u "Ljava/lang/Throwable;"), (2, u "UNASSIGNED_STACK"), (0, u "[Ljava/lang/StackTraceElement;"), (2, u "stackTrace"), (2, u "SUPPRESSED_SENTINEL"), (0, u "Ljava/util/List;"), (2, u "suppressedExceptions"), (6, u "detailMessage"), (0, u "Ljava/lang/String;"), (58, .class_ 94), (0, u "java/lang/Throwable$WrappedPrintStream"), (6, .class_ 103), (1, u "java/lang/Throwable$PrintStreamOrWriter"), (61, u "$assertionsDisabled"), (0, u "Z"), (26, .class_ 194), (0, u "java/lang/Throwable$WrappedPrintWriter"), (5, u "backtrace"), (0, u "Ljava/lang/Object;"), (9, u "depth"), (0, u "I"), (56, .class_ 271), (1, u "java/lang/Throwable$SentinelHolder"), (32, u "EMPTY_THROWABLE_ARRAY"), (0, u "[Ljava/lang/Throwable;"), (12, .class_ 319), (0, u "java/io/Serializable"), (0, u "serialVersionUID"), (0, u "J"), (5, u "NULL_CAUSE_MESSAGE"), (0, u "SELF_SUPPRESSION_MESSAGE"), (0, u "CAUSE_CAPTION"), (0, u "SUPPRESSED_CAPTION")] 73

def k3m0 : Method := { name := "<init>", desc := "()V", sig := { parameters := [], returnType := none }, accessFlags := 1, code := none }
/-- java/lang/Throwable -/
def k3 : Class := { plain "java/lang/Throwable" (some 0) with
  accessFlags := 33
  interfaces := #[2]
  cf := some (fileOf pool3 8 #[.nestMembers #[193, 93, 101, 269]] #[{ accessFlags := 1, nameIndex := 5, descriptorIndex := 6, attributes := #[] }] 33 2 #[318] #[{ accessFlags := 26, nameIndex := 320, descriptorIndex := 321, attributes := #[] }, { accessFlags := 130, nameIndex := 200, descriptorIndex := 201, attributes := #[] }, { accessFlags := 2, nameIndex := 33, descriptorIndex := 34, attributes := #[] }, { accessFlags := 26, nameIndex := 15, descriptorIndex := 16, attributes := #[] }, { accessFlags := 2, nameIndex := 11, descriptorIndex := 12, attributes := #[] }, { accessFlags := 2, nameIndex := 19, descriptorIndex := 16, attributes := #[] }, { accessFlags := 130, nameIndex := 211, descriptorIndex := 212, attributes := #[] }, { accessFlags := 26, nameIndex := 22, descriptorIndex := 23, attributes := #[] }, { accessFlags := 2, nameIndex := 26, descriptorIndex := 23, attributes := #[] }, { accessFlags := 26, nameIndex := 327, descriptorIndex := 34, attributes := #[] }, { accessFlags := 26, nameIndex := 328, descriptorIndex := 34, attributes := #[] }, { accessFlags := 26, nameIndex := 329, descriptorIndex := 34, attributes := #[] }, { accessFlags := 26, nameIndex := 330, descriptorIndex := 34, attributes := #[] }, { accessFlags := 26, nameIndex := 304, descriptorIndex := 305, attributes := #[] }, { accessFlags := 4120, nameIndex := 165, descriptorIndex := 166, attributes := #[] }])
  fields := #[{ name := "serialVersionUID", type := .long, accessFlags := 26, slot := 0, constantValue := 0 }, { name := "backtrace", type := (.object "java/lang/Object"), accessFlags := 130, slot := 0, constantValue := 0 }, { name := "detailMessage", type := (.object "java/lang/String"), accessFlags := 2, slot := 1, constantValue := 0 }, { name := "UNASSIGNED_STACK", type := (.array (.object "java/lang/StackTraceElement")), accessFlags := 26, slot := 1, constantValue := 0 }, { name := "cause", type := (.object "java/lang/Throwable"), accessFlags := 2, slot := 2, constantValue := 0 }, { name := "stackTrace", type := (.array (.object "java/lang/StackTraceElement")), accessFlags := 2, slot := 3, constantValue := 0 }, { name := "depth", type := .int, accessFlags := 130, slot := 4, constantValue := 0 }, { name := "SUPPRESSED_SENTINEL", type := (.object "java/util/List"), accessFlags := 26, slot := 2, constantValue := 0 }, { name := "suppressedExceptions", type := (.object "java/util/List"), accessFlags := 2, slot := 5, constantValue := 0 }, { name := "NULL_CAUSE_MESSAGE", type := (.object "java/lang/String"), accessFlags := 26, slot := 3, constantValue := 0 }, { name := "SELF_SUPPRESSION_MESSAGE", type := (.object "java/lang/String"), accessFlags := 26, slot := 4, constantValue := 0 }, { name := "CAUSE_CAPTION", type := (.object "java/lang/String"), accessFlags := 26, slot := 5, constantValue := 0 }, { name := "SUPPRESSED_CAPTION", type := (.object "java/lang/String"), accessFlags := 26, slot := 6, constantValue := 0 }, { name := "EMPTY_THROWABLE_ARRAY", type := (.array (.object "java/lang/Throwable")), accessFlags := 26, slot := 7, constantValue := 0 }, { name := "$assertionsDisabled", type := .boolean, accessFlags := 4120, slot := 8, constantValue := 0 }]
  methods := #[k3m0]
  instanceTypes := #[(.object "java/lang/Object"), (.object "java/lang/String"), (.object "java/lang/Throwable"), (.array (.object "java/lang/StackTraceElement")), .int, (.object "java/util/List")]
  staticTypes := #[.long, (.array (.object "java/lang/StackTraceElement")), (.object "java/util/List"), (.object "java/lang/String"), (.object "java/lang/String"), (.object "java/lang/String"), (.object "java/lang/String"), (.array (.object "java/lang/Throwable")), .boolean]
  resolved := Array.replicate 404 none
  statics := none }

def pool4 : Array CpInfo := pool [(2, .class_ 4), (1, u "java/lang/Throwable"), (0, u "<init>"), (0, u "()V"), (12, .class_ 20), (0, u "java/lang/Exception"), (0, u "serialVersionUID"), (0, u "J")] 17

def k4m0 : Method := { name := "<init>", desc := "()V", sig := { parameters := [], returnType := none }, accessFlags := 1, code := none }
/-- java/lang/Exception -/
def k4 : Class := { plain "java/lang/Exception" (some 3) with
  accessFlags := 33
  interfaces := #[]
  cf := some (fileOf pool4 19 #[] #[{ accessFlags := 1, nameIndex := 5, descriptorIndex := 6, attributes := #[] }] 33 2 #[] #[{ accessFlags := 24, nameIndex := 21, descriptorIndex := 22, attributes := #[] }])
  fields := #[{ name := "serialVersionUID", type := .long, accessFlags := 24, slot := 0, constantValue := 0 }]
  methods := #[k4m0]
  instanceTypes := #[(.object "java/lang/Object"), (.object "java/lang/String"), (.object "java/lang/Throwable"), (.array (.object "java/lang/StackTraceElement")), .int, (.object "java/util/List")]
  staticTypes := #[.long]
  resolved := Array.replicate 40 none
  statics := none }

def pool5 : Array CpInfo := pool [(2, .class_ 4), (1, u "java/lang/Exception"), (0, u "<init>"), (0, u "()V"), (12, .class_ 20), (0, u "java/lang/RuntimeException"), (0, u "serialVersionUID"), (0, u "J")] 17

def k5m0 : Method := { name := "<init>", desc := "()V", sig := { parameters := [], returnType := none }, accessFlags := 1, code := none }
/-- java/lang/RuntimeException -/
def k5 : Class := { plain "java/lang/RuntimeException" (some 4) with
  accessFlags := 33
  interfaces := #[]
  cf := some (fileOf pool5 19 #[] #[{ accessFlags := 1, nameIndex := 5, descriptorIndex := 6, attributes := #[] }] 33 2 #[] #[{ accessFlags := 24, nameIndex := 21, descriptorIndex := 22, attributes := #[] }])
  fields := #[{ name := "serialVersionUID", type := .long, accessFlags := 24, slot := 0, constantValue := 0 }]
  methods := #[k5m0]
  instanceTypes := #[(.object "java/lang/Object"), (.object "java/lang/String"), (.object "java/lang/Throwable"), (.array (.object "java/lang/StackTraceElement")), .int, (.object "java/util/List")]
  staticTypes := #[.long]
  resolved := Array.replicate 40 none
  statics := none }

def pool6 : Array CpInfo := pool [(2, .class_ 4), (1, u "java/lang/RuntimeException"), (5, .class_ 11), (0, u "com/example/carter/carter/CarterException"), (0, u "serialVersionUID"), (0, u "J")] 7

/-- com/example/carter/carter/CarterException -/
def k6 : Class := { plain "com/example/carter/carter/CarterException" (some 5) with
  accessFlags := 33
  interfaces := #[]
  cf := some (fileOf pool6 10 #[] #[] 33 2 #[] #[{ accessFlags := 26, nameIndex := 12, descriptorIndex := 13, attributes := #[] }])
  fields := #[{ name := "serialVersionUID", type := .long, accessFlags := 26, slot := 0, constantValue := 0 }]
  methods := #[]
  instanceTypes := #[(.object "java/lang/Object"), (.object "java/lang/String"), (.object "java/lang/Throwable"), (.array (.object "java/lang/StackTraceElement")), .int, (.object "java/util/List")]
  staticTypes := #[.long]
  resolved := Array.replicate 21 none
  statics := none }

def pool7 : Array CpInfo := pool [(1, .class_ 2), (0, u "java/lang/StringBuilder"), (0, .methodref 1 4), (0, .nameAndType 5 6), (0, u "<init>"), (0, u "()V"), (0, .methodref 1 8), (0, .nameAndType 9 10), (0, u "append"), (0, u "(Ljava/lang/String;)Ljava/lang/StringBuilder;"), (9, .class_ 22), (1, u "com/example/carter/carter/IncompleteEnqueueException"), (0, u "countByFate"), (0, u "(JJJ)Ljava/lang/String;"), (0, .methodref 1 26), (0, .nameAndType 27 28), (0, u "toString"), (0, u "()Ljava/lang/String;"), (1, .class_ 32), (1, u "com/example/carter/carter/CarterException"), (3, u "failure"), (0, u "Ljava/lang/String;"), (2, u "storedBefore"), (0, u "J"), (8, u "ids"), (0, u "Ljava/util/List;"), (6, u "stored"), (0, u "Ljava/util/Set;"), (2, u "unknown"), (0, .string 64), (0, u "of "), (0, .methodref 1 66), (0, .nameAndType 9 67), (0, u "(J)Ljava/lang/StringBuilder;"), (0, .string 69), (0, u " jobs, "), (0, .string 71), (0, u " are stored, "), (0, .string 73), (0, u " may be and "), (0, .string 75), (0, u " are not"), (67, u "serialVersionUID")] 21

def k7c0 : Code := { maxStack := 5, maxLocals := 6, code := prog_7_method_2_code, exceptionTable := #[], attributes := #[] }
def k7m0 : Method := { name := "countByFate", desc := "(JJJ)Ljava/lang/String;", sig := { parameters := [.long, .long, .long], returnType := some (.object "java/lang/String") }, accessFlags := 9, code := some k7c0 }
/-- com/example/carter/carter/IncompleteEnqueueException -/
def k7 : Class := { plain "com/example/carter/carter/IncompleteEnqueueException" (some 6) with
  accessFlags := 49
  interfaces := #[]
  cf := some (fileOf pool7 20 #[] #[{ accessFlags := 9, nameIndex := 23, descriptorIndex := 24, attributes := #[] }] 49 30 #[] #[{ accessFlags := 26, nameIndex := 143, descriptorIndex := 41, attributes := #[] }, { accessFlags := 18, nameIndex := 36, descriptorIndex := 37, attributes := #[] }, { accessFlags := 18, nameIndex := 40, descriptorIndex := 41, attributes := #[] }, { accessFlags := 18, nameIndex := 50, descriptorIndex := 51, attributes := #[] }, { accessFlags := 18, nameIndex := 58, descriptorIndex := 59, attributes := #[] }, { accessFlags := 18, nameIndex := 62, descriptorIndex := 59, attributes := #[] }])
  fields := #[{ name := "serialVersionUID", type := .long, accessFlags := 26, slot := 0, constantValue := 0 }, { name := "failure", type := (.object "java/lang/String"), accessFlags := 18, slot := 6, constantValue := 0 }, { name := "storedBefore", type := .long, accessFlags := 18, slot := 7, constantValue := 0 }, { name := "ids", type := (.object "java/util/List"), accessFlags := 18, slot := 8, constantValue := 0 }, { name := "stored", type := (.object "java/util/Set"), accessFlags := 18, slot := 9, constantValue := 0 }, { name := "unknown", type := (.object "java/util/Set"), accessFlags := 18, slot := 10, constantValue := 0 }]
  methods := #[k7m0]
  instanceTypes := #[(.object "java/lang/Object"), (.object "java/lang/String"), (.object "java/lang/Throwable"), (.array (.object "java/lang/StackTraceElement")), .int, (.object "java/util/List"), (.object "java/lang/String"), .long, (.object "java/util/List"), (.object "java/util/Set"), (.object "java/util/Set")]
  staticTypes := #[.long]
  resolved := Array.replicate 165 none
  statics := none }

def pool8 : Array CpInfo := pool [(1, .class_ 2), (0, u "java/lang/Appendable"), (0, .class_ 4), (0, u "java/lang/Object")] 9

/-- java/lang/Appendable -/
def k8 : Class := { plain "java/lang/Appendable" (some 0) with
  accessFlags := 1537
  interfaces := #[]
  cf := some (fileOf pool8 1 #[] #[] 1537 3 #[] #[])
  fields := #[]
  methods := #[]
  instanceTypes := #[]
  staticTypes := #[]
  resolved := Array.replicate 14 none
  statics := none }

def pool9 : Array CpInfo := pool [(2, .class_ 4), (1, u "java/lang/CharSequence"), (42, .class_ 48), (0, u "java/lang/CharSequence$1CodePointIterator"), (10, .class_ 60), (0, u "java/lang/CharSequence$1CharIterator"), (5, .class_ 67), (0, u "java/lang/Object")] 63

/-- java/lang/CharSequence -/
def k9 : Class := { plain "java/lang/CharSequence" (some 0) with
  accessFlags := 1537
  interfaces := #[]
  cf := some (fileOf pool9 2 #[.nestMembers #[47, 59]] #[] 1537 66 #[] #[])
  fields := #[]
  methods := #[]
  instanceTypes := #[]
  staticTypes := #[]
  resolved := Array.replicate 131 none
  statics := none }

def pool10 : Array CpInfo := pool [(1, .class_ 2), (0, u "java/lang/String"), (0, .methodref 4 5), (0, .class_ 6), (0, .nameAndType 7 8), (0, u "java/lang/Object"), (0, u "<init>"), (0, u "()V"), (1, .class_ 12), (1, u "java/lang/AbstractStringBuilder"), (0, u "EMPTYVALUE"), (0, u "[B"), (0, .fieldref 10 16), (0, .nameAndType 17 14), (0, u "value"), (0, .fieldref 1 19), (0, .nameAndType 20 21), (0, u "COMPACT_STRINGS"), (0, u "Z"), (0, .fieldref 10 23), (0, .nameAndType 24 25), (0, u "coder"), (0, u "B"), (6, .methodref 1 33), (0, .nameAndType 34 35), (0, u "length"), (0, u "()I"), (3, .integer 2147483647), (0, .methodref 1 41), (0, .nameAndType 24 42), (0, u "()B"), (2, u "append"), (0, u "(Ljava/lang/String;)Ljava/lang/AbstractStringBuilder;"), (1, .class_ 49), (0, u "java/lang/CharSequence"), (19, u "(Ljava/lang/String;)V"), (5, u "maybeLatin1"), (3, .fieldref 10 80), (0, .nameAndType 81 82), (0, u "count"), (0, u "I"), (0, .methodref 10 84), (0, .nameAndType 85 86), (0, u "isLatin1"), (0, u "()Z"), (13, .methodref 10 101), (0, .nameAndType 102 103), (0, u "ensureCapacityInternal"), (0, u "(I)V"), (0, .methodref 10 105), (0, .nameAndType 106 107), (0, u "newCapacity"), (0, u "(I)I"), (0, .methodref 109 110), (0, .class_ 111), (0, .nameAndType 112 113), (0, u "java/util/Arrays"), (0, u "copyOf"), (0, u "([BI)[B"), (0, .methodref 115 116), (0, .class_ 117), (0, .nameAndType 118 119), (0, u "jdk/internal/util/ArraysSupport"), (0, u "newLength"), (0, u "(III)I"), (68, u "getChars"), (19, .methodref 10 209), (0, .nameAndType 210 211), (0, u "putStringAt"), (0, u "(ILjava/lang/String;)V"), (5, u "inflateIfNeededFor"), (2, .nameAndType 221 222), (0, u "getBytes"), (0, u "([BIB)V"), (24, u "stringSize"), (6, .methodref 255 256), (0, .class_ 257), (0, .nameAndType 247 258), (0, u "java/lang/Long"), (0, u "(J)I"), (0, .methodref 255 260), (0, .nameAndType 188 261), (0, u "(JI[B)I"), (135, .methodref 10 398), (0, .nameAndType 217 69), (0, .methodref 1 220), (3, u "()[B"), (40, .class_ 445), (0, u "java/lang/Appendable"), (67, u "(J)Ljava/lang/AbstractStringBuilder;"), (38, u "getValue")] 56

def k10m0 : Method := { name := "<init>", desc := "()V", sig := { parameters := [], returnType := none }, accessFlags := 0, code := none }
def k10c1 : Code := { maxStack := 2, maxLocals := 2, code := jdk_68_method_2_code, exceptionTable := #[], attributes := #[] }
def k10m1 : Method := { name := "<init>", desc := "(I)V", sig := { parameters := [.int], returnType := none }, accessFlags := 0, code := some k10c1 }
def k10c2 : Code := { maxStack := 1, maxLocals := 1, code := jdk_68_method_6_code, exceptionTable := #[], attributes := #[] }
def k10m2 : Method := { name := "length", desc := "()I", sig := { parameters := [], returnType := some .int }, accessFlags := 1, code := some k10c2 }
def k10c3 : Code := { maxStack := 4, maxLocals := 3, code := jdk_68_method_9_code, exceptionTable := #[], attributes := #[] }
def k10m3 : Method := { name := "ensureCapacityInternal", desc := "(I)V", sig := { parameters := [.int], returnType := none }, accessFlags := 2, code := some k10c3 }
def k10c4 : Code := { maxStack := 5, maxLocals := 6, code := jdk_68_method_10_code, exceptionTable := #[], attributes := #[] }
def k10m4 : Method := { name := "newCapacity", desc := "(I)I", sig := { parameters := [.int], returnType := some .int }, accessFlags := 2, code := some k10c4 }
def k10c5 : Code := { maxStack := 3, maxLocals := 3, code := jdk_68_method_22_code, exceptionTable := #[], attributes := #[] }
def k10m5 : Method := { name := "append", desc := "(Ljava/lang/String;)Ljava/lang/AbstractStringBuilder;", sig := { parameters := [(.object "java/lang/String")], returnType := some (.object "java/lang/AbstractStringBuilder") }, accessFlags := 1, code := some k10c5 }
def k10c6 : Code := { maxStack := 5, maxLocals := 5, code := jdk_68_method_33_code, exceptionTable := #[], attributes := #[] }
def k10m6 : Method := { name := "append", desc := "(J)Ljava/lang/AbstractStringBuilder;", sig := { parameters := [.long], returnType := some (.object "java/lang/AbstractStringBuilder") }, accessFlags := 1, code := some k10c6 }
def k10c7 : Code := { maxStack := 1, maxLocals := 1, code := jdk_68_method_64_code, exceptionTable := #[], attributes := #[] }
def k10m7 : Method := { name := "getValue", desc := "()[B", sig := { parameters := [], returnType := some (.array .byte) }, accessFlags := 16, code := some k10c7 }
def k10c8 : Code := { maxStack := 1, maxLocals := 1, code := jdk_68_method_68_code, exceptionTable := #[], attributes := #[] }
def k10m8 : Method := { name := "isLatin1", desc := "()Z", sig := { parameters := [], returnType := some .boolean }, accessFlags := 16, code := some k10c8 }
def k10c9 : Code := { maxStack := 2, maxLocals := 2, code := jdk_68_method_71_code, exceptionTable := #[], attributes := #[] }
def k10m9 : Method := { name := "inflateIfNeededFor", desc := "(Ljava/lang/String;)V", sig := { parameters := [(.object "java/lang/String")], returnType := none }, accessFlags := 2, code := some k10c9 }
def k10c10 : Code := { maxStack := 4, maxLocals := 3, code := jdk_68_method_73_code, exceptionTable := #[], attributes := #[] }
def k10m10 : Method := { name := "putStringAt", desc := "(ILjava/lang/String;)V", sig := { parameters := [.int, (.object "java/lang/String")], returnType := none }, accessFlags := 2, code := some k10c10 }
/-- java/lang/AbstractStringBuilder -/
def k10 : Class := { plain "java/lang/AbstractStringBuilder" (some 0) with
  accessFlags := 1056
  interfaces := #[8, 9]
  cf := some (fileOf pool10 10 #[] #[{ accessFlags := 0, nameIndex := 7, descriptorIndex := 8, attributes := #[] }, { accessFlags := 0, nameIndex := 7, descriptorIndex := 103, attributes := #[] }, { accessFlags := 1, nameIndex := 34, descriptorIndex := 35, attributes := #[] }, { accessFlags := 2, nameIndex := 102, descriptorIndex := 103, attributes := #[] }, { accessFlags := 2, nameIndex := 106, descriptorIndex := 107, attributes := #[] }, { accessFlags := 1, nameIndex := 45, descriptorIndex := 46, attributes := #[] }, { accessFlags := 1, nameIndex := 45, descriptorIndex := 513, attributes := #[] }, { accessFlags := 16, nameIndex := 552, descriptorIndex := 403, attributes := #[] }, { accessFlags := 16, nameIndex := 85, descriptorIndex := 86, attributes := #[] }, { accessFlags := 2, nameIndex := 217, descriptorIndex := 69, attributes := #[] }, { accessFlags := 2, nameIndex := 210, descriptorIndex := 211, attributes := #[] }] 1056 4 #[444, 48] #[{ accessFlags := 0, nameIndex := 17, descriptorIndex := 14, attributes := #[] }, { accessFlags := 0, nameIndex := 24, descriptorIndex := 25, attributes := #[] }, { accessFlags := 0, nameIndex := 75, descriptorIndex := 21, attributes := #[] }, { accessFlags := 0, nameIndex := 81, descriptorIndex := 82, attributes := #[] }, { accessFlags := 26, nameIndex := 13, descriptorIndex := 14, attributes := #[] }])
  fields := #[{ name := "value", type := (.array .byte), accessFlags := 0, slot := 0, constantValue := 0 }, { name := "coder", type := .byte, accessFlags := 0, slot := 1, constantValue := 0 }, { name := "maybeLatin1", type := .boolean, accessFlags := 0, slot := 2, constantValue := 0 }, { name := "count", type := .int, accessFlags := 0, slot := 3, constantValue := 0 }, { name := "EMPTYVALUE", type := (.array .byte), accessFlags := 26, slot := 0, constantValue := 0 }]
  methods := #[k10m0, k10m1, k10m2, k10m3, k10m4, k10m5, k10m6, k10m7, k10m8, k10m9, k10m10]
  instanceTypes := #[(.array .byte), .byte, .boolean, .int]
  staticTypes := #[(.array .byte)]
  resolved := Array.replicate 609 none
  statics := none }

def pool11 : Array CpInfo := pool [(1, .class_ 2), (0, u "java/lang/Comparable"), (0, .class_ 4), (0, u "java/lang/Object")] 7

/-- java/lang/Comparable -/
def k11 : Class := { plain "java/lang/Comparable" (some 0) with
  accessFlags := 1537
  interfaces := #[]
  cf := some (fileOf pool11 1 #[] #[] 1537 3 #[] #[])
  fields := #[]
  methods := #[]
  instanceTypes := #[]
  staticTypes := #[]
  resolved := Array.replicate 12 none
  statics := none }

def pool12 : Array CpInfo := pool [(1, .methodref 2 3), (0, .class_ 4), (0, .nameAndType 5 6), (0, u "java/lang/AbstractStringBuilder"), (0, u "<init>"), (0, u "(I)V"), (11, .class_ 20), (1, u "java/lang/String"), (3, .class_ 26), (1, u "java/lang/StringBuilder"), (0, u "append"), (0, u "(Ljava/lang/String;)Ljava/lang/StringBuilder;"), (0, .methodref 2 30), (0, .nameAndType 27 31), (0, u "(Ljava/lang/String;)Ljava/lang/AbstractStringBuilder;"), (24, .methodref 2 57), (0, .nameAndType 27 58), (0, u "(J)Ljava/lang/AbstractStringBuilder;"), (78, .methodref 18 138), (0, .nameAndType 5 139), (0, u "(Ljava/lang/StringBuilder;)V"), (5, u "()V"), (10, u "()I"), (124, u "(J)Ljava/lang/StringBuilder;"), (61, .methodref 2 344), (0, .nameAndType 345 156), (0, u "length"), (3, .class_ 350), (0, u "java/lang/Appendable"), (0, .class_ 352), (0, u "java/io/Serializable"), (0, .class_ 354), (0, u "java/lang/Comparable"), (0, .class_ 356), (0, u "java/lang/CharSequence"), (0, u "serialVersionUID"), (0, u "J"), (40, u "toString"), (0, u "()Ljava/lang/String;")] 21

def k12c0 : Code := { maxStack := 2, maxLocals := 1, code := jdk_67_method_1_code, exceptionTable := #[], attributes := #[] }
def k12m0 : Method := { name := "<init>", desc := "()V", sig := { parameters := [], returnType := none }, accessFlags := 1, code := some k12c0 }
def k12c1 : Code := { maxStack := 2, maxLocals := 2, code := jdk_67_method_7_code, exceptionTable := #[], attributes := #[] }
def k12m1 : Method := { name := "append", desc := "(Ljava/lang/String;)Ljava/lang/StringBuilder;", sig := { parameters := [(.object "java/lang/String")], returnType := some (.object "java/lang/StringBuilder") }, accessFlags := 1, code := some k12c1 }
def k12c2 : Code := { maxStack := 3, maxLocals := 3, code := jdk_67_method_16_code, exceptionTable := #[], attributes := #[] }
def k12m2 : Method := { name := "append", desc := "(J)Ljava/lang/StringBuilder;", sig := { parameters := [.long], returnType := some (.object "java/lang/StringBuilder") }, accessFlags := 1, code := some k12c2 }
def k12c3 : Code := { maxStack := 3, maxLocals := 1, code := jdk_67_method_42_code, exceptionTable := #[], attributes := #[] }
def k12m3 : Method := { name := "toString", desc := "()Ljava/lang/String;", sig := { parameters := [], returnType := some (.object "java/lang/String") }, accessFlags := 1, code := some k12c3 }
def k12c4 : Code := { maxStack := 1, maxLocals := 1, code := jdk_67_method_93_code, exceptionTable := #[], attributes := #[] }
def k12m4 : Method := { name := "length", desc := "()I", sig := { parameters := [], returnType := some .int }, accessFlags := 4161, code := some k12c4 }
/-- java/lang/StringBuilder -/
def k12 : Class := { plain "java/lang/StringBuilder" (some 10) with
  accessFlags := 49
  interfaces := #[8, 2, 11, 9]
  cf := some (fileOf pool12 24 #[] #[{ accessFlags := 1, nameIndex := 5, descriptorIndex := 145, attributes := #[] }, { accessFlags := 1, nameIndex := 27, descriptorIndex := 28, attributes := #[] }, { accessFlags := 1, nameIndex := 27, descriptorIndex := 281, attributes := #[] }, { accessFlags := 1, nameIndex := 399, descriptorIndex := 400, attributes := #[] }, { accessFlags := 4161, nameIndex := 345, descriptorIndex := 156, attributes := #[] }] 49 2 #[349, 351, 353, 355] #[{ accessFlags := 24, nameIndex := 357, descriptorIndex := 358, attributes := #[] }])
  fields := #[{ name := "serialVersionUID", type := .long, accessFlags := 24, slot := 0, constantValue := 0 }]
  methods := #[k12m0, k12m1, k12m2, k12m3, k12m4]
  instanceTypes := #[(.array .byte), .byte, .boolean, .int]
  staticTypes := #[.long]
  resolved := Array.replicate 422 none
  statics := none }

def pool13 : Array CpInfo := pool [(1, .class_ 2), (0, u "java/lang/constant/Constable"), (0, .class_ 4), (0, u "java/lang/Object")] 6

/-- java/lang/constant/Constable -/
def k13 : Class := { plain "java/lang/constant/Constable" (some 0) with
  accessFlags := 1537
  interfaces := #[]
  cf := some (fileOf pool13 1 #[] #[] 1537 3 #[] #[])
  fields := #[]
  methods := #[]
  instanceTypes := #[]
  staticTypes := #[]
  resolved := Array.replicate 11 none
  statics := none }

def pool14 : Array CpInfo := pool [(1, .class_ 2), (0, u "java/lang/constant/ConstantDesc"), (0, .class_ 4), (0, u "java/lang/Object")] 32

/-- java/lang/constant/ConstantDesc -/
def k14 : Class := { plain "java/lang/constant/ConstantDesc" (some 0) with
  accessFlags := 1537
  interfaces := #[]
  cf := some (fileOf pool14 1 #[] #[] 1537 3 #[] #[])
  fields := #[]
  methods := #[]
  instanceTypes := #[]
  staticTypes := #[]
  resolved := Array.replicate 37 none
  statics := none }

def pool15 : Array CpInfo := pool [(1, .methodref 2 3), (0, .class_ 4), (0, .nameAndType 5 6), (0, u "java/lang/Object"), (0, u "<init>"), (0, u "()V"), (2, .fieldref 10 11), (0, .class_ 12), (0, .nameAndType 13 14), (0, u "java/lang/String"), (0, u "value"), (0, u "[B"), (0, .fieldref 10 16), (0, .nameAndType 17 18), (0, u "coder"), (0, u "B"), (2, u "hash"), (0, u "I"), (2, u "hashIsZero"), (0, u "Z"), (11, .fieldref 10 39), (0, .nameAndType 40 26), (0, u "COMPACT_STRINGS"), (13, .methodref 55 56), (0, .class_ 57), (0, .nameAndType 58 59), (0, u "java/util/Arrays"), (0, u "copyOfRange"), (0, u "([BII)[B"), (47, .class_ 109), (1, u "java/lang/StringLatin1"), (32, u "()Z"), (50, .class_ 195), (1, u "java/lang/System"), (16, .methodref 193 213), (0, .nameAndType 214 215), (0, u "arraycopy"), (0, u "(Ljava/lang/Object;ILjava/lang/Object;II)V"), (118, u "()I"), (0, .methodref 10 336), (0, .nameAndType 17 337), (0, u "()B"), (2, u "()[B"), (22, u "([BI)C"), (27, u "(II)V"), (35, u "(I)C"), (61, .methodref 10 490), (0, .nameAndType 5 491), (0, u "(Ljava/lang/AbstractStringBuilder;Ljava/lang/Void;)V"), (0, .methodref 10 493), (0, .nameAndType 494 142), (0, u "isLatin1"), (0, .methodref 107 496), (0, .nameAndType 497 363), (0, u "charAt"), (3, u "checkIndex"), (4, .nameAndType 507 334), (0, u "length"), (24, u "getBytes"), (16, .methodref 550 506), (0, .class_ 551), (0, u "java/lang/AbstractStringBuilder"), (0, .methodref 550 553), (0, .nameAndType 554 340), (0, u "getValue"), (20, .class_ 576), (0, u "java/lang/CharSequence"), (22, u "CASE_INSENSITIVE_ORDER"), (0, u "Ljava/util/Comparator;"), (220, u "([BIB)V"), (225, .methodref 550 493), (5, .fieldref 1054 1055), (0, .class_ 1056), (0, .nameAndType 1057 1058), (0, u "jdk/internal/util/Preconditions"), (0, u "SIOOBE_FORMATTER"), (0, u "Ljava/util/function/BiFunction;"), (0, .methodref 1054 1060), (0, .nameAndType 501 1061), (0, u "(IILjava/util/function/BiFunction;)I"), (39, u "serialPersistentFields"), (0, u "[Ljava/io/ObjectStreamField;"), (0, .class_ 1104), (0, u "java/lang/String$CaseInsensitiveComparator"), (1, .class_ 1107), (0, u "java/io/Serializable"), (0, .class_ 1109), (0, u "java/lang/Comparable"), (0, .class_ 1111), (0, u "java/lang/constant/Constable"), (0, .class_ 1113), (0, u "java/lang/constant/ConstantDesc"), (2, u "serialVersionUID"), (0, u "J"), (3, u "REPL"), (0, u "C"), (2, u "LATIN1"), (1, u "UTF16"), (105, u "(Ljava/lang/StringBuilder;)V")] 217

def k15m0 : Method := { name := "<init>", desc := "()V", sig := { parameters := [], returnType := none }, accessFlags := 1, code := none }
def k15c1 : Code := { maxStack := 3, maxLocals := 2, code := jdk_42_method_53_code, exceptionTable := #[], attributes := #[] }
def k15m1 : Method := { name := "<init>", desc := "(Ljava/lang/StringBuilder;)V", sig := { parameters := [(.object "java/lang/StringBuilder")], returnType := none }, accessFlags := 1, code := some k15c1 }
def k15c2 : Code := { maxStack := 2, maxLocals := 1, code := jdk_42_method_54_code, exceptionTable := #[], attributes := #[] }
def k15m2 : Method := { name := "length", desc := "()I", sig := { parameters := [], returnType := some .int }, accessFlags := 1, code := some k15c2 }
def k15c3 : Code := { maxStack := 2, maxLocals := 2, code := jdk_42_method_56_code, exceptionTable := #[], attributes := #[] }
def k15m3 : Method := { name := "charAt", desc := "(I)C", sig := { parameters := [.int], returnType := some .char }, accessFlags := 1, code := some k15c3 }
def k15c4 : Code := { maxStack := 5, maxLocals := 4, code := jdk_42_method_147_code, exceptionTable := #[], attributes := #[] }
def k15m4 : Method := { name := "getBytes", desc := "([BIB)V", sig := { parameters := [(.array .byte), .int, .byte], returnType := none }, accessFlags := 0, code := some k15c4 }
def k15c5 : Code := { maxStack := 5, maxLocals := 5, code := jdk_42_method_150_code, exceptionTable := #[], attributes := #[] }
def k15m5 : Method := { name := "<init>", desc := "(Ljava/lang/AbstractStringBuilder;Ljava/lang/Void;)V", sig := { parameters := [(.object "java/lang/AbstractStringBuilder"), (.object "java/lang/Void")], returnType := none }, accessFlags := 0, code := some k15c5 }
def k15c6 : Code := { maxStack := 1, maxLocals := 1, code := jdk_42_method_152_code, exceptionTable := #[], attributes := #[] }
def k15m6 : Method := { name := "coder", desc := "()B", sig := { parameters := [], returnType := some .byte }, accessFlags := 0, code := some k15c6 }
def k15c7 : Code := { maxStack := 1, maxLocals := 1, code := jdk_42_method_154_code, exceptionTable := #[], attributes := #[] }
def k15m7 : Method := { name := "isLatin1", desc := "()Z", sig := { parameters := [], returnType := some .boolean }, accessFlags := 0, code := some k15c7 }
def k15c8 : Code := { maxStack := 3, maxLocals := 2, code := jdk_42_method_155_code, exceptionTable := #[], attributes := #[] }
def k15m8 : Method := { name := "checkIndex", desc := "(II)V", sig := { parameters := [.int, .int], returnType := none }, accessFlags := 8, code := some k15c8 }
/-- java/lang/String -/
def k15 : Class := { plain "java/lang/String" (some 0) with
  accessFlags := 49
  interfaces := #[2, 11, 9, 13, 14]
  cf := some (fileOf pool15 10 #[.nestMembers #[1103]] #[{ accessFlags := 1, nameIndex := 5, descriptorIndex := 6, attributes := #[] }, { accessFlags := 1, nameIndex := 5, descriptorIndex := 1233, attributes := #[] }, { accessFlags := 1, nameIndex := 507, descriptorIndex := 334, attributes := #[] }, { accessFlags := 1, nameIndex := 497, descriptorIndex := 427, attributes := #[] }, { accessFlags := 0, nameIndex := 532, descriptorIndex := 821, attributes := #[] }, { accessFlags := 0, nameIndex := 5, descriptorIndex := 491, attributes := #[] }, { accessFlags := 0, nameIndex := 17, descriptorIndex := 337, attributes := #[] }, { accessFlags := 0, nameIndex := 494, descriptorIndex := 142, attributes := #[] }, { accessFlags := 8, nameIndex := 501, descriptorIndex := 391, attributes := #[] }] 49 2 #[1106, 1108, 575, 1110, 1112] #[{ accessFlags := 18, nameIndex := 13, descriptorIndex := 14, attributes := #[] }, { accessFlags := 18, nameIndex := 17, descriptorIndex := 18, attributes := #[] }, { accessFlags := 2, nameIndex := 21, descriptorIndex := 22, attributes := #[] }, { accessFlags := 2, nameIndex := 25, descriptorIndex := 26, attributes := #[] }, { accessFlags := 26, nameIndex := 1116, descriptorIndex := 1117, attributes := #[] }, { accessFlags := 24, nameIndex := 40, descriptorIndex := 26, attributes := #[] }, { accessFlags := 26, nameIndex := 1101, descriptorIndex := 1102, attributes := #[] }, { accessFlags := 26, nameIndex := 1121, descriptorIndex := 1122, attributes := #[] }, { accessFlags := 25, nameIndex := 599, descriptorIndex := 600, attributes := #[] }, { accessFlags := 24, nameIndex := 1125, descriptorIndex := 18, attributes := #[] }, { accessFlags := 24, nameIndex := 1127, descriptorIndex := 18, attributes := #[] }])
  fields := #[{ name := "value", type := (.array .byte), accessFlags := 18, slot := 0, constantValue := 0 }, { name := "coder", type := .byte, accessFlags := 18, slot := 1, constantValue := 0 }, { name := "hash", type := .int, accessFlags := 2, slot := 2, constantValue := 0 }, { name := "hashIsZero", type := .boolean, accessFlags := 2, slot := 3, constantValue := 0 }, { name := "serialVersionUID", type := .long, accessFlags := 26, slot := 0, constantValue := 0 }, { name := "COMPACT_STRINGS", type := .boolean, accessFlags := 24, slot := 1, constantValue := 0 }, { name := "serialPersistentFields", type := (.array (.object "java/io/ObjectStreamField")), accessFlags := 26, slot := 2, constantValue := 0 }, { name := "REPL", type := .char, accessFlags := 26, slot := 3, constantValue := 0 }, { name := "CASE_INSENSITIVE_ORDER", type := (.object "java/util/Comparator"), accessFlags := 25, slot := 4, constantValue := 0 }, { name := "LATIN1", type := .byte, accessFlags := 24, slot := 5, constantValue := 0 }, { name := "UTF16", type := .byte, accessFlags := 24, slot := 6, constantValue := 0 }]
  methods := #[k15m0, k15m1, k15m2, k15m3, k15m4, k15m5, k15m6, k15m7, k15m8]
  instanceTypes := #[(.array .byte), .byte, .int, .boolean]
  staticTypes := #[.long, .boolean, (.array (.object "java/io/ObjectStreamField")), .char, (.object "java/util/Comparator"), .byte, .byte]
  resolved := Array.replicate 1451 none
  statics := some 0 }

def pool16 : Array CpInfo := pool [(2, .class_ 4), (1, u "java/lang/Object"), (0, u "<init>"), (0, u "()V"), (1, .class_ 10), (1, u "java/lang/System"), (0, u "allowSecurityManager"), (0, u "I"), (16, u "cons"), (0, u "Ljava/io/Console;"), (77, .class_ 110), (1, u "java/lang/System$CallersHolder"), (43, u "initialErrStream"), (0, u "Ljava/io/PrintStream;"), (19, u "security"), (0, u "Ljava/lang/SecurityManager;"), (31, .class_ 209), (0, u "java/lang/System$1"), (7, u "props"), (0, u "Ljava/util/Properties;"), (2, u "lineSeparator"), (0, u "Ljava/lang/String;"), (96, .class_ 321), (1, u "java/lang/System$LoggerFinder"), (5, .class_ 328), (0, u "java/lang/System$Logger"), (67, u "err"), (2, u "out"), (91, u "notSupportedJnuEncoding"), (15, u "in"), (17, u "initialIn"), (0, u "Ljava/io/InputStream;"), (35, u "bootLayer"), (0, u "Ljava/lang/ModuleLayer;"), (99, .class_ 664), (0, u "java/lang/System$2"), (9, u "NEVER"), (2, u "MAYBE"), (49, u "arraycopy"), (0, u "(Ljava/lang/Object;ILjava/lang/Object;II)V"), (72, .class_ 802), (0, u "java/lang/System$Logger$Level")] 31

def k16m0 : Method := { name := "<init>", desc := "()V", sig := { parameters := [], returnType := none }, accessFlags := 2, code := none }
def k16m1 : Method := { name := "arraycopy", desc := "(Ljava/lang/Object;ILjava/lang/Object;II)V", sig := { parameters := [(.object "java/lang/Object"), .int, (.object "java/lang/Object"), .int, .int], returnType := none }, accessFlags := 265, code := none }
/-- java/lang/System -/
def k16 : Class := { plain "java/lang/System" (some 0) with
  accessFlags := 49
  interfaces := #[]
  cf := some (fileOf pool16 8 #[.nestMembers #[319, 327, 801, 108, 663, 208]] #[{ accessFlags := 2, nameIndex := 5, descriptorIndex := 6, attributes := #[] }, { accessFlags := 265, nameIndex := 727, descriptorIndex := 728, attributes := #[] }] 49 2 #[] #[{ accessFlags := 25, nameIndex := 507, descriptorIndex := 526, attributes := #[] }, { accessFlags := 25, nameIndex := 399, descriptorIndex := 155, attributes := #[] }, { accessFlags := 25, nameIndex := 396, descriptorIndex := 155, attributes := #[] }, { accessFlags := 10, nameIndex := 525, descriptorIndex := 526, attributes := #[] }, { accessFlags := 26, nameIndex := 674, descriptorIndex := 12, attributes := #[] }, { accessFlags := 26, nameIndex := 677, descriptorIndex := 12, attributes := #[] }, { accessFlags := 10, nameIndex := 11, descriptorIndex := 12, attributes := #[] }, { accessFlags := 74, nameIndex := 175, descriptorIndex := 176, attributes := #[] }, { accessFlags := 10, nameIndex := 491, descriptorIndex := 222, attributes := #[] }, { accessFlags := 74, nameIndex := 29, descriptorIndex := 30, attributes := #[] }, { accessFlags := 74, nameIndex := 154, descriptorIndex := 155, attributes := #[] }, { accessFlags := 10, nameIndex := 217, descriptorIndex := 218, attributes := #[] }, { accessFlags := 10, nameIndex := 221, descriptorIndex := 222, attributes := #[] }, { accessFlags := 8, nameIndex := 562, descriptorIndex := 563, attributes := #[] }])
  fields := #[{ name := "in", type := (.object "java/io/InputStream"), accessFlags := 25, slot := 0, constantValue := 0 }, { name := "out", type := (.object "java/io/PrintStream"), accessFlags := 25, slot := 1, constantValue := 0 }, { name := "err", type := (.object "java/io/PrintStream"), accessFlags := 25, slot := 2, constantValue := 0 }, { name := "initialIn", type := (.object "java/io/InputStream"), accessFlags := 10, slot := 3, constantValue := 0 }, { name := "NEVER", type := .int, accessFlags := 26, slot := 4, constantValue := 0 }, { name := "MAYBE", type := .int, accessFlags := 26, slot := 5, constantValue := 0 }, { name := "allowSecurityManager", type := .int, accessFlags := 10, slot := 6, constantValue := 0 }, { name := "security", type := (.object "java/lang/SecurityManager"), accessFlags := 74, slot := 7, constantValue := 0 }, { name := "notSupportedJnuEncoding", type := (.object "java/lang/String"), accessFlags := 10, slot := 8, constantValue := 0 }, { name := "cons", type := (.object "java/io/Console"), accessFlags := 74, slot := 9, constantValue := 0 }, { name := "initialErrStream", type := (.object "java/io/PrintStream"), accessFlags := 74, slot := 10, constantValue := 0 }, { name := "props", type := (.object "java/util/Properties"), accessFlags := 10, slot := 11, constantValue := 0 }, { name := "lineSeparator", type := (.object "java/lang/String"), accessFlags := 10, slot := 12, constantValue := 0 }, { name := "bootLayer", type := (.object "java/lang/ModuleLayer"), accessFlags := 8, slot := 13, constantValue := 0 }]
  methods := #[k16m0, k16m1]
  instanceTypes := #[]
  staticTypes := #[(.object "java/io/InputStream"), (.object "java/io/PrintStream"), (.object "java/io/PrintStream"), (.object "java/io/InputStream"), .int, .int, .int, (.object "java/lang/SecurityManager"), (.object "java/lang/String"), (.object "java/io/Console"), (.object "java/io/PrintStream"), (.object "java/util/Properties"), (.object "java/lang/String"), (.object "java/lang/ModuleLayer")]
  resolved := Array.replicate 834 none
  statics := none }

def pool17 : Array CpInfo := pool [(2, .class_ 4), (1, u "java/lang/Object"), (0, u "<init>"), (0, u "()V"), (1, .class_ 10), (1, u "java/lang/Number"), (2, .class_ 14), (0, u "java/io/Serializable"), (0, u "serialVersionUID"), (0, u "J")] 20

def k17m0 : Method := { name := "<init>", desc := "()V", sig := { parameters := [], returnType := none }, accessFlags := 1, code := none }
/-- java/lang/Number -/
def k17 : Class := { plain "java/lang/Number" (some 0) with
  accessFlags := 1057
  interfaces := #[2]
  cf := some (fileOf pool17 8 #[] #[{ accessFlags := 1, nameIndex := 5, descriptorIndex := 6, attributes := #[] }] 1057 2 #[13] #[{ accessFlags := 26, nameIndex := 15, descriptorIndex := 16, attributes := #[] }])
  fields := #[{ name := "serialVersionUID", type := .long, accessFlags := 26, slot := 0, constantValue := 0 }]
  methods := #[k17m0]
  instanceTypes := #[]
  staticTypes := #[.long]
  resolved := Array.replicate 37 none
  statics := none }

def pool18 : Array CpInfo := pool [(1, .class_ 2), (0, u "java/lang/Long"), (15, .class_ 20), (1, u "java/lang/Integer"), (32, .long 10), (47, u "(J)I"), (18, u "stringSize"), (2, u "getChars"), (0, u "(JI[B)I"), (4, .long 18446744071562067968), (1, .long 100), (1, .fieldref 18 134), (0, .nameAndType 135 136), (0, u "DigitOnes"), (0, u "[B"), (0, .fieldref 18 138), (0, .nameAndType 139 136), (0, u "DigitTens"), (0, .long 18446744073709551606), (94, .class_ 237), (1, u "java/lang/Long$LongCache"), (33, .class_ 272), (0, u "java/lang/Number"), (2, u "value"), (0, u "J"), (84, u "TYPE"), (0, u "Ljava/lang/Class;"), (0, .class_ 364), (0, u "java/lang/Comparable"), (0, .class_ 366), (0, u "java/lang/constant/Constable"), (0, .class_ 368), (0, u "java/lang/constant/ConstantDesc"), (0, u "MIN_VALUE"), (1, u "MAX_VALUE"), (4, u "SIZE"), (0, u "I"), (1, u "BYTES"), (1, u "serialVersionUID")] 142

def k18c0 : Code := { maxStack := 4, maxLocals := 11, code := jdk_35_method_14_code, exceptionTable := #[], attributes := #[] }
def k18m0 : Method := { name := "getChars", desc := "(JI[B)I", sig := { parameters := [.long, .int, (.array .byte)], returnType := some .int }, accessFlags := 8, code := some k18c0 }
def k18c1 : Code := { maxStack := 4, maxLocals := 6, code := jdk_35_method_15_code, exceptionTable := #[], attributes := #[] }
def k18m1 : Method := { name := "stringSize", desc := "(J)I", sig := { parameters := [.long], returnType := some .int }, accessFlags := 8, code := some k18c1 }
/-- java/lang/Long -/
def k18 : Class := { plain "java/lang/Long" (some 17) with
  accessFlags := 49
  interfaces := #[11, 13, 14]
  cf := some (fileOf pool18 1 #[.nestMembers #[235]] #[{ accessFlags := 8, nameIndex := 123, descriptorIndex := 124, attributes := #[] }, { accessFlags := 8, nameIndex := 120, descriptorIndex := 101, attributes := #[] }] 49 271 #[363, 365, 367] #[{ accessFlags := 25, nameIndex := 369, descriptorIndex := 276, attributes := #[] }, { accessFlags := 25, nameIndex := 371, descriptorIndex := 276, attributes := #[] }, { accessFlags := 25, nameIndex := 361, descriptorIndex := 362, attributes := #[] }, { accessFlags := 18, nameIndex := 275, descriptorIndex := 276, attributes := #[] }, { accessFlags := 25, nameIndex := 376, descriptorIndex := 377, attributes := #[] }, { accessFlags := 25, nameIndex := 379, descriptorIndex := 377, attributes := #[] }, { accessFlags := 26, nameIndex := 381, descriptorIndex := 276, attributes := #[] }])
  fields := #[{ name := "MIN_VALUE", type := .long, accessFlags := 25, slot := 0, constantValue := 0 }, { name := "MAX_VALUE", type := .long, accessFlags := 25, slot := 1, constantValue := 0 }, { name := "TYPE", type := (.object "java/lang/Class"), accessFlags := 25, slot := 2, constantValue := 0 }, { name := "value", type := .long, accessFlags := 18, slot := 0, constantValue := 0 }, { name := "SIZE", type := .int, accessFlags := 25, slot := 3, constantValue := 0 }, { name := "BYTES", type := .int, accessFlags := 25, slot := 4, constantValue := 0 }, { name := "serialVersionUID", type := .long, accessFlags := 26, slot := 5, constantValue := 0 }]
  methods := #[k18m0, k18m1]
  instanceTypes := #[.long]
  staticTypes := #[.long, .long, (.object "java/lang/Class"), .int, .int, .long]
  resolved := Array.replicate 524 none
  statics := none }

def pool19 : Array CpInfo := pool [(1, .class_ 2), (0, u "java/lang/Integer"), (16, u "digits"), (0, u "[C"), (64, u "DigitOnes"), (0, u "[B"), (2, u "DigitTens"), (99, .class_ 190), (0, u "java/lang/Integer$IntegerCache"), (3, u "I"), (8, .class_ 204), (0, u "java/lang/Number"), (2, u "value"), (94, u "TYPE"), (0, u "Ljava/lang/Class;"), (0, .class_ 305), (0, u "java/lang/Comparable"), (0, .class_ 307), (0, u "java/lang/constant/Constable"), (0, .class_ 309), (0, u "java/lang/constant/ConstantDesc"), (0, u "MIN_VALUE"), (1, u "MAX_VALUE"), (3, u "SIZE"), (1, u "BYTES"), (1, u "serialVersionUID"), (0, u "J")] 131

/-- java/lang/Integer -/
def k19 : Class := { plain "java/lang/Integer" (some 17) with
  accessFlags := 49
  interfaces := #[11, 13, 14]
  cf := some (fileOf pool19 1 #[.nestMembers #[189]] #[] 49 203 #[304, 306, 308] #[{ accessFlags := 25, nameIndex := 310, descriptorIndex := 194, attributes := #[] }, { accessFlags := 25, nameIndex := 312, descriptorIndex := 194, attributes := #[] }, { accessFlags := 25, nameIndex := 302, descriptorIndex := 303, attributes := #[] }, { accessFlags := 24, nameIndex := 19, descriptorIndex := 20, attributes := #[] }, { accessFlags := 24, nameIndex := 89, descriptorIndex := 86, attributes := #[] }, { accessFlags := 24, nameIndex := 85, descriptorIndex := 86, attributes := #[] }, { accessFlags := 18, nameIndex := 207, descriptorIndex := 194, attributes := #[] }, { accessFlags := 25, nameIndex := 316, descriptorIndex := 194, attributes := #[] }, { accessFlags := 25, nameIndex := 318, descriptorIndex := 194, attributes := #[] }, { accessFlags := 26, nameIndex := 320, descriptorIndex := 321, attributes := #[] }])
  fields := #[{ name := "MIN_VALUE", type := .int, accessFlags := 25, slot := 0, constantValue := 0 }, { name := "MAX_VALUE", type := .int, accessFlags := 25, slot := 1, constantValue := 0 }, { name := "TYPE", type := (.object "java/lang/Class"), accessFlags := 25, slot := 2, constantValue := 0 }, { name := "digits", type := (.array .char), accessFlags := 24, slot := 3, constantValue := 0 }, { name := "DigitTens", type := (.array .byte), accessFlags := 24, slot := 4, constantValue := 0 }, { name := "DigitOnes", type := (.array .byte), accessFlags := 24, slot := 5, constantValue := 0 }, { name := "value", type := .int, accessFlags := 18, slot := 0, constantValue := 0 }, { name := "SIZE", type := .int, accessFlags := 25, slot := 6, constantValue := 0 }, { name := "BYTES", type := .int, accessFlags := 25, slot := 7, constantValue := 0 }, { name := "serialVersionUID", type := .long, accessFlags := 26, slot := 8, constantValue := 0 }]
  methods := #[]
  instanceTypes := #[.int]
  staticTypes := #[.int, .int, (.object "java/lang/Class"), (.array .char), (.array .byte), (.array .byte), .int, .int, .long]
  resolved := Array.replicate 453 none
  statics := some 1 }

def pool20 : Array CpInfo := pool [(9, u "<init>"), (6, .class_ 18), (1, u "java/lang/Object"), (0, u "()V"), (1, .class_ 23), (1, u "jdk/internal/util/ArraysSupport"), (0, u "LOG2_ARRAY_LONG_INDEX_SCALE"), (0, u "I"), (2, u "U"), (0, u "Ljdk/internal/misc/Unsafe;"), (8, u "BIG_ENDIAN"), (0, u "Z"), (8, u "LOG2_BYTE_BIT_SIZE"), (4, u "LOG2_ARRAY_INT_INDEX_SCALE"), (54, u "JLA"), (0, u "Ljdk/internal/access/JavaLangAccess;"), (11, u "LOG2_ARRAY_BOOLEAN_INDEX_SCALE"), (9, u "LOG2_ARRAY_BYTE_INDEX_SCALE"), (5, u "LOG2_ARRAY_CHAR_INDEX_SCALE"), (5, u "LOG2_ARRAY_SHORT_INDEX_SCALE"), (18, u "LOG2_ARRAY_FLOAT_INDEX_SCALE"), (24, u "LOG2_ARRAY_DOUBLE_INDEX_SCALE"), (6, .methodref 195 196), (0, .class_ 197), (0, .nameAndType 198 199), (0, u "java/lang/Math"), (0, u "max"), (0, u "(II)I"), (0, .integer 2147483639), (76, u "T_BOOLEAN"), (2, u "T_CHAR"), (1, u "T_FLOAT"), (1, u "T_DOUBLE"), (1, u "T_BYTE"), (1, u "T_SHORT"), (1, u "T_INT"), (1, u "T_LONG"), (1, u "SOFT_MAX_ARRAY_LENGTH"), (56, u "newLength"), (0, u "(III)I")] 25

def k20m0 : Method := { name := "<init>", desc := "()V", sig := { parameters := [], returnType := none }, accessFlags := 2, code := none }
def k20c1 : Code := { maxStack := 3, maxLocals := 4, code := jdk_48_method_27_code, exceptionTable := #[], attributes := #[] }
def k20m1 : Method := { name := "newLength", desc := "(III)I", sig := { parameters := [.int, .int, .int], returnType := some .int }, accessFlags := 9, code := some k20c1 }
/-- jdk/internal/util/ArraysSupport -/
def k20 : Class := { plain "jdk/internal/util/ArraysSupport" (some 0) with
  accessFlags := 33
  interfaces := #[]
  cf := some (fileOf pool20 21 #[] #[{ accessFlags := 2, nameIndex := 9, descriptorIndex := 19, attributes := #[] }, { accessFlags := 9, nameIndex := 351, descriptorIndex := 352, attributes := #[] }] 33 16 #[] #[{ accessFlags := 24, nameIndex := 28, descriptorIndex := 29, attributes := #[] }, { accessFlags := 26, nameIndex := 38, descriptorIndex := 39, attributes := #[] }, { accessFlags := 25, nameIndex := 121, descriptorIndex := 25, attributes := #[] }, { accessFlags := 25, nameIndex := 131, descriptorIndex := 25, attributes := #[] }, { accessFlags := 25, nameIndex := 137, descriptorIndex := 25, attributes := #[] }, { accessFlags := 25, nameIndex := 143, descriptorIndex := 25, attributes := #[] }, { accessFlags := 25, nameIndex := 53, descriptorIndex := 25, attributes := #[] }, { accessFlags := 25, nameIndex := 24, descriptorIndex := 25, attributes := #[] }, { accessFlags := 25, nameIndex := 162, descriptorIndex := 25, attributes := #[] }, { accessFlags := 25, nameIndex := 187, descriptorIndex := 25, attributes := #[] }, { accessFlags := 26, nameIndex := 48, descriptorIndex := 25, attributes := #[] }, { accessFlags := 25, nameIndex := 277, descriptorIndex := 25, attributes := #[] }, { accessFlags := 25, nameIndex := 280, descriptorIndex := 25, attributes := #[] }, { accessFlags := 25, nameIndex := 282, descriptorIndex := 25, attributes := #[] }, { accessFlags := 25, nameIndex := 284, descriptorIndex := 25, attributes := #[] }, { accessFlags := 25, nameIndex := 286, descriptorIndex := 25, attributes := #[] }, { accessFlags := 25, nameIndex := 288, descriptorIndex := 25, attributes := #[] }, { accessFlags := 25, nameIndex := 290, descriptorIndex := 25, attributes := #[] }, { accessFlags := 25, nameIndex := 292, descriptorIndex := 25, attributes := #[] }, { accessFlags := 26, nameIndex := 108, descriptorIndex := 109, attributes := #[] }, { accessFlags := 25, nameIndex := 294, descriptorIndex := 25, attributes := #[] }])
  fields := #[{ name := "U", type := (.object "jdk/internal/misc/Unsafe"), accessFlags := 24, slot := 0, constantValue := 0 }, { name := "BIG_ENDIAN", type := .boolean, accessFlags := 26, slot := 1, constantValue := 0 }, { name := "LOG2_ARRAY_BOOLEAN_INDEX_SCALE", type := .int, accessFlags := 25, slot := 2, constantValue := 0 }, { name := "LOG2_ARRAY_BYTE_INDEX_SCALE", type := .int, accessFlags := 25, slot := 3, constantValue := 0 }, { name := "LOG2_ARRAY_CHAR_INDEX_SCALE", type := .int, accessFlags := 25, slot := 4, constantValue := 0 }, { name := "LOG2_ARRAY_SHORT_INDEX_SCALE", type := .int, accessFlags := 25, slot := 5, constantValue := 0 }, { name := "LOG2_ARRAY_INT_INDEX_SCALE", type := .int, accessFlags := 25, slot := 6, constantValue := 0 }, { name := "LOG2_ARRAY_LONG_INDEX_SCALE", type := .int, accessFlags := 25, slot := 7, constantValue := 0 }, { name := "LOG2_ARRAY_FLOAT_INDEX_SCALE", type := .int, accessFlags := 25, slot := 8, constantValue := 0 }, { name := "LOG2_ARRAY_DOUBLE_INDEX_SCALE", type := .int, accessFlags := 25, slot := 9, constantValue := 0 }, { name := "LOG2_BYTE_BIT_SIZE", type := .int, accessFlags := 26, slot := 10, constantValue := 0 }, { name := "T_BOOLEAN", type := .int, accessFlags := 25, slot := 11, constantValue := 0 }, { name := "T_CHAR", type := .int, accessFlags := 25, slot := 12, constantValue := 0 }, { name := "T_FLOAT", type := .int, accessFlags := 25, slot := 13, constantValue := 0 }, { name := "T_DOUBLE", type := .int, accessFlags := 25, slot := 14, constantValue := 0 }, { name := "T_BYTE", type := .int, accessFlags := 25, slot := 15, constantValue := 0 }, { name := "T_SHORT", type := .int, accessFlags := 25, slot := 16, constantValue := 0 }, { name := "T_INT", type := .int, accessFlags := 25, slot := 17, constantValue := 0 }, { name := "T_LONG", type := .int, accessFlags := 25, slot := 18, constantValue := 0 }, { name := "JLA", type := (.object "jdk/internal/access/JavaLangAccess"), accessFlags := 26, slot := 19, constantValue := 0 }, { name := "SOFT_MAX_ARRAY_LENGTH", type := .int, accessFlags := 25, slot := 20, constantValue := 0 }]
  methods := #[k20m0, k20m1]
  instanceTypes := #[]
  staticTypes := #[(.object "jdk/internal/misc/Unsafe"), .boolean, .int, .int, .int, .int, .int, .int, .int, .int, .int, .int, .int, .int, .int, .int, .int, .int, .int, (.object "jdk/internal/access/JavaLangAccess"), .int]
  resolved := Array.replicate 378 none
  statics := none }

def pool21 : Array CpInfo := pool [(1, .class_ 2), (0, u "java/lang/Math"), (1, .class_ 6), (1, u "java/lang/Object"), (0, u "<init>"), (0, u "()V"), (89, .class_ 100), (1, u "java/lang/Math$RandomNumberGeneratorHolder"), (71, u "negativeZeroFloatBits"), (0, u "J"), (2, u "negativeZeroDoubleBits"), (21, u "max"), (2, u "min"), (43, u "$assertionsDisabled"), (0, u "Z"), (88, u "(II)I"), (2, u "twoToTheDoubleScaleDown"), (0, u "D"), (4, u "twoToTheDoubleScaleUp"), (9, u "E"), (3, u "PI"), (2, u "TAU"), (2, u "DEGREES_TO_RADIANS"), (0, u "RADIANS_TO_DEGREES")] 94

def k21m0 : Method := { name := "<init>", desc := "()V", sig := { parameters := [], returnType := none }, accessFlags := 2, code := none }
def k21c1 : Code := { maxStack := 2, maxLocals := 2, code := jdk_29_method_65_code, exceptionTable := #[], attributes := #[] }
def k21m1 : Method := { name := "max", desc := "(II)I", sig := { parameters := [.int, .int], returnType := some .int }, accessFlags := 9, code := some k21c1 }
def k21c2 : Code := { maxStack := 2, maxLocals := 2, code := jdk_29_method_69_code, exceptionTable := #[], attributes := #[] }
def k21m2 : Method := { name := "min", desc := "(II)I", sig := { parameters := [.int, .int], returnType := some .int }, accessFlags := 9, code := some k21c2 }
/-- java/lang/Math -/
def k21 : Class := { plain "java/lang/Math" (some 0) with
  accessFlags := 49
  interfaces := #[]
  cf := some (fileOf pool21 1 #[.nestMembers #[98]] #[{ accessFlags := 2, nameIndex := 7, descriptorIndex := 8, attributes := #[] }, { accessFlags := 9, nameIndex := 198, descriptorIndex := 335, attributes := #[] }, { accessFlags := 9, nameIndex := 201, descriptorIndex := 335, attributes := #[] }] 49 4 #[] #[{ accessFlags := 25, nameIndex := 354, descriptorIndex := 339, attributes := #[] }, { accessFlags := 25, nameIndex := 358, descriptorIndex := 339, attributes := #[] }, { accessFlags := 25, nameIndex := 361, descriptorIndex := 339, attributes := #[] }, { accessFlags := 26, nameIndex := 364, descriptorIndex := 339, attributes := #[] }, { accessFlags := 26, nameIndex := 365, descriptorIndex := 339, attributes := #[] }, { accessFlags := 26, nameIndex := 172, descriptorIndex := 173, attributes := #[] }, { accessFlags := 26, nameIndex := 176, descriptorIndex := 173, attributes := #[] }, { accessFlags := 8, nameIndex := 344, descriptorIndex := 339, attributes := #[] }, { accessFlags := 8, nameIndex := 338, descriptorIndex := 339, attributes := #[] }, { accessFlags := 4120, nameIndex := 245, descriptorIndex := 246, attributes := #[] }])
  fields := #[{ name := "E", type := .double, accessFlags := 25, slot := 0, constantValue := 0 }, { name := "PI", type := .double, accessFlags := 25, slot := 1, constantValue := 0 }, { name := "TAU", type := .double, accessFlags := 25, slot := 2, constantValue := 0 }, { name := "DEGREES_TO_RADIANS", type := .double, accessFlags := 26, slot := 3, constantValue := 0 }, { name := "RADIANS_TO_DEGREES", type := .double, accessFlags := 26, slot := 4, constantValue := 0 }, { name := "negativeZeroFloatBits", type := .long, accessFlags := 26, slot := 5, constantValue := 0 }, { name := "negativeZeroDoubleBits", type := .long, accessFlags := 26, slot := 6, constantValue := 0 }, { name := "twoToTheDoubleScaleUp", type := .double, accessFlags := 8, slot := 7, constantValue := 0 }, { name := "twoToTheDoubleScaleDown", type := .double, accessFlags := 8, slot := 8, constantValue := 0 }, { name := "$assertionsDisabled", type := .boolean, accessFlags := 4120, slot := 9, constantValue := 0 }]
  methods := #[k21m0, k21m1, k21m2]
  instanceTypes := #[]
  staticTypes := #[.double, .double, .double, .double, .double, .long, .long, .double, .double, .boolean]
  resolved := Array.replicate 460 none
  statics := none }

def pool22 : Array CpInfo := pool [(2, .class_ 4), (1, u "java/lang/Object"), (0, u "<init>"), (0, u "()V"), (7, .class_ 16), (1, u "java/util/Arrays"), (57, .class_ 76), (1, u "java/util/Arrays$NaturalOrder"), (32, u "()Ljava/lang/Object;"), (3, .class_ 115), (1, u "java/util/Arrays$LegacyMergeSort"), (1, u "Z"), (10, .nameAndType 129 109), (0, u "clone"), (9, u "copyOfRange"), (10, .methodref 151 152), (0, .class_ 153), (0, .nameAndType 154 155), (0, u "java/lang/System"), (0, u "arraycopy"), (0, u "(Ljava/lang/Object;ILjava/lang/Object;II)V"), (146, u "copyOf"), (1, .methodref 305 306), (0, .class_ 307), (0, .nameAndType 308 309), (0, u "java/lang/Math"), (0, u "min"), (0, u "(II)I"), (0, .methodref 311 128), (0, .class_ 312), (0, u "[B"), (26, .methodref 14 340), (0, .nameAndType 341 342), (0, u "copyOfRangeByte"), (0, u "([BII)[B"), (0, .methodref 14 344), (0, .nameAndType 345 346), (0, u "checkLength"), (0, u "(II)V"), (28, .class_ 376), (0, u "java/util/Arrays$ArrayList"), (68, u "$assertionsDisabled"), (269, u "MIN_ARRAY_SORT_GRAN"), (0, u "I"), (2, u "INSERTIONSORT_THRESHOLD"), (149, u "([BI)[B"), (105, .class_ 976), (0, u "java/util/Arrays$ArrayItr")] 52

def k22m0 : Method := { name := "<init>", desc := "()V", sig := { parameters := [], returnType := none }, accessFlags := 2, code := none }
def k22c1 : Code := { maxStack := 6, maxLocals := 3, code := jdk_65_method_121_code, exceptionTable := #[], attributes := #[] }
def k22m1 : Method := { name := "copyOf", desc := "([BI)[B", sig := { parameters := [(.array .byte), .int], returnType := some (.array .byte) }, accessFlags := 9, code := some k22c1 }
def k22c2 : Code := { maxStack := 4, maxLocals := 2, code := jdk_65_method_131_code, exceptionTable := #[], attributes := #[] }
def k22m2 : Method := { name := "checkLength", desc := "(II)V", sig := { parameters := [.int, .int], returnType := none }, accessFlags := 10, code := some k22c2 }
def k22c3 : Code := { maxStack := 3, maxLocals := 3, code := jdk_65_method_132_code, exceptionTable := #[], attributes := #[] }
def k22m3 : Method := { name := "copyOfRange", desc := "([BII)[B", sig := { parameters := [(.array .byte), .int, .int], returnType := some (.array .byte) }, accessFlags := 9, code := some k22c3 }
def k22c4 : Code := { maxStack := 6, maxLocals := 5, code := jdk_65_method_133_code, exceptionTable := #[], attributes := #[] }
def k22m4 : Method := { name := "copyOfRangeByte", desc := "([BII)[B", sig := { parameters := [(.array .byte), .int, .int], returnType := some (.array .byte) }, accessFlags := 10, code := some k22c4 }
/-- java/util/Arrays -/
def k22 : Class := { plain "java/util/Arrays" (some 0) with
  accessFlags := 49
  interfaces := #[]
  cf := some (fileOf pool22 14 #[.nestMembers #[975, 375, 113, 74]] #[{ accessFlags := 2, nameIndex := 5, descriptorIndex := 6, attributes := #[] }, { accessFlags := 9, nameIndex := 302, descriptorIndex := 869, attributes := #[] }, { accessFlags := 10, nameIndex := 345, descriptorIndex := 346, attributes := #[] }, { accessFlags := 9, nameIndex := 139, descriptorIndex := 342, attributes := #[] }, { accessFlags := 10, nameIndex := 341, descriptorIndex := 342, attributes := #[] }] 49 2 #[] #[{ accessFlags := 26, nameIndex := 715, descriptorIndex := 716, attributes := #[] }, { accessFlags := 26, nameIndex := 719, descriptorIndex := 716, attributes := #[] }, { accessFlags := 4120, nameIndex := 445, descriptorIndex := 117, attributes := #[] }])
  fields := #[{ name := "MIN_ARRAY_SORT_GRAN", type := .int, accessFlags := 26, slot := 0, constantValue := 0 }, { name := "INSERTIONSORT_THRESHOLD", type := .int, accessFlags := 26, slot := 1, constantValue := 0 }, { name := "$assertionsDisabled", type := .boolean, accessFlags := 4120, slot := 2, constantValue := 0 }]
  methods := #[k22m0, k22m1, k22m2, k22m3, k22m4]
  instanceTypes := #[]
  staticTypes := #[.int, .int, .boolean]
  resolved := Array.replicate 1029 none
  statics := none }

def pool23 : Array CpInfo := pool [(1, .class_ 2), (0, u "java/lang/String"), (1, .class_ 6), (1, u "java/lang/Object"), (0, u "<init>"), (0, u "()V"), (0, .methodref 1 10), (0, .nameAndType 11 12), (0, u "checkIndex"), (0, u "(II)V"), (1, .class_ 16), (1, u "java/lang/StringLatin1"), (36, u "([BI)C"), (67, u "$assertionsDisabled"), (0, u "Z"), (98, .class_ 223), (1, u "java/lang/StringLatin1$LinesSpliterator"), (28, u "charAt"), (137, .class_ 391), (0, u "java/lang/StringLatin1$CharsSpliterator")] 3

def k23m0 : Method := { name := "<init>", desc := "()V", sig := { parameters := [], returnType := none }, accessFlags := 0, code := none }
def k23c1 : Code := { maxStack := 2, maxLocals := 2, code := jdk_43_method_2_code, exceptionTable := #[], attributes := #[] }
def k23m1 : Method := { name := "charAt", desc := "([BI)C", sig := { parameters := [(.array .byte), .int], returnType := some .char }, accessFlags := 9, code := some k23c1 }
/-- java/lang/StringLatin1 -/
def k23 : Class := { plain "java/lang/StringLatin1" (some 0) with
  accessFlags := 48
  interfaces := #[]
  cf := some (fileOf pool23 14 #[.nestMembers #[390, 221]] #[{ accessFlags := 0, nameIndex := 7, descriptorIndex := 8, attributes := #[] }, { accessFlags := 9, nameIndex := 252, descriptorIndex := 53, attributes := #[] }] 48 4 #[] #[{ accessFlags := 4120, nameIndex := 121, descriptorIndex := 122, attributes := #[] }])
  fields := #[{ name := "$assertionsDisabled", type := .boolean, accessFlags := 4120, slot := 0, constantValue := 0 }]
  methods := #[k23m0, k23m1]
  instanceTypes := #[]
  staticTypes := #[.boolean]
  resolved := Array.replicate 395 none
  statics := none }

def pool24 : Array CpInfo := pool [(2, .class_ 4), (1, u "java/lang/Object"), (0, u "<init>"), (0, u "()V"), (17, .class_ 26), (1, u "jdk/internal/util/Preconditions"), (6, u "checkIndex"), (21, .class_ 56), (0, u "jdk/internal/util/Preconditions$4"), (57, .class_ 115), (0, u "jdk/internal/util/Preconditions$1"), (7, u "SIOOBE_FORMATTER"), (0, u "Ljava/util/function/BiFunction;"), (0, .class_ 126), (0, u "jdk/internal/util/Preconditions$2"), (3, u "AIOOBE_FORMATTER"), (0, .class_ 132), (0, u "jdk/internal/util/Preconditions$3"), (3, u "IOOBE_FORMATTER"), (41, u "(IILjava/util/function/BiFunction;)I")] 15

def k24m0 : Method := { name := "<init>", desc := "()V", sig := { parameters := [], returnType := none }, accessFlags := 1, code := none }
def k24c1 : Code := { maxStack := 3, maxLocals := 3, code := jdk_41_method_11_code, exceptionTable := #[], attributes := #[] }
def k24m1 : Method := { name := "checkIndex", desc := "(IILjava/util/function/BiFunction;)I", sig := { parameters := [.int, .int, (.object "java/util/function/BiFunction")], returnType := some .int }, accessFlags := 9, code := some k24c1 }
/-- jdk/internal/util/Preconditions -/
def k24 : Class := { plain "jdk/internal/util/Preconditions" (some 0) with
  accessFlags := 33
  interfaces := #[]
  cf := some (fileOf pool24 24 #[.nestMembers #[55, 131, 125, 114]] #[{ accessFlags := 1, nameIndex := 5, descriptorIndex := 6, attributes := #[] }, { accessFlags := 9, nameIndex := 33, descriptorIndex := 178, attributes := #[] }] 33 2 #[] #[{ accessFlags := 25, nameIndex := 123, descriptorIndex := 124, attributes := #[] }, { accessFlags := 25, nameIndex := 130, descriptorIndex := 124, attributes := #[] }, { accessFlags := 25, nameIndex := 136, descriptorIndex := 124, attributes := #[] }])
  fields := #[{ name := "SIOOBE_FORMATTER", type := (.object "java/util/function/BiFunction"), accessFlags := 25, slot := 0, constantValue := 0 }, { name := "AIOOBE_FORMATTER", type := (.object "java/util/function/BiFunction"), accessFlags := 25, slot := 1, constantValue := 0 }, { name := "IOOBE_FORMATTER", type := (.object "java/util/function/BiFunction"), accessFlags := 25, slot := 2, constantValue := 0 }]
  methods := #[k24m0, k24m1]
  instanceTypes := #[]
  staticTypes := #[(.object "java/util/function/BiFunction"), (.object "java/util/function/BiFunction"), (.object "java/util/function/BiFunction")]
  resolved := Array.replicate 194 none
  statics := some 2 }

def pool25 : Array CpInfo := pool [(1, .class_ 2), (0, u "java/lang/Cloneable"), (0, .class_ 4), (0, u "java/lang/Object")] 2

/-- java/lang/Cloneable -/
def k25 : Class := { plain "java/lang/Cloneable" (some 0) with
  accessFlags := 1537
  interfaces := #[]
  cf := some (fileOf pool25 1 #[] #[] 1537 3 #[] #[])
  fields := #[]
  methods := #[]
  instanceTypes := #[]
  staticTypes := #[]
  resolved := Array.replicate 7 none
  statics := none }

/-- the primitive byte -/
def k26 : Class := { plain "byte" none with kind := .primitive 'B', accessFlags := 0x411 }
/-- [B -/
def k27 : Class := { plain "[B" (some 0) with kind := .array 26 .byte, interfaces := #[25, 2], accessFlags := 1041 }

/-- the primitive int -/
def k28 : Class := { plain "int" none with kind := .primitive 'I', accessFlags := 0x411 }
/-- [I -/
def k29 : Class := { plain "[I" (some 0) with kind := .array 28 .int, interfaces := #[25, 2], accessFlags := 1041 }

def heap : Heap := #[{ cls := 15, slots := #[.long 0, .int 1, .null, .int 0, .null, .int 0, .int 0], vm := .statics 15 },
  { cls := 19, slots := #[.int 0, .int 0, .null, .null, .ref 4, .ref 3, .int 0, .int 0, .long 0], vm := .statics 19 },
  { cls := 24, slots := #[.null, .null, .null], vm := .statics 24 },
  { cls := 27, slots := #[.int 48, .int 49, .int 50, .int 51, .int 52, .int 53, .int 54, .int 55, .int 56, .int 57, .int 48, .int 49, .int 50, .int 51, .int 52, .int 53, .int 54, .int 55, .int 56, .int 57, .int 48, .int 49, .int 50, .int 51, .int 52, .int 53, .int 54, .int 55, .int 56, .int 57, .int 48, .int 49, .int 50, .int 51, .int 52, .int 53, .int 54, .int 55, .int 56, .int 57, .int 48, .int 49, .int 50, .int 51, .int 52, .int 53, .int 54, .int 55, .int 56, .int 57, .int 48, .int 49, .int 50, .int 51, .int 52, .int 53, .int 54, .int 55, .int 56, .int 57, .int 48, .int 49, .int 50, .int 51, .int 52, .int 53, .int 54, .int 55, .int 56, .int 57, .int 48, .int 49, .int 50, .int 51, .int 52, .int 53, .int 54, .int 55, .int 56, .int 57, .int 48, .int 49, .int 50, .int 51, .int 52, .int 53, .int 54, .int 55, .int 56, .int 57, .int 48, .int 49, .int 50, .int 51, .int 52, .int 53, .int 54, .int 55, .int 56, .int 57], vm := .none },
  { cls := 27, slots := #[.int 48, .int 48, .int 48, .int 48, .int 48, .int 48, .int 48, .int 48, .int 48, .int 48, .int 49, .int 49, .int 49, .int 49, .int 49, .int 49, .int 49, .int 49, .int 49, .int 49, .int 50, .int 50, .int 50, .int 50, .int 50, .int 50, .int 50, .int 50, .int 50, .int 50, .int 51, .int 51, .int 51, .int 51, .int 51, .int 51, .int 51, .int 51, .int 51, .int 51, .int 52, .int 52, .int 52, .int 52, .int 52, .int 52, .int 52, .int 52, .int 52, .int 52, .int 53, .int 53, .int 53, .int 53, .int 53, .int 53, .int 53, .int 53, .int 53, .int 53, .int 54, .int 54, .int 54, .int 54, .int 54, .int 54, .int 54, .int 54, .int 54, .int 54, .int 55, .int 55, .int 55, .int 55, .int 55, .int 55, .int 55, .int 55, .int 55, .int 55, .int 56, .int 56, .int 56, .int 56, .int 56, .int 56, .int 56, .int 56, .int 56, .int 56, .int 57, .int 57, .int 57, .int 57, .int 57, .int 57, .int 57, .int 57, .int 57, .int 57], vm := .none }]
def classes : Array Class := #[k0, k1, k2, k3, k4, k5, k6, k7, k8, k9, k10, k11, k12, k13, k14, k15, k16, k17, k18, k19, k20, k21, k22, k23, k24, k25, k26, k27, k28, k29]
def interned : List (Array UInt16 × Addr) := []
def slotsUsed : Nat := 219
def theMethod : MethodId := ⟨1, 1⟩
def args0 : Array Value := #[.long 5, .long 3, .long 1]
def aboutOver (below : List Frame) : State where
  vm := { classes := classes, interned := interned.toArray }
  heap := heap
  slotsUsed := slotsUsed
  threads := #[{ frames := .invoking theMethod args0 :: below }]
def below0 : List Frame := [.native { method := ⟨0, 0⟩, args := #[] }]
def about1 : State := aboutOver below0
def p0 : Program := .bare "" "" ""
def e0 : Env := launch0.env 0 0 0
theorem w_frames : about1.frames = Frame.invoking theMethod args0 :: below0 := rfl
set_option maxRecDepth 65536 in
theorem w_args : argsFit about1.vm theMethod args0 = true := by decide +kernel
set_option maxRecDepth 65536 in
theorem w_heap : heapFits about1 = true := by decide +kernel
set_option maxRecDepth 65536 in
theorem w_runnable : about1.curStatus? = some .runnable := by decide +kernel
set_option maxRecDepth 65536 in
theorem w_alone : about1.alone = true := by decide +kernel
set_option maxRecDepth 65536 in
theorem w_named : about1.methodNamed? x = some theMethod := by decide +kernel
set_option maxRecDepth 65536 in
theorem w_hears : about1.hears theMethod below0 = true := by decide +kernel
set_option maxRecDepth 65536 in
theorem w_ripe : about1.ripe theMethod args0 below0 = true := by decide +kernel
theorem w_running : about1.status = .running := rfl
set_option maxRecDepth 65536 in
theorem w_room : about1.hasRoom e0.platform room_1 = true :=
  launch0.hasRoom_least _ room_1 (by decide +kernel) (by decide +kernel) (by decide +kernel) (by decide +kernel) (by decide +kernel) (by decide +kernel)
theorem allAtoms_all (ts : List Jvm.Cond) (a : Array Jvm.Value) (st : Jvm.State) : (allAtoms ts).before a st = ts.all (fun c => c.before a st) := by
  induction ts with
  | nil => rfl
  | cons c t ih =>
    show (Jvm.Cond.and c (allAtoms t)).before a st = _
    rw [Jvm.Cond.before_and, ih, List.all_cons]
def words1 : List Jvm.Cond := Jvm.Cond.code x code maxLocals ret :: tables_1
/-- a 'code' word, met by the world's own term for the bytes: nothing is compared byte by byte -/
theorem code_word {y : MethodName} {bytes : ByteArray} {mx : Nat} {rt : Option FieldType} {a : Array Value} {s : State} {m : MethodId} {meth : Method} {c : Code} (h1 : s.methodNamed? y = some m) (h2 : s.vm.method? m = some meth) (h3 : meth.code = some c) (h4 : c.code = bytes)
    (h5 : (c.maxLocals == mx && c.exceptionTable.isEmpty && decide (c.maxStack ≤ mostOperands) && decide (meth.sig.returnType = rt) && !meth.locks && decide (parseMethodDescriptor y.desc = some meth.sig)) = true) : (Jvm.Cond.code y bytes mx rt).before a s = true := by
  simp only [Bool.and_eq_true, beq_iff_eq, Bool.not_eq_true', decide_eq_true_eq] at h5
  obtain ⟨⟨⟨⟨⟨g1, g2⟩, g3⟩, g4⟩, g5⟩, g6⟩ := h5
  simp [Cond.before, Cond.holds, Cond.value, h1, h2, h3, h4, g1, g2, g3, g4, g5, g6]
def isCode : Jvm.Cond → Bool
  | .code _ _ _ _ => true
  | _ => false
theorem all_split {L : List Jvm.Cond} {P : Jvm.Cond → Bool} (h1 : L.all (fun c => isCode c || P c) = true) (h2 : ∀ c ∈ L.filter isCode, P c = true) : L.all P = true := by
  refine List.all_eq_true.mpr fun c hc => ?_
  have h := List.all_eq_true.mp h1 c hc
  rcases Bool.eq_false_or_eq_true (isCode c) with hi | hi
  · exact h2 c (List.mem_filter.mpr ⟨hc, hi⟩)
  · simpa [hi] using h
set_option maxRecDepth 65536 in
theorem w_c0 : (Jvm.Cond.code x code maxLocals ret).before args0 about1 = true := code_word (m := ⟨1, 1⟩) (meth := k1m1) (c := k1c1) (by decide +kernel) rfl rfl rfl (by decide +kernel)
set_option maxRecDepth 65536 in
theorem w_c1 : (Jvm.Cond.code ({ cls := "com/example/carter/carter/IncompleteEnqueueException", name := "countByFate", desc := "(JJJ)Ljava/lang/String;" } : Jvm.MethodName) prog_7_method_2_code (6 : Nat) (Option.some (Jvm.ClassFile.FieldType.object "java/lang/String"))).before args0 about1 = true := code_word (m := ⟨7, 0⟩) (meth := k7m0) (c := k7c0) (by decide +kernel) rfl rfl rfl (by decide +kernel)
set_option maxRecDepth 65536 in
theorem w_c2 : (Jvm.Cond.code ({ cls := "java/lang/StringBuilder", name := "<init>", desc := "()V" } : Jvm.MethodName) jdk_67_method_1_code (1 : Nat) (Option.none : Option Jvm.ClassFile.FieldType)).before args0 about1 = true := code_word (m := ⟨12, 0⟩) (meth := k12m0) (c := k12c0) (by decide +kernel) rfl rfl rfl (by decide +kernel)
set_option maxRecDepth 65536 in
theorem w_c3 : (Jvm.Cond.code ({ cls := "java/lang/AbstractStringBuilder", name := "<init>", desc := "(I)V" } : Jvm.MethodName) jdk_68_method_2_code (2 : Nat) (Option.none : Option Jvm.ClassFile.FieldType)).before args0 about1 = true := code_word (m := ⟨10, 1⟩) (meth := k10m1) (c := k10c1) (by decide +kernel) rfl rfl rfl (by decide +kernel)
set_option maxRecDepth 65536 in
theorem w_c4 : (Jvm.Cond.code ({ cls := "java/lang/Object", name := "<init>", desc := "()V" } : Jvm.MethodName) object_method_1_code (1 : Nat) (Option.none : Option Jvm.ClassFile.FieldType)).before args0 about1 = true := code_word (m := ⟨0, 0⟩) (meth := k0m0) (c := k0c0) (by decide +kernel) rfl rfl rfl (by decide +kernel)
set_option maxRecDepth 65536 in
theorem w_c5 : (Jvm.Cond.code ({ cls := "java/lang/StringBuilder", name := "append", desc := "(Ljava/lang/String;)Ljava/lang/StringBuilder;" } : Jvm.MethodName) jdk_67_method_7_code (2 : Nat) (Option.some (Jvm.ClassFile.FieldType.object "java/lang/StringBuilder"))).before args0 about1 = true := code_word (m := ⟨12, 1⟩) (meth := k12m1) (c := k12c1) (by decide +kernel) rfl rfl rfl (by decide +kernel)
set_option maxRecDepth 65536 in
theorem w_c6 : (Jvm.Cond.code ({ cls := "java/lang/AbstractStringBuilder", name := "append", desc := "(Ljava/lang/String;)Ljava/lang/AbstractStringBuilder;" } : Jvm.MethodName) jdk_68_method_22_code (3 : Nat) (Option.some (Jvm.ClassFile.FieldType.object "java/lang/AbstractStringBuilder"))).before args0 about1 = true := code_word (m := ⟨10, 5⟩) (meth := k10m5) (c := k10c5) (by decide +kernel) rfl rfl rfl (by decide +kernel)
set_option maxRecDepth 65536 in
theorem w_c7 : (Jvm.Cond.code ({ cls := "java/lang/String", name := "length", desc := "()I" } : Jvm.MethodName) jdk_42_method_54_code (1 : Nat) (Option.some Jvm.ClassFile.FieldType.int)).before args0 about1 = true := code_word (m := ⟨15, 2⟩) (meth := k15m2) (c := k15c2) (by decide +kernel) rfl rfl rfl (by decide +kernel)
set_option maxRecDepth 65536 in
theorem w_c8 : (Jvm.Cond.code ({ cls := "java/lang/String", name := "coder", desc := "()B" } : Jvm.MethodName) jdk_42_method_152_code (1 : Nat) (Option.some Jvm.ClassFile.FieldType.byte)).before args0 about1 = true := code_word (m := ⟨15, 6⟩) (meth := k15m6) (c := k15c6) (by decide +kernel) rfl rfl rfl (by decide +kernel)
set_option maxRecDepth 65536 in
theorem w_c9 : (Jvm.Cond.code ({ cls := "java/lang/AbstractStringBuilder", name := "ensureCapacityInternal", desc := "(I)V" } : Jvm.MethodName) jdk_68_method_9_code (3 : Nat) (Option.none : Option Jvm.ClassFile.FieldType)).before args0 about1 = true := code_word (m := ⟨10, 3⟩) (meth := k10m3) (c := k10c3) (by decide +kernel) rfl rfl rfl (by decide +kernel)
set_option maxRecDepth 65536 in
theorem w_c10 : (Jvm.Cond.code ({ cls := "java/lang/AbstractStringBuilder", name := "putStringAt", desc := "(ILjava/lang/String;)V" } : Jvm.MethodName) jdk_68_method_73_code (3 : Nat) (Option.none : Option Jvm.ClassFile.FieldType)).before args0 about1 = true := code_word (m := ⟨10, 10⟩) (meth := k10m10) (c := k10c10) (by decide +kernel) rfl rfl rfl (by decide +kernel)
set_option maxRecDepth 65536 in
theorem w_c11 : (Jvm.Cond.code ({ cls := "java/lang/AbstractStringBuilder", name := "inflateIfNeededFor", desc := "(Ljava/lang/String;)V" } : Jvm.MethodName) jdk_68_method_71_code (2 : Nat) (Option.none : Option Jvm.ClassFile.FieldType)).before args0 about1 = true := code_word (m := ⟨10, 9⟩) (meth := k10m9) (c := k10c9) (by decide +kernel) rfl rfl rfl (by decide +kernel)
set_option maxRecDepth 65536 in
theorem w_c12 : (Jvm.Cond.code ({ cls := "java/lang/String", name := "getBytes", desc := "([BIB)V" } : Jvm.MethodName) jdk_42_method_147_code (4 : Nat) (Option.none : Option Jvm.ClassFile.FieldType)).before args0 about1 = true := code_word (m := ⟨15, 4⟩) (meth := k15m4) (c := k15c4) (by decide +kernel) rfl rfl rfl (by decide +kernel)
set_option maxRecDepth 65536 in
theorem w_c13 : (Jvm.Cond.code ({ cls := "java/lang/StringBuilder", name := "append", desc := "(J)Ljava/lang/StringBuilder;" } : Jvm.MethodName) jdk_67_method_16_code (3 : Nat) (Option.some (Jvm.ClassFile.FieldType.object "java/lang/StringBuilder"))).before args0 about1 = true := code_word (m := ⟨12, 2⟩) (meth := k12m2) (c := k12c2) (by decide +kernel) rfl rfl rfl (by decide +kernel)
set_option maxRecDepth 65536 in
theorem w_c14 : (Jvm.Cond.code ({ cls := "java/lang/AbstractStringBuilder", name := "append", desc := "(J)Ljava/lang/AbstractStringBuilder;" } : Jvm.MethodName) jdk_68_method_33_code (5 : Nat) (Option.some (Jvm.ClassFile.FieldType.object "java/lang/AbstractStringBuilder"))).before args0 about1 = true := code_word (m := ⟨10, 6⟩) (meth := k10m6) (c := k10c6) (by decide +kernel) rfl rfl rfl (by decide +kernel)
set_option maxRecDepth 65536 in
theorem w_c15 : (Jvm.Cond.code ({ cls := "java/lang/Long", name := "stringSize", desc := "(J)I" } : Jvm.MethodName) jdk_35_method_15_code (6 : Nat) (Option.some Jvm.ClassFile.FieldType.int)).before args0 about1 = true := code_word (m := ⟨18, 1⟩) (meth := k18m1) (c := k18c1) (by decide +kernel) rfl rfl rfl (by decide +kernel)
set_option maxRecDepth 65536 in
theorem w_c16 : (Jvm.Cond.code ({ cls := "java/lang/AbstractStringBuilder", name := "isLatin1", desc := "()Z" } : Jvm.MethodName) jdk_68_method_68_code (1 : Nat) (Option.some Jvm.ClassFile.FieldType.boolean)).before args0 about1 = true := code_word (m := ⟨10, 8⟩) (meth := k10m8) (c := k10c8) (by decide +kernel) rfl rfl rfl (by decide +kernel)
set_option maxRecDepth 65536 in
theorem w_c17 : (Jvm.Cond.code ({ cls := "java/lang/Long", name := "getChars", desc := "(JI[B)I" } : Jvm.MethodName) jdk_35_method_14_code (11 : Nat) (Option.some Jvm.ClassFile.FieldType.int)).before args0 about1 = true := code_word (m := ⟨18, 0⟩) (meth := k18m0) (c := k18c0) (by decide +kernel) rfl rfl rfl (by decide +kernel)
set_option maxRecDepth 65536 in
theorem w_c18 : (Jvm.Cond.code ({ cls := "java/lang/AbstractStringBuilder", name := "newCapacity", desc := "(I)I" } : Jvm.MethodName) jdk_68_method_10_code (6 : Nat) (Option.some Jvm.ClassFile.FieldType.int)).before args0 about1 = true := code_word (m := ⟨10, 4⟩) (meth := k10m4) (c := k10c4) (by decide +kernel) rfl rfl rfl (by decide +kernel)
set_option maxRecDepth 65536 in
theorem w_c19 : (Jvm.Cond.code ({ cls := "jdk/internal/util/ArraysSupport", name := "newLength", desc := "(III)I" } : Jvm.MethodName) jdk_48_method_27_code (4 : Nat) (Option.some Jvm.ClassFile.FieldType.int)).before args0 about1 = true := code_word (m := ⟨20, 1⟩) (meth := k20m1) (c := k20c1) (by decide +kernel) rfl rfl rfl (by decide +kernel)
set_option maxRecDepth 65536 in
theorem w_c20 : (Jvm.Cond.code ({ cls := "java/lang/Math", name := "max", desc := "(II)I" } : Jvm.MethodName) jdk_29_method_65_code (2 : Nat) (Option.some Jvm.ClassFile.FieldType.int)).before args0 about1 = true := code_word (m := ⟨21, 1⟩) (meth := k21m1) (c := k21c1) (by decide +kernel) rfl rfl rfl (by decide +kernel)
set_option maxRecDepth 65536 in
theorem w_c21 : (Jvm.Cond.code ({ cls := "java/util/Arrays", name := "copyOf", desc := "([BI)[B" } : Jvm.MethodName) jdk_65_method_121_code (3 : Nat) (Option.some (Jvm.ClassFile.FieldType.array Jvm.ClassFile.FieldType.byte))).before args0 about1 = true := code_word (m := ⟨22, 1⟩) (meth := k22m1) (c := k22c1) (by decide +kernel) rfl rfl rfl (by decide +kernel)
set_option maxRecDepth 65536 in
theorem w_c22 : (Jvm.Cond.code ({ cls := "java/lang/Math", name := "min", desc := "(II)I" } : Jvm.MethodName) jdk_29_method_69_code (2 : Nat) (Option.some Jvm.ClassFile.FieldType.int)).before args0 about1 = true := code_word (m := ⟨21, 2⟩) (meth := k21m2) (c := k21c2) (by decide +kernel) rfl rfl rfl (by decide +kernel)
set_option maxRecDepth 65536 in
theorem w_c23 : (Jvm.Cond.code ({ cls := "java/lang/StringBuilder", name := "toString", desc := "()Ljava/lang/String;" } : Jvm.MethodName) jdk_67_method_42_code (1 : Nat) (Option.some (Jvm.ClassFile.FieldType.object "java/lang/String"))).before args0 about1 = true := code_word (m := ⟨12, 3⟩) (meth := k12m3) (c := k12c3) (by decide +kernel) rfl rfl rfl (by decide +kernel)
set_option maxRecDepth 65536 in
theorem w_c24 : (Jvm.Cond.code ({ cls := "java/lang/String", name := "<init>", desc := "(Ljava/lang/StringBuilder;)V" } : Jvm.MethodName) jdk_42_method_53_code (2 : Nat) (Option.none : Option Jvm.ClassFile.FieldType)).before args0 about1 = true := code_word (m := ⟨15, 1⟩) (meth := k15m1) (c := k15c1) (by decide +kernel) rfl rfl rfl (by decide +kernel)
set_option maxRecDepth 65536 in
theorem w_c25 : (Jvm.Cond.code ({ cls := "java/lang/String", name := "<init>", desc := "(Ljava/lang/AbstractStringBuilder;Ljava/lang/Void;)V" } : Jvm.MethodName) jdk_42_method_150_code (5 : Nat) (Option.none : Option Jvm.ClassFile.FieldType)).before args0 about1 = true := code_word (m := ⟨15, 5⟩) (meth := k15m5) (c := k15c5) (by decide +kernel) rfl rfl rfl (by decide +kernel)
set_option maxRecDepth 65536 in
theorem w_c26 : (Jvm.Cond.code ({ cls := "java/lang/AbstractStringBuilder", name := "getValue", desc := "()[B" } : Jvm.MethodName) jdk_68_method_64_code (1 : Nat) (Option.some (Jvm.ClassFile.FieldType.array Jvm.ClassFile.FieldType.byte))).before args0 about1 = true := code_word (m := ⟨10, 7⟩) (meth := k10m7) (c := k10c7) (by decide +kernel) rfl rfl rfl (by decide +kernel)
set_option maxRecDepth 65536 in
theorem w_c27 : (Jvm.Cond.code ({ cls := "java/lang/StringBuilder", name := "length", desc := "()I" } : Jvm.MethodName) jdk_67_method_93_code (1 : Nat) (Option.some Jvm.ClassFile.FieldType.int)).before args0 about1 = true := code_word (m := ⟨12, 4⟩) (meth := k12m4) (c := k12c4) (by decide +kernel) rfl rfl rfl (by decide +kernel)
set_option maxRecDepth 65536 in
theorem w_c28 : (Jvm.Cond.code ({ cls := "java/lang/AbstractStringBuilder", name := "length", desc := "()I" } : Jvm.MethodName) jdk_68_method_6_code (1 : Nat) (Option.some Jvm.ClassFile.FieldType.int)).before args0 about1 = true := code_word (m := ⟨10, 2⟩) (meth := k10m2) (c := k10c2) (by decide +kernel) rfl rfl rfl (by decide +kernel)
set_option maxRecDepth 65536 in
theorem w_c29 : (Jvm.Cond.code ({ cls := "java/util/Arrays", name := "copyOfRange", desc := "([BII)[B" } : Jvm.MethodName) jdk_65_method_132_code (3 : Nat) (Option.some (Jvm.ClassFile.FieldType.array Jvm.ClassFile.FieldType.byte))).before args0 about1 = true := code_word (m := ⟨22, 3⟩) (meth := k22m3) (c := k22c3) (by decide +kernel) rfl rfl rfl (by decide +kernel)
set_option maxRecDepth 65536 in
theorem w_c30 : (Jvm.Cond.code ({ cls := "java/util/Arrays", name := "copyOfRangeByte", desc := "([BII)[B" } : Jvm.MethodName) jdk_65_method_133_code (5 : Nat) (Option.some (Jvm.ClassFile.FieldType.array Jvm.ClassFile.FieldType.byte))).before args0 about1 = true := code_word (m := ⟨22, 4⟩) (meth := k22m4) (c := k22c4) (by decide +kernel) rfl rfl rfl (by decide +kernel)
set_option maxRecDepth 65536 in
theorem w_c31 : (Jvm.Cond.code ({ cls := "java/util/Arrays", name := "checkLength", desc := "(II)V" } : Jvm.MethodName) jdk_65_method_131_code (2 : Nat) (Option.none : Option Jvm.ClassFile.FieldType)).before args0 about1 = true := code_word (m := ⟨22, 2⟩) (meth := k22m2) (c := k22c2) (by decide +kernel) rfl rfl rfl (by decide +kernel)
set_option maxRecDepth 65536 in
theorem w_c32 : (Jvm.Cond.code ({ cls := "com/example/carter/carter/IncompleteEnqueueExceptionCountByFatePinLaw", name := "lit", desc := "(Ljava/lang/String;ILjava/lang/String;)I" } : Jvm.MethodName) method_4_code (4 : Nat) (Option.some Jvm.ClassFile.FieldType.int)).before args0 about1 = true := code_word (m := ⟨1, 3⟩) (meth := k1m3) (c := k1c3) (by decide +kernel) rfl rfl rfl (by decide +kernel)
set_option maxRecDepth 65536 in
theorem w_c33 : (Jvm.Cond.code ({ cls := "com/example/carter/carter/IncompleteEnqueueExceptionCountByFatePinLaw", name := "at", desc := "(Ljava/lang/String;ILjava/lang/String;I)Z" } : Jvm.MethodName) method_3_code (4 : Nat) (Option.some Jvm.ClassFile.FieldType.boolean)).before args0 about1 = true := code_word (m := ⟨1, 2⟩) (meth := k1m2) (c := k1c2) (by decide +kernel) rfl rfl rfl (by decide +kernel)
set_option maxRecDepth 65536 in
theorem w_c34 : (Jvm.Cond.code ({ cls := "java/lang/String", name := "charAt", desc := "(I)C" } : Jvm.MethodName) jdk_42_method_56_code (2 : Nat) (Option.some Jvm.ClassFile.FieldType.char)).before args0 about1 = true := code_word (m := ⟨15, 3⟩) (meth := k15m3) (c := k15c3) (by decide +kernel) rfl rfl rfl (by decide +kernel)
set_option maxRecDepth 65536 in
theorem w_c35 : (Jvm.Cond.code ({ cls := "java/lang/String", name := "isLatin1", desc := "()Z" } : Jvm.MethodName) jdk_42_method_154_code (1 : Nat) (Option.some Jvm.ClassFile.FieldType.boolean)).before args0 about1 = true := code_word (m := ⟨15, 7⟩) (meth := k15m7) (c := k15c7) (by decide +kernel) rfl rfl rfl (by decide +kernel)
set_option maxRecDepth 65536 in
theorem w_c36 : (Jvm.Cond.code ({ cls := "java/lang/StringLatin1", name := "charAt", desc := "([BI)C" } : Jvm.MethodName) jdk_43_method_2_code (2 : Nat) (Option.some Jvm.ClassFile.FieldType.char)).before args0 about1 = true := code_word (m := ⟨23, 1⟩) (meth := k23m1) (c := k23c1) (by decide +kernel) rfl rfl rfl (by decide +kernel)
set_option maxRecDepth 65536 in
theorem w_c37 : (Jvm.Cond.code ({ cls := "java/lang/String", name := "checkIndex", desc := "(II)V" } : Jvm.MethodName) jdk_42_method_155_code (2 : Nat) (Option.none : Option Jvm.ClassFile.FieldType)).before args0 about1 = true := code_word (m := ⟨15, 8⟩) (meth := k15m8) (c := k15c8) (by decide +kernel) rfl rfl rfl (by decide +kernel)
set_option maxRecDepth 65536 in
theorem w_c38 : (Jvm.Cond.code ({ cls := "jdk/internal/util/Preconditions", name := "checkIndex", desc := "(IILjava/util/function/BiFunction;)I" } : Jvm.MethodName) jdk_41_method_11_code (3 : Nat) (Option.some Jvm.ClassFile.FieldType.int)).before args0 about1 = true := code_word (m := ⟨24, 1⟩) (meth := k24m1) (c := k24c1) (by decide +kernel) rfl rfl rfl (by decide +kernel)
set_option maxRecDepth 65536 in
theorem w_c39 : (Jvm.Cond.code ({ cls := "com/example/carter/carter/IncompleteEnqueueExceptionCountByFatePinLaw", name := "num", desc := "(Ljava/lang/String;IJ)I" } : Jvm.MethodName) method_6_code (7 : Nat) (Option.some Jvm.ClassFile.FieldType.int)).before args0 about1 = true := code_word (m := ⟨1, 5⟩) (meth := k1m5) (c := k1c5) (by decide +kernel) rfl rfl rfl (by decide +kernel)
set_option maxRecDepth 65536 in
theorem w_c40 : (Jvm.Cond.code ({ cls := "com/example/carter/carter/IncompleteEnqueueExceptionCountByFatePinLaw", name := "dig", desc := "(Ljava/lang/String;IJJ)I" } : Jvm.MethodName) method_5_code (7 : Nat) (Option.some Jvm.ClassFile.FieldType.int)).before args0 about1 = true := code_word (m := ⟨1, 4⟩) (meth := k1m4) (c := k1c4) (by decide +kernel) rfl rfl rfl (by decide +kernel)
def codes1 : List Jvm.Cond := [Jvm.Cond.code x code maxLocals ret, Jvm.Cond.code ({ cls := "com/example/carter/carter/IncompleteEnqueueException", name := "countByFate", desc := "(JJJ)Ljava/lang/String;" } : Jvm.MethodName) prog_7_method_2_code (6 : Nat) (Option.some (Jvm.ClassFile.FieldType.object "java/lang/String")), Jvm.Cond.code ({ cls := "java/lang/StringBuilder", name := "<init>", desc := "()V" } : Jvm.MethodName) jdk_67_method_1_code (1 : Nat) (Option.none : Option Jvm.ClassFile.FieldType), Jvm.Cond.code ({ cls := "java/lang/AbstractStringBuilder", name := "<init>", desc := "(I)V" } : Jvm.MethodName) jdk_68_method_2_code (2 : Nat) (Option.none : Option Jvm.ClassFile.FieldType), Jvm.Cond.code ({ cls := "java/lang/Object", name := "<init>", desc := "()V" } : Jvm.MethodName) object_method_1_code (1 : Nat) (Option.none : Option Jvm.ClassFile.FieldType), Jvm.Cond.code ({ cls := "java/lang/StringBuilder", name := "append", desc := "(Ljava/lang/String;)Ljava/lang/StringBuilder;" } : Jvm.MethodName) jdk_67_method_7_code (2 : Nat) (Option.some (Jvm.ClassFile.FieldType.object "java/lang/StringBuilder")), Jvm.Cond.code ({ cls := "java/lang/AbstractStringBuilder", name := "append", desc := "(Ljava/lang/String;)Ljava/lang/AbstractStringBuilder;" } : Jvm.MethodName) jdk_68_method_22_code (3 : Nat) (Option.some (Jvm.ClassFile.FieldType.object "java/lang/AbstractStringBuilder")), Jvm.Cond.code ({ cls := "java/lang/String", name := "length", desc := "()I" } : Jvm.MethodName) jdk_42_method_54_code (1 : Nat) (Option.some Jvm.ClassFile.FieldType.int), Jvm.Cond.code ({ cls := "java/lang/String", name := "coder", desc := "()B" } : Jvm.MethodName) jdk_42_method_152_code (1 : Nat) (Option.some Jvm.ClassFile.FieldType.byte), Jvm.Cond.code ({ cls := "java/lang/AbstractStringBuilder", name := "ensureCapacityInternal", desc := "(I)V" } : Jvm.MethodName) jdk_68_method_9_code (3 : Nat) (Option.none : Option Jvm.ClassFile.FieldType), Jvm.Cond.code ({ cls := "java/lang/AbstractStringBuilder", name := "putStringAt", desc := "(ILjava/lang/String;)V" } : Jvm.MethodName) jdk_68_method_73_code (3 : Nat) (Option.none : Option Jvm.ClassFile.FieldType), Jvm.Cond.code ({ cls := "java/lang/AbstractStringBuilder", name := "inflateIfNeededFor", desc := "(Ljava/lang/String;)V" } : Jvm.MethodName) jdk_68_method_71_code (2 : Nat) (Option.none : Option Jvm.ClassFile.FieldType), Jvm.Cond.code ({ cls := "java/lang/String", name := "getBytes", desc := "([BIB)V" } : Jvm.MethodName) jdk_42_method_147_code (4 : Nat) (Option.none : Option Jvm.ClassFile.FieldType), Jvm.Cond.code ({ cls := "java/lang/StringBuilder", name := "append", desc := "(J)Ljava/lang/StringBuilder;" } : Jvm.MethodName) jdk_67_method_16_code (3 : Nat) (Option.some (Jvm.ClassFile.FieldType.object "java/lang/StringBuilder")), Jvm.Cond.code ({ cls := "java/lang/AbstractStringBuilder", name := "append", desc := "(J)Ljava/lang/AbstractStringBuilder;" } : Jvm.MethodName) jdk_68_method_33_code (5 : Nat) (Option.some (Jvm.ClassFile.FieldType.object "java/lang/AbstractStringBuilder")), Jvm.Cond.code ({ cls := "java/lang/Long", name := "stringSize", desc := "(J)I" } : Jvm.MethodName) jdk_35_method_15_code (6 : Nat) (Option.some Jvm.ClassFile.FieldType.int), Jvm.Cond.code ({ cls := "java/lang/AbstractStringBuilder", name := "isLatin1", desc := "()Z" } : Jvm.MethodName) jdk_68_method_68_code (1 : Nat) (Option.some Jvm.ClassFile.FieldType.boolean), Jvm.Cond.code ({ cls := "java/lang/Long", name := "getChars", desc := "(JI[B)I" } : Jvm.MethodName) jdk_35_method_14_code (11 : Nat) (Option.some Jvm.ClassFile.FieldType.int), Jvm.Cond.code ({ cls := "java/lang/AbstractStringBuilder", name := "newCapacity", desc := "(I)I" } : Jvm.MethodName) jdk_68_method_10_code (6 : Nat) (Option.some Jvm.ClassFile.FieldType.int), Jvm.Cond.code ({ cls := "jdk/internal/util/ArraysSupport", name := "newLength", desc := "(III)I" } : Jvm.MethodName) jdk_48_method_27_code (4 : Nat) (Option.some Jvm.ClassFile.FieldType.int), Jvm.Cond.code ({ cls := "java/lang/Math", name := "max", desc := "(II)I" } : Jvm.MethodName) jdk_29_method_65_code (2 : Nat) (Option.some Jvm.ClassFile.FieldType.int), Jvm.Cond.code ({ cls := "java/util/Arrays", name := "copyOf", desc := "([BI)[B" } : Jvm.MethodName) jdk_65_method_121_code (3 : Nat) (Option.some (Jvm.ClassFile.FieldType.array Jvm.ClassFile.FieldType.byte)), Jvm.Cond.code ({ cls := "java/lang/Math", name := "min", desc := "(II)I" } : Jvm.MethodName) jdk_29_method_69_code (2 : Nat) (Option.some Jvm.ClassFile.FieldType.int), Jvm.Cond.code ({ cls := "java/lang/StringBuilder", name := "toString", desc := "()Ljava/lang/String;" } : Jvm.MethodName) jdk_67_method_42_code (1 : Nat) (Option.some (Jvm.ClassFile.FieldType.object "java/lang/String")), Jvm.Cond.code ({ cls := "java/lang/String", name := "<init>", desc := "(Ljava/lang/StringBuilder;)V" } : Jvm.MethodName) jdk_42_method_53_code (2 : Nat) (Option.none : Option Jvm.ClassFile.FieldType), Jvm.Cond.code ({ cls := "java/lang/String", name := "<init>", desc := "(Ljava/lang/AbstractStringBuilder;Ljava/lang/Void;)V" } : Jvm.MethodName) jdk_42_method_150_code (5 : Nat) (Option.none : Option Jvm.ClassFile.FieldType), Jvm.Cond.code ({ cls := "java/lang/AbstractStringBuilder", name := "getValue", desc := "()[B" } : Jvm.MethodName) jdk_68_method_64_code (1 : Nat) (Option.some (Jvm.ClassFile.FieldType.array Jvm.ClassFile.FieldType.byte)), Jvm.Cond.code ({ cls := "java/lang/StringBuilder", name := "length", desc := "()I" } : Jvm.MethodName) jdk_67_method_93_code (1 : Nat) (Option.some Jvm.ClassFile.FieldType.int), Jvm.Cond.code ({ cls := "java/lang/AbstractStringBuilder", name := "length", desc := "()I" } : Jvm.MethodName) jdk_68_method_6_code (1 : Nat) (Option.some Jvm.ClassFile.FieldType.int), Jvm.Cond.code ({ cls := "java/util/Arrays", name := "copyOfRange", desc := "([BII)[B" } : Jvm.MethodName) jdk_65_method_132_code (3 : Nat) (Option.some (Jvm.ClassFile.FieldType.array Jvm.ClassFile.FieldType.byte)), Jvm.Cond.code ({ cls := "java/util/Arrays", name := "copyOfRangeByte", desc := "([BII)[B" } : Jvm.MethodName) jdk_65_method_133_code (5 : Nat) (Option.some (Jvm.ClassFile.FieldType.array Jvm.ClassFile.FieldType.byte)), Jvm.Cond.code ({ cls := "java/util/Arrays", name := "checkLength", desc := "(II)V" } : Jvm.MethodName) jdk_65_method_131_code (2 : Nat) (Option.none : Option Jvm.ClassFile.FieldType), Jvm.Cond.code ({ cls := "com/example/carter/carter/IncompleteEnqueueExceptionCountByFatePinLaw", name := "lit", desc := "(Ljava/lang/String;ILjava/lang/String;)I" } : Jvm.MethodName) method_4_code (4 : Nat) (Option.some Jvm.ClassFile.FieldType.int), Jvm.Cond.code ({ cls := "com/example/carter/carter/IncompleteEnqueueExceptionCountByFatePinLaw", name := "at", desc := "(Ljava/lang/String;ILjava/lang/String;I)Z" } : Jvm.MethodName) method_3_code (4 : Nat) (Option.some Jvm.ClassFile.FieldType.boolean), Jvm.Cond.code ({ cls := "java/lang/String", name := "charAt", desc := "(I)C" } : Jvm.MethodName) jdk_42_method_56_code (2 : Nat) (Option.some Jvm.ClassFile.FieldType.char), Jvm.Cond.code ({ cls := "java/lang/String", name := "isLatin1", desc := "()Z" } : Jvm.MethodName) jdk_42_method_154_code (1 : Nat) (Option.some Jvm.ClassFile.FieldType.boolean), Jvm.Cond.code ({ cls := "java/lang/StringLatin1", name := "charAt", desc := "([BI)C" } : Jvm.MethodName) jdk_43_method_2_code (2 : Nat) (Option.some Jvm.ClassFile.FieldType.char), Jvm.Cond.code ({ cls := "java/lang/String", name := "checkIndex", desc := "(II)V" } : Jvm.MethodName) jdk_42_method_155_code (2 : Nat) (Option.none : Option Jvm.ClassFile.FieldType), Jvm.Cond.code ({ cls := "jdk/internal/util/Preconditions", name := "checkIndex", desc := "(IILjava/util/function/BiFunction;)I" } : Jvm.MethodName) jdk_41_method_11_code (3 : Nat) (Option.some Jvm.ClassFile.FieldType.int), Jvm.Cond.code ({ cls := "com/example/carter/carter/IncompleteEnqueueExceptionCountByFatePinLaw", name := "num", desc := "(Ljava/lang/String;IJ)I" } : Jvm.MethodName) method_6_code (7 : Nat) (Option.some Jvm.ClassFile.FieldType.int), Jvm.Cond.code ({ cls := "com/example/carter/carter/IncompleteEnqueueExceptionCountByFatePinLaw", name := "dig", desc := "(Ljava/lang/String;IJJ)I" } : Jvm.MethodName) method_5_code (7 : Nat) (Option.some Jvm.ClassFile.FieldType.int)]
set_option maxRecDepth 65536 in
theorem codes_eq : words1.filter isCode = codes1 := rfl
theorem w_codes : ∀ c ∈ words1.filter isCode, c.before args0 about1 = true := by
  rw [codes_eq]
  intro c hc
  simp only [codes1, List.mem_cons, List.not_mem_nil, or_false] at hc
  rcases hc with rfl | rfl | rfl | rfl | rfl | rfl | rfl | rfl | rfl | rfl | rfl | rfl | rfl | rfl | rfl | rfl | rfl | rfl | rfl | rfl | rfl | rfl | rfl | rfl | rfl | rfl | rfl | rfl | rfl | rfl | rfl | rfl | rfl | rfl | rfl | rfl | rfl | rfl | rfl | rfl | rfl
  · exact w_c0
  · exact w_c1
  · exact w_c2
  · exact w_c3
  · exact w_c4
  · exact w_c5
  · exact w_c6
  · exact w_c7
  · exact w_c8
  · exact w_c9
  · exact w_c10
  · exact w_c11
  · exact w_c12
  · exact w_c13
  · exact w_c14
  · exact w_c15
  · exact w_c16
  · exact w_c17
  · exact w_c18
  · exact w_c19
  · exact w_c20
  · exact w_c21
  · exact w_c22
  · exact w_c23
  · exact w_c24
  · exact w_c25
  · exact w_c26
  · exact w_c27
  · exact w_c28
  · exact w_c29
  · exact w_c30
  · exact w_c31
  · exact w_c32
  · exact w_c33
  · exact w_c34
  · exact w_c35
  · exact w_c36
  · exact w_c37
  · exact w_c38
  · exact w_c39
  · exact w_c40
set_option maxRecDepth 65536 in
theorem w_t1 : (words1.take 24).all (fun c => isCode c || c.before args0 about1) = true := by decide +kernel
set_option maxRecDepth 65536 in
theorem w_t2 : ((words1.drop 24).take 24).all (fun c => isCode c || c.before args0 about1) = true := by decide +kernel
set_option maxRecDepth 65536 in
theorem w_t3 : (((words1.drop 24).drop 24).take 24).all (fun c => isCode c || c.before args0 about1) = true := by decide +kernel
set_option maxRecDepth 65536 in
theorem w_t4 : ((((words1.drop 24).drop 24).drop 24).take 24).all (fun c => isCode c || c.before args0 about1) = true := by decide +kernel
set_option maxRecDepth 65536 in
theorem w_t5 : (((((words1.drop 24).drop 24).drop 24).drop 24).take 24).all (fun c => isCode c || c.before args0 about1) = true := by decide +kernel
set_option maxRecDepth 65536 in
theorem w_t6 : ((((((words1.drop 24).drop 24).drop 24).drop 24).drop 24).take 24).all (fun c => isCode c || c.before args0 about1) = true := by decide +kernel
set_option maxRecDepth 65536 in
theorem w_t7 : (((((((words1.drop 24).drop 24).drop 24).drop 24).drop 24).drop 24).take 24).all (fun c => isCode c || c.before args0 about1) = true := by decide +kernel
set_option maxRecDepth 65536 in
theorem w_t8 : ((((((((words1.drop 24).drop 24).drop 24).drop 24).drop 24).drop 24).drop 24).take 24).all (fun c => isCode c || c.before args0 about1) = true := by decide +kernel
set_option maxRecDepth 65536 in
theorem w_t9 : (((((((((words1.drop 24).drop 24).drop 24).drop 24).drop 24).drop 24).drop 24).drop 24).take 24).all (fun c => isCode c || c.before args0 about1) = true := by decide +kernel
set_option maxRecDepth 65536 in
theorem w_t10 : ((((((((((words1.drop 24).drop 24).drop 24).drop 24).drop 24).drop 24).drop 24).drop 24).drop 24).take 24).all (fun c => isCode c || c.before args0 about1) = true := by decide +kernel
set_option maxRecDepth 65536 in
theorem w_t11 : ((((((((((words1.drop 24).drop 24).drop 24).drop 24).drop 24).drop 24).drop 24).drop 24).drop 24).drop 24).all (fun c => isCode c || c.before args0 about1) = true := by decide +kernel
theorem w_tables : (allAtoms (Jvm.Cond.code x code maxLocals ret :: tables_1)).before args0 about1 = true := by
  rw [allAtoms_all]
  show words1.all (fun c => c.before args0 about1) = true
  refine all_split ?_ w_codes
  rw [← List.take_append_drop 24 words1, List.all_append, w_t1, ← List.take_append_drop 24 (words1.drop 24), List.all_append, w_t2, ← List.take_append_drop 24 ((words1.drop 24).drop 24), List.all_append, w_t3, ← List.take_append_drop 24 (((words1.drop 24).drop 24).drop 24), List.all_append, w_t4, ← List.take_append_drop 24 ((((words1.drop 24).drop 24).drop 24).drop 24), List.all_append, w_t5, ← List.take_append_drop 24 (((((words1.drop 24).drop 24).drop 24).drop 24).drop 24), List.all_append, w_t6, ← List.take_append_drop 24 ((((((words1.drop 24).drop 24).drop 24).drop 24).drop 24).drop 24), List.all_append, w_t7, ← List.take_append_drop 24 (((((((words1.drop 24).drop 24).drop 24).drop 24).drop 24).drop 24).drop 24), List.all_append, w_t8, ← List.take_append_drop 24 ((((((((words1.drop 24).drop 24).drop 24).drop 24).drop 24).drop 24).drop 24).drop 24), List.all_append, w_t9, ← List.take_append_drop 24 (((((((((words1.drop 24).drop 24).drop 24).drop 24).drop 24).drop 24).drop 24).drop 24).drop 24), List.all_append, w_t10, w_t11]
  rfl
set_option maxRecDepth 65536 in
theorem w_rest : rest_1_c.before args0 about1 = true := by decide +kernel
set_option maxRecDepth 65536 in
theorem w_case : (Jvm.Cond.and given_1 narrow_1).before args0 about1 = true := by decide +kernel
set_option maxRecDepth 65536 in
theorem w_consts : constsHeld consts_1 about1 := Jvm.Lit.constsHeldB_iff.mp (by decide +kernel)
theorem w_applies : (headSpec (Jvm.Cond.code x code maxLocals ret :: tables_1) room_1).applies x e0.platform about1 = true :=
  (Spec.applies_iff w_frames).mpr ⟨w_running, w_runnable, w_alone, w_named, w_hears, w_ripe, w_room, w_tables⟩
theorem atStart : AtStart classFile x code maxLocals ret World_1 tables_1 room_1 Calls_1 rest_1 Pre_1 launch0 p0 e0 about1 theMethod args0 below0 :=
  ⟨lists_1, trivial, launch0.admits_env _ _ _, launch0.least_env, fairChoices_fair.cas, fairChoices_fair.clock, w_frames, w_args, w_heap, w_applies, ⟨w_consts, trivial⟩, w_rest, w_case⟩
end start1
theorem witness_1 : WitnessClaimed_1 := ⟨start1.p0, start1.e0, start1.about1, start1.theMethod, start1.args0, start1.below0, start1.atStart⟩
end Jvm.Pilot.@@N@@
