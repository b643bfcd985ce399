import JvmDerived
import JvmDerived.Pilot.@@N@@Statement
import JvmDerived.Pilot.@@N@@Code
set_option linter.unusedVariables false
set_option linter.unusedSimpArgs false
@@BLOCK:NumsL.lean.txt@@
namespace Jvm.RoadKit
open Sem ClassFile Op Lib Jvm.Stand Jvm.Free Jvm.LawKit
section Own
variable {p : Program} {l : Launch} {e : Env} {R : Room} {s : State} {m : MethodId} {args : Array Value} {below : List Frame} {meth : Method} {c : Code} {T T' : State} {locs : List Loc} {cells slots : Nat} {Z : State} {h0 h : Heap} {a0 : Array Value} {Q Q' : Option Value → Heap → List Loc → Prop} {rm rm0 : Room}
/-- from here on the walk returns, and what it leaves is Q -/
def own_Ends (p : Program) (e : Env) (below : List Frame) (s : State) (Q : Option Value → Heap → List Loc → Prop) (rm : Room) (T : State) (g : JFrame) : Prop :=
  ∃ s₂ o, Steps p.tables e below (T.setTop g) s₂ ∧ s₂.status = .running ∧ Ended s₂ below o ∧ ∃ v L, o = .returned v ∧ Q v s₂.heap L ∧ FrameEnd s o s₂ L rm.cells rm.slots
theorem own_go {g g' : JFrame} (h : ∀ t, Steps p.tables e below (T'.setTop g') t → Steps p.tables e below (T.setTop g) t) (H : own_Ends p e below s Q rm T' g') : own_Ends p e below s Q rm T g := by
  obtain ⟨s₂, o, h1, r⟩ := H
  exact ⟨s₂, o, h _ h1, r⟩
/-- a goal that may be stepped back -/
def own_Closed (p : Program) (e : Env) (below : List Frame) (G : State → JFrame → Prop) : Prop := ∀ (T T' : State) (g g' : JFrame), (∀ t, Steps p.tables e below (T'.setTop g') t → Steps p.tables e below (T.setTop g) t) → G T' g' → G T g
theorem own_closed : own_Closed p e below (own_Ends p e below s Q rm) := fun _ _ _ _ h H => own_go h H
theorem own_cast {g g' : JFrame} (q : g = g') (H : own_Ends p e below s Q rm T g') : own_Ends p e below s Q rm T g := q ▸ H
/-- it gives r back, and the heap as it was -/
def own_QP (h0 : Heap) (r : Option Value) (v : Option Value) (h : Heap) (L : List Loc) : Prop := v = r ∧ L = [] ∧ h = h0
theorem own_lrem (x y : Int64) : x - (x / y) * y = x % y := by
  apply Int64.toInt_inj.mp
  have h1 := Int64.le_toInt (x % y)
  have h2 := Int64.toInt_lt (x % y)
  rw [Int64.toInt_sub, Int64.toInt_mul, Int64.toInt_div, Int.bmod_mul_bmod, Int.sub_bmod_bmod, Int.mul_comm (x.toInt.tdiv y.toInt), ← Int.tmod_def, ← Int64.toInt_mod]
  exact Int.bmod_eq_of_le_mul_two (by omega) (by omega)
theorem own_lremM {g : JFrame} {target : State} (X : Stand p l e R s m args below meth c T locs cells slots) (hx : p.tables.exec = Jvm.exec) (hg : g.method = m) {x y : Int64} {rest : List Value} (hd : decode c.code g.pc = .ok (.lrem, 1)) (hs : g.stack = .long y :: .long x :: rest) (hy : y ≠ 0)
    (hr : Steps p.tables e below (T.setTop { g with pc := g.pc + 1, stack := .long (x % y) :: rest }) target) : Steps p.tables e below (T.setTop g) target := by
  have q : x - x / y * y = x % y := own_lrem x y
  exact XS.lrem X.here hx hg hd hs hy (by rw [q]; exact hr)
/-- a body's contract -/
def own_Met (l : Launch) (Z : State) (y : MethodName) (bytes : ByteArray) (maxL : Nat) (ret : Option FieldType) (ws : List Cond) (rm : Room) (as' : Array Value) (h0 : Heap) (Q : Option Value → Heap → List Loc → Prop) : Prop :=
  MetFree l y (head1 (Cond.code y bytes maxL ret :: ws) rm) (fun a U => a = as' ∧ Z.Warmed39 U.vm ∧ U.heap = h0) (fun _ _ _ _ _ => True) (fun _ U o U' => ∃ v L, o = .returned v ∧ Q v U'.heap L ∧ FrameEnd U o U' L rm.cells rm.slots)
theorem own_met {y : MethodName} {bytes : ByteArray} {maxL : Nat} {ret : Option FieldType} {ws : List Cond} {as' : Array Value} (hy : plainFor y = true)
    (H : ∀ (p : Program) (e : Env) (s : State) (m : MethodId) (below : List Frame) (meth : Method) (c : Code) (s₁ : State), p.tables.exec = Jvm.exec → c.code = bytes → c.maxLocals = maxL → s.vm.findClass y.cls = some m.cls → meth.name = y.name → meth.sig.returnType = ret → meth.locks = false → Z.Warmed39 s.vm →
      Stand p l e rm s m as' below meth c s₁ [] 0 0 → s₁.heap = h0 → own_Ends p e below s Q rm s₁ (entryFrame m as' maxL)) : own_Met l Z y bytes maxL ret ws rm as' h0 Q := by
  refine MetFree.of_bodySF hy hisR ?_
  intro p e s m args below meth c s₁ Bd hml0 hP hK
  obtain ⟨rfl, hZ, hh⟩ := hP
  exact H p e s m below meth c s₁ Bd.exec Bd.bytes hml0 (findClass_of_methodNamed Bd.named) (name_of_methodNamed Bd.named Bd.method).1 Bd.returns Bd.notSynchronized hZ (Stand.of_body Bd) (by rw [← hh, Bd.state]; rfl)
theorem own_retI (X : Stand p l e R s m args below meth c T locs cells slots) (hx : p.tables.exec = Jvm.exec) (hlk : meth.locks = false) {pc : Nat} {Ls : Array Slot} {z : Int32} {rest : List Value} (hret : meth.sig.returnType = some .int) (hd : decode c.code pc = .ok (.ireturn, 1))
    (hk : cells ≤ rm.cells) (hn : slots ≤ rm.slots) (hq : Q (some (.int z)) T.heap locs) : own_Ends p e below s Q rm T (mkF m pc Ls (.int z :: rest)) := by
  obtain ⟨fs, hr, hrun, hended, hW, hsame⟩ := X.leave (v := some (.int z)) (fun h => by rw [hret] at h; cases h) hlk
  exact ⟨_, _, retOut X hx hret rfl (Or.inl ⟨rfl, Or.inl rfl, z, rfl⟩) hd hr, hrun, hended, _, _, rfl, hq, ⟨_, rfl⟩, hW, hsame.mono hk hn⟩
theorem own_retN (X : Stand p l e R s m args below meth c T locs cells slots) (hx : p.tables.exec = Jvm.exec) (hlk : meth.locks = false) {pc : Nat} {Ls : Array Slot} {z z' : Int32} {t : FieldType} {rest : List Value} (hret : meth.sig.returnType = some t) (ht : t = .boolean ∨ t = .byte ∨ t = .char ∨ t = .short) (hd : decode c.code pc = .ok (.ireturn, 1)) (hz : nar t z = z')
    (hk : cells ≤ rm.cells) (hn : slots ≤ rm.slots) (hq : Q (some (.int z')) T.heap locs) : own_Ends p e below s Q rm T (mkF m pc Ls (.int z :: rest)) := by
  subst hz
  obtain ⟨fs, hr, hrun, hended, hW, hsame⟩ := X.leave (v := some (.int (nar t z))) (fun h => by rw [hret] at h; cases h) hlk
  exact ⟨_, _, retN X hx hret ht hd hr, hrun, hended, _, _, rfl, hq, ⟨_, rfl⟩, hW, hsame.mono hk hn⟩
theorem own_retA (X : Stand p l e R s m args below meth c T locs cells slots) (hx : p.tables.exec = Jvm.exec) (hlk : meth.locks = false) {pc : Nat} {Ls : Array Slot} {w : Value} {t : FieldType} {rest : List Value} (hret : meth.sig.returnType = some t) (ht : t.isReference = true) (hw : w.isRef = true) (hd : decode c.code pc = .ok (.areturn, 1))
    (hk : cells ≤ rm.cells) (hn : slots ≤ rm.slots) (hq : Q (some w) T.heap locs) : own_Ends p e below s Q rm T (mkF m pc Ls (w :: rest)) := by
  obtain ⟨fs, hr, hrun, hended, hW, hsame⟩ := X.leave (v := some w) (fun h => by rw [hret] at h; cases h) hlk
  have hnw : narrow t w = w := by cases w <;> cases t <;> first | rfl | cases ht | cases hw
  exact ⟨_, _, retOut X hx hret hnw (Or.inr (Or.inr (Or.inr (Or.inr ⟨rfl, ht, hw⟩)))) hd hr, hrun, hended, _, _, rfl, hq, ⟨_, rfl⟩, hW, hsame.mono hk hn⟩
theorem own_retJ (X : Stand p l e R s m args below meth c T locs cells slots) (hx : p.tables.exec = Jvm.exec) (hlk : meth.locks = false) {pc : Nat} {Ls : Array Slot} {z : Int64} {rest : List Value} (hret : meth.sig.returnType = some .long) (hd : decode c.code pc = .ok (.lreturn, 1))
    (hk : cells ≤ rm.cells) (hn : slots ≤ rm.slots) (hq : Q (some (.long z)) T.heap locs) : own_Ends p e below s Q rm T (mkF m pc Ls (.long z :: rest)) := by
  obtain ⟨fs, hr, hrun, hended, hW, hsame⟩ := X.leave (v := some (.long z)) (fun h => by rw [hret] at h; cases h) hlk
  exact ⟨_, _, retOut X hx hret rfl (Or.inr (Or.inl ⟨rfl, rfl, z, rfl⟩)) hd hr, hrun, hended, _, _, rfl, hq, ⟨_, rfl⟩, hW, hsame.mono hk hn⟩
theorem own_retV (X : Stand p l e R s m args below meth c T locs cells slots) (hx : p.tables.exec = Jvm.exec) (hlk : meth.locks = false) {pc : Nat} {Ls : Array Slot} (hret : meth.sig.returnType = none) (hd : decode c.code pc = .ok (.return_, 1))
    (hk : cells ≤ rm.cells) (hn : slots ≤ rm.slots) (hq : Q none T.heap locs) : own_Ends p e below s Q rm T (mkF m pc Ls []) := by
  obtain ⟨fs, hr, hrun, hended, hW, hsame⟩ := X.leave (v := none) (fun _ => rfl) hlk
  exact ⟨_, _, X.returnOut hx hret hd hr, hrun, hended, _, _, rfl, hq, ⟨_, rfl⟩, hW, hsame.mono hk hn⟩
/-- what an instance method's words say besides: its own class declares it; that class is no interface; the look-up from there finds it -/
theorem own_decl {y : MethodName} {bytes : ByteArray} {maxL : Nat} {ret : Option FieldType} (w : (Cond.instanceMethod y).before a0 Z = true) (wc : (Cond.code y bytes maxL ret).before a0 Z = true) : (Cond.declares y).before a0 Z = true := by
  obtain ⟨mk, methM, hn, hm, hs, -⟩ := Cond.instanceMethod_spec w
  obtain ⟨m2, c, h1, -, -, -, -, -, -, hsig⟩ := Cond.code_spec hn wc
  cases hm.symm.trans h1
  simp [Cond.before, Cond.holds, Cond.value, hn, hm, hs, hsig]
theorem own_nf {C6 : String} {y y6 : MethodName} (w6 : (Cond.selects C6 y6 y6).before a0 Z = true) (h6 : y6.cls = y.cls) : NotFace Z y := fun r0 h0 => by
  obtain ⟨c2, r2, m2, q1, q2, q3, q4, kP, hkP, hkPi⟩ := Cond.selects_spec w6
  have e1 := findClass_of_methodNamed q3
  have e2 := findClass_of_methodNamed h0
  rw [h6] at e1
  have q := Option.some.inj (e1.symm.trans e2)
  exact ⟨kP, by rw [← q]; exact hkP, hkPi⟩
theorem own_same {C6 : String} {y y6 : MethodName} (w : (Cond.instanceMethod y).before a0 Z = true) (w6 : (Cond.selects C6 y6 y6).before a0 Z = true) (h6 : y6.cls = y.cls) (hy : y.cls ≠ "java/lang/invoke/MethodHandle" ∧ y.cls ≠ "java/lang/invoke/VarHandle") : (Cond.sameMethod y.cls y.cls y.name y.desc).before a0 Z = true := by
  obtain ⟨mk, methM, hn, hm, hs, -⟩ := Cond.instanceMethod_spec w
  obtain ⟨kr, hk, hi⟩ := own_nf w6 h6 _ hn
  have e1 := findClass_of_methodNamed hn
  have e2 := State.methodFound?_of_named hn hy
  simp [Cond.before, Cond.holds, Cond.value, e1, e2, hn, hk, hi]
/-- invokevirtual by the contract of the body that the receiver's class selects -/
theorem own_callV {G : State → JFrame → Prop} (hG : own_Closed p e below G) (X : Stand p l e R s m args below meth c T locs cells slots) (hx : p.tables.exec = Jvm.exec) (hZ : Z.Warmed39 s.vm) {own C : String} {index : Nat} {y z : MethodName} (hown : s.vm.findClass own = some m.cls)
    (w1 : (Cond.methodLink own index y).before a0 Z = true) (w2 : (Cond.declares y).before a0 Z = true) (w3 : (Cond.selects C y z).before a0 Z = true) (w4 : (Cond.instanceMethod z).before a0 Z = true) {C6 : String} {y6 : MethodName} (w6 : (Cond.selects C6 y6 y6).before a0 Z = true) (h6 : y6.cls = y.cls) (hy : y.cls ≠ "java/lang/invoke/MethodHandle" ∧ y.cls ≠ "java/lang/invoke/VarHandle")
    {bytes : ByteArray} {maxL : Nat} {ret : Option FieldType} {as' : Array Value} (hM : own_Met l Z z bytes maxL ret [] rm as' h Q') (wc : (Cond.code z bytes maxL ret).before a0 Z = true) (wz : (Cond.initialized z.cls).before a0 Z = true)
    {b : Addr} (eT : T.heap = h) (E : Exa Z h b C) {pc W : Nat} {Ls : Array Slot} {argsL rest : List Value} (hsize : Ls.size = c.maxLocals) (hlen : ∀ sig, parseMethodDescriptor y.desc = some sig → argsL.length = sig.parameters.length)
    (hW : (rest.map fun v => v.category).sum ≤ W) (hf : rm.frames + 1 ≤ R.frames) (hl : W + (maxL + 11) + rm.locals ≤ R.locals) (hc : cells + rm.cells ≤ R.cells) (hn : slots + rm.slots ≤ R.slots)
    (hdg : decode c.code pc = .ok (.invokevirtual index, 3)) (has : (Value.ref b :: argsL).toArray = as') {st : List Value} (hst : st = argsL.reverse ++ .ref b :: rest)
    (k : ∀ (T' : State) (L : List Loc) (v : Option Value), Stand p l e R s m args below meth c T' (locs ++ L) (cells + rm.cells) (slots + rm.slots) → Q' v T'.heap L → G T' (mkF m (pc + 3) Ls (v.toList ++ rest))) :
    G T (mkF m pc Ls st) := by
  subst hst
  obtain ⟨cq, kq, qa, qb, qc⟩ := isOf hZ eT E
  obtain ⟨v, _, ⟨T4, L4, k4, n4⟩, -, X4, ⟨Lc, hQ, l4, y4, z4⟩, st4⟩ := X.virtualBack hx (y := y) (z := z) hown (mvT hZ w1) (mvT hZ w2) (own_nf (a0 := #[]) (mvT hZ w6) h6) (mvT hZ w3) (mvT hZ w4) hy (backOf (W := W) hM hZ wc wz hf hl) qa qc (g := mkF m pc Ls (argsL.reverse ++ .ref b :: rest)) rfl hsize (Steps.refl _) (argsL := argsL) (rest := rest) hlen rfl (by simpa [JFrame.monitorRoom] using hW) hdg (fun _ _ => ⟨has, eT, hc, hn⟩)
  dsimp only [Pt.U, Pt.locs, Pt.cells, Pt.slots] at X4 l4 y4 z4 st4 hQ
  subst l4 y4 z4
  exact hG _ _ _ _ (fun t kt => st4.trans kt) (k _ _ _ X4 hQ)
/-- the same through a class that inherits the method -/
theorem own_callU {G : State → JFrame → Prop} (hG : own_Closed p e below G) (X : Stand p l e R s m args below meth c T locs cells slots) (hx : p.tables.exec = Jvm.exec) (hZ : Z.Warmed39 s.vm) {own C owner : String} {index : Nat} {y z : MethodName} (hown : s.vm.findClass own = some m.cls)
    (w1 : (Cond.methodLink own index y).before a0 Z = true) (w0 : (Cond.sameMethod y.cls owner y.name y.desc).before a0 Z = true) (w2 : (Cond.declares ⟨owner, y.name, y.desc⟩).before a0 Z = true) (w3 : (Cond.selects C y z).before a0 Z = true) (w4 : (Cond.instanceMethod z).before a0 Z = true) (hy : owner ≠ "java/lang/invoke/MethodHandle" ∧ owner ≠ "java/lang/invoke/VarHandle")
    {bytes : ByteArray} {maxL : Nat} {ret : Option FieldType} {as' : Array Value} (hM : own_Met l Z z bytes maxL ret [] rm as' h Q') (wc : (Cond.code z bytes maxL ret).before a0 Z = true) (wz : (Cond.initialized z.cls).before a0 Z = true)
    {b : Addr} (eT : T.heap = h) (E : Exa Z h b C) {pc W : Nat} {Ls : Array Slot} {argsL rest : List Value} (hsize : Ls.size = c.maxLocals) (hlen : ∀ sig, parseMethodDescriptor y.desc = some sig → argsL.length = sig.parameters.length)
    (hW : (rest.map fun v => v.category).sum ≤ W) (hf : rm.frames + 1 ≤ R.frames) (hl : W + (maxL + 11) + rm.locals ≤ R.locals) (hc : cells + rm.cells ≤ R.cells) (hn : slots + rm.slots ≤ R.slots)
    (hdg : decode c.code pc = .ok (.invokevirtual index, 3)) (has : (Value.ref b :: argsL).toArray = as') {st : List Value} (hst : st = argsL.reverse ++ .ref b :: rest)
    (k : ∀ (T' : State) (L : List Loc) (v : Option Value), Stand p l e R s m args below meth c T' (locs ++ L) (cells + rm.cells) (slots + rm.slots) → Q' v T'.heap L → G T' (mkF m (pc + 3) Ls (v.toList ++ rest))) :
    G T (mkF m pc Ls st) := by
  subst hst
  obtain ⟨cq, kq, qa, qb, qc⟩ := isOf hZ eT E
  obtain ⟨v, _, ⟨T4, L4, k4, n4⟩, -, X4, ⟨Lc, hQ, l4, y4, z4⟩, st4⟩ := X.virtualBackUp hx (x := y) (y := z) hown (mvT hZ w1) (mvT hZ w0) (mvT hZ w2) hy (mvT hZ w3) (mvT hZ w4) (backOf (W := W) hM hZ wc wz hf hl) qa qc (g := mkF m pc Ls (argsL.reverse ++ .ref b :: rest)) rfl hsize (Steps.refl _) (argsL := argsL) (rest := rest) hlen rfl (by simpa [JFrame.monitorRoom] using hW) hdg (fun _ _ => ⟨has, eT, hc, hn⟩)
  dsimp only [Pt.U, Pt.locs, Pt.cells, Pt.slots] at X4 l4 y4 z4 st4 hQ
  subst l4 y4 z4
  exact hG _ _ _ _ (fun t kt => st4.trans kt) (k _ _ _ X4 hQ)
/-- a constructor by its contract -/
theorem own_callI {G : State → JFrame → Prop} (hG : own_Closed p e below G) (X : Stand p l e R s m args below meth c T locs cells slots) (hx : p.tables.exec = Jvm.exec) (hZ : Z.Warmed39 s.vm) {own : String} {index : Nat} {y : MethodName} (hy1 : y.name = "<init>") (hown : s.vm.findClass own = some m.cls)
    (w1 : (Cond.methodLink own index y).before a0 Z = true) (w4 : (Cond.instanceMethod y).before a0 Z = true) (hy : y.cls ≠ "java/lang/invoke/MethodHandle" ∧ y.cls ≠ "java/lang/invoke/VarHandle")
    {bytes : ByteArray} {maxL : Nat} {as' : Array Value} (hM : own_Met l Z y bytes maxL none [] rm as' h Q') (wc : (Cond.code y bytes maxL none).before a0 Z = true) (wz : (Cond.initialized y.cls).before a0 Z = true)
    {b : Addr} (eT : T.heap = h) {pc W : Nat} {Ls : Array Slot} {argsL rest : List Value} (hsize : Ls.size = c.maxLocals) (hlen : ∀ sig, parseMethodDescriptor y.desc = some sig → argsL.length = sig.parameters.length)
    (hW : (rest.map fun v => v.category).sum ≤ W) (hf : rm.frames + 1 ≤ R.frames) (hl : W + (maxL + 11) + rm.locals ≤ R.locals) (hc : cells + rm.cells ≤ R.cells) (hn : slots + rm.slots ≤ R.slots)
    (hdg : decode c.code pc = .ok (.invokespecial index, 3)) (has : (Value.ref b :: argsL).toArray = as') {st : List Value} (hst : st = argsL.reverse ++ .ref b :: rest)
    (k : ∀ (T' : State) (L : List Loc) (v : Option Value), Stand p l e R s m args below meth c T' (locs ++ L) (cells + rm.cells) (slots + rm.slots) → Q' v T'.heap L → G T' (mkF m (pc + 3) Ls (v.toList ++ rest))) :
    G T (mkF m pc Ls st) := by
  subst hst
  obtain ⟨v, _, ⟨T4, L4, k4, n4⟩, -, X4, ⟨Lc, hQ, l4, y4, z4⟩, st4⟩ := X.specialBack hx (y := y) hy1 hown (mvT hZ w1) (mvT hZ w4) (mvT hZ wc) hy (backOf (W := W) hM hZ wc wz hf hl) (g := mkF m pc Ls (argsL.reverse ++ .ref b :: rest)) rfl hsize (Steps.refl _) (a := b) (argsL := argsL) (rest := rest) hlen rfl (by simpa [JFrame.monitorRoom] using hW) hdg (fun _ _ => ⟨has, eT, hc, hn⟩)
  dsimp only [Pt.U, Pt.locs, Pt.cells, Pt.slots] at X4 l4 y4 z4 st4 hQ
  subst l4 y4 z4
  exact hG _ _ _ _ (fun t kt => st4.trans kt) (k _ _ _ X4 hQ)
/-- super.m(..) by its contract -/
theorem own_callX {G : State → JFrame → Prop} (hG : own_Closed p e below G) (X : Stand p l e R s m args below meth c T locs cells slots) (hx : p.tables.exec = Jvm.exec) (hZ : Z.Warmed39 s.vm) {own C : String} {index : Nat} {y : MethodName} (hown : s.vm.findClass own = some m.cls)
    (w1 : (Cond.methodLink own index y).before a0 Z = true) (w4 : (Cond.instanceMethod y).before a0 Z = true) (w5 : (Cond.superclass own y.cls).before a0 Z = true) {C6 : String} {y6 : MethodName} (w6 : (Cond.selects C6 y6 y6).before a0 Z = true) (h6 : y6.cls = y.cls) (hy : y.cls ≠ "java/lang/invoke/MethodHandle" ∧ y.cls ≠ "java/lang/invoke/VarHandle") (hni : y.name ≠ "<init>")
    {bytes : ByteArray} {maxL : Nat} {ret : Option FieldType} {as' : Array Value} (hM : own_Met l Z y bytes maxL ret [] rm as' h Q') (wc : (Cond.code y bytes maxL ret).before a0 Z = true) (wz : (Cond.initialized y.cls).before a0 Z = true)
    {b : Addr} (eT : T.heap = h) (E : Exa Z h b C) {pc W : Nat} {Ls : Array Slot} {argsL rest : List Value} (hsize : Ls.size = c.maxLocals) (hlen : ∀ sig, parseMethodDescriptor y.desc = some sig → argsL.length = sig.parameters.length)
    (hW : (rest.map fun v => v.category).sum ≤ W) (hf : rm.frames + 1 ≤ R.frames) (hl : W + (maxL + 11) + rm.locals ≤ R.locals) (hc : cells + rm.cells ≤ R.cells) (hn : slots + rm.slots ≤ R.slots)
    (hdg : decode c.code pc = .ok (.invokespecial index, 3)) (has : (Value.ref b :: argsL).toArray = as') {st : List Value} (hst : st = argsL.reverse ++ .ref b :: rest)
    (k : ∀ (T' : State) (L : List Loc) (v : Option Value), Stand p l e R s m args below meth c T' (locs ++ L) (cells + rm.cells) (slots + rm.slots) → Q' v T'.heap L → G T' (mkF m (pc + 3) Ls (v.toList ++ rest))) :
    G T (mkF m pc Ls st) := by
  subst hst
  obtain ⟨v, _, ⟨T4, L4, k4, n4⟩, -, X4, ⟨Lc, hQ, l4, y4, z4⟩, st4⟩ := superBack X hx hZ (y := y) hown w1 (own_same w4 w6 h6 hy) w4 w5 hni (backOf (W := W) hM hZ wc wz hf hl) eT (Ins.self E) (g := mkF m pc Ls (argsL.reverse ++ .ref b :: rest)) rfl hsize wc (argsL := argsL) (rest := rest) hlen rfl (by simpa [JFrame.monitorRoom] using hW) hdg (fun _ _ => ⟨has, eT, hc, hn⟩)
  dsimp only [Pt.U, Pt.locs, Pt.cells, Pt.slots] at X4 l4 y4 z4 st4 hQ
  subst l4 y4 z4
  exact hG _ _ _ _ (fun t kt => st4.trans kt) (k _ _ _ X4 hQ)
/-- invokestatic by the callee's contract -/
theorem own_callS {G : State → JFrame → Prop} (hG : own_Closed p e below G) (X : Stand p l e R s m args below meth c T locs cells slots) (hx : p.tables.exec = Jvm.exec) (hZ : Z.Warmed39 s.vm) {own : String} {index : Nat} {y : MethodName} (hown : s.vm.findClass own = some m.cls)
    (w1 : (Cond.methodLink own index y).before a0 Z = true) (w2 : (Cond.static y).before a0 Z = true) (hy : y.cls ≠ "java/lang/invoke/MethodHandle" ∧ y.cls ≠ "java/lang/invoke/VarHandle")
    {bytes : ByteArray} {maxL : Nat} {ret : Option FieldType} {as' : Array Value} (hM : own_Met l Z y bytes maxL ret [] rm as' h Q') (wc : (Cond.code y bytes maxL ret).before a0 Z = true) (wz : (Cond.initialized y.cls).before a0 Z = true)
    (eT : T.heap = h) {pc W : Nat} {Ls : Array Slot} {argsL rest : List Value} (hsize : Ls.size = c.maxLocals) (hlen : ∀ sig, parseMethodDescriptor y.desc = some sig → argsL.length = sig.parameters.length)
    (hW : (rest.map fun v => v.category).sum ≤ W) (hf : rm.frames + 1 ≤ R.frames) (hl : W + (maxL + 11) + rm.locals ≤ R.locals) (hc : cells + rm.cells ≤ R.cells) (hn : slots + rm.slots ≤ R.slots)
    (hdg : decode c.code pc = .ok (.invokestatic index, 3)) (has : argsL.toArray = as') {st : List Value} (hst : st = argsL.reverse ++ rest)
    (k : ∀ (T' : State) (L : List Loc) (v : Option Value), Stand p l e R s m args below meth c T' (locs ++ L) (cells + rm.cells) (slots + rm.slots) → Q' v T'.heap L → G T' (mkF m (pc + 3) Ls (v.toList ++ rest))) :
    G T (mkF m pc Ls st) := by
  subst hst
  obtain ⟨v, _, ⟨T4, L4, k4, n4⟩, -, X4, ⟨Lc, hQ, l4, y4, z4⟩, st4⟩ := Jvm.LawKit.callS X hx (y := y) hown (mvT hZ w1) (mvT hZ w2) (mvT hZ wz) (mvT hZ wc) hy (backOf (W := W) hM hZ wc wz hf hl) (g := mkF m pc Ls (argsL.reverse ++ rest)) rfl hsize (argsL := argsL) (rest := rest) hlen rfl (by simpa [JFrame.monitorRoom] using hW) hdg (fun _ _ => ⟨has, eT, hc, hn⟩)
  dsimp only [Pt.U, Pt.locs, Pt.cells, Pt.slots] at X4 l4 y4 z4 st4 hQ
  subst l4 y4 z4
  exact hG _ _ _ _ (fun t kt => st4 t kt) (k _ _ _ X4 hQ)
/-- it gives r back; the heap has grown at the most -/
def own_QE (h0 : Heap) (r : Option Value) (v : Option Value) (h : Heap) (L : List Loc) : Prop := v = r ∧ L = [] ∧ Ext h0 h
theorem own_ext0 {h : Heap} : Ext h h := ⟨Nat.le_refl _, fun _ _ q => q⟩
theorem own_extT {h1 h2 h3 : Heap} (A : Ext h1 h2) (B : Ext h2 h3) : Ext h1 h3 := ⟨Nat.le_trans A.1 B.1, fun a c q => B.2 a c (A.2 a c q)⟩
theorem own_len (X : Stand p l e R s m args below meth c T locs cells slots) (hx : p.tables.exec = Jvm.exec) (hZ : Z.Warmed39 s.vm) (eT : T.heap = h) {a : Addr} {cl : Cell} {ty : FieldType} (A : Arr Z h a cl ty) {z : Int32} (hz : cl.slots.size.toInt32 = z) {g : JFrame} (hg : g.method = m) {rest : List Value} (hs : g.stack = .ref a :: rest) (hd : decode c.code g.pc = .ok (.arraylength, 1)) (t : State)
    (hr : Steps p.tables e below (T.setTop { g with pc := g.pc + 1, stack := .int z :: rest }) t) : Steps p.tables e below (T.setTop g) t := by
  subst hz
  exact X.arraylength hx (by rw [eT]; exact A.1) (State.isArrayOf_alike hZ.alike A.2.1) hg hs hd t hr
theorem own_aald (X : Stand p l e R s m args below meth c T locs cells slots) (hx : p.tables.exec = Jvm.exec) (hZ : Z.Warmed39 s.vm) (eT : T.heap = h) {a : Addr} {cl : Cell} {ty : FieldType} (A : Arr Z h a cl ty) (ht : ty.isReference = true) {j : Int32} {v : Value} (hin : ¬ (j < 0 ∨ cl.slots.size ≤ j.toNatClampNeg)) (hv : cl.slots[j.toNatClampNeg]? = some v) {g : JFrame} (hg : g.method = m) {rest : List Value} (hs : g.stack = .int j :: .ref a :: rest) (hd : decode c.code g.pc = .ok (.aaload, 1)) (t : State)
    (hr : Steps p.tables e below (T.setTop { g with pc := g.pc + 1, stack := v :: rest }) t) : Steps p.tables e below (T.setTop g) t :=
  X.aaload hx (by rw [eT]; exact A.1) (State.isArrayOf_alike hZ.alike A.2.1) ht A.2.2 hin hv hg hs hd t hr
theorem own_lald (X : Stand p l e R s m args below meth c T locs cells slots) (hx : p.tables.exec = Jvm.exec) (hZ : Z.Warmed39 s.vm) (eT : T.heap = h) {a : Addr} {cl : Cell} (A : Arr Z h a cl .long) {j : Int32} {v : Value} (hin : ¬ (j < 0 ∨ cl.slots.size ≤ j.toNatClampNeg)) (hv : cl.slots[j.toNatClampNeg]? = some v) {g : JFrame} (hg : g.method = m) {rest : List Value} (hs : g.stack = .int j :: .ref a :: rest) (hd : decode c.code g.pc = .ok (.laload, 1)) (t : State)
    (hr : Steps p.tables e below (T.setTop { g with pc := g.pc + 1, stack := v :: rest }) t) : Steps p.tables e below (T.setTop g) t :=
  X.laload hx (by rw [eT]; exact A.1) (State.isArrayOf_alike hZ.alike A.2.1) A.2.2 hin hv hg hs hd t hr
theorem own_bald (X : Stand p l e R s m args below meth c T locs cells slots) (hx : p.tables.exec = Jvm.exec) (hZ : Z.Warmed39 s.vm) (eT : T.heap = h) {a : Addr} {cl : Cell} (A : Arr Z h a cl .byte) {j : Int32} {v : Value} (hin : ¬ (j < 0 ∨ cl.slots.size ≤ j.toNatClampNeg)) (hv : cl.slots[j.toNatClampNeg]? = some v) {g : JFrame} (hg : g.method = m) {rest : List Value} (hs : g.stack = .int j :: .ref a :: rest) (hd : decode c.code g.pc = .ok (.baload, 1)) (t : State)
    (hr : Steps p.tables e below (T.setTop { g with pc := g.pc + 1, stack := v :: rest }) t) : Steps p.tables e below (T.setTop g) t :=
  X.baloadBytes hx (by rw [eT]; exact A.1) (State.isArrayOf_alike hZ.alike A.2.1) A.2.2 hin hv hg hs hd t hr
/-- a field that the case says holds what the other term holds -/
theorem own_fldR {t u : Term} {C n d : String} {a b : Addr} (ev : t.eval args s none [] s = some (.ref a)) (ev2 : u.eval args s none [] s = some (.ref b)) (hq : (Cond.eq (Term.field t C n d) u).value args s none s [] = some true) : Fld s s.heap a C n d (.ref b) := by
  obtain ⟨x, y, h1, h2, k1, k2⟩ := cmp_v (Or.inl hq)
  cases ev2.symm.trans h2
  have hx : x = .ref b := by
    cases x <;> simp [Kin, Value.isRef] at k1 k2
    · simp [Cond.value, h1, h2] at hq
    · simpa [Cond.value, h1, h2] using hq
  subst hx
  exact Fld.start ((fld_at ev).symm.trans h1)
/-- an element that the case says is what the other term is -/
theorem own_elemR {t u : Term} {k : Int32} {a b : Addr} {cl : Cell} (ev : t.eval args s none [] s = some (.ref a)) (hc : s.heap[a]? = some cl) (ev2 : u.eval args s none [] s = some (.ref b)) (hq : (Cond.eq (Term.elem t (Term.int k)) u).value args s none s [] = some true) : cl.slots[k.toNatClampNeg]? = some (.ref b) := by
  obtain ⟨x, y, h1, h2, k1, k2⟩ := cmp_v (Or.inl hq)
  cases ev2.symm.trans h2
  have hx : x = .ref b := by
    cases x <;> simp [Kin, Value.isRef] at k1 k2
    · simp [Cond.value, h1, h2] at hq
    · simpa [Cond.value, h1, h2] using hq
  subst hx
  exact (elem_in h1 ev rfl hc).2
/-- an element that the case says is this int -/
theorem own_elemI {t : Term} {k w : Int32} {a : Addr} {cl : Cell} (ev : t.eval args s none [] s = some (.ref a)) (hc : s.heap[a]? = some cl) (hq : (Cond.eq (Term.elem t (Term.int k)) (Term.int w)).value args s none s [] = some true) : cl.slots[k.toNatClampNeg]? = some (.int w) := by
  obtain ⟨x, y, h1, h2, k1, k2⟩ := cmp_v (Or.inl hq)
  have e2 : y = .int w := (Option.some.inj h2).symm
  subst e2
  obtain ⟨z, rfl⟩ : ∃ z, x = .int z := k2
  have e3 : z = w := by simpa [Cond.value, h1, h2] using hq
  subst e3
  exact (elem_in h1 ev rfl hc).2
/-- a length that the case says -/
theorem own_lenI {t : Term} {k : Int32} {a : Addr} {cl : Cell} {ty : FieldType} (ev : t.eval args s none [] s = some (.ref a)) (A : Arr s s.heap a cl ty) (hq : (Cond.eq (Term.length t) (Term.int k)).value args s none s [] = some true) (hk : ¬ k < 0) : cl.slots.size = k.toNatClampNeg := by
  obtain ⟨x, y, h1, h2, k1, k2⟩ := cmp_v (Or.inl hq)
  have e2 : y = .int k := (Option.some.inj h2).symm
  subst e2
  obtain ⟨z, rfl⟩ : ∃ z, x = .int z := k2
  have e3 : z = k := by simpa [Cond.value, h1, h2] using hq
  subst e3
  have ha : s.arrayAt? a = some cl := A.fin (Vm.Alike.refl _)
  by_cases hlt : cl.slots.size < 2 ^ 31
  · have q : cl.slots.size.toInt32 = z := by
      have h3 := len_f ev ha hlt
      rw [h1] at h3
      exact (Value.int.inj (Option.some.inj h3)).symm
    rw [← q]; simp only [Int32.toNatClampNeg, len_toInt hlt]; rfl
  · simp [Term.eval, ev, ha, hlt] at h1
/-- a field that the case says holds this int -/
theorem own_fldI {t : Term} {C n d : String} {k : Int32} {a : Addr} (ev : t.eval args s none [] s = some (.ref a)) (hq : (Cond.eq (Term.field t C n d) (Term.int k)).value args s none s [] = some true) : Fld s s.heap a C n d (.int k) := by
  obtain ⟨x, y, h1, h2, k1, k2⟩ := cmp_v (Or.inl hq)
  have e2 : y = .int k := (Option.some.inj h2).symm
  subst e2
  obtain ⟨z, rfl⟩ : ∃ z, x = .int z := k2
  have e3 : z = k := by simpa [Cond.value, h1, h2] using hq
  subst e3
  exact Fld.start ((fld_at ev).symm.trans h1)
end Own
end Jvm.RoadKit
namespace Jvm.Pilot.@@N@@
open Jvm Jvm.ClassFile Sem Op Lib Jvm.Free Jvm.Stand Jvm.LawKit Jvm.RoadKit Bundle Jvm.Pilot.@@N@@.Jvm.D
theorem pd_0 : parseMethodDescriptor "(IIIII)V" = some ⟨[.int, .int, .int, .int, .int], none⟩ := by decide +kernel
theorem pd_1 : parseMethodDescriptor "(II[J)V" = some ⟨[.int, .int, (.array .long)], none⟩ := by decide +kernel
theorem own_m3 (x : Int32) : (x &&& (3 : Int32)).toInt = x.toInt % 4 := Jvm.Kit.i32_mask x 3 (k := 2) (by decide) (by decide)
theorem own_n4 (x : Int32) : (1 : Int32) + (x &&& (3 : Int32)) = 1 ∨ (1 : Int32) + (x &&& (3 : Int32)) = 2 ∨ (1 : Int32) + (x &&& (3 : Int32)) = 3 ∨ (1 : Int32) + (x &&& (3 : Int32)) = 4 := by
  have h := own_m3 x
  have e1 : ((1 : Int32) + (x &&& (3 : Int32))).toInt = 1 + (x &&& (3 : Int32)).toInt := by
    rw [Int32.toInt_add, show (1 : Int32).toInt = 1 from by decide]
    exact Int.bmod_eq_of_le (by omega) (by omega)
  have c1 : (1 : Int32).toInt = 1 := by decide
  have c2 : (2 : Int32).toInt = 2 := by decide
  have c3 : (3 : Int32).toInt = 3 := by decide
  have c4 : (4 : Int32).toInt = 4 := by decide
  simp only [← Int32.toInt_inj]
  omega
theorem own_one (x m : Int32) (k : Nat) (hm : (x &&& m).toInt = x.toInt % 2 ^ k) (hk : (2 : Int) ^ k ≤ 1024) : 1 ≤ ((1 : Int32) + (x &&& m)).toInt ∧ ((1 : Int32) + (x &&& m)).toInt ≤ 2 ^ k := by
  have c1 : (1 : Int32).toInt = 1 := by decide
  have p : (0 : Int) < 2 ^ k := by exact Int.pow_pos (by decide)
  have a := Int.emod_nonneg x.toInt (Int.ne_of_gt p)
  have b := Int.emod_lt_of_pos x.toInt p
  have e1 : ((1 : Int32) + (x &&& m)).toInt = 1 + (x &&& m).toInt := Jvm.Kit.i32_add (by omega) (by omega)
  omega
theorem own_up (w c : Int32) (hw : 1 ≤ w.toInt) (hw2 : w.toInt ≤ 1024) (hc : 1 ≤ c.toInt) (hc2 : c.toInt ≤ 256) : 1 ≤ (((w + c) - (1 : Int32)) / c).toInt ∧ (((w + c) - (1 : Int32)) / c).toInt ≤ w.toInt := by
  have c1 : (1 : Int32).toInt = 1 := by decide
  have e1 : (w + c).toInt = w.toInt + c.toInt := Jvm.Kit.i32_add (by omega) (by omega)
  have e2 : ((w + c) - (1 : Int32)).toInt = w.toInt + c.toInt - 1 := by rw [Jvm.Kit.i32_sub (by omega) (by omega)]; omega
  have hne : c ≠ -1 := fun q => by
    have : c.toInt = -1 := by rw [q]; decide
    omega
  have e3 := (c_idiv ((w + c) - (1 : Int32)) c c.toInt rfl hne).1 (by omega)
  rw [e3, e2]
  have e4 : (w.toInt + c.toInt - 1) / c.toInt = (w.toInt - 1) / c.toInt + 1 := by
    rw [show w.toInt + c.toInt - 1 = (w.toInt - 1) + 1 * c.toInt by omega, Int.add_mul_ediv_right _ _ (by omega)]
  rw [e4]
  have a := Int.ediv_nonneg (show 0 ≤ w.toInt - 1 by omega) (show 0 ≤ c.toInt by omega)
  have b := Int.ediv_le_self c.toInt (show 0 ≤ w.toInt - 1 by omega)
  omega
theorem own_rem (x n : Int32) (hx : 0 ≤ x.toInt) (hn : 1 ≤ n.toInt) : 0 ≤ (x % n).toInt ∧ (x % n).toInt < n.toInt := by
  have e := (c_irem x n n.toInt rfl).1 hx
  rw [e]
  exact ⟨Int.emod_nonneg _ (by omega), Int.emod_lt_of_pos _ (by omega)⟩
theorem own_clamp {x : Int32} {k : Nat} (h : x.toInt ≤ k) : x.toNatClampNeg ≤ k := by
  simp only [Int32.toNatClampNeg]; omega
theorem own_nn {x : Int32} (h : 0 ≤ x.toInt) : ¬ x < 0 := by
  rw [Int32.lt_iff_toInt_lt]; have : (0 : Int32).toInt = 0 := by decide
  omega
def own_QC (Z : State) (h0 : Heap) (n0 : Nat) (a : Addr) (n z top : Int32) (v : Option Value) (h : Heap) (L : List Loc) : Prop := v = none ∧ Fr n0 L ∧ Keep h0 h [a] ∧ Exa Z h a "com/example/classic_strings/classicstrings/compare/Matrix$Checkpoints" ∧ Fld Z h a "com/example/classic_strings/classicstrings/compare/Matrix$Checkpoints" "top" "I" (.int top) ∧ ∃ (sa : Addr) (kA : ClassId) (vs : List Value), Fld Z h a "com/example/classic_strings/classicstrings/compare/Matrix$Checkpoints" "states" "[[J" (.ref sa) ∧ Arv Z h sa kA (.array .long) n vs .null ∧ ∀ j : Nat, j < n.toNatClampNeg → ∃ (r : Addr) (kJ : ClassId), vs.getD j .null = .ref r ∧ Arv Z h r kJ .long z [] (.long 0)
theorem d1_0 : decode prog_14_method_1_code 0 = .ok (.aload_n 0, 1) := by decide +kernel
theorem d1_1 : decode prog_14_method_1_code 1 = .ok (.invokespecial 1, 3) := by decide +kernel
theorem d1_4 : decode prog_14_method_1_code 4 = .ok (.aload_n 0, 1) := by decide +kernel
theorem d1_5 : decode prog_14_method_1_code 5 = .ok (.iload_n 1, 1) := by decide +kernel
theorem d1_6 : decode prog_14_method_1_code 6 = .ok (.putfield 7, 3) := by decide +kernel
theorem d1_9 : decode prog_14_method_1_code 9 = .ok (.aload_n 0, 1) := by decide +kernel
theorem d1_10 : decode prog_14_method_1_code 10 = .ok (.iload 4, 2) := by decide +kernel
theorem d1_12 : decode prog_14_method_1_code 12 = .ok (.putfield 13, 3) := by decide +kernel
theorem d1_15 : decode prog_14_method_1_code 15 = .ok (.aload_n 0, 1) := by decide +kernel
theorem d1_16 : decode prog_14_method_1_code 16 = .ok (.iload 5, 2) := by decide +kernel
theorem d1_18 : decode prog_14_method_1_code 18 = .ok (.putfield 16, 3) := by decide +kernel
theorem d1_21 : decode prog_14_method_1_code 21 = .ok (.aload_n 0, 1) := by decide +kernel
theorem d1_22 : decode prog_14_method_1_code 22 = .ok (.iload_n 2, 1) := by decide +kernel
theorem d1_23 : decode prog_14_method_1_code 23 = .ok (.iload_n 1, 1) := by decide +kernel
theorem d1_24 : decode prog_14_method_1_code 24 = .ok (.isub, 1) := by decide +kernel
theorem d1_25 : decode prog_14_method_1_code 25 = .ok (.iload 4, 2) := by decide +kernel
theorem d1_27 : decode prog_14_method_1_code 27 = .ok (.iadd, 1) := by decide +kernel
theorem d1_28 : decode prog_14_method_1_code 28 = .ok (.iconst 1, 1) := by decide +kernel
theorem d1_29 : decode prog_14_method_1_code 29 = .ok (.isub, 1) := by decide +kernel
theorem d1_30 : decode prog_14_method_1_code 30 = .ok (.iload 4, 2) := by decide +kernel
theorem d1_32 : decode prog_14_method_1_code 32 = .ok (.idiv, 1) := by decide +kernel
theorem d1_33 : decode prog_14_method_1_code 33 = .ok (.anewarray 19, 3) := by decide +kernel
theorem d1_36 : decode prog_14_method_1_code 36 = .ok (.putfield 21, 3) := by decide +kernel
theorem d1_39 : decode prog_14_method_1_code 39 = .ok (.iload_n 3, 1) := by decide +kernel
theorem d1_40 : decode prog_14_method_1_code 40 = .ok (.iload 5, 2) := by decide +kernel
theorem d1_42 : decode prog_14_method_1_code 42 = .ok (.iadd, 1) := by decide +kernel
theorem d1_43 : decode prog_14_method_1_code 43 = .ok (.iconst 1, 1) := by decide +kernel
theorem d1_44 : decode prog_14_method_1_code 44 = .ok (.isub, 1) := by decide +kernel
theorem d1_45 : decode prog_14_method_1_code 45 = .ok (.iload 5, 2) := by decide +kernel
theorem d1_47 : decode prog_14_method_1_code 47 = .ok (.idiv, 1) := by decide +kernel
theorem d1_48 : decode prog_14_method_1_code 48 = .ok (.istore 6, 2) := by decide +kernel
theorem d1_50 : decode prog_14_method_1_code 50 = .ok (.aload_n 0, 1) := by decide +kernel
theorem d1_51 : decode prog_14_method_1_code 51 = .ok (.iload_n 2, 1) := by decide +kernel
theorem d1_52 : decode prog_14_method_1_code 52 = .ok (.iload_n 1, 1) := by decide +kernel
theorem d1_53 : decode prog_14_method_1_code 53 = .ok (.isub, 1) := by decide +kernel
theorem d1_54 : decode prog_14_method_1_code 54 = .ok (.anewarray 25, 3) := by decide +kernel
theorem d1_57 : decode prog_14_method_1_code 57 = .ok (.putfield 27, 3) := by decide +kernel
theorem d1_60 : decode prog_14_method_1_code 60 = .ok (.iconst 0, 1) := by decide +kernel
theorem d1_61 : decode prog_14_method_1_code 61 = .ok (.istore 7, 2) := by decide +kernel
theorem d1_63 : decode prog_14_method_1_code 63 = .ok (.iload 7, 2) := by decide +kernel
theorem d1_65 : decode prog_14_method_1_code 65 = .ok (.aload_n 0, 1) := by decide +kernel
theorem d1_66 : decode prog_14_method_1_code 66 = .ok (.getfield 27, 3) := by decide +kernel
theorem d1_69 : decode prog_14_method_1_code 69 = .ok (.arraylength, 1) := by decide +kernel
theorem d1_70 : decode prog_14_method_1_code 70 = .ok (.if_icmp .ge 22, 3) := by decide +kernel
theorem d1_73 : decode prog_14_method_1_code 73 = .ok (.aload_n 0, 1) := by decide +kernel
theorem d1_74 : decode prog_14_method_1_code 74 = .ok (.getfield 27, 3) := by decide +kernel
theorem d1_77 : decode prog_14_method_1_code 77 = .ok (.iload 7, 2) := by decide +kernel
theorem d1_79 : decode prog_14_method_1_code 79 = .ok (.iconst 2, 1) := by decide +kernel
theorem d1_80 : decode prog_14_method_1_code 80 = .ok (.iload 6, 2) := by decide +kernel
theorem d1_82 : decode prog_14_method_1_code 82 = .ok (.imul, 1) := by decide +kernel
theorem d1_83 : decode prog_14_method_1_code 83 = .ok (.newarray .long, 2) := by decide +kernel
theorem d1_85 : decode prog_14_method_1_code 85 = .ok (.aastore, 1) := by decide +kernel
theorem d1_86 : decode prog_14_method_1_code 86 = .ok (.iinc 7 1, 3) := by decide +kernel
theorem d1_89 : decode prog_14_method_1_code 89 = .ok (.goto (-26), 3) := by decide +kernel
theorem d1_92 : decode prog_14_method_1_code 92 = .ok (.return_, 1) := by decide +kernel
theorem rmC_1_pn : plainFor (⟨"com/example/classic_strings/classicstrings/compare/Matrix$Checkpoints", "<init>", "(IIIII)V"⟩ : MethodName) = true := plainFor_of_name (show plainName "com/example/classic_strings/classicstrings/compare/Matrix$Checkpoints" = true by first | (simp [plainName, overriddenIn]; done) | decide +kernel)
theorem rmC_1_ef (mI : MethodId) (a : Addr) (top : Int32) (bottom : Int32) (w : Int32) (tier : Int32) (cc : Int32) : entryFrame mI #[(.ref a), (.int top), (.int bottom), (.int w), (.int tier), (.int cc)] 8 = mkF mI 0 #[.val (.ref a), .val (.int top), .val (.int bottom), .val (.int w), .val (.int tier), .val (.int cc), .unset, .unset] [] := by first | (simp [entryFrame, mkF, argsToLocals, Value.category]; done) | rfl
set_option maxRecDepth 65536 in
set_option maxHeartbeats 40000000 in
theorem rmC_1 (l : Launch) (Z : State) (a0 : Array Value) (hw : ∀ d ∈ tables_1, d.before a0 Z = true) (ws : List Jvm.Cond) (h0 : Heap) (n0 : Nat) (Z0 : n0 ≤ h0.size) (a : Addr) (top bottom w tier cc ch z1 : Int32) (E_a : Exa Z h0 a "com/example/classic_strings/classicstrings/compare/Matrix$Checkpoints") (F_top : Fld Z h0 a "com/example/classic_strings/classicstrings/compare/Matrix$Checkpoints" "top" "I" (.int 0)) (F_tierStrips : Fld Z h0 a "com/example/classic_strings/classicstrings/compare/Matrix$Checkpoints" "tierStrips" "I" (.int 0)) (F_chunkColumns : Fld Z h0 a "com/example/classic_strings/classicstrings/compare/Matrix$Checkpoints" "chunkColumns" "I" (.int 0)) (F_carries : Fld Z h0 a "com/example/classic_strings/classicstrings/compare/Matrix$Checkpoints" "carries" "[[B" .null) (F_states : Fld Z h0 a "com/example/classic_strings/classicstrings/compare/Matrix$Checkpoints" "states" "[[J" .null) (g_a : n0 ≤ a) (hd : bottom - top = (1 : Int32)) (htz : ¬ tier = 0) (hz1 : (((1 : Int32) + tier) - (1 : Int32)) / tier = z1) (hz1n : ¬ z1 < 0) (hz1c : z1.toNatClampNeg ≤ 8) (hcz : ¬ cc = 0) (hch : ((w + cc) - (1 : Int32)) / cc = ch) (hrn : ¬ ((2 : Int32) * ch) < 0) (hrc : ((2 : Int32) * ch).toNatClampNeg ≤ 2048) :
    own_Met l Z (⟨"com/example/classic_strings/classicstrings/compare/Matrix$Checkpoints", "<init>", "(IIIII)V"⟩ : MethodName) prog_14_method_1_code 8 none ws ({ frames := 1, cells := 6, slots := 8204, locals := 12 } : Room) #[(.ref a), (.int top), (.int bottom), (.int w), (.int tier), (.int cc)] h0 (own_QC Z h0 n0 a (1 : Int32) ((2 : Int32) * ch) top) := by
  refine own_met rmC_1_pn ?_
  intro pP eE sS mI bB mT cC s₁ hx hby hml hown hnm hret hlk hZ X0 e0
  replace hown : sS.vm.findClass "com/example/classic_strings/classicstrings/compare/Matrix$Checkpoints" = some mI.cls := hown
  refine own_cast (rmC_1_ef mI a top bottom w tier cc) ?_
  refine own_go (T' := s₁) (g' := (mkF mI 1 #[.val (.ref a), .val (.int top), .val (.int bottom), .val (.int w), .val (.int tier), .val (.int cc), .unset, .unset] [(.ref a)])) (fun t_ kt_ => XS.aloadN X0.here hx rfl (hb hby d1_0) rfl rfl kt_) ?_
  obtain ⟨Ta1_1, Xa1_1, ea1_1, sta1_1⟩ := initO X0 hx hZ hown (hw _ (List.mem_of_getElem? (i := 8) rfl)) (hw _ (List.mem_of_getElem? (i := 9) rfl)) (hw _ (List.mem_of_getElem? (i := 10) rfl)) e0 (g := (mkF mI 1 #[.val (.ref a), .val (.int top), .val (.int bottom), .val (.int w), .val (.int tier), .val (.int cc), .unset, .unset] [(.ref a)])) rfl (by rw [hml]; rfl) rfl (hb hby d1_1) (by decide) (W := 0) (by show 2 * 0 + _ ≤ _; exact Nat.le_of_eq rfl) (by decide)
  refine own_go (T' := Ta1_1) (g' := (mkF mI 4 #[.val (.ref a), .val (.int top), .val (.int bottom), .val (.int w), .val (.int tier), .val (.int cc), .unset, .unset] [])) (fun t_ kt_ => sta1_1 _ kt_) ?_
  refine own_go (T' := Ta1_1) (g' := (mkF mI 5 #[.val (.ref a), .val (.int top), .val (.int bottom), .val (.int w), .val (.int tier), .val (.int cc), .unset, .unset] [(.ref a)])) (fun t_ kt_ => XS.aloadN Xa1_1.here hx rfl (hb hby d1_4) rfl rfl kt_) ?_
  refine own_go (T' := Ta1_1) (g' := (mkF mI 6 #[.val (.ref a), .val (.int top), .val (.int bottom), .val (.int w), .val (.int tier), .val (.int cc), .unset, .unset] [(.int top), (.ref a)])) (fun t_ kt_ => XS.iloadN Xa1_1.here hx rfl (hb hby d1_5) rfl kt_) ?_
  obtain ⟨Ta1_2, ha1_2, Xa1_2, ea1_2, Wa1_2, sta1_2⟩ := putF Xa1_1 hx hZ hown (host := "") (Or.inl (hw _ (List.mem_of_getElem? (i := 11) rfl))) Via.refl ea1_1 F_top E_a (Or.inr ⟨(hw _ (List.mem_of_getElem? (i := 12) rfl)), rfl, hnm⟩) (hw _ (List.mem_of_getElem? (i := 3) rfl)) (ty := .int) (by decide) rfl rfl (g := (mkF mI 6 #[.val (.ref a), .val (.int top), .val (.int bottom), .val (.int w), .val (.int tier), .val (.int cc), .unset, .unset] [(.int top), (.ref a)])) rfl rfl (hb hby d1_6)
  have Fwa1_2 : Fld Z ha1_2 a "com/example/classic_strings/classicstrings/compare/Matrix$Checkpoints" "top" "I" (.int top) := Fld.same Wa1_2 F_top
  have Fa1_3 := Fld.other Wa1_2 F_tierStrips (Or.inr (slot_ne (Or.inr (hw _ (List.mem_of_getElem? (i := 14) rfl))) (Or.inr (hw _ (List.mem_of_getElem? (i := 12) rfl))) (by decide) (t := .int) (t' := .int) (by decide) (by decide)))
  have Fa1_4 := Fld.other Wa1_2 F_chunkColumns (Or.inr (slot_ne (Or.inr (hw _ (List.mem_of_getElem? (i := 16) rfl))) (Or.inr (hw _ (List.mem_of_getElem? (i := 12) rfl))) (by decide) (t := .int) (t' := .int) (by decide) (by decide)))
  have Fa1_5 := Fld.other Wa1_2 F_carries (Or.inr (slot_ne (Or.inr (hw _ (List.mem_of_getElem? (i := 20) rfl))) (Or.inr (hw _ (List.mem_of_getElem? (i := 12) rfl))) (by decide) (t := (.array (.array .byte))) (t' := .int) (by decide) (by decide)))
  have Fa1_6 := Fld.other Wa1_2 F_states (Or.inr (slot_ne (Or.inr (hw _ (List.mem_of_getElem? (i := 24) rfl))) (Or.inr (hw _ (List.mem_of_getElem? (i := 12) rfl))) (by decide) (t := (.array (.array .long))) (t' := .int) (by decide) (by decide)))
  have Ea1_7 := Exa.wr Wa1_2 E_a
  have Za1_8 : n0 ≤ ha1_2.size := Nat.le_trans Z0 (Nat.le_of_eq (Wr.size Wa1_2).symm)
  have Ka1_9 : Keep h0 ha1_2 [a] := (Keep.refl h0 [a]).wr Wa1_2 (Or.inl (List.mem_of_getElem? (i := 0) rfl))
  have Na1_2 := Fr.snoc Xa1_2 (Fr.nil n0) g_a
  refine own_go (T' := Ta1_2) (g' := (mkF mI 9 #[.val (.ref a), .val (.int top), .val (.int bottom), .val (.int w), .val (.int tier), .val (.int cc), .unset, .unset] [])) (fun t_ kt_ => sta1_2 _ kt_) ?_
  refine own_go (T' := Ta1_2) (g' := (mkF mI 10 #[.val (.ref a), .val (.int top), .val (.int bottom), .val (.int w), .val (.int tier), .val (.int cc), .unset, .unset] [(.ref a)])) (fun t_ kt_ => XS.aloadN Xa1_2.here hx rfl (hb hby d1_9) rfl rfl kt_) ?_
  refine own_go (T' := Ta1_2) (g' := (mkF mI 12 #[.val (.ref a), .val (.int top), .val (.int bottom), .val (.int w), .val (.int tier), .val (.int cc), .unset, .unset] [(.int tier), (.ref a)])) (fun t_ kt_ => XS.iload Xa1_2.here hx rfl (hb hby d1_10) rfl kt_) ?_
  obtain ⟨Ta1_10, ha1_10, Xa1_10, ea1_10, Wa1_10, sta1_10⟩ := putF Xa1_2 hx hZ hown (host := "") (Or.inl (hw _ (List.mem_of_getElem? (i := 13) rfl))) Via.refl ea1_2 Fa1_3 Ea1_7 (Or.inr ⟨(hw _ (List.mem_of_getElem? (i := 14) rfl)), rfl, hnm⟩) (hw _ (List.mem_of_getElem? (i := 3) rfl)) (ty := .int) (by decide) rfl rfl (g := (mkF mI 12 #[.val (.ref a), .val (.int top), .val (.int bottom), .val (.int w), .val (.int tier), .val (.int cc), .unset, .unset] [(.int tier), (.ref a)])) rfl rfl (hb hby d1_12)
  have Fwa1_10 : Fld Z ha1_10 a "com/example/classic_strings/classicstrings/compare/Matrix$Checkpoints" "tierStrips" "I" (.int tier) := Fld.same Wa1_10 Fa1_3
  have Fa1_11 := Fld.other Wa1_10 Fwa1_2 (Or.inr (slot_ne (Or.inr (hw _ (List.mem_of_getElem? (i := 12) rfl))) (Or.inr (hw _ (List.mem_of_getElem? (i := 14) rfl))) (by decide) (t := .int) (t' := .int) (by decide) (by decide)))
  have Fa1_12 := Fld.other Wa1_10 Fa1_4 (Or.inr (slot_ne (Or.inr (hw _ (List.mem_of_getElem? (i := 16) rfl))) (Or.inr (hw _ (List.mem_of_getElem? (i := 14) rfl))) (by decide) (t := .int) (t' := .int) (by decide) (by decide)))
  have Fa1_13 := Fld.other Wa1_10 Fa1_5 (Or.inr (slot_ne (Or.inr (hw _ (List.mem_of_getElem? (i := 20) rfl))) (Or.inr (hw _ (List.mem_of_getElem? (i := 14) rfl))) (by decide) (t := (.array (.array .byte))) (t' := .int) (by decide) (by decide)))
  have Fa1_14 := Fld.other Wa1_10 Fa1_6 (Or.inr (slot_ne (Or.inr (hw _ (List.mem_of_getElem? (i := 24) rfl))) (Or.inr (hw _ (List.mem_of_getElem? (i := 14) rfl))) (by decide) (t := (.array (.array .long))) (t' := .int) (by decide) (by decide)))
  have Ea1_15 := Exa.wr Wa1_10 Ea1_7
  have Za1_16 : n0 ≤ ha1_10.size := Nat.le_trans Za1_8 (Nat.le_of_eq (Wr.size Wa1_10).symm)
  have Ka1_17 : Keep h0 ha1_10 [a] := Ka1_9.wr Wa1_10 (Or.inl (List.mem_of_getElem? (i := 0) rfl))
  have Na1_10 := Fr.snoc Xa1_10 Na1_2 g_a
  refine own_go (T' := Ta1_10) (g' := (mkF mI 15 #[.val (.ref a), .val (.int top), .val (.int bottom), .val (.int w), .val (.int tier), .val (.int cc), .unset, .unset] [])) (fun t_ kt_ => sta1_10 _ kt_) ?_
  refine own_go (T' := Ta1_10) (g' := (mkF mI 16 #[.val (.ref a), .val (.int top), .val (.int bottom), .val (.int w), .val (.int tier), .val (.int cc), .unset, .unset] [(.ref a)])) (fun t_ kt_ => XS.aloadN Xa1_10.here hx rfl (hb hby d1_15) rfl rfl kt_) ?_
  refine own_go (T' := Ta1_10) (g' := (mkF mI 18 #[.val (.ref a), .val (.int top), .val (.int bottom), .val (.int w), .val (.int tier), .val (.int cc), .unset, .unset] [(.int cc), (.ref a)])) (fun t_ kt_ => XS.iload Xa1_10.here hx rfl (hb hby d1_16) rfl kt_) ?_
  obtain ⟨Ta1_18, ha1_18, Xa1_18, ea1_18, Wa1_18, sta1_18⟩ := putF Xa1_10 hx hZ hown (host := "") (Or.inl (hw _ (List.mem_of_getElem? (i := 15) rfl))) Via.refl ea1_10 Fa1_12 Ea1_15 (Or.inr ⟨(hw _ (List.mem_of_getElem? (i := 16) rfl)), rfl, hnm⟩) (hw _ (List.mem_of_getElem? (i := 3) rfl)) (ty := .int) (by decide) rfl rfl (g := (mkF mI 18 #[.val (.ref a), .val (.int top), .val (.int bottom), .val (.int w), .val (.int tier), .val (.int cc), .unset, .unset] [(.int cc), (.ref a)])) rfl rfl (hb hby d1_18)
  have Fwa1_18 : Fld Z ha1_18 a "com/example/classic_strings/classicstrings/compare/Matrix$Checkpoints" "chunkColumns" "I" (.int cc) := Fld.same Wa1_18 Fa1_12
  have Fa1_19 := Fld.other Wa1_18 Fa1_11 (Or.inr (slot_ne (Or.inr (hw _ (List.mem_of_getElem? (i := 12) rfl))) (Or.inr (hw _ (List.mem_of_getElem? (i := 16) rfl))) (by decide) (t := .int) (t' := .int) (by decide) (by decide)))
  have Fa1_20 := Fld.other Wa1_18 Fwa1_10 (Or.inr (slot_ne (Or.inr (hw _ (List.mem_of_getElem? (i := 14) rfl))) (Or.inr (hw _ (List.mem_of_getElem? (i := 16) rfl))) (by decide) (t := .int) (t' := .int) (by decide) (by decide)))
  have Fa1_21 := Fld.other Wa1_18 Fa1_13 (Or.inr (slot_ne (Or.inr (hw _ (List.mem_of_getElem? (i := 20) rfl))) (Or.inr (hw _ (List.mem_of_getElem? (i := 16) rfl))) (by decide) (t := (.array (.array .byte))) (t' := .int) (by decide) (by decide)))
  have Fa1_22 := Fld.other Wa1_18 Fa1_14 (Or.inr (slot_ne (Or.inr (hw _ (List.mem_of_getElem? (i := 24) rfl))) (Or.inr (hw _ (List.mem_of_getElem? (i := 16) rfl))) (by decide) (t := (.array (.array .long))) (t' := .int) (by decide) (by decide)))
  have Ea1_23 := Exa.wr Wa1_18 Ea1_15
  have Za1_24 : n0 ≤ ha1_18.size := Nat.le_trans Za1_16 (Nat.le_of_eq (Wr.size Wa1_18).symm)
  have Ka1_25 : Keep h0 ha1_18 [a] := Ka1_17.wr Wa1_18 (Or.inl (List.mem_of_getElem? (i := 0) rfl))
  have Na1_18 := Fr.snoc Xa1_18 Na1_10 g_a
  refine own_go (T' := Ta1_18) (g' := (mkF mI 21 #[.val (.ref a), .val (.int top), .val (.int bottom), .val (.int w), .val (.int tier), .val (.int cc), .unset, .unset] [])) (fun t_ kt_ => sta1_18 _ kt_) ?_
  refine own_go (T' := Ta1_18) (g' := (mkF mI 22 #[.val (.ref a), .val (.int top), .val (.int bottom), .val (.int w), .val (.int tier), .val (.int cc), .unset, .unset] [(.ref a)])) (fun t_ kt_ => XS.aloadN Xa1_18.here hx rfl (hb hby d1_21) rfl rfl kt_) ?_
  refine own_go (T' := Ta1_18) (g' := (mkF mI 23 #[.val (.ref a), .val (.int top), .val (.int bottom), .val (.int w), .val (.int tier), .val (.int cc), .unset, .unset] [(.int bottom), (.ref a)])) (fun t_ kt_ => XS.iloadN Xa1_18.here hx rfl (hb hby d1_22) rfl kt_) ?_
  refine own_go (T' := Ta1_18) (g' := (mkF mI 24 #[.val (.ref a), .val (.int top), .val (.int bottom), .val (.int w), .val (.int tier), .val (.int cc), .unset, .unset] [(.int top), (.int bottom), (.ref a)])) (fun t_ kt_ => XS.iloadN Xa1_18.here hx rfl (hb hby d1_23) rfl kt_) ?_
  refine own_go (T' := Ta1_18) (g' := (mkF mI 25 #[.val (.ref a), .val (.int top), .val (.int bottom), .val (.int w), .val (.int tier), .val (.int cc), .unset, .unset] [(.int (bottom - top)), (.ref a)])) (fun t_ kt_ => XS.isub Xa1_18.here hx rfl (hb hby d1_24) rfl kt_) ?_
  rw [hd]
  refine own_go (T' := Ta1_18) (g' := (mkF mI 27 #[.val (.ref a), .val (.int top), .val (.int bottom), .val (.int w), .val (.int tier), .val (.int cc), .unset, .unset] [(.int tier), (.int (1 : Int32)), (.ref a)])) (fun t_ kt_ => XS.iload Xa1_18.here hx rfl (hb hby d1_25) rfl kt_) ?_
  refine own_go (T' := Ta1_18) (g' := (mkF mI 28 #[.val (.ref a), .val (.int top), .val (.int bottom), .val (.int w), .val (.int tier), .val (.int cc), .unset, .unset] [(.int ((1 : Int32) + tier)), (.ref a)])) (fun t_ kt_ => XS.iadd Xa1_18.here hx rfl (hb hby d1_27) rfl kt_) ?_
  refine own_go (T' := Ta1_18) (g' := (mkF mI 29 #[.val (.ref a), .val (.int top), .val (.int bottom), .val (.int w), .val (.int tier), .val (.int cc), .unset, .unset] [(.int (1 : Int32)), (.int ((1 : Int32) + tier)), (.ref a)])) (fun t_ kt_ => XS.iconst Xa1_18.here hx rfl (hb hby d1_28) kt_) ?_
  refine own_go (T' := Ta1_18) (g' := (mkF mI 30 #[.val (.ref a), .val (.int top), .val (.int bottom), .val (.int w), .val (.int tier), .val (.int cc), .unset, .unset] [(.int (((1 : Int32) + tier) - (1 : Int32))), (.ref a)])) (fun t_ kt_ => XS.isub Xa1_18.here hx rfl (hb hby d1_29) rfl kt_) ?_
  refine own_go (T' := Ta1_18) (g' := (mkF mI 32 #[.val (.ref a), .val (.int top), .val (.int bottom), .val (.int w), .val (.int tier), .val (.int cc), .unset, .unset] [(.int tier), (.int (((1 : Int32) + tier) - (1 : Int32))), (.ref a)])) (fun t_ kt_ => XS.iload Xa1_18.here hx rfl (hb hby d1_30) rfl kt_) ?_
  refine own_go (T' := Ta1_18) (g' := (mkF mI 33 #[.val (.ref a), .val (.int top), .val (.int bottom), .val (.int w), .val (.int tier), .val (.int cc), .unset, .unset] [(.int ((((1 : Int32) + tier) - (1 : Int32)) / tier)), (.ref a)])) (fun t_ kt_ => XS.idiv Xa1_18.here hx rfl (hb hby d1_32) rfl htz kt_) ?_
  rw [hz1]
  obtain ⟨Ta1_26, ha1_26, ka1_26, Xa1_26, ea1_26, Exa1_26, Aa1_26, Eca1_26, Oa1_26, sta1_26⟩ := newRA Xa1_18 hx hZ (C := "[B") (ty := .byte) hown (by decide) (hw _ (List.mem_of_getElem? (i := 17) rfl)) (hw _ (List.mem_of_getElem? (i := 18) rfl)) ea1_18 (g := (mkF mI 33 #[.val (.ref a), .val (.int top), .val (.int bottom), .val (.int w), .val (.int tier), .val (.int cc), .unset, .unset] [(.int z1), (.ref a)])) rfl (hb hby d1_33) rfl hz1n (cap := 8) hz1c (by decide) (by decide) (by decide) (ad := "[[B") (by decide)
  obtain ⟨ba1_26, ga1_26⟩ : ∃ z, z = ha1_18.size := ⟨_, rfl⟩
  rw [← ga1_26] at Aa1_26 Eca1_26 sta1_26
  have ne_a_ba1_26 : a ≠ ba1_26 := Nat.ne_of_lt (Nat.lt_of_lt_of_le (Fa1_19.lt) (Nat.le_of_eq ga1_26.symm))
  have g_ba1_26 : n0 ≤ ba1_26 := Nat.le_trans Za1_24 (Nat.le_of_eq ga1_26.symm)
  have sz_ba1_26 : h0.size ≤ ba1_26 := Nat.le_trans Ka1_25.1 (Nat.le_of_eq ga1_26.symm)
  have Fa1_27 := Fld.ext Exa1_26 Fa1_19
  have Fa1_28 := Fld.ext Exa1_26 Fa1_20
  have Fa1_29 := Fld.ext Exa1_26 Fwa1_18
  have Fa1_30 := Fld.ext Exa1_26 Fa1_21
  have Fa1_31 := Fld.ext Exa1_26 Fa1_22
  have Ea1_32 := Exa.ext Exa1_26 Ea1_23
  have Za1_33 : n0 ≤ ha1_26.size := Nat.le_trans Za1_24 Exa1_26.1
  have Ka1_34 : Keep h0 ha1_26 [a] := Ka1_25.ext Exa1_26
  have Va1_26 : Arv Z ha1_26 ba1_26 ka1_26 (.array .byte) z1 [] .null := Arv.new Aa1_26 hz1n
  refine own_go (T' := Ta1_26) (g' := (mkF mI 36 #[.val (.ref a), .val (.int top), .val (.int bottom), .val (.int w), .val (.int tier), .val (.int cc), .unset, .unset] [(.ref ba1_26), (.ref a)])) (fun t_ kt_ => sta1_26 _ kt_) ?_
  obtain ⟨Ta1_35, ha1_35, Xa1_35, ea1_35, Wa1_35, sta1_35⟩ := putF Xa1_26 hx hZ hown (host := "") (Or.inl (hw _ (List.mem_of_getElem? (i := 19) rfl))) Via.refl ea1_26 Fa1_30 Ea1_32 (Or.inr ⟨(hw _ (List.mem_of_getElem? (i := 20) rfl)), rfl, hnm⟩) (hw _ (List.mem_of_getElem? (i := 3) rfl)) (ty := (.array (.array .byte))) (by decide) rfl rfl (g := (mkF mI 36 #[.val (.ref a), .val (.int top), .val (.int bottom), .val (.int w), .val (.int tier), .val (.int cc), .unset, .unset] [(.ref ba1_26), (.ref a)])) rfl rfl (hb hby d1_36)
  have Fwa1_35 : Fld Z ha1_35 a "com/example/classic_strings/classicstrings/compare/Matrix$Checkpoints" "carries" "[[B" (.ref ba1_26) := Fld.same Wa1_35 Fa1_30
  have Fa1_36 := Fld.other Wa1_35 Fa1_27 (Or.inr (slot_ne (Or.inr (hw _ (List.mem_of_getElem? (i := 12) rfl))) (Or.inr (hw _ (List.mem_of_getElem? (i := 20) rfl))) (by decide) (t := .int) (t' := (.array (.array .byte))) (by decide) (by decide)))
  have Fa1_37 := Fld.other Wa1_35 Fa1_28 (Or.inr (slot_ne (Or.inr (hw _ (List.mem_of_getElem? (i := 14) rfl))) (Or.inr (hw _ (List.mem_of_getElem? (i := 20) rfl))) (by decide) (t := .int) (t' := (.array (.array .byte))) (by decide) (by decide)))
  have Fa1_38 := Fld.other Wa1_35 Fa1_29 (Or.inr (slot_ne (Or.inr (hw _ (List.mem_of_getElem? (i := 16) rfl))) (Or.inr (hw _ (List.mem_of_getElem? (i := 20) rfl))) (by decide) (t := .int) (t' := (.array (.array .byte))) (by decide) (by decide)))
  have Fa1_39 := Fld.other Wa1_35 Fa1_31 (Or.inr (slot_ne (Or.inr (hw _ (List.mem_of_getElem? (i := 24) rfl))) (Or.inr (hw _ (List.mem_of_getElem? (i := 20) rfl))) (by decide) (t := (.array (.array .long))) (t' := (.array (.array .byte))) (by decide) (by decide)))
  have Ea1_40 := Exa.wr Wa1_35 Ea1_32
  have Ea1_41 := Exa.wr Wa1_35 Eca1_26
  have Va1_42 := Arv.other Va1_26 Wa1_35 (Ne.symm ne_a_ba1_26)
  have Za1_43 : n0 ≤ ha1_35.size := Nat.le_trans Za1_33 (Nat.le_of_eq (Wr.size Wa1_35).symm)
  have Ka1_44 : Keep h0 ha1_35 [a] := Ka1_34.wr Wa1_35 (Or.inl (List.mem_of_getElem? (i := 0) rfl))
  have Na1_35 := Fr.snoc Xa1_35 Na1_18 g_a
  refine own_go (T' := Ta1_35) (g' := (mkF mI 39 #[.val (.ref a), .val (.int top), .val (.int bottom), .val (.int w), .val (.int tier), .val (.int cc), .unset, .unset] [])) (fun t_ kt_ => sta1_35 _ kt_) ?_
  refine own_go (T' := Ta1_35) (g' := (mkF mI 40 #[.val (.ref a), .val (.int top), .val (.int bottom), .val (.int w), .val (.int tier), .val (.int cc), .unset, .unset] [(.int w)])) (fun t_ kt_ => XS.iloadN Xa1_35.here hx rfl (hb hby d1_39) rfl kt_) ?_
  refine own_go (T' := Ta1_35) (g' := (mkF mI 42 #[.val (.ref a), .val (.int top), .val (.int bottom), .val (.int w), .val (.int tier), .val (.int cc), .unset, .unset] [(.int cc), (.int w)])) (fun t_ kt_ => XS.iload Xa1_35.here hx rfl (hb hby d1_40) rfl kt_) ?_
  refine own_go (T' := Ta1_35) (g' := (mkF mI 43 #[.val (.ref a), .val (.int top), .val (.int bottom), .val (.int w), .val (.int tier), .val (.int cc), .unset, .unset] [(.int (w + cc))])) (fun t_ kt_ => XS.iadd Xa1_35.here hx rfl (hb hby d1_42) rfl kt_) ?_
  refine own_go (T' := Ta1_35) (g' := (mkF mI 44 #[.val (.ref a), .val (.int top), .val (.int bottom), .val (.int w), .val (.int tier), .val (.int cc), .unset, .unset] [(.int (1 : Int32)), (.int (w + cc))])) (fun t_ kt_ => XS.iconst Xa1_35.here hx rfl (hb hby d1_43) kt_) ?_
  refine own_go (T' := Ta1_35) (g' := (mkF mI 45 #[.val (.ref a), .val (.int top), .val (.int bottom), .val (.int w), .val (.int tier), .val (.int cc), .unset, .unset] [(.int ((w + cc) - (1 : Int32)))])) (fun t_ kt_ => XS.isub Xa1_35.here hx rfl (hb hby d1_44) rfl kt_) ?_
  refine own_go (T' := Ta1_35) (g' := (mkF mI 47 #[.val (.ref a), .val (.int top), .val (.int bottom), .val (.int w), .val (.int tier), .val (.int cc), .unset, .unset] [(.int cc), (.int ((w + cc) - (1 : Int32)))])) (fun t_ kt_ => XS.iload Xa1_35.here hx rfl (hb hby d1_45) rfl kt_) ?_
  refine own_go (T' := Ta1_35) (g' := (mkF mI 48 #[.val (.ref a), .val (.int top), .val (.int bottom), .val (.int w), .val (.int tier), .val (.int cc), .unset, .unset] [(.int (((w + cc) - (1 : Int32)) / cc))])) (fun t_ kt_ => XS.idiv Xa1_35.here hx rfl (hb hby d1_47) rfl hcz kt_) ?_
  rw [hch]
  refine own_go (T' := Ta1_35) (g' := (mkF mI 50 #[.val (.ref a), .val (.int top), .val (.int bottom), .val (.int w), .val (.int tier), .val (.int cc), .val (.int ch), .unset] [])) (fun t_ kt_ => XS.istore Xa1_35.here hx rfl (hb hby d1_48) rfl (l' := #[.val (.ref a), .val (.int top), .val (.int bottom), .val (.int w), .val (.int tier), .val (.int cc), .val (.int ch), .unset]) rfl kt_) ?_
  refine own_go (T' := Ta1_35) (g' := (mkF mI 51 #[.val (.ref a), .val (.int top), .val (.int bottom), .val (.int w), .val (.int tier), .val (.int cc), .val (.int ch), .unset] [(.ref a)])) (fun t_ kt_ => XS.aloadN Xa1_35.here hx rfl (hb hby d1_50) rfl rfl kt_) ?_
  refine own_go (T' := Ta1_35) (g' := (mkF mI 52 #[.val (.ref a), .val (.int top), .val (.int bottom), .val (.int w), .val (.int tier), .val (.int cc), .val (.int ch), .unset] [(.int bottom), (.ref a)])) (fun t_ kt_ => XS.iloadN Xa1_35.here hx rfl (hb hby d1_51) rfl kt_) ?_
  refine own_go (T' := Ta1_35) (g' := (mkF mI 53 #[.val (.ref a), .val (.int top), .val (.int bottom), .val (.int w), .val (.int tier), .val (.int cc), .val (.int ch), .unset] [(.int top), (.int bottom), (.ref a)])) (fun t_ kt_ => XS.iloadN Xa1_35.here hx rfl (hb hby d1_52) rfl kt_) ?_
  refine own_go (T' := Ta1_35) (g' := (mkF mI 54 #[.val (.ref a), .val (.int top), .val (.int bottom), .val (.int w), .val (.int tier), .val (.int cc), .val (.int ch), .unset] [(.int (bottom - top)), (.ref a)])) (fun t_ kt_ => XS.isub Xa1_35.here hx rfl (hb hby d1_53) rfl kt_) ?_
  rw [hd]
  obtain ⟨Ta1_45, ha1_45, ka1_45, Xa1_45, ea1_45, Exa1_45, Aa1_45, Eca1_45, Oa1_45, sta1_45⟩ := newRA Xa1_35 hx hZ (C := "[J") (ty := .long) hown (by decide) (hw _ (List.mem_of_getElem? (i := 21) rfl)) (hw _ (List.mem_of_getElem? (i := 22) rfl)) ea1_35 (g := (mkF mI 54 #[.val (.ref a), .val (.int top), .val (.int bottom), .val (.int w), .val (.int tier), .val (.int cc), .val (.int ch), .unset] [(.int (1 : Int32)), (.ref a)])) rfl (hb hby d1_54) rfl (by decide) (cap := 1) (by decide) (by decide) (by decide) (by decide) (ad := "[[J") (by decide)
  obtain ⟨ba1_45, ga1_45⟩ : ∃ z, z = ha1_35.size := ⟨_, rfl⟩
  rw [← ga1_45] at Aa1_45 Eca1_45 sta1_45
  have ne_a_ba1_45 : a ≠ ba1_45 := Nat.ne_of_lt (Nat.lt_of_lt_of_le (Fa1_36.lt) (Nat.le_of_eq ga1_45.symm))
  have ne_ba1_26_ba1_45 : ba1_26 ≠ ba1_45 := Nat.ne_of_lt (Nat.lt_of_lt_of_le (Ea1_41.lt) (Nat.le_of_eq ga1_45.symm))
  have g_ba1_45 : n0 ≤ ba1_45 := Nat.le_trans Za1_43 (Nat.le_of_eq ga1_45.symm)
  have sz_ba1_45 : h0.size ≤ ba1_45 := Nat.le_trans Ka1_44.1 (Nat.le_of_eq ga1_45.symm)
  have Fa1_46 := Fld.ext Exa1_45 Fa1_36
  have Fa1_47 := Fld.ext Exa1_45 Fa1_37
  have Fa1_48 := Fld.ext Exa1_45 Fa1_38
  have Fa1_49 := Fld.ext Exa1_45 Fwa1_35
  have Fa1_50 := Fld.ext Exa1_45 Fa1_39
  have Ea1_51 := Exa.ext Exa1_45 Ea1_40
  have Ea1_52 := Exa.ext Exa1_45 Ea1_41
  have Va1_53 := Arv.ext Va1_42 Exa1_45
  have Za1_54 : n0 ≤ ha1_45.size := Nat.le_trans Za1_43 Exa1_45.1
  have Ka1_55 : Keep h0 ha1_45 [a] := Ka1_44.ext Exa1_45
  have Va1_45 : Arv Z ha1_45 ba1_45 ka1_45 (.array .long) (1 : Int32) [] .null := Arv.new Aa1_45 (by decide)
  have Va1_56 : Arv Z ha1_45 ba1_45 ka1_45 (.array .long) (1 : Int32) [.null] .null := Arv.pad Va1_45 (pad_rep [] .null 1)
  refine own_go (T' := Ta1_45) (g' := (mkF mI 57 #[.val (.ref a), .val (.int top), .val (.int bottom), .val (.int w), .val (.int tier), .val (.int cc), .val (.int ch), .unset] [(.ref ba1_45), (.ref a)])) (fun t_ kt_ => sta1_45 _ kt_) ?_
  obtain ⟨Ta1_57, ha1_57, Xa1_57, ea1_57, Wa1_57, sta1_57⟩ := putF Xa1_45 hx hZ hown (host := "") (Or.inl (hw _ (List.mem_of_getElem? (i := 23) rfl))) Via.refl ea1_45 Fa1_50 Ea1_51 (Or.inr ⟨(hw _ (List.mem_of_getElem? (i := 24) rfl)), rfl, hnm⟩) (hw _ (List.mem_of_getElem? (i := 3) rfl)) (ty := (.array (.array .long))) (by decide) rfl rfl (g := (mkF mI 57 #[.val (.ref a), .val (.int top), .val (.int bottom), .val (.int w), .val (.int tier), .val (.int cc), .val (.int ch), .unset] [(.ref ba1_45), (.ref a)])) rfl rfl (hb hby d1_57)
  have Fwa1_57 : Fld Z ha1_57 a "com/example/classic_strings/classicstrings/compare/Matrix$Checkpoints" "states" "[[J" (.ref ba1_45) := Fld.same Wa1_57 Fa1_50
  have Fa1_58 := Fld.other Wa1_57 Fa1_46 (Or.inr (slot_ne (Or.inr (hw _ (List.mem_of_getElem? (i := 12) rfl))) (Or.inr (hw _ (List.mem_of_getElem? (i := 24) rfl))) (by decide) (t := .int) (t' := (.array (.array .long))) (by decide) (by decide)))
  have Fa1_59 := Fld.other Wa1_57 Fa1_47 (Or.inr (slot_ne (Or.inr (hw _ (List.mem_of_getElem? (i := 14) rfl))) (Or.inr (hw _ (List.mem_of_getElem? (i := 24) rfl))) (by decide) (t := .int) (t' := (.array (.array .long))) (by decide) (by decide)))
  have Fa1_60 := Fld.other Wa1_57 Fa1_48 (Or.inr (slot_ne (Or.inr (hw _ (List.mem_of_getElem? (i := 16) rfl))) (Or.inr (hw _ (List.mem_of_getElem? (i := 24) rfl))) (by decide) (t := .int) (t' := (.array (.array .long))) (by decide) (by decide)))
  have Fa1_61 := Fld.other Wa1_57 Fa1_49 (Or.inr (slot_ne (Or.inr (hw _ (List.mem_of_getElem? (i := 20) rfl))) (Or.inr (hw _ (List.mem_of_getElem? (i := 24) rfl))) (by decide) (t := (.array (.array .byte))) (t' := (.array (.array .long))) (by decide) (by decide)))
  have Ea1_62 := Exa.wr Wa1_57 Ea1_51
  have Ea1_63 := Exa.wr Wa1_57 Ea1_52
  have Ea1_64 := Exa.wr Wa1_57 Eca1_45
  have Va1_65 := Arv.other Va1_53 Wa1_57 (Ne.symm ne_a_ba1_26)
  have Va1_66 := Arv.other Va1_56 Wa1_57 (Ne.symm ne_a_ba1_45)
  have Za1_67 : n0 ≤ ha1_57.size := Nat.le_trans Za1_54 (Nat.le_of_eq (Wr.size Wa1_57).symm)
  have Ka1_68 : Keep h0 ha1_57 [a] := Ka1_55.wr Wa1_57 (Or.inl (List.mem_of_getElem? (i := 0) rfl))
  have Na1_57 := Fr.snoc Xa1_57 Na1_35 g_a
  refine own_go (T' := Ta1_57) (g' := (mkF mI 60 #[.val (.ref a), .val (.int top), .val (.int bottom), .val (.int w), .val (.int tier), .val (.int cc), .val (.int ch), .unset] [])) (fun t_ kt_ => sta1_57 _ kt_) ?_
  refine own_go (T' := Ta1_57) (g' := (mkF mI 61 #[.val (.ref a), .val (.int top), .val (.int bottom), .val (.int w), .val (.int tier), .val (.int cc), .val (.int ch), .unset] [(.int (0 : Int32))])) (fun t_ kt_ => XS.iconst Xa1_57.here hx rfl (hb hby d1_60) kt_) ?_
  refine own_go (T' := Ta1_57) (g' := (mkF mI 63 #[.val (.ref a), .val (.int top), .val (.int bottom), .val (.int w), .val (.int tier), .val (.int cc), .val (.int ch), .val (.int (0 : Int32))] [])) (fun t_ kt_ => XS.istore Xa1_57.here hx rfl (hb hby d1_61) rfl (l' := #[.val (.ref a), .val (.int top), .val (.int bottom), .val (.int w), .val (.int tier), .val (.int cc), .val (.int ch), .val (.int (0 : Int32))]) rfl kt_) ?_
  refine own_go (T' := Ta1_57) (g' := (mkF mI 65 #[.val (.ref a), .val (.int top), .val (.int bottom), .val (.int w), .val (.int tier), .val (.int cc), .val (.int ch), .val (.int (0 : Int32))] [(.int (0 : Int32))])) (fun t_ kt_ => XS.iload Xa1_57.here hx rfl (hb hby d1_63) rfl kt_) ?_
  refine own_go (T' := Ta1_57) (g' := (mkF mI 66 #[.val (.ref a), .val (.int top), .val (.int bottom), .val (.int w), .val (.int tier), .val (.int cc), .val (.int ch), .val (.int (0 : Int32))] [(.ref a), (.int (0 : Int32))])) (fun t_ kt_ => XS.aloadN Xa1_57.here hx rfl (hb hby d1_65) rfl rfl kt_) ?_
  obtain ⟨Ta1_69, Xa1_69, ea1_69, sta1_69⟩ := getF Xa1_57 hx hZ hown (host := "") (Or.inl (hw _ (List.mem_of_getElem? (i := 23) rfl))) Via.refl ea1_57 Fwa1_57 (g := (mkF mI 66 #[.val (.ref a), .val (.int top), .val (.int bottom), .val (.int w), .val (.int tier), .val (.int cc), .val (.int ch), .val (.int (0 : Int32))] [(.ref a), (.int (0 : Int32))])) rfl rfl (hb hby d1_66)
  refine own_go (T' := Ta1_69) (g' := (mkF mI 69 #[.val (.ref a), .val (.int top), .val (.int bottom), .val (.int w), .val (.int tier), .val (.int cc), .val (.int ch), .val (.int (0 : Int32))] [(.ref ba1_45), (.int (0 : Int32))])) (fun t_ kt_ => sta1_69 _ kt_) ?_
  obtain ⟨cla1_70, Ara1_70, qa1_70, Sa1_70, Nga1_70, Ha1_70, Ga1_70⟩ := id Va1_66
  refine own_go (T' := Ta1_69) (g' := (mkF mI 70 #[.val (.ref a), .val (.int top), .val (.int bottom), .val (.int w), .val (.int tier), .val (.int cc), .val (.int ch), .val (.int (0 : Int32))] [(.int (1 : Int32)), (.int (0 : Int32))])) (fun t_ kt_ => own_len Xa1_69 hx hZ ea1_69 Ara1_70 (len_of Sa1_70 Nga1_70) (g := (mkF mI 69 #[.val (.ref a), .val (.int top), .val (.int bottom), .val (.int w), .val (.int tier), .val (.int cc), .val (.int ch), .val (.int (0 : Int32))] [(.ref ba1_45), (.int (0 : Int32))])) rfl rfl (hb hby d1_69) _ kt_) ?_
  refine own_go (T' := Ta1_69) (g' := (mkF mI 73 #[.val (.ref a), .val (.int top), .val (.int bottom), .val (.int w), .val (.int tier), .val (.int cc), .val (.int ch), .val (.int (0 : Int32))] [])) (fun t_ kt_ => XS.icmpNo Xa1_69.here hx rfl (hb hby d1_70) rfl (tlt (by decide : (0 : Int32) < (1 : Int32))).2.1 kt_) ?_
  refine own_go (T' := Ta1_69) (g' := (mkF mI 74 #[.val (.ref a), .val (.int top), .val (.int bottom), .val (.int w), .val (.int tier), .val (.int cc), .val (.int ch), .val (.int (0 : Int32))] [(.ref a)])) (fun t_ kt_ => XS.aloadN Xa1_69.here hx rfl (hb hby d1_73) rfl rfl kt_) ?_
  obtain ⟨Ta1_71, Xa1_71, ea1_71, sta1_71⟩ := getF Xa1_69 hx hZ hown (host := "") (Or.inl (hw _ (List.mem_of_getElem? (i := 23) rfl))) Via.refl ea1_69 Fwa1_57 (g := (mkF mI 74 #[.val (.ref a), .val (.int top), .val (.int bottom), .val (.int w), .val (.int tier), .val (.int cc), .val (.int ch), .val (.int (0 : Int32))] [(.ref a)])) rfl rfl (hb hby d1_74)
  refine own_go (T' := Ta1_71) (g' := (mkF mI 77 #[.val (.ref a), .val (.int top), .val (.int bottom), .val (.int w), .val (.int tier), .val (.int cc), .val (.int ch), .val (.int (0 : Int32))] [(.ref ba1_45)])) (fun t_ kt_ => sta1_71 _ kt_) ?_
  refine own_go (T' := Ta1_71) (g' := (mkF mI 79 #[.val (.ref a), .val (.int top), .val (.int bottom), .val (.int w), .val (.int tier), .val (.int cc), .val (.int ch), .val (.int (0 : Int32))] [(.int (0 : Int32)), (.ref ba1_45)])) (fun t_ kt_ => XS.iload Xa1_71.here hx rfl (hb hby d1_77) rfl kt_) ?_
  refine own_go (T' := Ta1_71) (g' := (mkF mI 80 #[.val (.ref a), .val (.int top), .val (.int bottom), .val (.int w), .val (.int tier), .val (.int cc), .val (.int ch), .val (.int (0 : Int32))] [(.int (2 : Int32)), (.int (0 : Int32)), (.ref ba1_45)])) (fun t_ kt_ => XS.iconst Xa1_71.here hx rfl (hb hby d1_79) kt_) ?_
  refine own_go (T' := Ta1_71) (g' := (mkF mI 82 #[.val (.ref a), .val (.int top), .val (.int bottom), .val (.int w), .val (.int tier), .val (.int cc), .val (.int ch), .val (.int (0 : Int32))] [(.int ch), (.int (2 : Int32)), (.int (0 : Int32)), (.ref ba1_45)])) (fun t_ kt_ => XS.iload Xa1_71.here hx rfl (hb hby d1_80) rfl kt_) ?_
  refine own_go (T' := Ta1_71) (g' := (mkF mI 83 #[.val (.ref a), .val (.int top), .val (.int bottom), .val (.int w), .val (.int tier), .val (.int cc), .val (.int ch), .val (.int (0 : Int32))] [(.int ((2 : Int32) * ch)), (.int (0 : Int32)), (.ref ba1_45)])) (fun t_ kt_ => XS.imul Xa1_71.here hx rfl (hb hby d1_82) rfl kt_) ?_
  obtain ⟨Ta1_72, ha1_72, ka1_72, Xa1_72, ea1_72, Exa1_72, Aa1_72, Eca1_72, sta1_72⟩ := newPE Xa1_71 hx hZ (hw _ (List.mem_of_getElem? (i := 25) rfl)) ea1_71 (g := (mkF mI 83 #[.val (.ref a), .val (.int top), .val (.int bottom), .val (.int w), .val (.int tier), .val (.int cc), .val (.int ch), .val (.int (0 : Int32))] [(.int ((2 : Int32) * ch)), (.int (0 : Int32)), (.ref ba1_45)])) rfl (hb hby d1_83) rfl hrn (cap := 2048) hrc (by decide) (by decide) (by decide) (ad := "[J") (by decide)
  obtain ⟨ba1_72, ga1_72⟩ : ∃ z, z = ha1_57.size := ⟨_, rfl⟩
  rw [← ga1_72] at Aa1_72 Eca1_72 sta1_72
  have ne_a_ba1_72 : a ≠ ba1_72 := Nat.ne_of_lt (Nat.lt_of_lt_of_le (Fa1_58.lt) (Nat.le_of_eq ga1_72.symm))
  have ne_ba1_26_ba1_72 : ba1_26 ≠ ba1_72 := Nat.ne_of_lt (Nat.lt_of_lt_of_le (Ea1_63.lt) (Nat.le_of_eq ga1_72.symm))
  have ne_ba1_45_ba1_72 : ba1_45 ≠ ba1_72 := Nat.ne_of_lt (Nat.lt_of_lt_of_le (Ea1_64.lt) (Nat.le_of_eq ga1_72.symm))
  have g_ba1_72 : n0 ≤ ba1_72 := Nat.le_trans Za1_67 (Nat.le_of_eq ga1_72.symm)
  have sz_ba1_72 : h0.size ≤ ba1_72 := Nat.le_trans Ka1_68.1 (Nat.le_of_eq ga1_72.symm)
  have Fa1_73 := Fld.ext Exa1_72 Fa1_58
  have Fa1_74 := Fld.ext Exa1_72 Fa1_59
  have Fa1_75 := Fld.ext Exa1_72 Fa1_60
  have Fa1_76 := Fld.ext Exa1_72 Fa1_61
  have Fa1_77 := Fld.ext Exa1_72 Fwa1_57
  have Ea1_78 := Exa.ext Exa1_72 Ea1_62
  have Ea1_79 := Exa.ext Exa1_72 Ea1_63
  have Ea1_80 := Exa.ext Exa1_72 Ea1_64
  have Va1_81 := Arv.ext Va1_65 Exa1_72
  have Va1_82 := Arv.ext Va1_66 Exa1_72
  have Za1_83 : n0 ≤ ha1_72.size := Nat.le_trans Za1_67 Exa1_72.1
  have Ka1_84 : Keep h0 ha1_72 [a] := Ka1_68.ext Exa1_72
  have Va1_72 : Arv Z ha1_72 ba1_72 ka1_72 .long ((2 : Int32) * ch) [] (.long (0 : Int64)) := Arv.new Aa1_72 hrn
  refine own_go (T' := Ta1_72) (g' := (mkF mI 85 #[.val (.ref a), .val (.int top), .val (.int bottom), .val (.int w), .val (.int tier), .val (.int cc), .val (.int ch), .val (.int (0 : Int32))] [(.ref ba1_72), (.int (0 : Int32)), (.ref ba1_45)])) (fun t_ kt_ => sta1_72 _ kt_) ?_
  obtain ⟨cla1_85, Ara1_85, qa1_85, Sa1_85, Nga1_85, Ha1_85, Ga1_85⟩ := id Va1_82
  obtain ⟨Ta1_86, ha1_86, Xa1_86, ea1_86, Wa1_86, sta1_86⟩ := stR Xa1_72 hx hZ ea1_72 Ara1_85 (j := (0 : Int32)) (inb_of Sa1_85 ⟨by decide, by decide⟩) rfl (Sto.ofVA Ara1_85 qa1_85 Oa1_45 (Ins.self Eca1_72)) (g := (mkF mI 85 #[.val (.ref a), .val (.int top), .val (.int bottom), .val (.int w), .val (.int tier), .val (.int cc), .val (.int ch), .val (.int (0 : Int32))] [(.ref ba1_72), (.int (0 : Int32)), (.ref ba1_45)])) rfl rfl (hb hby d1_85)
  have Va1_86 : Arv Z ha1_86 ba1_45 ka1_45 (.array .long) (1 : Int32) [(.ref ba1_72)] .null := Arv.set Ara1_85 qa1_85 Sa1_85 Nga1_85 Ha1_85 Ga1_85 rfl Wa1_86 0 rfl (Nat.le_of_ble_eq_true rfl)
  have Fa1_87 := Fld.other Wa1_86 Fa1_73 (Or.inl ne_a_ba1_45)
  have Fa1_88 := Fld.other Wa1_86 Fa1_74 (Or.inl ne_a_ba1_45)
  have Fa1_89 := Fld.other Wa1_86 Fa1_75 (Or.inl ne_a_ba1_45)
  have Fa1_90 := Fld.other Wa1_86 Fa1_76 (Or.inl ne_a_ba1_45)
  have Fa1_91 := Fld.other Wa1_86 Fa1_77 (Or.inl ne_a_ba1_45)
  have Ea1_92 := Exa.wr Wa1_86 Ea1_78
  have Ea1_93 := Exa.wr Wa1_86 Ea1_79
  have Ea1_94 := Exa.wr Wa1_86 Ea1_80
  have Ea1_95 := Exa.wr Wa1_86 Eca1_72
  have Va1_96 := Arv.other Va1_81 Wa1_86 ne_ba1_26_ba1_45
  have Va1_98 := Arv.other Va1_72 Wa1_86 (Ne.symm ne_ba1_45_ba1_72)
  have Za1_99 : n0 ≤ ha1_86.size := Nat.le_trans Za1_83 (Nat.le_of_eq (Wr.size Wa1_86).symm)
  have Ka1_100 : Keep h0 ha1_86 [a] := Ka1_84.wr Wa1_86 (Or.inr sz_ba1_45)
  have Na1_86 := Fr.snoc Xa1_86 Na1_57 g_ba1_45
  refine own_go (T' := Ta1_86) (g' := (mkF mI 86 #[.val (.ref a), .val (.int top), .val (.int bottom), .val (.int w), .val (.int tier), .val (.int cc), .val (.int ch), .val (.int (0 : Int32))] [])) (fun t_ kt_ => sta1_86 _ kt_) ?_
  refine own_go (T' := Ta1_86) (g' := (mkF mI 89 #[.val (.ref a), .val (.int top), .val (.int bottom), .val (.int w), .val (.int tier), .val (.int cc), .val (.int ch), .val (.int (1 : Int32))] [])) (fun t_ kt_ => XS.iinc Xa1_86.here hx rfl (hb hby d1_86) rfl (l' := #[.val (.ref a), .val (.int top), .val (.int bottom), .val (.int w), .val (.int tier), .val (.int cc), .val (.int ch), .val (.int (1 : Int32))]) rfl kt_) ?_
  refine own_go (T' := Ta1_86) (g' := (mkF mI 63 #[.val (.ref a), .val (.int top), .val (.int bottom), .val (.int w), .val (.int tier), .val (.int cc), .val (.int ch), .val (.int (1 : Int32))] [])) (fun t_ kt_ => XS.goto Xa1_86.here hx rfl (pc0 := 89) (pc' := 63) rfl (hb hby d1_89) (by decide) (by decide) kt_) ?_
  refine own_go (T' := Ta1_86) (g' := (mkF mI 65 #[.val (.ref a), .val (.int top), .val (.int bottom), .val (.int w), .val (.int tier), .val (.int cc), .val (.int ch), .val (.int (1 : Int32))] [(.int (1 : Int32))])) (fun t_ kt_ => XS.iload Xa1_86.here hx rfl (hb hby d1_63) rfl kt_) ?_
  refine own_go (T' := Ta1_86) (g' := (mkF mI 66 #[.val (.ref a), .val (.int top), .val (.int bottom), .val (.int w), .val (.int tier), .val (.int cc), .val (.int ch), .val (.int (1 : Int32))] [(.ref a), (.int (1 : Int32))])) (fun t_ kt_ => XS.aloadN Xa1_86.here hx rfl (hb hby d1_65) rfl rfl kt_) ?_
  obtain ⟨Ta1_101, Xa1_101, ea1_101, sta1_101⟩ := getF Xa1_86 hx hZ hown (host := "") (Or.inl (hw _ (List.mem_of_getElem? (i := 23) rfl))) Via.refl ea1_86 Fa1_91 (g := (mkF mI 66 #[.val (.ref a), .val (.int top), .val (.int bottom), .val (.int w), .val (.int tier), .val (.int cc), .val (.int ch), .val (.int (1 : Int32))] [(.ref a), (.int (1 : Int32))])) rfl rfl (hb hby d1_66)
  refine own_go (T' := Ta1_101) (g' := (mkF mI 69 #[.val (.ref a), .val (.int top), .val (.int bottom), .val (.int w), .val (.int tier), .val (.int cc), .val (.int ch), .val (.int (1 : Int32))] [(.ref ba1_45), (.int (1 : Int32))])) (fun t_ kt_ => sta1_101 _ kt_) ?_
  obtain ⟨cla1_102, Ara1_102, qa1_102, Sa1_102, Nga1_102, Ha1_102, Ga1_102⟩ := id Va1_86
  refine own_go (T' := Ta1_101) (g' := (mkF mI 70 #[.val (.ref a), .val (.int top), .val (.int bottom), .val (.int w), .val (.int tier), .val (.int cc), .val (.int ch), .val (.int (1 : Int32))] [(.int (1 : Int32)), (.int (1 : Int32))])) (fun t_ kt_ => own_len Xa1_101 hx hZ ea1_101 Ara1_102 (len_of Sa1_102 Nga1_102) (g := (mkF mI 69 #[.val (.ref a), .val (.int top), .val (.int bottom), .val (.int w), .val (.int tier), .val (.int cc), .val (.int ch), .val (.int (1 : Int32))] [(.ref ba1_45), (.int (1 : Int32))])) rfl rfl (hb hby d1_69) _ kt_) ?_
  refine own_go (T' := Ta1_101) (g' := (mkF mI 92 #[.val (.ref a), .val (.int top), .val (.int bottom), .val (.int w), .val (.int tier), .val (.int cc), .val (.int ch), .val (.int (1 : Int32))] [])) (fun t_ kt_ => XS.icmpYes Xa1_101.here hx rfl (pc0 := 70) (pc' := 92) rfl (hb hby d1_70) rfl (flt (by decide : ¬ ((1 : Int32) < (1 : Int32)))).2.1 (by decide) (by decide) kt_) ?_
  refine own_retV Xa1_101 hx hlk hret (hb hby d1_92) (by decide) (by decide) ?_
  exact by
    rw [ea1_101]
    refine ⟨rfl, Na1_86, Ka1_100, Ea1_92, Fa1_87, ba1_45, _, _, Fa1_91, Va1_86, fun j hj => ?_⟩
    have hj' : j < 1 := hj
    rcases j with _ | j
    · exact ⟨ba1_72, _, rfl, Va1_98⟩
    · omega
theorem rmC_2_pn : plainFor (⟨"com/example/classic_strings/classicstrings/compare/Matrix$Checkpoints", "<init>", "(IIIII)V"⟩ : MethodName) = true := plainFor_of_name (show plainName "com/example/classic_strings/classicstrings/compare/Matrix$Checkpoints" = true by first | (simp [plainName, overriddenIn]; done) | decide +kernel)
theorem rmC_2_ef (mI : MethodId) (a : Addr) (top : Int32) (bottom : Int32) (w : Int32) (tier : Int32) (cc : Int32) : entryFrame mI #[(.ref a), (.int top), (.int bottom), (.int w), (.int tier), (.int cc)] 8 = mkF mI 0 #[.val (.ref a), .val (.int top), .val (.int bottom), .val (.int w), .val (.int tier), .val (.int cc), .unset, .unset] [] := by first | (simp [entryFrame, mkF, argsToLocals, Value.category]; done) | rfl
set_option maxRecDepth 65536 in
set_option maxHeartbeats 40000000 in
theorem rmC_2 (l : Launch) (Z : State) (a0 : Array Value) (hw : ∀ d ∈ tables_1, d.before a0 Z = true) (ws : List Jvm.Cond) (h0 : Heap) (n0 : Nat) (Z0 : n0 ≤ h0.size) (a : Addr) (top bottom w tier cc ch z1 : Int32) (E_a : Exa Z h0 a "com/example/classic_strings/classicstrings/compare/Matrix$Checkpoints") (F_top : Fld Z h0 a "com/example/classic_strings/classicstrings/compare/Matrix$Checkpoints" "top" "I" (.int 0)) (F_tierStrips : Fld Z h0 a "com/example/classic_strings/classicstrings/compare/Matrix$Checkpoints" "tierStrips" "I" (.int 0)) (F_chunkColumns : Fld Z h0 a "com/example/classic_strings/classicstrings/compare/Matrix$Checkpoints" "chunkColumns" "I" (.int 0)) (F_carries : Fld Z h0 a "com/example/classic_strings/classicstrings/compare/Matrix$Checkpoints" "carries" "[[B" .null) (F_states : Fld Z h0 a "com/example/classic_strings/classicstrings/compare/Matrix$Checkpoints" "states" "[[J" .null) (g_a : n0 ≤ a) (hd : bottom - top = (2 : Int32)) (htz : ¬ tier = 0) (hz1 : (((2 : Int32) + tier) - (1 : Int32)) / tier = z1) (hz1n : ¬ z1 < 0) (hz1c : z1.toNatClampNeg ≤ 8) (hcz : ¬ cc = 0) (hch : ((w + cc) - (1 : Int32)) / cc = ch) (hrn : ¬ ((2 : Int32) * ch) < 0) (hrc : ((2 : Int32) * ch).toNatClampNeg ≤ 2048) :
    own_Met l Z (⟨"com/example/classic_strings/classicstrings/compare/Matrix$Checkpoints", "<init>", "(IIIII)V"⟩ : MethodName) prog_14_method_1_code 8 none ws ({ frames := 1, cells := 6, slots := 8204, locals := 12 } : Room) #[(.ref a), (.int top), (.int bottom), (.int w), (.int tier), (.int cc)] h0 (own_QC Z h0 n0 a (2 : Int32) ((2 : Int32) * ch) top) := by
  refine own_met rmC_2_pn ?_
  intro pP eE sS mI bB mT cC s₁ hx hby hml hown hnm hret hlk hZ X0 e0
  replace hown : sS.vm.findClass "com/example/classic_strings/classicstrings/compare/Matrix$Checkpoints" = some mI.cls := hown
  refine own_cast (rmC_2_ef mI a top bottom w tier cc) ?_
  refine own_go (T' := s₁) (g' := (mkF mI 1 #[.val (.ref a), .val (.int top), .val (.int bottom), .val (.int w), .val (.int tier), .val (.int cc), .unset, .unset] [(.ref a)])) (fun t_ kt_ => XS.aloadN X0.here hx rfl (hb hby d1_0) rfl rfl kt_) ?_
  obtain ⟨Ta2_1, Xa2_1, ea2_1, sta2_1⟩ := initO X0 hx hZ hown (hw _ (List.mem_of_getElem? (i := 8) rfl)) (hw _ (List.mem_of_getElem? (i := 9) rfl)) (hw _ (List.mem_of_getElem? (i := 10) rfl)) e0 (g := (mkF mI 1 #[.val (.ref a), .val (.int top), .val (.int bottom), .val (.int w), .val (.int tier), .val (.int cc), .unset, .unset] [(.ref a)])) rfl (by rw [hml]; rfl) rfl (hb hby d1_1) (by decide) (W := 0) (by show 2 * 0 + _ ≤ _; exact Nat.le_of_eq rfl) (by decide)
  refine own_go (T' := Ta2_1) (g' := (mkF mI 4 #[.val (.ref a), .val (.int top), .val (.int bottom), .val (.int w), .val (.int tier), .val (.int cc), .unset, .unset] [])) (fun t_ kt_ => sta2_1 _ kt_) ?_
  refine own_go (T' := Ta2_1) (g' := (mkF mI 5 #[.val (.ref a), .val (.int top), .val (.int bottom), .val (.int w), .val (.int tier), .val (.int cc), .unset, .unset] [(.ref a)])) (fun t_ kt_ => XS.aloadN Xa2_1.here hx rfl (hb hby d1_4) rfl rfl kt_) ?_
  refine own_go (T' := Ta2_1) (g' := (mkF mI 6 #[.val (.ref a), .val (.int top), .val (.int bottom), .val (.int w), .val (.int tier), .val (.int cc), .unset, .unset] [(.int top), (.ref a)])) (fun t_ kt_ => XS.iloadN Xa2_1.here hx rfl (hb hby d1_5) rfl kt_) ?_
  obtain ⟨Ta2_2, ha2_2, Xa2_2, ea2_2, Wa2_2, sta2_2⟩ := putF Xa2_1 hx hZ hown (host := "") (Or.inl (hw _ (List.mem_of_getElem? (i := 11) rfl))) Via.refl ea2_1 F_top E_a (Or.inr ⟨(hw _ (List.mem_of_getElem? (i := 12) rfl)), rfl, hnm⟩) (hw _ (List.mem_of_getElem? (i := 3) rfl)) (ty := .int) (by decide) rfl rfl (g := (mkF mI 6 #[.val (.ref a), .val (.int top), .val (.int bottom), .val (.int w), .val (.int tier), .val (.int cc), .unset, .unset] [(.int top), (.ref a)])) rfl rfl (hb hby d1_6)
  have Fwa2_2 : Fld Z ha2_2 a "com/example/classic_strings/classicstrings/compare/Matrix$Checkpoints" "top" "I" (.int top) := Fld.same Wa2_2 F_top
  have Fa2_3 := Fld.other Wa2_2 F_tierStrips (Or.inr (slot_ne (Or.inr (hw _ (List.mem_of_getElem? (i := 14) rfl))) (Or.inr (hw _ (List.mem_of_getElem? (i := 12) rfl))) (by decide) (t := .int) (t' := .int) (by decide) (by decide)))
  have Fa2_4 := Fld.other Wa2_2 F_chunkColumns (Or.inr (slot_ne (Or.inr (hw _ (List.mem_of_getElem? (i := 16) rfl))) (Or.inr (hw _ (List.mem_of_getElem? (i := 12) rfl))) (by decide) (t := .int) (t' := .int) (by decide) (by decide)))
  have Fa2_5 := Fld.other Wa2_2 F_carries (Or.inr (slot_ne (Or.inr (hw _ (List.mem_of_getElem? (i := 20) rfl))) (Or.inr (hw _ (List.mem_of_getElem? (i := 12) rfl))) (by decide) (t := (.array (.array .byte))) (t' := .int) (by decide) (by decide)))
  have Fa2_6 := Fld.other Wa2_2 F_states (Or.inr (slot_ne (Or.inr (hw _ (List.mem_of_getElem? (i := 24) rfl))) (Or.inr (hw _ (List.mem_of_getElem? (i := 12) rfl))) (by decide) (t := (.array (.array .long))) (t' := .int) (by decide) (by decide)))
  have Ea2_7 := Exa.wr Wa2_2 E_a
  have Za2_8 : n0 ≤ ha2_2.size := Nat.le_trans Z0 (Nat.le_of_eq (Wr.size Wa2_2).symm)
  have Ka2_9 : Keep h0 ha2_2 [a] := (Keep.refl h0 [a]).wr Wa2_2 (Or.inl (List.mem_of_getElem? (i := 0) rfl))
  have Na2_2 := Fr.snoc Xa2_2 (Fr.nil n0) g_a
  refine own_go (T' := Ta2_2) (g' := (mkF mI 9 #[.val (.ref a), .val (.int top), .val (.int bottom), .val (.int w), .val (.int tier), .val (.int cc), .unset, .unset] [])) (fun t_ kt_ => sta2_2 _ kt_) ?_
  refine own_go (T' := Ta2_2) (g' := (mkF mI 10 #[.val (.ref a), .val (.int top), .val (.int bottom), .val (.int w), .val (.int tier), .val (.int cc), .unset, .unset] [(.ref a)])) (fun t_ kt_ => XS.aloadN Xa2_2.here hx rfl (hb hby d1_9) rfl rfl kt_) ?_
  refine own_go (T' := Ta2_2) (g' := (mkF mI 12 #[.val (.ref a), .val (.int top), .val (.int bottom), .val (.int w), .val (.int tier), .val (.int cc), .unset, .unset] [(.int tier), (.ref a)])) (fun t_ kt_ => XS.iload Xa2_2.here hx rfl (hb hby d1_10) rfl kt_) ?_
  obtain ⟨Ta2_10, ha2_10, Xa2_10, ea2_10, Wa2_10, sta2_10⟩ := putF Xa2_2 hx hZ hown (host := "") (Or.inl (hw _ (List.mem_of_getElem? (i := 13) rfl))) Via.refl ea2_2 Fa2_3 Ea2_7 (Or.inr ⟨(hw _ (List.mem_of_getElem? (i := 14) rfl)), rfl, hnm⟩) (hw _ (List.mem_of_getElem? (i := 3) rfl)) (ty := .int) (by decide) rfl rfl (g := (mkF mI 12 #[.val (.ref a), .val (.int top), .val (.int bottom), .val (.int w), .val (.int tier), .val (.int cc), .unset, .unset] [(.int tier), (.ref a)])) rfl rfl (hb hby d1_12)
  have Fwa2_10 : Fld Z ha2_10 a "com/example/classic_strings/classicstrings/compare/Matrix$Checkpoints" "tierStrips" "I" (.int tier) := Fld.same Wa2_10 Fa2_3
  have Fa2_11 := Fld.other Wa2_10 Fwa2_2 (Or.inr (slot_ne (Or.inr (hw _ (List.mem_of_getElem? (i := 12) rfl))) (Or.inr (hw _ (List.mem_of_getElem? (i := 14) rfl))) (by decide) (t := .int) (t' := .int) (by decide) (by decide)))
  have Fa2_12 := Fld.other Wa2_10 Fa2_4 (Or.inr (slot_ne (Or.inr (hw _ (List.mem_of_getElem? (i := 16) rfl))) (Or.inr (hw _ (List.mem_of_getElem? (i := 14) rfl))) (by decide) (t := .int) (t' := .int) (by decide) (by decide)))
  have Fa2_13 := Fld.other Wa2_10 Fa2_5 (Or.inr (slot_ne (Or.inr (hw _ (List.mem_of_getElem? (i := 20) rfl))) (Or.inr (hw _ (List.mem_of_getElem? (i := 14) rfl))) (by decide) (t := (.array (.array .byte))) (t' := .int) (by decide) (by decide)))
  have Fa2_14 := Fld.other Wa2_10 Fa2_6 (Or.inr (slot_ne (Or.inr (hw _ (List.mem_of_getElem? (i := 24) rfl))) (Or.inr (hw _ (List.mem_of_getElem? (i := 14) rfl))) (by decide) (t := (.array (.array .long))) (t' := .int) (by decide) (by decide)))
  have Ea2_15 := Exa.wr Wa2_10 Ea2_7
  have Za2_16 : n0 ≤ ha2_10.size := Nat.le_trans Za2_8 (Nat.le_of_eq (Wr.size Wa2_10).symm)
  have Ka2_17 : Keep h0 ha2_10 [a] := Ka2_9.wr Wa2_10 (Or.inl (List.mem_of_getElem? (i := 0) rfl))
  have Na2_10 := Fr.snoc Xa2_10 Na2_2 g_a
  refine own_go (T' := Ta2_10) (g' := (mkF mI 15 #[.val (.ref a), .val (.int top), .val (.int bottom), .val (.int w), .val (.int tier), .val (.int cc), .unset, .unset] [])) (fun t_ kt_ => sta2_10 _ kt_) ?_
  refine own_go (T' := Ta2_10) (g' := (mkF mI 16 #[.val (.ref a), .val (.int top), .val (.int bottom), .val (.int w), .val (.int tier), .val (.int cc), .unset, .unset] [(.ref a)])) (fun t_ kt_ => XS.aloadN Xa2_10.here hx rfl (hb hby d1_15) rfl rfl kt_) ?_
  refine own_go (T' := Ta2_10) (g' := (mkF mI 18 #[.val (.ref a), .val (.int top), .val (.int bottom), .val (.int w), .val (.int tier), .val (.int cc), .unset, .unset] [(.int cc), (.ref a)])) (fun t_ kt_ => XS.iload Xa2_10.here hx rfl (hb hby d1_16) rfl kt_) ?_
  obtain ⟨Ta2_18, ha2_18, Xa2_18, ea2_18, Wa2_18, sta2_18⟩ := putF Xa2_10 hx hZ hown (host := "") (Or.inl (hw _ (List.mem_of_getElem? (i := 15) rfl))) Via.refl ea2_10 Fa2_12 Ea2_15 (Or.inr ⟨(hw _ (List.mem_of_getElem? (i := 16) rfl)), rfl, hnm⟩) (hw _ (List.mem_of_getElem? (i := 3) rfl)) (ty := .int) (by decide) rfl rfl (g := (mkF mI 18 #[.val (.ref a), .val (.int top), .val (.int bottom), .val (.int w), .val (.int tier), .val (.int cc), .unset, .unset] [(.int cc), (.ref a)])) rfl rfl (hb hby d1_18)
  have Fwa2_18 : Fld Z ha2_18 a "com/example/classic_strings/classicstrings/compare/Matrix$Checkpoints" "chunkColumns" "I" (.int cc) := Fld.same Wa2_18 Fa2_12
  have Fa2_19 := Fld.other Wa2_18 Fa2_11 (Or.inr (slot_ne (Or.inr (hw _ (List.mem_of_getElem? (i := 12) rfl))) (Or.inr (hw _ (List.mem_of_getElem? (i := 16) rfl))) (by decide) (t := .int) (t' := .int) (by decide) (by decide)))
  have Fa2_20 := Fld.other Wa2_18 Fwa2_10 (Or.inr (slot_ne (Or.inr (hw _ (List.mem_of_getElem? (i := 14) rfl))) (Or.inr (hw _ (List.mem_of_getElem? (i := 16) rfl))) (by decide) (t := .int) (t' := .int) (by decide) (by decide)))
  have Fa2_21 := Fld.other Wa2_18 Fa2_13 (Or.inr (slot_ne (Or.inr (hw _ (List.mem_of_getElem? (i := 20) rfl))) (Or.inr (hw _ (List.mem_of_getElem? (i := 16) rfl))) (by decide) (t := (.array (.array .byte))) (t' := .int) (by decide) (by decide)))
  have Fa2_22 := Fld.other Wa2_18 Fa2_14 (Or.inr (slot_ne (Or.inr (hw _ (List.mem_of_getElem? (i := 24) rfl))) (Or.inr (hw _ (List.mem_of_getElem? (i := 16) rfl))) (by decide) (t := (.array (.array .long))) (t' := .int) (by decide) (by decide)))
  have Ea2_23 := Exa.wr Wa2_18 Ea2_15
  have Za2_24 : n0 ≤ ha2_18.size := Nat.le_trans Za2_16 (Nat.le_of_eq (Wr.size Wa2_18).symm)
  have Ka2_25 : Keep h0 ha2_18 [a] := Ka2_17.wr Wa2_18 (Or.inl (List.mem_of_getElem? (i := 0) rfl))
  have Na2_18 := Fr.snoc Xa2_18 Na2_10 g_a
  refine own_go (T' := Ta2_18) (g' := (mkF mI 21 #[.val (.ref a), .val (.int top), .val (.int bottom), .val (.int w), .val (.int tier), .val (.int cc), .unset, .unset] [])) (fun t_ kt_ => sta2_18 _ kt_) ?_
  refine own_go (T' := Ta2_18) (g' := (mkF mI 22 #[.val (.ref a), .val (.int top), .val (.int bottom), .val (.int w), .val (.int tier), .val (.int cc), .unset, .unset] [(.ref a)])) (fun t_ kt_ => XS.aloadN Xa2_18.here hx rfl (hb hby d1_21) rfl rfl kt_) ?_
  refine own_go (T' := Ta2_18) (g' := (mkF mI 23 #[.val (.ref a), .val (.int top), .val (.int bottom), .val (.int w), .val (.int tier), .val (.int cc), .unset, .unset] [(.int bottom), (.ref a)])) (fun t_ kt_ => XS.iloadN Xa2_18.here hx rfl (hb hby d1_22) rfl kt_) ?_
  refine own_go (T' := Ta2_18) (g' := (mkF mI 24 #[.val (.ref a), .val (.int top), .val (.int bottom), .val (.int w), .val (.int tier), .val (.int cc), .unset, .unset] [(.int top), (.int bottom), (.ref a)])) (fun t_ kt_ => XS.iloadN Xa2_18.here hx rfl (hb hby d1_23) rfl kt_) ?_
  refine own_go (T' := Ta2_18) (g' := (mkF mI 25 #[.val (.ref a), .val (.int top), .val (.int bottom), .val (.int w), .val (.int tier), .val (.int cc), .unset, .unset] [(.int (bottom - top)), (.ref a)])) (fun t_ kt_ => XS.isub Xa2_18.here hx rfl (hb hby d1_24) rfl kt_) ?_
  rw [hd]
  refine own_go (T' := Ta2_18) (g' := (mkF mI 27 #[.val (.ref a), .val (.int top), .val (.int bottom), .val (.int w), .val (.int tier), .val (.int cc), .unset, .unset] [(.int tier), (.int (2 : Int32)), (.ref a)])) (fun t_ kt_ => XS.iload Xa2_18.here hx rfl (hb hby d1_25) rfl kt_) ?_
  refine own_go (T' := Ta2_18) (g' := (mkF mI 28 #[.val (.ref a), .val (.int top), .val (.int bottom), .val (.int w), .val (.int tier), .val (.int cc), .unset, .unset] [(.int ((2 : Int32) + tier)), (.ref a)])) (fun t_ kt_ => XS.iadd Xa2_18.here hx rfl (hb hby d1_27) rfl kt_) ?_
  refine own_go (T' := Ta2_18) (g' := (mkF mI 29 #[.val (.ref a), .val (.int top), .val (.int bottom), .val (.int w), .val (.int tier), .val (.int cc), .unset, .unset] [(.int (1 : Int32)), (.int ((2 : Int32) + tier)), (.ref a)])) (fun t_ kt_ => XS.iconst Xa2_18.here hx rfl (hb hby d1_28) kt_) ?_
  refine own_go (T' := Ta2_18) (g' := (mkF mI 30 #[.val (.ref a), .val (.int top), .val (.int bottom), .val (.int w), .val (.int tier), .val (.int cc), .unset, .unset] [(.int (((2 : Int32) + tier) - (1 : Int32))), (.ref a)])) (fun t_ kt_ => XS.isub Xa2_18.here hx rfl (hb hby d1_29) rfl kt_) ?_
  refine own_go (T' := Ta2_18) (g' := (mkF mI 32 #[.val (.ref a), .val (.int top), .val (.int bottom), .val (.int w), .val (.int tier), .val (.int cc), .unset, .unset] [(.int tier), (.int (((2 : Int32) + tier) - (1 : Int32))), (.ref a)])) (fun t_ kt_ => XS.iload Xa2_18.here hx rfl (hb hby d1_30) rfl kt_) ?_
  refine own_go (T' := Ta2_18) (g' := (mkF mI 33 #[.val (.ref a), .val (.int top), .val (.int bottom), .val (.int w), .val (.int tier), .val (.int cc), .unset, .unset] [(.int ((((2 : Int32) + tier) - (1 : Int32)) / tier)), (.ref a)])) (fun t_ kt_ => XS.idiv Xa2_18.here hx rfl (hb hby d1_32) rfl htz kt_) ?_
  rw [hz1]
  obtain ⟨Ta2_26, ha2_26, ka2_26, Xa2_26, ea2_26, Exa2_26, Aa2_26, Eca2_26, Oa2_26, sta2_26⟩ := newRA Xa2_18 hx hZ (C := "[B") (ty := .byte) hown (by decide) (hw _ (List.mem_of_getElem? (i := 17) rfl)) (hw _ (List.mem_of_getElem? (i := 18) rfl)) ea2_18 (g := (mkF mI 33 #[.val (.ref a), .val (.int top), .val (.int bottom), .val (.int w), .val (.int tier), .val (.int cc), .unset, .unset] [(.int z1), (.ref a)])) rfl (hb hby d1_33) rfl hz1n (cap := 8) hz1c (by decide) (by decide) (by decide) (ad := "[[B") (by decide)
  obtain ⟨ba2_26, ga2_26⟩ : ∃ z, z = ha2_18.size := ⟨_, rfl⟩
  rw [← ga2_26] at Aa2_26 Eca2_26 sta2_26
  have ne_a_ba2_26 : a ≠ ba2_26 := Nat.ne_of_lt (Nat.lt_of_lt_of_le (Fa2_19.lt) (Nat.le_of_eq ga2_26.symm))
  have g_ba2_26 : n0 ≤ ba2_26 := Nat.le_trans Za2_24 (Nat.le_of_eq ga2_26.symm)
  have sz_ba2_26 : h0.size ≤ ba2_26 := Nat.le_trans Ka2_25.1 (Nat.le_of_eq ga2_26.symm)
  have Fa2_27 := Fld.ext Exa2_26 Fa2_19
  have Fa2_28 := Fld.ext Exa2_26 Fa2_20
  have Fa2_29 := Fld.ext Exa2_26 Fwa2_18
  have Fa2_30 := Fld.ext Exa2_26 Fa2_21
  have Fa2_31 := Fld.ext Exa2_26 Fa2_22
  have Ea2_32 := Exa.ext Exa2_26 Ea2_23
  have Za2_33 : n0 ≤ ha2_26.size := Nat.le_trans Za2_24 Exa2_26.1
  have Ka2_34 : Keep h0 ha2_26 [a] := Ka2_25.ext Exa2_26
  have Va2_26 : Arv Z ha2_26 ba2_26 ka2_26 (.array .byte) z1 [] .null := Arv.new Aa2_26 hz1n
  refine own_go (T' := Ta2_26) (g' := (mkF mI 36 #[.val (.ref a), .val (.int top), .val (.int bottom), .val (.int w), .val (.int tier), .val (.int cc), .unset, .unset] [(.ref ba2_26), (.ref a)])) (fun t_ kt_ => sta2_26 _ kt_) ?_
  obtain ⟨Ta2_35, ha2_35, Xa2_35, ea2_35, Wa2_35, sta2_35⟩ := putF Xa2_26 hx hZ hown (host := "") (Or.inl (hw _ (List.mem_of_getElem? (i := 19) rfl))) Via.refl ea2_26 Fa2_30 Ea2_32 (Or.inr ⟨(hw _ (List.mem_of_getElem? (i := 20) rfl)), rfl, hnm⟩) (hw _ (List.mem_of_getElem? (i := 3) rfl)) (ty := (.array (.array .byte))) (by decide) rfl rfl (g := (mkF mI 36 #[.val (.ref a), .val (.int top), .val (.int bottom), .val (.int w), .val (.int tier), .val (.int cc), .unset, .unset] [(.ref ba2_26), (.ref a)])) rfl rfl (hb hby d1_36)
  have Fwa2_35 : Fld Z ha2_35 a "com/example/classic_strings/classicstrings/compare/Matrix$Checkpoints" "carries" "[[B" (.ref ba2_26) := Fld.same Wa2_35 Fa2_30
  have Fa2_36 := Fld.other Wa2_35 Fa2_27 (Or.inr (slot_ne (Or.inr (hw _ (List.mem_of_getElem? (i := 12) rfl))) (Or.inr (hw _ (List.mem_of_getElem? (i := 20) rfl))) (by decide) (t := .int) (t' := (.array (.array .byte))) (by decide) (by decide)))
  have Fa2_37 := Fld.other Wa2_35 Fa2_28 (Or.inr (slot_ne (Or.inr (hw _ (List.mem_of_getElem? (i := 14) rfl))) (Or.inr (hw _ (List.mem_of_getElem? (i := 20) rfl))) (by decide) (t := .int) (t' := (.array (.array .byte))) (by decide) (by decide)))
  have Fa2_38 := Fld.other Wa2_35 Fa2_29 (Or.inr (slot_ne (Or.inr (hw _ (List.mem_of_getElem? (i := 16) rfl))) (Or.inr (hw _ (List.mem_of_getElem? (i := 20) rfl))) (by decide) (t := .int) (t' := (.array (.array .byte))) (by decide) (by decide)))
  have Fa2_39 := Fld.other Wa2_35 Fa2_31 (Or.inr (slot_ne (Or.inr (hw _ (List.mem_of_getElem? (i := 24) rfl))) (Or.inr (hw _ (List.mem_of_getElem? (i := 20) rfl))) (by decide) (t := (.array (.array .long))) (t' := (.array (.array .byte))) (by decide) (by decide)))
  have Ea2_40 := Exa.wr Wa2_35 Ea2_32
  have Ea2_41 := Exa.wr Wa2_35 Eca2_26
  have Va2_42 := Arv.other Va2_26 Wa2_35 (Ne.symm ne_a_ba2_26)
  have Za2_43 : n0 ≤ ha2_35.size := Nat.le_trans Za2_33 (Nat.le_of_eq (Wr.size Wa2_35).symm)
  have Ka2_44 : Keep h0 ha2_35 [a] := Ka2_34.wr Wa2_35 (Or.inl (List.mem_of_getElem? (i := 0) rfl))
  have Na2_35 := Fr.snoc Xa2_35 Na2_18 g_a
  refine own_go (T' := Ta2_35) (g' := (mkF mI 39 #[.val (.ref a), .val (.int top), .val (.int bottom), .val (.int w), .val (.int tier), .val (.int cc), .unset, .unset] [])) (fun t_ kt_ => sta2_35 _ kt_) ?_
  refine own_go (T' := Ta2_35) (g' := (mkF mI 40 #[.val (.ref a), .val (.int top), .val (.int bottom), .val (.int w), .val (.int tier), .val (.int cc), .unset, .unset] [(.int w)])) (fun t_ kt_ => XS.iloadN Xa2_35.here hx rfl (hb hby d1_39) rfl kt_) ?_
  refine own_go (T' := Ta2_35) (g' := (mkF mI 42 #[.val (.ref a), .val (.int top), .val (.int bottom), .val (.int w), .val (.int tier), .val (.int cc), .unset, .unset] [(.int cc), (.int w)])) (fun t_ kt_ => XS.iload Xa2_35.here hx rfl (hb hby d1_40) rfl kt_) ?_
  refine own_go (T' := Ta2_35) (g' := (mkF mI 43 #[.val (.ref a), .val (.int top), .val (.int bottom), .val (.int w), .val (.int tier), .val (.int cc), .unset, .unset] [(.int (w + cc))])) (fun t_ kt_ => XS.iadd Xa2_35.here hx rfl (hb hby d1_42) rfl kt_) ?_
  refine own_go (T' := Ta2_35) (g' := (mkF mI 44 #[.val (.ref a), .val (.int top), .val (.int bottom), .val (.int w), .val (.int tier), .val (.int cc), .unset, .unset] [(.int (1 : Int32)), (.int (w + cc))])) (fun t_ kt_ => XS.iconst Xa2_35.here hx rfl (hb hby d1_43) kt_) ?_
  refine own_go (T' := Ta2_35) (g' := (mkF mI 45 #[.val (.ref a), .val (.int top), .val (.int bottom), .val (.int w), .val (.int tier), .val (.int cc), .unset, .unset] [(.int ((w + cc) - (1 : Int32)))])) (fun t_ kt_ => XS.isub Xa2_35.here hx rfl (hb hby d1_44) rfl kt_) ?_
  refine own_go (T' := Ta2_35) (g' := (mkF mI 47 #[.val (.ref a), .val (.int top), .val (.int bottom), .val (.int w), .val (.int tier), .val (.int cc), .unset, .unset] [(.int cc), (.int ((w + cc) - (1 : Int32)))])) (fun t_ kt_ => XS.iload Xa2_35.here hx rfl (hb hby d1_45) rfl kt_) ?_
  refine own_go (T' := Ta2_35) (g' := (mkF mI 48 #[.val (.ref a), .val (.int top), .val (.int bottom), .val (.int w), .val (.int tier), .val (.int cc), .unset, .unset] [(.int (((w + cc) - (1 : Int32)) / cc))])) (fun t_ kt_ => XS.idiv Xa2_35.here hx rfl (hb hby d1_47) rfl hcz kt_) ?_
  rw [hch]
  refine own_go (T' := Ta2_35) (g' := (mkF mI 50 #[.val (.ref a), .val (.int top), .val (.int bottom), .val (.int w), .val (.int tier), .val (.int cc), .val (.int ch), .unset] [])) (fun t_ kt_ => XS.istore Xa2_35.here hx rfl (hb hby d1_48) rfl (l' := #[.val (.ref a), .val (.int top), .val (.int bottom), .val (.int w), .val (.int tier), .val (.int cc), .val (.int ch), .unset]) rfl kt_) ?_
  refine own_go (T' := Ta2_35) (g' := (mkF mI 51 #[.val (.ref a), .val (.int top), .val (.int bottom), .val (.int w), .val (.int tier), .val (.int cc), .val (.int ch), .unset] [(.ref a)])) (fun t_ kt_ => XS.aloadN Xa2_35.here hx rfl (hb hby d1_50) rfl rfl kt_) ?_
  refine own_go (T' := Ta2_35) (g' := (mkF mI 52 #[.val (.ref a), .val (.int top), .val (.int bottom), .val (.int w), .val (.int tier), .val (.int cc), .val (.int ch), .unset] [(.int bottom), (.ref a)])) (fun t_ kt_ => XS.iloadN Xa2_35.here hx rfl (hb hby d1_51) rfl kt_) ?_
  refine own_go (T' := Ta2_35) (g' := (mkF mI 53 #[.val (.ref a), .val (.int top), .val (.int bottom), .val (.int w), .val (.int tier), .val (.int cc), .val (.int ch), .unset] [(.int top), (.int bottom), (.ref a)])) (fun t_ kt_ => XS.iloadN Xa2_35.here hx rfl (hb hby d1_52) rfl kt_) ?_
  refine own_go (T' := Ta2_35) (g' := (mkF mI 54 #[.val (.ref a), .val (.int top), .val (.int bottom), .val (.int w), .val (.int tier), .val (.int cc), .val (.int ch), .unset] [(.int (bottom - top)), (.ref a)])) (fun t_ kt_ => XS.isub Xa2_35.here hx rfl (hb hby d1_53) rfl kt_) ?_
  rw [hd]
  obtain ⟨Ta2_45, ha2_45, ka2_45, Xa2_45, ea2_45, Exa2_45, Aa2_45, Eca2_45, Oa2_45, sta2_45⟩ := newRA Xa2_35 hx hZ (C := "[J") (ty := .long) hown (by decide) (hw _ (List.mem_of_getElem? (i := 21) rfl)) (hw _ (List.mem_of_getElem? (i := 22) rfl)) ea2_35 (g := (mkF mI 54 #[.val (.ref a), .val (.int top), .val (.int bottom), .val (.int w), .val (.int tier), .val (.int cc), .val (.int ch), .unset] [(.int (2 : Int32)), (.ref a)])) rfl (hb hby d1_54) rfl (by decide) (cap := 2) (by decide) (by decide) (by decide) (by decide) (ad := "[[J") (by decide)
  obtain ⟨ba2_45, ga2_45⟩ : ∃ z, z = ha2_35.size := ⟨_, rfl⟩
  rw [← ga2_45] at Aa2_45 Eca2_45 sta2_45
  have ne_a_ba2_45 : a ≠ ba2_45 := Nat.ne_of_lt (Nat.lt_of_lt_of_le (Fa2_36.lt) (Nat.le_of_eq ga2_45.symm))
  have ne_ba2_26_ba2_45 : ba2_26 ≠ ba2_45 := Nat.ne_of_lt (Nat.lt_of_lt_of_le (Ea2_41.lt) (Nat.le_of_eq ga2_45.symm))
  have g_ba2_45 : n0 ≤ ba2_45 := Nat.le_trans Za2_43 (Nat.le_of_eq ga2_45.symm)
  have sz_ba2_45 : h0.size ≤ ba2_45 := Nat.le_trans Ka2_44.1 (Nat.le_of_eq ga2_45.symm)
  have Fa2_46 := Fld.ext Exa2_45 Fa2_36
  have Fa2_47 := Fld.ext Exa2_45 Fa2_37
  have Fa2_48 := Fld.ext Exa2_45 Fa2_38
  have Fa2_49 := Fld.ext Exa2_45 Fwa2_35
  have Fa2_50 := Fld.ext Exa2_45 Fa2_39
  have Ea2_51 := Exa.ext Exa2_45 Ea2_40
  have Ea2_52 := Exa.ext Exa2_45 Ea2_41
  have Va2_53 := Arv.ext Va2_42 Exa2_45
  have Za2_54 : n0 ≤ ha2_45.size := Nat.le_trans Za2_43 Exa2_45.1
  have Ka2_55 : Keep h0 ha2_45 [a] := Ka2_44.ext Exa2_45
  have Va2_45 : Arv Z ha2_45 ba2_45 ka2_45 (.array .long) (2 : Int32) [] .null := Arv.new Aa2_45 (by decide)
  have Va2_56 : Arv Z ha2_45 ba2_45 ka2_45 (.array .long) (2 : Int32) [.null, .null] .null := Arv.pad Va2_45 (pad_rep [] .null 2)
  refine own_go (T' := Ta2_45) (g' := (mkF mI 57 #[.val (.ref a), .val (.int top), .val (.int bottom), .val (.int w), .val (.int tier), .val (.int cc), .val (.int ch), .unset] [(.ref ba2_45), (.ref a)])) (fun t_ kt_ => sta2_45 _ kt_) ?_
  obtain ⟨Ta2_57, ha2_57, Xa2_57, ea2_57, Wa2_57, sta2_57⟩ := putF Xa2_45 hx hZ hown (host := "") (Or.inl (hw _ (List.mem_of_getElem? (i := 23) rfl))) Via.refl ea2_45 Fa2_50 Ea2_51 (Or.inr ⟨(hw _ (List.mem_of_getElem? (i := 24) rfl)), rfl, hnm⟩) (hw _ (List.mem_of_getElem? (i := 3) rfl)) (ty := (.array (.array .long))) (by decide) rfl rfl (g := (mkF mI 57 #[.val (.ref a), .val (.int top), .val (.int bottom), .val (.int w), .val (.int tier), .val (.int cc), .val (.int ch), .unset] [(.ref ba2_45), (.ref a)])) rfl rfl (hb hby d1_57)
  have Fwa2_57 : Fld Z ha2_57 a "com/example/classic_strings/classicstrings/compare/Matrix$Checkpoints" "states" "[[J" (.ref ba2_45) := Fld.same Wa2_57 Fa2_50
  have Fa2_58 := Fld.other Wa2_57 Fa2_46 (Or.inr (slot_ne (Or.inr (hw _ (List.mem_of_getElem? (i := 12) rfl))) (Or.inr (hw _ (List.mem_of_getElem? (i := 24) rfl))) (by decide) (t := .int) (t' := (.array (.array .long))) (by decide) (by decide)))
  have Fa2_59 := Fld.other Wa2_57 Fa2_47 (Or.inr (slot_ne (Or.inr (hw _ (List.mem_of_getElem? (i := 14) rfl))) (Or.inr (hw _ (List.mem_of_getElem? (i := 24) rfl))) (by decide) (t := .int) (t' := (.array (.array .long))) (by decide) (by decide)))
  have Fa2_60 := Fld.other Wa2_57 Fa2_48 (Or.inr (slot_ne (Or.inr (hw _ (List.mem_of_getElem? (i := 16) rfl))) (Or.inr (hw _ (List.mem_of_getElem? (i := 24) rfl))) (by decide) (t := .int) (t' := (.array (.array .long))) (by decide) (by decide)))
  have Fa2_61 := Fld.other Wa2_57 Fa2_49 (Or.inr (slot_ne (Or.inr (hw _ (List.mem_of_getElem? (i := 20) rfl))) (Or.inr (hw _ (List.mem_of_getElem? (i := 24) rfl))) (by decide) (t := (.array (.array .byte))) (t' := (.array (.array .long))) (by decide) (by decide)))
  have Ea2_62 := Exa.wr Wa2_57 Ea2_51
  have Ea2_63 := Exa.wr Wa2_57 Ea2_52
  have Ea2_64 := Exa.wr Wa2_57 Eca2_45
  have Va2_65 := Arv.other Va2_53 Wa2_57 (Ne.symm ne_a_ba2_26)
  have Va2_66 := Arv.other Va2_56 Wa2_57 (Ne.symm ne_a_ba2_45)
  have Za2_67 : n0 ≤ ha2_57.size := Nat.le_trans Za2_54 (Nat.le_of_eq (Wr.size Wa2_57).symm)
  have Ka2_68 : Keep h0 ha2_57 [a] := Ka2_55.wr Wa2_57 (Or.inl (List.mem_of_getElem? (i := 0) rfl))
  have Na2_57 := Fr.snoc Xa2_57 Na2_35 g_a
  refine own_go (T' := Ta2_57) (g' := (mkF mI 60 #[.val (.ref a), .val (.int top), .val (.int bottom), .val (.int w), .val (.int tier), .val (.int cc), .val (.int ch), .unset] [])) (fun t_ kt_ => sta2_57 _ kt_) ?_
  refine own_go (T' := Ta2_57) (g' := (mkF mI 61 #[.val (.ref a), .val (.int top), .val (.int bottom), .val (.int w), .val (.int tier), .val (.int cc), .val (.int ch), .unset] [(.int (0 : Int32))])) (fun t_ kt_ => XS.iconst Xa2_57.here hx rfl (hb hby d1_60) kt_) ?_
  refine own_go (T' := Ta2_57) (g' := (mkF mI 63 #[.val (.ref a), .val (.int top), .val (.int bottom), .val (.int w), .val (.int tier), .val (.int cc), .val (.int ch), .val (.int (0 : Int32))] [])) (fun t_ kt_ => XS.istore Xa2_57.here hx rfl (hb hby d1_61) rfl (l' := #[.val (.ref a), .val (.int top), .val (.int bottom), .val (.int w), .val (.int tier), .val (.int cc), .val (.int ch), .val (.int (0 : Int32))]) rfl kt_) ?_
  refine own_go (T' := Ta2_57) (g' := (mkF mI 65 #[.val (.ref a), .val (.int top), .val (.int bottom), .val (.int w), .val (.int tier), .val (.int cc), .val (.int ch), .val (.int (0 : Int32))] [(.int (0 : Int32))])) (fun t_ kt_ => XS.iload Xa2_57.here hx rfl (hb hby d1_63) rfl kt_) ?_
  refine own_go (T' := Ta2_57) (g' := (mkF mI 66 #[.val (.ref a), .val (.int top), .val (.int bottom), .val (.int w), .val (.int tier), .val (.int cc), .val (.int ch), .val (.int (0 : Int32))] [(.ref a), (.int (0 : Int32))])) (fun t_ kt_ => XS.aloadN Xa2_57.here hx rfl (hb hby d1_65) rfl rfl kt_) ?_
  obtain ⟨Ta2_69, Xa2_69, ea2_69, sta2_69⟩ := getF Xa2_57 hx hZ hown (host := "") (Or.inl (hw _ (List.mem_of_getElem? (i := 23) rfl))) Via.refl ea2_57 Fwa2_57 (g := (mkF mI 66 #[.val (.ref a), .val (.int top), .val (.int bottom), .val (.int w), .val (.int tier), .val (.int cc), .val (.int ch), .val (.int (0 : Int32))] [(.ref a), (.int (0 : Int32))])) rfl rfl (hb hby d1_66)
  refine own_go (T' := Ta2_69) (g' := (mkF mI 69 #[.val (.ref a), .val (.int top), .val (.int bottom), .val (.int w), .val (.int tier), .val (.int cc), .val (.int ch), .val (.int (0 : Int32))] [(.ref ba2_45), (.int (0 : Int32))])) (fun t_ kt_ => sta2_69 _ kt_) ?_
  obtain ⟨cla2_70, Ara2_70, qa2_70, Sa2_70, Nga2_70, Ha2_70, Ga2_70⟩ := id Va2_66
  refine own_go (T' := Ta2_69) (g' := (mkF mI 70 #[.val (.ref a), .val (.int top), .val (.int bottom), .val (.int w), .val (.int tier), .val (.int cc), .val (.int ch), .val (.int (0 : Int32))] [(.int (2 : Int32)), (.int (0 : Int32))])) (fun t_ kt_ => own_len Xa2_69 hx hZ ea2_69 Ara2_70 (len_of Sa2_70 Nga2_70) (g := (mkF mI 69 #[.val (.ref a), .val (.int top), .val (.int bottom), .val (.int w), .val (.int tier), .val (.int cc), .val (.int ch), .val (.int (0 : Int32))] [(.ref ba2_45), (.int (0 : Int32))])) rfl rfl (hb hby d1_69) _ kt_) ?_
  refine own_go (T' := Ta2_69) (g' := (mkF mI 73 #[.val (.ref a), .val (.int top), .val (.int bottom), .val (.int w), .val (.int tier), .val (.int cc), .val (.int ch), .val (.int (0 : Int32))] [])) (fun t_ kt_ => XS.icmpNo Xa2_69.here hx rfl (hb hby d1_70) rfl (tlt (by decide : (0 : Int32) < (2 : Int32))).2.1 kt_) ?_
  refine own_go (T' := Ta2_69) (g' := (mkF mI 74 #[.val (.ref a), .val (.int top), .val (.int bottom), .val (.int w), .val (.int tier), .val (.int cc), .val (.int ch), .val (.int (0 : Int32))] [(.ref a)])) (fun t_ kt_ => XS.aloadN Xa2_69.here hx rfl (hb hby d1_73) rfl rfl kt_) ?_
  obtain ⟨Ta2_71, Xa2_71, ea2_71, sta2_71⟩ := getF Xa2_69 hx hZ hown (host := "") (Or.inl (hw _ (List.mem_of_getElem? (i := 23) rfl))) Via.refl ea2_69 Fwa2_57 (g := (mkF mI 74 #[.val (.ref a), .val (.int top), .val (.int bottom), .val (.int w), .val (.int tier), .val (.int cc), .val (.int ch), .val (.int (0 : Int32))] [(.ref a)])) rfl rfl (hb hby d1_74)
  refine own_go (T' := Ta2_71) (g' := (mkF mI 77 #[.val (.ref a), .val (.int top), .val (.int bottom), .val (.int w), .val (.int tier), .val (.int cc), .val (.int ch), .val (.int (0 : Int32))] [(.ref ba2_45)])) (fun t_ kt_ => sta2_71 _ kt_) ?_
  refine own_go (T' := Ta2_71) (g' := (mkF mI 79 #[.val (.ref a), .val (.int top), .val (.int bottom), .val (.int w), .val (.int tier), .val (.int cc), .val (.int ch), .val (.int (0 : Int32))] [(.int (0 : Int32)), (.ref ba2_45)])) (fun t_ kt_ => XS.iload Xa2_71.here hx rfl (hb hby d1_77) rfl kt_) ?_
  refine own_go (T' := Ta2_71) (g' := (mkF mI 80 #[.val (.ref a), .val (.int top), .val (.int bottom), .val (.int w), .val (.int tier), .val (.int cc), .val (.int ch), .val (.int (0 : Int32))] [(.int (2 : Int32)), (.int (0 : Int32)), (.ref ba2_45)])) (fun t_ kt_ => XS.iconst Xa2_71.here hx rfl (hb hby d1_79) kt_) ?_
  refine own_go (T' := Ta2_71) (g' := (mkF mI 82 #[.val (.ref a), .val (.int top), .val (.int bottom), .val (.int w), .val (.int tier), .val (.int cc), .val (.int ch), .val (.int (0 : Int32))] [(.int ch), (.int (2 : Int32)), (.int (0 : Int32)), (.ref ba2_45)])) (fun t_ kt_ => XS.iload Xa2_71.here hx rfl (hb hby d1_80) rfl kt_) ?_
  refine own_go (T' := Ta2_71) (g' := (mkF mI 83 #[.val (.ref a), .val (.int top), .val (.int bottom), .val (.int w), .val (.int tier), .val (.int cc), .val (.int ch), .val (.int (0 : Int32))] [(.int ((2 : Int32) * ch)), (.int (0 : Int32)), (.ref ba2_45)])) (fun t_ kt_ => XS.imul Xa2_71.here hx rfl (hb hby d1_82) rfl kt_) ?_
  obtain ⟨Ta2_72, ha2_72, ka2_72, Xa2_72, ea2_72, Exa2_72, Aa2_72, Eca2_72, sta2_72⟩ := newPE Xa2_71 hx hZ (hw _ (List.mem_of_getElem? (i := 25) rfl)) ea2_71 (g := (mkF mI 83 #[.val (.ref a), .val (.int top), .val (.int bottom), .val (.int w), .val (.int tier), .val (.int cc), .val (.int ch), .val (.int (0 : Int32))] [(.int ((2 : Int32) * ch)), (.int (0 : Int32)), (.ref ba2_45)])) rfl (hb hby d1_83) rfl hrn (cap := 2048) hrc (by decide) (by decide) (by decide) (ad := "[J") (by decide)
  obtain ⟨ba2_72, ga2_72⟩ : ∃ z, z = ha2_57.size := ⟨_, rfl⟩
  rw [← ga2_72] at Aa2_72 Eca2_72 sta2_72
  have ne_a_ba2_72 : a ≠ ba2_72 := Nat.ne_of_lt (Nat.lt_of_lt_of_le (Fa2_58.lt) (Nat.le_of_eq ga2_72.symm))
  have ne_ba2_26_ba2_72 : ba2_26 ≠ ba2_72 := Nat.ne_of_lt (Nat.lt_of_lt_of_le (Ea2_63.lt) (Nat.le_of_eq ga2_72.symm))
  have ne_ba2_45_ba2_72 : ba2_45 ≠ ba2_72 := Nat.ne_of_lt (Nat.lt_of_lt_of_le (Ea2_64.lt) (Nat.le_of_eq ga2_72.symm))
  have g_ba2_72 : n0 ≤ ba2_72 := Nat.le_trans Za2_67 (Nat.le_of_eq ga2_72.symm)
  have sz_ba2_72 : h0.size ≤ ba2_72 := Nat.le_trans Ka2_68.1 (Nat.le_of_eq ga2_72.symm)
  have Fa2_73 := Fld.ext Exa2_72 Fa2_58
  have Fa2_74 := Fld.ext Exa2_72 Fa2_59
  have Fa2_75 := Fld.ext Exa2_72 Fa2_60
  have Fa2_76 := Fld.ext Exa2_72 Fa2_61
  have Fa2_77 := Fld.ext Exa2_72 Fwa2_57
  have Ea2_78 := Exa.ext Exa2_72 Ea2_62
  have Ea2_79 := Exa.ext Exa2_72 Ea2_63
  have Ea2_80 := Exa.ext Exa2_72 Ea2_64
  have Va2_81 := Arv.ext Va2_65 Exa2_72
  have Va2_82 := Arv.ext Va2_66 Exa2_72
  have Za2_83 : n0 ≤ ha2_72.size := Nat.le_trans Za2_67 Exa2_72.1
  have Ka2_84 : Keep h0 ha2_72 [a] := Ka2_68.ext Exa2_72
  have Va2_72 : Arv Z ha2_72 ba2_72 ka2_72 .long ((2 : Int32) * ch) [] (.long (0 : Int64)) := Arv.new Aa2_72 hrn
  refine own_go (T' := Ta2_72) (g' := (mkF mI 85 #[.val (.ref a), .val (.int top), .val (.int bottom), .val (.int w), .val (.int tier), .val (.int cc), .val (.int ch), .val (.int (0 : Int32))] [(.ref ba2_72), (.int (0 : Int32)), (.ref ba2_45)])) (fun t_ kt_ => sta2_72 _ kt_) ?_
  obtain ⟨cla2_85, Ara2_85, qa2_85, Sa2_85, Nga2_85, Ha2_85, Ga2_85⟩ := id Va2_82
  obtain ⟨Ta2_86, ha2_86, Xa2_86, ea2_86, Wa2_86, sta2_86⟩ := stR Xa2_72 hx hZ ea2_72 Ara2_85 (j := (0 : Int32)) (inb_of Sa2_85 ⟨by decide, by decide⟩) rfl (Sto.ofVA Ara2_85 qa2_85 Oa2_45 (Ins.self Eca2_72)) (g := (mkF mI 85 #[.val (.ref a), .val (.int top), .val (.int bottom), .val (.int w), .val (.int tier), .val (.int cc), .val (.int ch), .val (.int (0 : Int32))] [(.ref ba2_72), (.int (0 : Int32)), (.ref ba2_45)])) rfl rfl (hb hby d1_85)
  have Va2_86 : Arv Z ha2_86 ba2_45 ka2_45 (.array .long) (2 : Int32) [(.ref ba2_72), .null] .null := Arv.set Ara2_85 qa2_85 Sa2_85 Nga2_85 Ha2_85 Ga2_85 rfl Wa2_86 0 rfl (Nat.le_of_ble_eq_true rfl)
  have Fa2_87 := Fld.other Wa2_86 Fa2_73 (Or.inl ne_a_ba2_45)
  have Fa2_88 := Fld.other Wa2_86 Fa2_74 (Or.inl ne_a_ba2_45)
  have Fa2_89 := Fld.other Wa2_86 Fa2_75 (Or.inl ne_a_ba2_45)
  have Fa2_90 := Fld.other Wa2_86 Fa2_76 (Or.inl ne_a_ba2_45)
  have Fa2_91 := Fld.other Wa2_86 Fa2_77 (Or.inl ne_a_ba2_45)
  have Ea2_92 := Exa.wr Wa2_86 Ea2_78
  have Ea2_93 := Exa.wr Wa2_86 Ea2_79
  have Ea2_94 := Exa.wr Wa2_86 Ea2_80
  have Ea2_95 := Exa.wr Wa2_86 Eca2_72
  have Va2_96 := Arv.other Va2_81 Wa2_86 ne_ba2_26_ba2_45
  have Va2_98 := Arv.other Va2_72 Wa2_86 (Ne.symm ne_ba2_45_ba2_72)
  have Za2_99 : n0 ≤ ha2_86.size := Nat.le_trans Za2_83 (Nat.le_of_eq (Wr.size Wa2_86).symm)
  have Ka2_100 : Keep h0 ha2_86 [a] := Ka2_84.wr Wa2_86 (Or.inr sz_ba2_45)
  have Na2_86 := Fr.snoc Xa2_86 Na2_57 g_ba2_45
  refine own_go (T' := Ta2_86) (g' := (mkF mI 86 #[.val (.ref a), .val (.int top), .val (.int bottom), .val (.int w), .val (.int tier), .val (.int cc), .val (.int ch), .val (.int (0 : Int32))] [])) (fun t_ kt_ => sta2_86 _ kt_) ?_
  refine own_go (T' := Ta2_86) (g' := (mkF mI 89 #[.val (.ref a), .val (.int top), .val (.int bottom), .val (.int w), .val (.int tier), .val (.int cc), .val (.int ch), .val (.int (1 : Int32))] [])) (fun t_ kt_ => XS.iinc Xa2_86.here hx rfl (hb hby d1_86) rfl (l' := #[.val (.ref a), .val (.int top), .val (.int bottom), .val (.int w), .val (.int tier), .val (.int cc), .val (.int ch), .val (.int (1 : Int32))]) rfl kt_) ?_
  refine own_go (T' := Ta2_86) (g' := (mkF mI 63 #[.val (.ref a), .val (.int top), .val (.int bottom), .val (.int w), .val (.int tier), .val (.int cc), .val (.int ch), .val (.int (1 : Int32))] [])) (fun t_ kt_ => XS.goto Xa2_86.here hx rfl (pc0 := 89) (pc' := 63) rfl (hb hby d1_89) (by decide) (by decide) kt_) ?_
  refine own_go (T' := Ta2_86) (g' := (mkF mI 65 #[.val (.ref a), .val (.int top), .val (.int bottom), .val (.int w), .val (.int tier), .val (.int cc), .val (.int ch), .val (.int (1 : Int32))] [(.int (1 : Int32))])) (fun t_ kt_ => XS.iload Xa2_86.here hx rfl (hb hby d1_63) rfl kt_) ?_
  refine own_go (T' := Ta2_86) (g' := (mkF mI 66 #[.val (.ref a), .val (.int top), .val (.int bottom), .val (.int w), .val (.int tier), .val (.int cc), .val (.int ch), .val (.int (1 : Int32))] [(.ref a), (.int (1 : Int32))])) (fun t_ kt_ => XS.aloadN Xa2_86.here hx rfl (hb hby d1_65) rfl rfl kt_) ?_
  obtain ⟨Ta2_101, Xa2_101, ea2_101, sta2_101⟩ := getF Xa2_86 hx hZ hown (host := "") (Or.inl (hw _ (List.mem_of_getElem? (i := 23) rfl))) Via.refl ea2_86 Fa2_91 (g := (mkF mI 66 #[.val (.ref a), .val (.int top), .val (.int bottom), .val (.int w), .val (.int tier), .val (.int cc), .val (.int ch), .val (.int (1 : Int32))] [(.ref a), (.int (1 : Int32))])) rfl rfl (hb hby d1_66)
  refine own_go (T' := Ta2_101) (g' := (mkF mI 69 #[.val (.ref a), .val (.int top), .val (.int bottom), .val (.int w), .val (.int tier), .val (.int cc), .val (.int ch), .val (.int (1 : Int32))] [(.ref ba2_45), (.int (1 : Int32))])) (fun t_ kt_ => sta2_101 _ kt_) ?_
  obtain ⟨cla2_102, Ara2_102, qa2_102, Sa2_102, Nga2_102, Ha2_102, Ga2_102⟩ := id Va2_86
  refine own_go (T' := Ta2_101) (g' := (mkF mI 70 #[.val (.ref a), .val (.int top), .val (.int bottom), .val (.int w), .val (.int tier), .val (.int cc), .val (.int ch), .val (.int (1 : Int32))] [(.int (2 : Int32)), (.int (1 : Int32))])) (fun t_ kt_ => own_len Xa2_101 hx hZ ea2_101 Ara2_102 (len_of Sa2_102 Nga2_102) (g := (mkF mI 69 #[.val (.ref a), .val (.int top), .val (.int bottom), .val (.int w), .val (.int tier), .val (.int cc), .val (.int ch), .val (.int (1 : Int32))] [(.ref ba2_45), (.int (1 : Int32))])) rfl rfl (hb hby d1_69) _ kt_) ?_
  refine own_go (T' := Ta2_101) (g' := (mkF mI 73 #[.val (.ref a), .val (.int top), .val (.int bottom), .val (.int w), .val (.int tier), .val (.int cc), .val (.int ch), .val (.int (1 : Int32))] [])) (fun t_ kt_ => XS.icmpNo Xa2_101.here hx rfl (hb hby d1_70) rfl (tlt (by decide : (1 : Int32) < (2 : Int32))).2.1 kt_) ?_
  refine own_go (T' := Ta2_101) (g' := (mkF mI 74 #[.val (.ref a), .val (.int top), .val (.int bottom), .val (.int w), .val (.int tier), .val (.int cc), .val (.int ch), .val (.int (1 : Int32))] [(.ref a)])) (fun t_ kt_ => XS.aloadN Xa2_101.here hx rfl (hb hby d1_73) rfl rfl kt_) ?_
  obtain ⟨Ta2_103, Xa2_103, ea2_103, sta2_103⟩ := getF Xa2_101 hx hZ hown (host := "") (Or.inl (hw _ (List.mem_of_getElem? (i := 23) rfl))) Via.refl ea2_101 Fa2_91 (g := (mkF mI 74 #[.val (.ref a), .val (.int top), .val (.int bottom), .val (.int w), .val (.int tier), .val (.int cc), .val (.int ch), .val (.int (1 : Int32))] [(.ref a)])) rfl rfl (hb hby d1_74)
  refine own_go (T' := Ta2_103) (g' := (mkF mI 77 #[.val (.ref a), .val (.int top), .val (.int bottom), .val (.int w), .val (.int tier), .val (.int cc), .val (.int ch), .val (.int (1 : Int32))] [(.ref ba2_45)])) (fun t_ kt_ => sta2_103 _ kt_) ?_
  refine own_go (T' := Ta2_103) (g' := (mkF mI 79 #[.val (.ref a), .val (.int top), .val (.int bottom), .val (.int w), .val (.int tier), .val (.int cc), .val (.int ch), .val (.int (1 : Int32))] [(.int (1 : Int32)), (.ref ba2_45)])) (fun t_ kt_ => XS.iload Xa2_103.here hx rfl (hb hby d1_77) rfl kt_) ?_
  refine own_go (T' := Ta2_103) (g' := (mkF mI 80 #[.val (.ref a), .val (.int top), .val (.int bottom), .val (.int w), .val (.int tier), .val (.int cc), .val (.int ch), .val (.int (1 : Int32))] [(.int (2 : Int32)), (.int (1 : Int32)), (.ref ba2_45)])) (fun t_ kt_ => XS.iconst Xa2_103.here hx rfl (hb hby d1_79) kt_) ?_
  refine own_go (T' := Ta2_103) (g' := (mkF mI 82 #[.val (.ref a), .val (.int top), .val (.int bottom), .val (.int w), .val (.int tier), .val (.int cc), .val (.int ch), .val (.int (1 : Int32))] [(.int ch), (.int (2 : Int32)), (.int (1 : Int32)), (.ref ba2_45)])) (fun t_ kt_ => XS.iload Xa2_103.here hx rfl (hb hby d1_80) rfl kt_) ?_
  refine own_go (T' := Ta2_103) (g' := (mkF mI 83 #[.val (.ref a), .val (.int top), .val (.int bottom), .val (.int w), .val (.int tier), .val (.int cc), .val (.int ch), .val (.int (1 : Int32))] [(.int ((2 : Int32) * ch)), (.int (1 : Int32)), (.ref ba2_45)])) (fun t_ kt_ => XS.imul Xa2_103.here hx rfl (hb hby d1_82) rfl kt_) ?_
  obtain ⟨Ta2_104, ha2_104, ka2_104, Xa2_104, ea2_104, Exa2_104, Aa2_104, Eca2_104, sta2_104⟩ := newPE Xa2_103 hx hZ (hw _ (List.mem_of_getElem? (i := 25) rfl)) ea2_103 (g := (mkF mI 83 #[.val (.ref a), .val (.int top), .val (.int bottom), .val (.int w), .val (.int tier), .val (.int cc), .val (.int ch), .val (.int (1 : Int32))] [(.int ((2 : Int32) * ch)), (.int (1 : Int32)), (.ref ba2_45)])) rfl (hb hby d1_83) rfl hrn (cap := 2048) hrc (by decide) (by decide) (by decide) (ad := "[J") (by decide)
  obtain ⟨ba2_104, ga2_104⟩ : ∃ z, z = ha2_86.size := ⟨_, rfl⟩
  rw [← ga2_104] at Aa2_104 Eca2_104 sta2_104
  have ne_a_ba2_104 : a ≠ ba2_104 := Nat.ne_of_lt (Nat.lt_of_lt_of_le (Fa2_87.lt) (Nat.le_of_eq ga2_104.symm))
  have ne_ba2_26_ba2_104 : ba2_26 ≠ ba2_104 := Nat.ne_of_lt (Nat.lt_of_lt_of_le (Ea2_93.lt) (Nat.le_of_eq ga2_104.symm))
  have ne_ba2_45_ba2_104 : ba2_45 ≠ ba2_104 := Nat.ne_of_lt (Nat.lt_of_lt_of_le (Ea2_94.lt) (Nat.le_of_eq ga2_104.symm))
  have ne_ba2_72_ba2_104 : ba2_72 ≠ ba2_104 := Nat.ne_of_lt (Nat.lt_of_lt_of_le (Ea2_95.lt) (Nat.le_of_eq ga2_104.symm))
  have g_ba2_104 : n0 ≤ ba2_104 := Nat.le_trans Za2_99 (Nat.le_of_eq ga2_104.symm)
  have sz_ba2_104 : h0.size ≤ ba2_104 := Nat.le_trans Ka2_100.1 (Nat.le_of_eq ga2_104.symm)
  have Fa2_105 := Fld.ext Exa2_104 Fa2_87
  have Fa2_106 := Fld.ext Exa2_104 Fa2_88
  have Fa2_107 := Fld.ext Exa2_104 Fa2_89
  have Fa2_108 := Fld.ext Exa2_104 Fa2_90
  have Fa2_109 := Fld.ext Exa2_104 Fa2_91
  have Ea2_110 := Exa.ext Exa2_104 Ea2_92
  have Ea2_111 := Exa.ext Exa2_104 Ea2_93
  have Ea2_112 := Exa.ext Exa2_104 Ea2_94
  have Ea2_113 := Exa.ext Exa2_104 Ea2_95
  have Va2_114 := Arv.ext Va2_96 Exa2_104
  have Va2_115 := Arv.ext Va2_86 Exa2_104
  have Va2_116 := Arv.ext Va2_98 Exa2_104
  have Za2_117 : n0 ≤ ha2_104.size := Nat.le_trans Za2_99 Exa2_104.1
  have Ka2_118 : Keep h0 ha2_104 [a] := Ka2_100.ext Exa2_104
  have Va2_104 : Arv Z ha2_104 ba2_104 ka2_104 .long ((2 : Int32) * ch) [] (.long (0 : Int64)) := Arv.new Aa2_104 hrn
  refine own_go (T' := Ta2_104) (g' := (mkF mI 85 #[.val (.ref a), .val (.int top), .val (.int bottom), .val (.int w), .val (.int tier), .val (.int cc), .val (.int ch), .val (.int (1 : Int32))] [(.ref ba2_104), (.int (1 : Int32)), (.ref ba2_45)])) (fun t_ kt_ => sta2_104 _ kt_) ?_
  obtain ⟨cla2_119, Ara2_119, qa2_119, Sa2_119, Nga2_119, Ha2_119, Ga2_119⟩ := id Va2_115
  obtain ⟨Ta2_120, ha2_120, Xa2_120, ea2_120, Wa2_120, sta2_120⟩ := stR Xa2_104 hx hZ ea2_104 Ara2_119 (j := (1 : Int32)) (inb_of Sa2_119 ⟨by decide, by decide⟩) rfl (Sto.ofVA Ara2_119 qa2_119 Oa2_45 (Ins.self Eca2_104)) (g := (mkF mI 85 #[.val (.ref a), .val (.int top), .val (.int bottom), .val (.int w), .val (.int tier), .val (.int cc), .val (.int ch), .val (.int (1 : Int32))] [(.ref ba2_104), (.int (1 : Int32)), (.ref ba2_45)])) rfl rfl (hb hby d1_85)
  have Va2_120 : Arv Z ha2_120 ba2_45 ka2_45 (.array .long) (2 : Int32) [(.ref ba2_72), (.ref ba2_104)] .null := Arv.set Ara2_119 qa2_119 Sa2_119 Nga2_119 Ha2_119 Ga2_119 rfl Wa2_120 1 rfl (Nat.le_of_ble_eq_true rfl)
  have Fa2_121 := Fld.other Wa2_120 Fa2_105 (Or.inl ne_a_ba2_45)
  have Fa2_122 := Fld.other Wa2_120 Fa2_106 (Or.inl ne_a_ba2_45)
  have Fa2_123 := Fld.other Wa2_120 Fa2_107 (Or.inl ne_a_ba2_45)
  have Fa2_124 := Fld.other Wa2_120 Fa2_108 (Or.inl ne_a_ba2_45)
  have Fa2_125 := Fld.other Wa2_120 Fa2_109 (Or.inl ne_a_ba2_45)
  have Ea2_126 := Exa.wr Wa2_120 Ea2_110
  have Ea2_127 := Exa.wr Wa2_120 Ea2_111
  have Ea2_128 := Exa.wr Wa2_120 Ea2_112
  have Ea2_129 := Exa.wr Wa2_120 Ea2_113
  have Ea2_130 := Exa.wr Wa2_120 Eca2_104
  have Va2_131 := Arv.other Va2_114 Wa2_120 ne_ba2_26_ba2_45
  have Va2_133 := Arv.other Va2_116 Wa2_120 (Ne.symm ne_ba2_45_ba2_72)
  have Va2_134 := Arv.other Va2_104 Wa2_120 (Ne.symm ne_ba2_45_ba2_104)
  have Za2_135 : n0 ≤ ha2_120.size := Nat.le_trans Za2_117 (Nat.le_of_eq (Wr.size Wa2_120).symm)
  have Ka2_136 : Keep h0 ha2_120 [a] := Ka2_118.wr Wa2_120 (Or.inr sz_ba2_45)
  have Na2_120 := Fr.snoc Xa2_120 Na2_86 g_ba2_45
  refine own_go (T' := Ta2_120) (g' := (mkF mI 86 #[.val (.ref a), .val (.int top), .val (.int bottom), .val (.int w), .val (.int tier), .val (.int cc), .val (.int ch), .val (.int (1 : Int32))] [])) (fun t_ kt_ => sta2_120 _ kt_) ?_
  refine own_go (T' := Ta2_120) (g' := (mkF mI 89 #[.val (.ref a), .val (.int top), .val (.int bottom), .val (.int w), .val (.int tier), .val (.int cc), .val (.int ch), .val (.int (2 : Int32))] [])) (fun t_ kt_ => XS.iinc Xa2_120.here hx rfl (hb hby d1_86) rfl (l' := #[.val (.ref a), .val (.int top), .val (.int bottom), .val (.int w), .val (.int tier), .val (.int cc), .val (.int ch), .val (.int (2 : Int32))]) rfl kt_) ?_
  refine own_go (T' := Ta2_120) (g' := (mkF mI 63 #[.val (.ref a), .val (.int top), .val (.int bottom), .val (.int w), .val (.int tier), .val (.int cc), .val (.int ch), .val (.int (2 : Int32))] [])) (fun t_ kt_ => XS.goto Xa2_120.here hx rfl (pc0 := 89) (pc' := 63) rfl (hb hby d1_89) (by decide) (by decide) kt_) ?_
  refine own_go (T' := Ta2_120) (g' := (mkF mI 65 #[.val (.ref a), .val (.int top), .val (.int bottom), .val (.int w), .val (.int tier), .val (.int cc), .val (.int ch), .val (.int (2 : Int32))] [(.int (2 : Int32))])) (fun t_ kt_ => XS.iload Xa2_120.here hx rfl (hb hby d1_63) rfl kt_) ?_
  refine own_go (T' := Ta2_120) (g' := (mkF mI 66 #[.val (.ref a), .val (.int top), .val (.int bottom), .val (.int w), .val (.int tier), .val (.int cc), .val (.int ch), .val (.int (2 : Int32))] [(.ref a), (.int (2 : Int32))])) (fun t_ kt_ => XS.aloadN Xa2_120.here hx rfl (hb hby d1_65) rfl rfl kt_) ?_
  obtain ⟨Ta2_137, Xa2_137, ea2_137, sta2_137⟩ := getF Xa2_120 hx hZ hown (host := "") (Or.inl (hw _ (List.mem_of_getElem? (i := 23) rfl))) Via.refl ea2_120 Fa2_125 (g := (mkF mI 66 #[.val (.ref a), .val (.int top), .val (.int bottom), .val (.int w), .val (.int tier), .val (.int cc), .val (.int ch), .val (.int (2 : Int32))] [(.ref a), (.int (2 : Int32))])) rfl rfl (hb hby d1_66)
  refine own_go (T' := Ta2_137) (g' := (mkF mI 69 #[.val (.ref a), .val (.int top), .val (.int bottom), .val (.int w), .val (.int tier), .val (.int cc), .val (.int ch), .val (.int (2 : Int32))] [(.ref ba2_45), (.int (2 : Int32))])) (fun t_ kt_ => sta2_137 _ kt_) ?_
  obtain ⟨cla2_138, Ara2_138, qa2_138, Sa2_138, Nga2_138, Ha2_138, Ga2_138⟩ := id Va2_120
  refine own_go (T' := Ta2_137) (g' := (mkF mI 70 #[.val (.ref a), .val (.int top), .val (.int bottom), .val (.int w), .val (.int tier), .val (.int cc), .val (.int ch), .val (.int (2 : Int32))] [(.int (2 : Int32)), (.int (2 : Int32))])) (fun t_ kt_ => own_len Xa2_137 hx hZ ea2_137 Ara2_138 (len_of Sa2_138 Nga2_138) (g := (mkF mI 69 #[.val (.ref a), .val (.int top), .val (.int bottom), .val (.int w), .val (.int tier), .val (.int cc), .val (.int ch), .val (.int (2 : Int32))] [(.ref ba2_45), (.int (2 : Int32))])) rfl rfl (hb hby d1_69) _ kt_) ?_
  refine own_go (T' := Ta2_137) (g' := (mkF mI 92 #[.val (.ref a), .val (.int top), .val (.int bottom), .val (.int w), .val (.int tier), .val (.int cc), .val (.int ch), .val (.int (2 : Int32))] [])) (fun t_ kt_ => XS.icmpYes Xa2_137.here hx rfl (pc0 := 70) (pc' := 92) rfl (hb hby d1_70) rfl (flt (by decide : ¬ ((2 : Int32) < (2 : Int32)))).2.1 (by decide) (by decide) kt_) ?_
  refine own_retV Xa2_137 hx hlk hret (hb hby d1_92) (by decide) (by decide) ?_
  exact by
    rw [ea2_137]
    refine ⟨rfl, Na2_120, Ka2_136, Ea2_126, Fa2_121, ba2_45, _, _, Fa2_125, Va2_120, fun j hj => ?_⟩
    have hj' : j < 2 := hj
    rcases j with _ | j
    · exact ⟨ba2_72, _, rfl, Va2_133⟩
    rcases j with _ | j
    · exact ⟨ba2_104, _, rfl, Va2_134⟩
    · omega
theorem rmC_3_pn : plainFor (⟨"com/example/classic_strings/classicstrings/compare/Matrix$Checkpoints", "<init>", "(IIIII)V"⟩ : MethodName) = true := plainFor_of_name (show plainName "com/example/classic_strings/classicstrings/compare/Matrix$Checkpoints" = true by first | (simp [plainName, overriddenIn]; done) | decide +kernel)
theorem rmC_3_ef (mI : MethodId) (a : Addr) (top : Int32) (bottom : Int32) (w : Int32) (tier : Int32) (cc : Int32) : entryFrame mI #[(.ref a), (.int top), (.int bottom), (.int w), (.int tier), (.int cc)] 8 = mkF mI 0 #[.val (.ref a), .val (.int top), .val (.int bottom), .val (.int w), .val (.int tier), .val (.int cc), .unset, .unset] [] := by first | (simp [entryFrame, mkF, argsToLocals, Value.category]; done) | rfl
set_option maxRecDepth 65536 in
set_option maxHeartbeats 40000000 in
theorem rmC_3 (l : Launch) (Z : State) (a0 : Array Value) (hw : ∀ d ∈ tables_1, d.before a0 Z = true) (ws : List Jvm.Cond) (h0 : Heap) (n0 : Nat) (Z0 : n0 ≤ h0.size) (a : Addr) (top bottom w tier cc ch z1 : Int32) (E_a : Exa Z h0 a "com/example/classic_strings/classicstrings/compare/Matrix$Checkpoints") (F_top : Fld Z h0 a "com/example/classic_strings/classicstrings/compare/Matrix$Checkpoints" "top" "I" (.int 0)) (F_tierStrips : Fld Z h0 a "com/example/classic_strings/classicstrings/compare/Matrix$Checkpoints" "tierStrips" "I" (.int 0)) (F_chunkColumns : Fld Z h0 a "com/example/classic_strings/classicstrings/compare/Matrix$Checkpoints" "chunkColumns" "I" (.int 0)) (F_carries : Fld Z h0 a "com/example/classic_strings/classicstrings/compare/Matrix$Checkpoints" "carries" "[[B" .null) (F_states : Fld Z h0 a "com/example/classic_strings/classicstrings/compare/Matrix$Checkpoints" "states" "[[J" .null) (g_a : n0 ≤ a) (hd : bottom - top = (3 : Int32)) (htz : ¬ tier = 0) (hz1 : (((3 : Int32) + tier) - (1 : Int32)) / tier = z1) (hz1n : ¬ z1 < 0) (hz1c : z1.toNatClampNeg ≤ 8) (hcz : ¬ cc = 0) (hch : ((w + cc) - (1 : Int32)) / cc = ch) (hrn : ¬ ((2 : Int32) * ch) < 0) (hrc : ((2 : Int32) * ch).toNatClampNeg ≤ 2048) :
    own_Met l Z (⟨"com/example/classic_strings/classicstrings/compare/Matrix$Checkpoints", "<init>", "(IIIII)V"⟩ : MethodName) prog_14_method_1_code 8 none ws ({ frames := 1, cells := 6, slots := 8204, locals := 12 } : Room) #[(.ref a), (.int top), (.int bottom), (.int w), (.int tier), (.int cc)] h0 (own_QC Z h0 n0 a (3 : Int32) ((2 : Int32) * ch) top) := by
  refine own_met rmC_3_pn ?_
  intro pP eE sS mI bB mT cC s₁ hx hby hml hown hnm hret hlk hZ X0 e0
  replace hown : sS.vm.findClass "com/example/classic_strings/classicstrings/compare/Matrix$Checkpoints" = some mI.cls := hown
  refine own_cast (rmC_3_ef mI a top bottom w tier cc) ?_
  refine own_go (T' := s₁) (g' := (mkF mI 1 #[.val (.ref a), .val (.int top), .val (.int bottom), .val (.int w), .val (.int tier), .val (.int cc), .unset, .unset] [(.ref a)])) (fun t_ kt_ => XS.aloadN X0.here hx rfl (hb hby d1_0) rfl rfl kt_) ?_
  obtain ⟨Ta3_1, Xa3_1, ea3_1, sta3_1⟩ := initO X0 hx hZ hown (hw _ (List.mem_of_getElem? (i := 8) rfl)) (hw _ (List.mem_of_getElem? (i := 9) rfl)) (hw _ (List.mem_of_getElem? (i := 10) rfl)) e0 (g := (mkF mI 1 #[.val (.ref a), .val (.int top), .val (.int bottom), .val (.int w), .val (.int tier), .val (.int cc), .unset, .unset] [(.ref a)])) rfl (by rw [hml]; rfl) rfl (hb hby d1_1) (by decide) (W := 0) (by show 2 * 0 + _ ≤ _; exact Nat.le_of_eq rfl) (by decide)
  refine own_go (T' := Ta3_1) (g' := (mkF mI 4 #[.val (.ref a), .val (.int top), .val (.int bottom), .val (.int w), .val (.int tier), .val (.int cc), .unset, .unset] [])) (fun t_ kt_ => sta3_1 _ kt_) ?_
  refine own_go (T' := Ta3_1) (g' := (mkF mI 5 #[.val (.ref a), .val (.int top), .val (.int bottom), .val (.int w), .val (.int tier), .val (.int cc), .unset, .unset] [(.ref a)])) (fun t_ kt_ => XS.aloadN Xa3_1.here hx rfl (hb hby d1_4) rfl rfl kt_) ?_
  refine own_go (T' := Ta3_1) (g' := (mkF mI 6 #[.val (.ref a), .val (.int top), .val (.int bottom), .val (.int w), .val (.int tier), .val (.int cc), .unset, .unset] [(.int top), (.ref a)])) (fun t_ kt_ => XS.iloadN Xa3_1.here hx rfl (hb hby d1_5) rfl kt_) ?_
  obtain ⟨Ta3_2, ha3_2, Xa3_2, ea3_2, Wa3_2, sta3_2⟩ := putF Xa3_1 hx hZ hown (host := "") (Or.inl (hw _ (List.mem_of_getElem? (i := 11) rfl))) Via.refl ea3_1 F_top E_a (Or.inr ⟨(hw _ (List.mem_of_getElem? (i := 12) rfl)), rfl, hnm⟩) (hw _ (List.mem_of_getElem? (i := 3) rfl)) (ty := .int) (by decide) rfl rfl (g := (mkF mI 6 #[.val (.ref a), .val (.int top), .val (.int bottom), .val (.int w), .val (.int tier), .val (.int cc), .unset, .unset] [(.int top), (.ref a)])) rfl rfl (hb hby d1_6)
  have Fwa3_2 : Fld Z ha3_2 a "com/example/classic_strings/classicstrings/compare/Matrix$Checkpoints" "top" "I" (.int top) := Fld.same Wa3_2 F_top
  have Fa3_3 := Fld.other Wa3_2 F_tierStrips (Or.inr (slot_ne (Or.inr (hw _ (List.mem_of_getElem? (i := 14) rfl))) (Or.inr (hw _ (List.mem_of_getElem? (i := 12) rfl))) (by decide) (t := .int) (t' := .int) (by decide) (by decide)))
  have Fa3_4 := Fld.other Wa3_2 F_chunkColumns (Or.inr (slot_ne (Or.inr (hw _ (List.mem_of_getElem? (i := 16) rfl))) (Or.inr (hw _ (List.mem_of_getElem? (i := 12) rfl))) (by decide) (t := .int) (t' := .int) (by decide) (by decide)))
  have Fa3_5 := Fld.other Wa3_2 F_carries (Or.inr (slot_ne (Or.inr (hw _ (List.mem_of_getElem? (i := 20) rfl))) (Or.inr (hw _ (List.mem_of_getElem? (i := 12) rfl))) (by decide) (t := (.array (.array .byte))) (t' := .int) (by decide) (by decide)))
  have Fa3_6 := Fld.other Wa3_2 F_states (Or.inr (slot_ne (Or.inr (hw _ (List.mem_of_getElem? (i := 24) rfl))) (Or.inr (hw _ (List.mem_of_getElem? (i := 12) rfl))) (by decide) (t := (.array (.array .long))) (t' := .int) (by decide) (by decide)))
  have Ea3_7 := Exa.wr Wa3_2 E_a
  have Za3_8 : n0 ≤ ha3_2.size := Nat.le_trans Z0 (Nat.le_of_eq (Wr.size Wa3_2).symm)
  have Ka3_9 : Keep h0 ha3_2 [a] := (Keep.refl h0 [a]).wr Wa3_2 (Or.inl (List.mem_of_getElem? (i := 0) rfl))
  have Na3_2 := Fr.snoc Xa3_2 (Fr.nil n0) g_a
  refine own_go (T' := Ta3_2) (g' := (mkF mI 9 #[.val (.ref a), .val (.int top), .val (.int bottom), .val (.int w), .val (.int tier), .val (.int cc), .unset, .unset] [])) (fun t_ kt_ => sta3_2 _ kt_) ?_
  refine own_go (T' := Ta3_2) (g' := (mkF mI 10 #[.val (.ref a), .val (.int top), .val (.int bottom), .val (.int w), .val (.int tier), .val (.int cc), .unset, .unset] [(.ref a)])) (fun t_ kt_ => XS.aloadN Xa3_2.here hx rfl (hb hby d1_9) rfl rfl kt_) ?_
  refine own_go (T' := Ta3_2) (g' := (mkF mI 12 #[.val (.ref a), .val (.int top), .val (.int bottom), .val (.int w), .val (.int tier), .val (.int cc), .unset, .unset] [(.int tier), (.ref a)])) (fun t_ kt_ => XS.iload Xa3_2.here hx rfl (hb hby d1_10) rfl kt_) ?_
  obtain ⟨Ta3_10, ha3_10, Xa3_10, ea3_10, Wa3_10, sta3_10⟩ := putF Xa3_2 hx hZ hown (host := "") (Or.inl (hw _ (List.mem_of_getElem? (i := 13) rfl))) Via.refl ea3_2 Fa3_3 Ea3_7 (Or.inr ⟨(hw _ (List.mem_of_getElem? (i := 14) rfl)), rfl, hnm⟩) (hw _ (List.mem_of_getElem? (i := 3) rfl)) (ty := .int) (by decide) rfl rfl (g := (mkF mI 12 #[.val (.ref a), .val (.int top), .val (.int bottom), .val (.int w), .val (.int tier), .val (.int cc), .unset, .unset] [(.int tier), (.ref a)])) rfl rfl (hb hby d1_12)
  have Fwa3_10 : Fld Z ha3_10 a "com/example/classic_strings/classicstrings/compare/Matrix$Checkpoints" "tierStrips" "I" (.int tier) := Fld.same Wa3_10 Fa3_3
  have Fa3_11 := Fld.other Wa3_10 Fwa3_2 (Or.inr (slot_ne (Or.inr (hw _ (List.mem_of_getElem? (i := 12) rfl))) (Or.inr (hw _ (List.mem_of_getElem? (i := 14) rfl))) (by decide) (t := .int) (t' := .int) (by decide) (by decide)))
  have Fa3_12 := Fld.other Wa3_10 Fa3_4 (Or.inr (slot_ne (Or.inr (hw _ (List.mem_of_getElem? (i := 16) rfl))) (Or.inr (hw _ (List.mem_of_getElem? (i := 14) rfl))) (by decide) (t := .int) (t' := .int) (by decide) (by decide)))
  have Fa3_13 := Fld.other Wa3_10 Fa3_5 (Or.inr (slot_ne (Or.inr (hw _ (List.mem_of_getElem? (i := 20) rfl))) (Or.inr (hw _ (List.mem_of_getElem? (i := 14) rfl))) (by decide) (t := (.array (.array .byte))) (t' := .int) (by decide) (by decide)))
  have Fa3_14 := Fld.other Wa3_10 Fa3_6 (Or.inr (slot_ne (Or.inr (hw _ (List.mem_of_getElem? (i := 24) rfl))) (Or.inr (hw _ (List.mem_of_getElem? (i := 14) rfl))) (by decide) (t := (.array (.array .long))) (t' := .int) (by decide) (by decide)))
  have Ea3_15 := Exa.wr Wa3_10 Ea3_7
  have Za3_16 : n0 ≤ ha3_10.size := Nat.le_trans Za3_8 (Nat.le_of_eq (Wr.size Wa3_10).symm)
  have Ka3_17 : Keep h0 ha3_10 [a] := Ka3_9.wr Wa3_10 (Or.inl (List.mem_of_getElem? (i := 0) rfl))
  have Na3_10 := Fr.snoc Xa3_10 Na3_2 g_a
  refine own_go (T' := Ta3_10) (g' := (mkF mI 15 #[.val (.ref a), .val (.int top), .val (.int bottom), .val (.int w), .val (.int tier), .val (.int cc), .unset, .unset] [])) (fun t_ kt_ => sta3_10 _ kt_) ?_
  refine own_go (T' := Ta3_10) (g' := (mkF mI 16 #[.val (.ref a), .val (.int top), .val (.int bottom), .val (.int w), .val (.int tier), .val (.int cc), .unset, .unset] [(.ref a)])) (fun t_ kt_ => XS.aloadN Xa3_10.here hx rfl (hb hby d1_15) rfl rfl kt_) ?_
  refine own_go (T' := Ta3_10) (g' := (mkF mI 18 #[.val (.ref a), .val (.int top), .val (.int bottom), .val (.int w), .val (.int tier), .val (.int cc), .unset, .unset] [(.int cc), (.ref a)])) (fun t_ kt_ => XS.iload Xa3_10.here hx rfl (hb hby d1_16) rfl kt_) ?_
  obtain ⟨Ta3_18, ha3_18, Xa3_18, ea3_18, Wa3_18, sta3_18⟩ := putF Xa3_10 hx hZ hown (host := "") (Or.inl (hw _ (List.mem_of_getElem? (i := 15) rfl))) Via.refl ea3_10 Fa3_12 Ea3_15 (Or.inr ⟨(hw _ (List.mem_of_getElem? (i := 16) rfl)), rfl, hnm⟩) (hw _ (List.mem_of_getElem? (i := 3) rfl)) (ty := .int) (by decide) rfl rfl (g := (mkF mI 18 #[.val (.ref a), .val (.int top), .val (.int bottom), .val (.int w), .val (.int tier), .val (.int cc), .unset, .unset] [(.int cc), (.ref a)])) rfl rfl (hb hby d1_18)
  have Fwa3_18 : Fld Z ha3_18 a "com/example/classic_strings/classicstrings/compare/Matrix$Checkpoints" "chunkColumns" "I" (.int cc) := Fld.same Wa3_18 Fa3_12
  have Fa3_19 := Fld.other Wa3_18 Fa3_11 (Or.inr (slot_ne (Or.inr (hw _ (List.mem_of_getElem? (i := 12) rfl))) (Or.inr (hw _ (List.mem_of_getElem? (i := 16) rfl))) (by decide) (t := .int) (t' := .int) (by decide) (by decide)))
  have Fa3_20 := Fld.other Wa3_18 Fwa3_10 (Or.inr (slot_ne (Or.inr (hw _ (List.mem_of_getElem? (i := 14) rfl))) (Or.inr (hw _ (List.mem_of_getElem? (i := 16) rfl))) (by decide) (t := .int) (t' := .int) (by decide) (by decide)))
  have Fa3_21 := Fld.other Wa3_18 Fa3_13 (Or.inr (slot_ne (Or.inr (hw _ (List.mem_of_getElem? (i := 20) rfl))) (Or.inr (hw _ (List.mem_of_getElem? (i := 16) rfl))) (by decide) (t := (.array (.array .byte))) (t' := .int) (by decide) (by decide)))
  have Fa3_22 := Fld.other Wa3_18 Fa3_14 (Or.inr (slot_ne (Or.inr (hw _ (List.mem_of_getElem? (i := 24) rfl))) (Or.inr (hw _ (List.mem_of_getElem? (i := 16) rfl))) (by decide) (t := (.array (.array .long))) (t' := .int) (by decide) (by decide)))
  have Ea3_23 := Exa.wr Wa3_18 Ea3_15
  have Za3_24 : n0 ≤ ha3_18.size := Nat.le_trans Za3_16 (Nat.le_of_eq (Wr.size Wa3_18).symm)
  have Ka3_25 : Keep h0 ha3_18 [a] := Ka3_17.wr Wa3_18 (Or.inl (List.mem_of_getElem? (i := 0) rfl))
  have Na3_18 := Fr.snoc Xa3_18 Na3_10 g_a
  refine own_go (T' := Ta3_18) (g' := (mkF mI 21 #[.val (.ref a), .val (.int top), .val (.int bottom), .val (.int w), .val (.int tier), .val (.int cc), .unset, .unset] [])) (fun t_ kt_ => sta3_18 _ kt_) ?_
  refine own_go (T' := Ta3_18) (g' := (mkF mI 22 #[.val (.ref a), .val (.int top), .val (.int bottom), .val (.int w), .val (.int tier), .val (.int cc), .unset, .unset] [(.ref a)])) (fun t_ kt_ => XS.aloadN Xa3_18.here hx rfl (hb hby d1_21) rfl rfl kt_) ?_
  refine own_go (T' := Ta3_18) (g' := (mkF mI 23 #[.val (.ref a), .val (.int top), .val (.int bottom), .val (.int w), .val (.int tier), .val (.int cc), .unset, .unset] [(.int bottom), (.ref a)])) (fun t_ kt_ => XS.iloadN Xa3_18.here hx rfl (hb hby d1_22) rfl kt_) ?_
  refine own_go (T' := Ta3_18) (g' := (mkF mI 24 #[.val (.ref a), .val (.int top), .val (.int bottom), .val (.int w), .val (.int tier), .val (.int cc), .unset, .unset] [(.int top), (.int bottom), (.ref a)])) (fun t_ kt_ => XS.iloadN Xa3_18.here hx rfl (hb hby d1_23) rfl kt_) ?_
  refine own_go (T' := Ta3_18) (g' := (mkF mI 25 #[.val (.ref a), .val (.int top), .val (.int bottom), .val (.int w), .val (.int tier), .val (.int cc), .unset, .unset] [(.int (bottom - top)), (.ref a)])) (fun t_ kt_ => XS.isub Xa3_18.here hx rfl (hb hby d1_24) rfl kt_) ?_
  rw [hd]
  refine own_go (T' := Ta3_18) (g' := (mkF mI 27 #[.val (.ref a), .val (.int top), .val (.int bottom), .val (.int w), .val (.int tier), .val (.int cc), .unset, .unset] [(.int tier), (.int (3 : Int32)), (.ref a)])) (fun t_ kt_ => XS.iload Xa3_18.here hx rfl (hb hby d1_25) rfl kt_) ?_
  refine own_go (T' := Ta3_18) (g' := (mkF mI 28 #[.val (.ref a), .val (.int top), .val (.int bottom), .val (.int w), .val (.int tier), .val (.int cc), .unset, .unset] [(.int ((3 : Int32) + tier)), (.ref a)])) (fun t_ kt_ => XS.iadd Xa3_18.here hx rfl (hb hby d1_27) rfl kt_) ?_
  refine own_go (T' := Ta3_18) (g' := (mkF mI 29 #[.val (.ref a), .val (.int top), .val (.int bottom), .val (.int w), .val (.int tier), .val (.int cc), .unset, .unset] [(.int (1 : Int32)), (.int ((3 : Int32) + tier)), (.ref a)])) (fun t_ kt_ => XS.iconst Xa3_18.here hx rfl (hb hby d1_28) kt_) ?_
  refine own_go (T' := Ta3_18) (g' := (mkF mI 30 #[.val (.ref a), .val (.int top), .val (.int bottom), .val (.int w), .val (.int tier), .val (.int cc), .unset, .unset] [(.int (((3 : Int32) + tier) - (1 : Int32))), (.ref a)])) (fun t_ kt_ => XS.isub Xa3_18.here hx rfl (hb hby d1_29) rfl kt_) ?_
  refine own_go (T' := Ta3_18) (g' := (mkF mI 32 #[.val (.ref a), .val (.int top), .val (.int bottom), .val (.int w), .val (.int tier), .val (.int cc), .unset, .unset] [(.int tier), (.int (((3 : Int32) + tier) - (1 : Int32))), (.ref a)])) (fun t_ kt_ => XS.iload Xa3_18.here hx rfl (hb hby d1_30) rfl kt_) ?_
  refine own_go (T' := Ta3_18) (g' := (mkF mI 33 #[.val (.ref a), .val (.int top), .val (.int bottom), .val (.int w), .val (.int tier), .val (.int cc), .unset, .unset] [(.int ((((3 : Int32) + tier) - (1 : Int32)) / tier)), (.ref a)])) (fun t_ kt_ => XS.idiv Xa3_18.here hx rfl (hb hby d1_32) rfl htz kt_) ?_
  rw [hz1]
  obtain ⟨Ta3_26, ha3_26, ka3_26, Xa3_26, ea3_26, Exa3_26, Aa3_26, Eca3_26, Oa3_26, sta3_26⟩ := newRA Xa3_18 hx hZ (C := "[B") (ty := .byte) hown (by decide) (hw _ (List.mem_of_getElem? (i := 17) rfl)) (hw _ (List.mem_of_getElem? (i := 18) rfl)) ea3_18 (g := (mkF mI 33 #[.val (.ref a), .val (.int top), .val (.int bottom), .val (.int w), .val (.int tier), .val (.int cc), .unset, .unset] [(.int z1), (.ref a)])) rfl (hb hby d1_33) rfl hz1n (cap := 8) hz1c (by decide) (by decide) (by decide) (ad := "[[B") (by decide)
  obtain ⟨ba3_26, ga3_26⟩ : ∃ z, z = ha3_18.size := ⟨_, rfl⟩
  rw [← ga3_26] at Aa3_26 Eca3_26 sta3_26
  have ne_a_ba3_26 : a ≠ ba3_26 := Nat.ne_of_lt (Nat.lt_of_lt_of_le (Fa3_19.lt) (Nat.le_of_eq ga3_26.symm))
  have g_ba3_26 : n0 ≤ ba3_26 := Nat.le_trans Za3_24 (Nat.le_of_eq ga3_26.symm)
  have sz_ba3_26 : h0.size ≤ ba3_26 := Nat.le_trans Ka3_25.1 (Nat.le_of_eq ga3_26.symm)
  have Fa3_27 := Fld.ext Exa3_26 Fa3_19
  have Fa3_28 := Fld.ext Exa3_26 Fa3_20
  have Fa3_29 := Fld.ext Exa3_26 Fwa3_18
  have Fa3_30 := Fld.ext Exa3_26 Fa3_21
  have Fa3_31 := Fld.ext Exa3_26 Fa3_22
  have Ea3_32 := Exa.ext Exa3_26 Ea3_23
  have Za3_33 : n0 ≤ ha3_26.size := Nat.le_trans Za3_24 Exa3_26.1
  have Ka3_34 : Keep h0 ha3_26 [a] := Ka3_25.ext Exa3_26
  have Va3_26 : Arv Z ha3_26 ba3_26 ka3_26 (.array .byte) z1 [] .null := Arv.new Aa3_26 hz1n
  refine own_go (T' := Ta3_26) (g' := (mkF mI 36 #[.val (.ref a), .val (.int top), .val (.int bottom), .val (.int w), .val (.int tier), .val (.int cc), .unset, .unset] [(.ref ba3_26), (.ref a)])) (fun t_ kt_ => sta3_26 _ kt_) ?_
  obtain ⟨Ta3_35, ha3_35, Xa3_35, ea3_35, Wa3_35, sta3_35⟩ := putF Xa3_26 hx hZ hown (host := "") (Or.inl (hw _ (List.mem_of_getElem? (i := 19) rfl))) Via.refl ea3_26 Fa3_30 Ea3_32 (Or.inr ⟨(hw _ (List.mem_of_getElem? (i := 20) rfl)), rfl, hnm⟩) (hw _ (List.mem_of_getElem? (i := 3) rfl)) (ty := (.array (.array .byte))) (by decide) rfl rfl (g := (mkF mI 36 #[.val (.ref a), .val (.int top), .val (.int bottom), .val (.int w), .val (.int tier), .val (.int cc), .unset, .unset] [(.ref ba3_26), (.ref a)])) rfl rfl (hb hby d1_36)
  have Fwa3_35 : Fld Z ha3_35 a "com/example/classic_strings/classicstrings/compare/Matrix$Checkpoints" "carries" "[[B" (.ref ba3_26) := Fld.same Wa3_35 Fa3_30
  have Fa3_36 := Fld.other Wa3_35 Fa3_27 (Or.inr (slot_ne (Or.inr (hw _ (List.mem_of_getElem? (i := 12) rfl))) (Or.inr (hw _ (List.mem_of_getElem? (i := 20) rfl))) (by decide) (t := .int) (t' := (.array (.array .byte))) (by decide) (by decide)))
  have Fa3_37 := Fld.other Wa3_35 Fa3_28 (Or.inr (slot_ne (Or.inr (hw _ (List.mem_of_getElem? (i := 14) rfl))) (Or.inr (hw _ (List.mem_of_getElem? (i := 20) rfl))) (by decide) (t := .int) (t' := (.array (.array .byte))) (by decide) (by decide)))
  have Fa3_38 := Fld.other Wa3_35 Fa3_29 (Or.inr (slot_ne (Or.inr (hw _ (List.mem_of_getElem? (i := 16) rfl))) (Or.inr (hw _ (List.mem_of_getElem? (i := 20) rfl))) (by decide) (t := .int) (t' := (.array (.array .byte))) (by decide) (by decide)))
  have Fa3_39 := Fld.other Wa3_35 Fa3_31 (Or.inr (slot_ne (Or.inr (hw _ (List.mem_of_getElem? (i := 24) rfl))) (Or.inr (hw _ (List.mem_of_getElem? (i := 20) rfl))) (by decide) (t := (.array (.array .long))) (t' := (.array (.array .byte))) (by decide) (by decide)))
  have Ea3_40 := Exa.wr Wa3_35 Ea3_32
  have Ea3_41 := Exa.wr Wa3_35 Eca3_26
  have Va3_42 := Arv.other Va3_26 Wa3_35 (Ne.symm ne_a_ba3_26)
  have Za3_43 : n0 ≤ ha3_35.size := Nat.le_trans Za3_33 (Nat.le_of_eq (Wr.size Wa3_35).symm)
  have Ka3_44 : Keep h0 ha3_35 [a] := Ka3_34.wr Wa3_35 (Or.inl (List.mem_of_getElem? (i := 0) rfl))
  have Na3_35 := Fr.snoc Xa3_35 Na3_18 g_a
  refine own_go (T' := Ta3_35) (g' := (mkF mI 39 #[.val (.ref a), .val (.int top), .val (.int bottom), .val (.int w), .val (.int tier), .val (.int cc), .unset, .unset] [])) (fun t_ kt_ => sta3_35 _ kt_) ?_
  refine own_go (T' := Ta3_35) (g' := (mkF mI 40 #[.val (.ref a), .val (.int top), .val (.int bottom), .val (.int w), .val (.int tier), .val (.int cc), .unset, .unset] [(.int w)])) (fun t_ kt_ => XS.iloadN Xa3_35.here hx rfl (hb hby d1_39) rfl kt_) ?_
  refine own_go (T' := Ta3_35) (g' := (mkF mI 42 #[.val (.ref a), .val (.int top), .val (.int bottom), .val (.int w), .val (.int tier), .val (.int cc), .unset, .unset] [(.int cc), (.int w)])) (fun t_ kt_ => XS.iload Xa3_35.here hx rfl (hb hby d1_40) rfl kt_) ?_
  refine own_go (T' := Ta3_35) (g' := (mkF mI 43 #[.val (.ref a), .val (.int top), .val (.int bottom), .val (.int w), .val (.int tier), .val (.int cc), .unset, .unset] [(.int (w + cc))])) (fun t_ kt_ => XS.iadd Xa3_35.here hx rfl (hb hby d1_42) rfl kt_) ?_
  refine own_go (T' := Ta3_35) (g' := (mkF mI 44 #[.val (.ref a), .val (.int top), .val (.int bottom), .val (.int w), .val (.int tier), .val (.int cc), .unset, .unset] [(.int (1 : Int32)), (.int (w + cc))])) (fun t_ kt_ => XS.iconst Xa3_35.here hx rfl (hb hby d1_43) kt_) ?_
  refine own_go (T' := Ta3_35) (g' := (mkF mI 45 #[.val (.ref a), .val (.int top), .val (.int bottom), .val (.int w), .val (.int tier), .val (.int cc), .unset, .unset] [(.int ((w + cc) - (1 : Int32)))])) (fun t_ kt_ => XS.isub Xa3_35.here hx rfl (hb hby d1_44) rfl kt_) ?_
  refine own_go (T' := Ta3_35) (g' := (mkF mI 47 #[.val (.ref a), .val (.int top), .val (.int bottom), .val (.int w), .val (.int tier), .val (.int cc), .unset, .unset] [(.int cc), (.int ((w + cc) - (1 : Int32)))])) (fun t_ kt_ => XS.iload Xa3_35.here hx rfl (hb hby d1_45) rfl kt_) ?_
  refine own_go (T' := Ta3_35) (g' := (mkF mI 48 #[.val (.ref a), .val (.int top), .val (.int bottom), .val (.int w), .val (.int tier), .val (.int cc), .unset, .unset] [(.int (((w + cc) - (1 : Int32)) / cc))])) (fun t_ kt_ => XS.idiv Xa3_35.here hx rfl (hb hby d1_47) rfl hcz kt_) ?_
  rw [hch]
  refine own_go (T' := Ta3_35) (g' := (mkF mI 50 #[.val (.ref a), .val (.int top), .val (.int bottom), .val (.int w), .val (.int tier), .val (.int cc), .val (.int ch), .unset] [])) (fun t_ kt_ => XS.istore Xa3_35.here hx rfl (hb hby d1_48) rfl (l' := #[.val (.ref a), .val (.int top), .val (.int bottom), .val (.int w), .val (.int tier), .val (.int cc), .val (.int ch), .unset]) rfl kt_) ?_
  refine own_go (T' := Ta3_35) (g' := (mkF mI 51 #[.val (.ref a), .val (.int top), .val (.int bottom), .val (.int w), .val (.int tier), .val (.int cc), .val (.int ch), .unset] [(.ref a)])) (fun t_ kt_ => XS.aloadN Xa3_35.here hx rfl (hb hby d1_50) rfl rfl kt_) ?_
  refine own_go (T' := Ta3_35) (g' := (mkF mI 52 #[.val (.ref a), .val (.int top), .val (.int bottom), .val (.int w), .val (.int tier), .val (.int cc), .val (.int ch), .unset] [(.int bottom), (.ref a)])) (fun t_ kt_ => XS.iloadN Xa3_35.here hx rfl (hb hby d1_51) rfl kt_) ?_
  refine own_go (T' := Ta3_35) (g' := (mkF mI 53 #[.val (.ref a), .val (.int top), .val (.int bottom), .val (.int w), .val (.int tier), .val (.int cc), .val (.int ch), .unset] [(.int top), (.int bottom), (.ref a)])) (fun t_ kt_ => XS.iloadN Xa3_35.here hx rfl (hb hby d1_52) rfl kt_) ?_
  refine own_go (T' := Ta3_35) (g' := (mkF mI 54 #[.val (.ref a), .val (.int top), .val (.int bottom), .val (.int w), .val (.int tier), .val (.int cc), .val (.int ch), .unset] [(.int (bottom - top)), (.ref a)])) (fun t_ kt_ => XS.isub Xa3_35.here hx rfl (hb hby d1_53) rfl kt_) ?_
  rw [hd]
  obtain ⟨Ta3_45, ha3_45, ka3_45, Xa3_45, ea3_45, Exa3_45, Aa3_45, Eca3_45, Oa3_45, sta3_45⟩ := newRA Xa3_35 hx hZ (C := "[J") (ty := .long) hown (by decide) (hw _ (List.mem_of_getElem? (i := 21) rfl)) (hw _ (List.mem_of_getElem? (i := 22) rfl)) ea3_35 (g := (mkF mI 54 #[.val (.ref a), .val (.int top), .val (.int bottom), .val (.int w), .val (.int tier), .val (.int cc), .val (.int ch), .unset] [(.int (3 : Int32)), (.ref a)])) rfl (hb hby d1_54) rfl (by decide) (cap := 3) (by decide) (by decide) (by decide) (by decide) (ad := "[[J") (by decide)
  obtain ⟨ba3_45, ga3_45⟩ : ∃ z, z = ha3_35.size := ⟨_, rfl⟩
  rw [← ga3_45] at Aa3_45 Eca3_45 sta3_45
  have ne_a_ba3_45 : a ≠ ba3_45 := Nat.ne_of_lt (Nat.lt_of_lt_of_le (Fa3_36.lt) (Nat.le_of_eq ga3_45.symm))
  have ne_ba3_26_ba3_45 : ba3_26 ≠ ba3_45 := Nat.ne_of_lt (Nat.lt_of_lt_of_le (Ea3_41.lt) (Nat.le_of_eq ga3_45.symm))
  have g_ba3_45 : n0 ≤ ba3_45 := Nat.le_trans Za3_43 (Nat.le_of_eq ga3_45.symm)
  have sz_ba3_45 : h0.size ≤ ba3_45 := Nat.le_trans Ka3_44.1 (Nat.le_of_eq ga3_45.symm)
  have Fa3_46 := Fld.ext Exa3_45 Fa3_36
  have Fa3_47 := Fld.ext Exa3_45 Fa3_37
  have Fa3_48 := Fld.ext Exa3_45 Fa3_38
  have Fa3_49 := Fld.ext Exa3_45 Fwa3_35
  have Fa3_50 := Fld.ext Exa3_45 Fa3_39
  have Ea3_51 := Exa.ext Exa3_45 Ea3_40
  have Ea3_52 := Exa.ext Exa3_45 Ea3_41
  have Va3_53 := Arv.ext Va3_42 Exa3_45
  have Za3_54 : n0 ≤ ha3_45.size := Nat.le_trans Za3_43 Exa3_45.1
  have Ka3_55 : Keep h0 ha3_45 [a] := Ka3_44.ext Exa3_45
  have Va3_45 : Arv Z ha3_45 ba3_45 ka3_45 (.array .long) (3 : Int32) [] .null := Arv.new Aa3_45 (by decide)
  have Va3_56 : Arv Z ha3_45 ba3_45 ka3_45 (.array .long) (3 : Int32) [.null, .null, .null] .null := Arv.pad Va3_45 (pad_rep [] .null 3)
  refine own_go (T' := Ta3_45) (g' := (mkF mI 57 #[.val (.ref a), .val (.int top), .val (.int bottom), .val (.int w), .val (.int tier), .val (.int cc), .val (.int ch), .unset] [(.ref ba3_45), (.ref a)])) (fun t_ kt_ => sta3_45 _ kt_) ?_
  obtain ⟨Ta3_57, ha3_57, Xa3_57, ea3_57, Wa3_57, sta3_57⟩ := putF Xa3_45 hx hZ hown (host := "") (Or.inl (hw _ (List.mem_of_getElem? (i := 23) rfl))) Via.refl ea3_45 Fa3_50 Ea3_51 (Or.inr ⟨(hw _ (List.mem_of_getElem? (i := 24) rfl)), rfl, hnm⟩) (hw _ (List.mem_of_getElem? (i := 3) rfl)) (ty := (.array (.array .long))) (by decide) rfl rfl (g := (mkF mI 57 #[.val (.ref a), .val (.int top), .val (.int bottom), .val (.int w), .val (.int tier), .val (.int cc), .val (.int ch), .unset] [(.ref ba3_45), (.ref a)])) rfl rfl (hb hby d1_57)
  have Fwa3_57 : Fld Z ha3_57 a "com/example/classic_strings/classicstrings/compare/Matrix$Checkpoints" "states" "[[J" (.ref ba3_45) := Fld.same Wa3_57 Fa3_50
  have Fa3_58 := Fld.other Wa3_57 Fa3_46 (Or.inr (slot_ne (Or.inr (hw _ (List.mem_of_getElem? (i := 12) rfl))) (Or.inr (hw _ (List.mem_of_getElem? (i := 24) rfl))) (by decide) (t := .int) (t' := (.array (.array .long))) (by decide) (by decide)))
  have Fa3_59 := Fld.other Wa3_57 Fa3_47 (Or.inr (slot_ne (Or.inr (hw _ (List.mem_of_getElem? (i := 14) rfl))) (Or.inr (hw _ (List.mem_of_getElem? (i := 24) rfl))) (by decide) (t := .int) (t' := (.array (.array .long))) (by decide) (by decide)))
  have Fa3_60 := Fld.other Wa3_57 Fa3_48 (Or.inr (slot_ne (Or.inr (hw _ (List.mem_of_getElem? (i := 16) rfl))) (Or.inr (hw _ (List.mem_of_getElem? (i := 24) rfl))) (by decide) (t := .int) (t' := (.array (.array .long))) (by decide) (by decide)))
  have Fa3_61 := Fld.other Wa3_57 Fa3_49 (Or.inr (slot_ne (Or.inr (hw _ (List.mem_of_getElem? (i := 20) rfl))) (Or.inr (hw _ (List.mem_of_getElem? (i := 24) rfl))) (by decide) (t := (.array (.array .byte))) (t' := (.array (.array .long))) (by decide) (by decide)))
  have Ea3_62 := Exa.wr Wa3_57 Ea3_51
  have Ea3_63 := Exa.wr Wa3_57 Ea3_52
  have Ea3_64 := Exa.wr Wa3_57 Eca3_45
  have Va3_65 := Arv.other Va3_53 Wa3_57 (Ne.symm ne_a_ba3_26)
  have Va3_66 := Arv.other Va3_56 Wa3_57 (Ne.symm ne_a_ba3_45)
  have Za3_67 : n0 ≤ ha3_57.size := Nat.le_trans Za3_54 (Nat.le_of_eq (Wr.size Wa3_57).symm)
  have Ka3_68 : Keep h0 ha3_57 [a] := Ka3_55.wr Wa3_57 (Or.inl (List.mem_of_getElem? (i := 0) rfl))
  have Na3_57 := Fr.snoc Xa3_57 Na3_35 g_a
  refine own_go (T' := Ta3_57) (g' := (mkF mI 60 #[.val (.ref a), .val (.int top), .val (.int bottom), .val (.int w), .val (.int tier), .val (.int cc), .val (.int ch), .unset] [])) (fun t_ kt_ => sta3_57 _ kt_) ?_
  refine own_go (T' := Ta3_57) (g' := (mkF mI 61 #[.val (.ref a), .val (.int top), .val (.int bottom), .val (.int w), .val (.int tier), .val (.int cc), .val (.int ch), .unset] [(.int (0 : Int32))])) (fun t_ kt_ => XS.iconst Xa3_57.here hx rfl (hb hby d1_60) kt_) ?_
  refine own_go (T' := Ta3_57) (g' := (mkF mI 63 #[.val (.ref a), .val (.int top), .val (.int bottom), .val (.int w), .val (.int tier), .val (.int cc), .val (.int ch), .val (.int (0 : Int32))] [])) (fun t_ kt_ => XS.istore Xa3_57.here hx rfl (hb hby d1_61) rfl (l' := #[.val (.ref a), .val (.int top), .val (.int bottom), .val (.int w), .val (.int tier), .val (.int cc), .val (.int ch), .val (.int (0 : Int32))]) rfl kt_) ?_
  refine own_go (T' := Ta3_57) (g' := (mkF mI 65 #[.val (.ref a), .val (.int top), .val (.int bottom), .val (.int w), .val (.int tier), .val (.int cc), .val (.int ch), .val (.int (0 : Int32))] [(.int (0 : Int32))])) (fun t_ kt_ => XS.iload Xa3_57.here hx rfl (hb hby d1_63) rfl kt_) ?_
  refine own_go (T' := Ta3_57) (g' := (mkF mI 66 #[.val (.ref a), .val (.int top), .val (.int bottom), .val (.int w), .val (.int tier), .val (.int cc), .val (.int ch), .val (.int (0 : Int32))] [(.ref a), (.int (0 : Int32))])) (fun t_ kt_ => XS.aloadN Xa3_57.here hx rfl (hb hby d1_65) rfl rfl kt_) ?_
  obtain ⟨Ta3_69, Xa3_69, ea3_69, sta3_69⟩ := getF Xa3_57 hx hZ hown (host := "") (Or.inl (hw _ (List.mem_of_getElem? (i := 23) rfl))) Via.refl ea3_57 Fwa3_57 (g := (mkF mI 66 #[.val (.ref a), .val (.int top), .val (.int bottom), .val (.int w), .val (.int tier), .val (.int cc), .val (.int ch), .val (.int (0 : Int32))] [(.ref a), (.int (0 : Int32))])) rfl rfl (hb hby d1_66)
  refine own_go (T' := Ta3_69) (g' := (mkF mI 69 #[.val (.ref a), .val (.int top), .val (.int bottom), .val (.int w), .val (.int tier), .val (.int cc), .val (.int ch), .val (.int (0 : Int32))] [(.ref ba3_45), (.int (0 : Int32))])) (fun t_ kt_ => sta3_69 _ kt_) ?_
  obtain ⟨cla3_70, Ara3_70, qa3_70, Sa3_70, Nga3_70, Ha3_70, Ga3_70⟩ := id Va3_66
  refine own_go (T' := Ta3_69) (g' := (mkF mI 70 #[.val (.ref a), .val (.int top), .val (.int bottom), .val (.int w), .val (.int tier), .val (.int cc), .val (.int ch), .val (.int (0 : Int32))] [(.int (3 : Int32)), (.int (0 : Int32))])) (fun t_ kt_ => own_len Xa3_69 hx hZ ea3_69 Ara3_70 (len_of Sa3_70 Nga3_70) (g := (mkF mI 69 #[.val (.ref a), .val (.int top), .val (.int bottom), .val (.int w), .val (.int tier), .val (.int cc), .val (.int ch), .val (.int (0 : Int32))] [(.ref ba3_45), (.int (0 : Int32))])) rfl rfl (hb hby d1_69) _ kt_) ?_
  refine own_go (T' := Ta3_69) (g' := (mkF mI 73 #[.val (.ref a), .val (.int top), .val (.int bottom), .val (.int w), .val (.int tier), .val (.int cc), .val (.int ch), .val (.int (0 : Int32))] [])) (fun t_ kt_ => XS.icmpNo Xa3_69.here hx rfl (hb hby d1_70) rfl (tlt (by decide : (0 : Int32) < (3 : Int32))).2.1 kt_) ?_
  refine own_go (T' := Ta3_69) (g' := (mkF mI 74 #[.val (.ref a), .val (.int top), .val (.int bottom), .val (.int w), .val (.int tier), .val (.int cc), .val (.int ch), .val (.int (0 : Int32))] [(.ref a)])) (fun t_ kt_ => XS.aloadN Xa3_69.here hx rfl (hb hby d1_73) rfl rfl kt_) ?_
  obtain ⟨Ta3_71, Xa3_71, ea3_71, sta3_71⟩ := getF Xa3_69 hx hZ hown (host := "") (Or.inl (hw _ (List.mem_of_getElem? (i := 23) rfl))) Via.refl ea3_69 Fwa3_57 (g := (mkF mI 74 #[.val (.ref a), .val (.int top), .val (.int bottom), .val (.int w), .val (.int tier), .val (.int cc), .val (.int ch), .val (.int (0 : Int32))] [(.ref a)])) rfl rfl (hb hby d1_74)
  refine own_go (T' := Ta3_71) (g' := (mkF mI 77 #[.val (.ref a), .val (.int top), .val (.int bottom), .val (.int w), .val (.int tier), .val (.int cc), .val (.int ch), .val (.int (0 : Int32))] [(.ref ba3_45)])) (fun t_ kt_ => sta3_71 _ kt_) ?_
  refine own_go (T' := Ta3_71) (g' := (mkF mI 79 #[.val (.ref a), .val (.int top), .val (.int bottom), .val (.int w), .val (.int tier), .val (.int cc), .val (.int ch), .val (.int (0 : Int32))] [(.int (0 : Int32)), (.ref ba3_45)])) (fun t_ kt_ => XS.iload Xa3_71.here hx rfl (hb hby d1_77) rfl kt_) ?_
  refine own_go (T' := Ta3_71) (g' := (mkF mI 80 #[.val (.ref a), .val (.int top), .val (.int bottom), .val (.int w), .val (.int tier), .val (.int cc), .val (.int ch), .val (.int (0 : Int32))] [(.int (2 : Int32)), (.int (0 : Int32)), (.ref ba3_45)])) (fun t_ kt_ => XS.iconst Xa3_71.here hx rfl (hb hby d1_79) kt_) ?_
  refine own_go (T' := Ta3_71) (g' := (mkF mI 82 #[.val (.ref a), .val (.int top), .val (.int bottom), .val (.int w), .val (.int tier), .val (.int cc), .val (.int ch), .val (.int (0 : Int32))] [(.int ch), (.int (2 : Int32)), (.int (0 : Int32)), (.ref ba3_45)])) (fun t_ kt_ => XS.iload Xa3_71.here hx rfl (hb hby d1_80) rfl kt_) ?_
  refine own_go (T' := Ta3_71) (g' := (mkF mI 83 #[.val (.ref a), .val (.int top), .val (.int bottom), .val (.int w), .val (.int tier), .val (.int cc), .val (.int ch), .val (.int (0 : Int32))] [(.int ((2 : Int32) * ch)), (.int (0 : Int32)), (.ref ba3_45)])) (fun t_ kt_ => XS.imul Xa3_71.here hx rfl (hb hby d1_82) rfl kt_) ?_
  obtain ⟨Ta3_72, ha3_72, ka3_72, Xa3_72, ea3_72, Exa3_72, Aa3_72, Eca3_72, sta3_72⟩ := newPE Xa3_71 hx hZ (hw _ (List.mem_of_getElem? (i := 25) rfl)) ea3_71 (g := (mkF mI 83 #[.val (.ref a), .val (.int top), .val (.int bottom), .val (.int w), .val (.int tier), .val (.int cc), .val (.int ch), .val (.int (0 : Int32))] [(.int ((2 : Int32) * ch)), (.int (0 : Int32)), (.ref ba3_45)])) rfl (hb hby d1_83) rfl hrn (cap := 2048) hrc (by decide) (by decide) (by decide) (ad := "[J") (by decide)
  obtain ⟨ba3_72, ga3_72⟩ : ∃ z, z = ha3_57.size := ⟨_, rfl⟩
  rw [← ga3_72] at Aa3_72 Eca3_72 sta3_72
  have ne_a_ba3_72 : a ≠ ba3_72 := Nat.ne_of_lt (Nat.lt_of_lt_of_le (Fa3_58.lt) (Nat.le_of_eq ga3_72.symm))
  have ne_ba3_26_ba3_72 : ba3_26 ≠ ba3_72 := Nat.ne_of_lt (Nat.lt_of_lt_of_le (Ea3_63.lt) (Nat.le_of_eq ga3_72.symm))
  have ne_ba3_45_ba3_72 : ba3_45 ≠ ba3_72 := Nat.ne_of_lt (Nat.lt_of_lt_of_le (Ea3_64.lt) (Nat.le_of_eq ga3_72.symm))
  have g_ba3_72 : n0 ≤ ba3_72 := Nat.le_trans Za3_67 (Nat.le_of_eq ga3_72.symm)
  have sz_ba3_72 : h0.size ≤ ba3_72 := Nat.le_trans Ka3_68.1 (Nat.le_of_eq ga3_72.symm)
  have Fa3_73 := Fld.ext Exa3_72 Fa3_58
  have Fa3_74 := Fld.ext Exa3_72 Fa3_59
  have Fa3_75 := Fld.ext Exa3_72 Fa3_60
  have Fa3_76 := Fld.ext Exa3_72 Fa3_61
  have Fa3_77 := Fld.ext Exa3_72 Fwa3_57
  have Ea3_78 := Exa.ext Exa3_72 Ea3_62
  have Ea3_79 := Exa.ext Exa3_72 Ea3_63
  have Ea3_80 := Exa.ext Exa3_72 Ea3_64
  have Va3_81 := Arv.ext Va3_65 Exa3_72
  have Va3_82 := Arv.ext Va3_66 Exa3_72
  have Za3_83 : n0 ≤ ha3_72.size := Nat.le_trans Za3_67 Exa3_72.1
  have Ka3_84 : Keep h0 ha3_72 [a] := Ka3_68.ext Exa3_72
  have Va3_72 : Arv Z ha3_72 ba3_72 ka3_72 .long ((2 : Int32) * ch) [] (.long (0 : Int64)) := Arv.new Aa3_72 hrn
  refine own_go (T' := Ta3_72) (g' := (mkF mI 85 #[.val (.ref a), .val (.int top), .val (.int bottom), .val (.int w), .val (.int tier), .val (.int cc), .val (.int ch), .val (.int (0 : Int32))] [(.ref ba3_72), (.int (0 : Int32)), (.ref ba3_45)])) (fun t_ kt_ => sta3_72 _ kt_) ?_
  obtain ⟨cla3_85, Ara3_85, qa3_85, Sa3_85, Nga3_85, Ha3_85, Ga3_85⟩ := id Va3_82
  obtain ⟨Ta3_86, ha3_86, Xa3_86, ea3_86, Wa3_86, sta3_86⟩ := stR Xa3_72 hx hZ ea3_72 Ara3_85 (j := (0 : Int32)) (inb_of Sa3_85 ⟨by decide, by decide⟩) rfl (Sto.ofVA Ara3_85 qa3_85 Oa3_45 (Ins.self Eca3_72)) (g := (mkF mI 85 #[.val (.ref a), .val (.int top), .val (.int bottom), .val (.int w), .val (.int tier), .val (.int cc), .val (.int ch), .val (.int (0 : Int32))] [(.ref ba3_72), (.int (0 : Int32)), (.ref ba3_45)])) rfl rfl (hb hby d1_85)
  have Va3_86 : Arv Z ha3_86 ba3_45 ka3_45 (.array .long) (3 : Int32) [(.ref ba3_72), .null, .null] .null := Arv.set Ara3_85 qa3_85 Sa3_85 Nga3_85 Ha3_85 Ga3_85 rfl Wa3_86 0 rfl (Nat.le_of_ble_eq_true rfl)
  have Fa3_87 := Fld.other Wa3_86 Fa3_73 (Or.inl ne_a_ba3_45)
  have Fa3_88 := Fld.other Wa3_86 Fa3_74 (Or.inl ne_a_ba3_45)
  have Fa3_89 := Fld.other Wa3_86 Fa3_75 (Or.inl ne_a_ba3_45)
  have Fa3_90 := Fld.other Wa3_86 Fa3_76 (Or.inl ne_a_ba3_45)
  have Fa3_91 := Fld.other Wa3_86 Fa3_77 (Or.inl ne_a_ba3_45)
  have Ea3_92 := Exa.wr Wa3_86 Ea3_78
  have Ea3_93 := Exa.wr Wa3_86 Ea3_79
  have Ea3_94 := Exa.wr Wa3_86 Ea3_80
  have Ea3_95 := Exa.wr Wa3_86 Eca3_72
  have Va3_96 := Arv.other Va3_81 Wa3_86 ne_ba3_26_ba3_45
  have Va3_98 := Arv.other Va3_72 Wa3_86 (Ne.symm ne_ba3_45_ba3_72)
  have Za3_99 : n0 ≤ ha3_86.size := Nat.le_trans Za3_83 (Nat.le_of_eq (Wr.size Wa3_86).symm)
  have Ka3_100 : Keep h0 ha3_86 [a] := Ka3_84.wr Wa3_86 (Or.inr sz_ba3_45)
  have Na3_86 := Fr.snoc Xa3_86 Na3_57 g_ba3_45
  refine own_go (T' := Ta3_86) (g' := (mkF mI 86 #[.val (.ref a), .val (.int top), .val (.int bottom), .val (.int w), .val (.int tier), .val (.int cc), .val (.int ch), .val (.int (0 : Int32))] [])) (fun t_ kt_ => sta3_86 _ kt_) ?_
  refine own_go (T' := Ta3_86) (g' := (mkF mI 89 #[.val (.ref a), .val (.int top), .val (.int bottom), .val (.int w), .val (.int tier), .val (.int cc), .val (.int ch), .val (.int (1 : Int32))] [])) (fun t_ kt_ => XS.iinc Xa3_86.here hx rfl (hb hby d1_86) rfl (l' := #[.val (.ref a), .val (.int top), .val (.int bottom), .val (.int w), .val (.int tier), .val (.int cc), .val (.int ch), .val (.int (1 : Int32))]) rfl kt_) ?_
  refine own_go (T' := Ta3_86) (g' := (mkF mI 63 #[.val (.ref a), .val (.int top), .val (.int bottom), .val (.int w), .val (.int tier), .val (.int cc), .val (.int ch), .val (.int (1 : Int32))] [])) (fun t_ kt_ => XS.goto Xa3_86.here hx rfl (pc0 := 89) (pc' := 63) rfl (hb hby d1_89) (by decide) (by decide) kt_) ?_
  refine own_go (T' := Ta3_86) (g' := (mkF mI 65 #[.val (.ref a), .val (.int top), .val (.int bottom), .val (.int w), .val (.int tier), .val (.int cc), .val (.int ch), .val (.int (1 : Int32))] [(.int (1 : Int32))])) (fun t_ kt_ => XS.iload Xa3_86.here hx rfl (hb hby d1_63) rfl kt_) ?_
  refine own_go (T' := Ta3_86) (g' := (mkF mI 66 #[.val (.ref a), .val (.int top), .val (.int bottom), .val (.int w), .val (.int tier), .val (.int cc), .val (.int ch), .val (.int (1 : Int32))] [(.ref a), (.int (1 : Int32))])) (fun t_ kt_ => XS.aloadN Xa3_86.here hx rfl (hb hby d1_65) rfl rfl kt_) ?_
  obtain ⟨Ta3_101, Xa3_101, ea3_101, sta3_101⟩ := getF Xa3_86 hx hZ hown (host := "") (Or.inl (hw _ (List.mem_of_getElem? (i := 23) rfl))) Via.refl ea3_86 Fa3_91 (g := (mkF mI 66 #[.val (.ref a), .val (.int top), .val (.int bottom), .val (.int w), .val (.int tier), .val (.int cc), .val (.int ch), .val (.int (1 : Int32))] [(.ref a), (.int (1 : Int32))])) rfl rfl (hb hby d1_66)
  refine own_go (T' := Ta3_101) (g' := (mkF mI 69 #[.val (.ref a), .val (.int top), .val (.int bottom), .val (.int w), .val (.int tier), .val (.int cc), .val (.int ch), .val (.int (1 : Int32))] [(.ref ba3_45), (.int (1 : Int32))])) (fun t_ kt_ => sta3_101 _ kt_) ?_
  obtain ⟨cla3_102, Ara3_102, qa3_102, Sa3_102, Nga3_102, Ha3_102, Ga3_102⟩ := id Va3_86
  refine own_go (T' := Ta3_101) (g' := (mkF mI 70 #[.val (.ref a), .val (.int top), .val (.int bottom), .val (.int w), .val (.int tier), .val (.int cc), .val (.int ch), .val (.int (1 : Int32))] [(.int (3 : Int32)), (.int (1 : Int32))])) (fun t_ kt_ => own_len Xa3_101 hx hZ ea3_101 Ara3_102 (len_of Sa3_102 Nga3_102) (g := (mkF mI 69 #[.val (.ref a), .val (.int top), .val (.int bottom), .val (.int w), .val (.int tier), .val (.int cc), .val (.int ch), .val (.int (1 : Int32))] [(.ref ba3_45), (.int (1 : Int32))])) rfl rfl (hb hby d1_69) _ kt_) ?_
  refine own_go (T' := Ta3_101) (g' := (mkF mI 73 #[.val (.ref a), .val (.int top), .val (.int bottom), .val (.int w), .val (.int tier), .val (.int cc), .val (.int ch), .val (.int (1 : Int32))] [])) (fun t_ kt_ => XS.icmpNo Xa3_101.here hx rfl (hb hby d1_70) rfl (tlt (by decide : (1 : Int32) < (3 : Int32))).2.1 kt_) ?_
  refine own_go (T' := Ta3_101) (g' := (mkF mI 74 #[.val (.ref a), .val (.int top), .val (.int bottom), .val (.int w), .val (.int tier), .val (.int cc), .val (.int ch), .val (.int (1 : Int32))] [(.ref a)])) (fun t_ kt_ => XS.aloadN Xa3_101.here hx rfl (hb hby d1_73) rfl rfl kt_) ?_
  obtain ⟨Ta3_103, Xa3_103, ea3_103, sta3_103⟩ := getF Xa3_101 hx hZ hown (host := "") (Or.inl (hw _ (List.mem_of_getElem? (i := 23) rfl))) Via.refl ea3_101 Fa3_91 (g := (mkF mI 74 #[.val (.ref a), .val (.int top), .val (.int bottom), .val (.int w), .val (.int tier), .val (.int cc), .val (.int ch), .val (.int (1 : Int32))] [(.ref a)])) rfl rfl (hb hby d1_74)
  refine own_go (T' := Ta3_103) (g' := (mkF mI 77 #[.val (.ref a), .val (.int top), .val (.int bottom), .val (.int w), .val (.int tier), .val (.int cc), .val (.int ch), .val (.int (1 : Int32))] [(.ref ba3_45)])) (fun t_ kt_ => sta3_103 _ kt_) ?_
  refine own_go (T' := Ta3_103) (g' := (mkF mI 79 #[.val (.ref a), .val (.int top), .val (.int bottom), .val (.int w), .val (.int tier), .val (.int cc), .val (.int ch), .val (.int (1 : Int32))] [(.int (1 : Int32)), (.ref ba3_45)])) (fun t_ kt_ => XS.iload Xa3_103.here hx rfl (hb hby d1_77) rfl kt_) ?_
  refine own_go (T' := Ta3_103) (g' := (mkF mI 80 #[.val (.ref a), .val (.int top), .val (.int bottom), .val (.int w), .val (.int tier), .val (.int cc), .val (.int ch), .val (.int (1 : Int32))] [(.int (2 : Int32)), (.int (1 : Int32)), (.ref ba3_45)])) (fun t_ kt_ => XS.iconst Xa3_103.here hx rfl (hb hby d1_79) kt_) ?_
  refine own_go (T' := Ta3_103) (g' := (mkF mI 82 #[.val (.ref a), .val (.int top), .val (.int bottom), .val (.int w), .val (.int tier), .val (.int cc), .val (.int ch), .val (.int (1 : Int32))] [(.int ch), (.int (2 : Int32)), (.int (1 : Int32)), (.ref ba3_45)])) (fun t_ kt_ => XS.iload Xa3_103.here hx rfl (hb hby d1_80) rfl kt_) ?_
  refine own_go (T' := Ta3_103) (g' := (mkF mI 83 #[.val (.ref a), .val (.int top), .val (.int bottom), .val (.int w), .val (.int tier), .val (.int cc), .val (.int ch), .val (.int (1 : Int32))] [(.int ((2 : Int32) * ch)), (.int (1 : Int32)), (.ref ba3_45)])) (fun t_ kt_ => XS.imul Xa3_103.here hx rfl (hb hby d1_82) rfl kt_) ?_
  obtain ⟨Ta3_104, ha3_104, ka3_104, Xa3_104, ea3_104, Exa3_104, Aa3_104, Eca3_104, sta3_104⟩ := newPE Xa3_103 hx hZ (hw _ (List.mem_of_getElem? (i := 25) rfl)) ea3_103 (g := (mkF mI 83 #[.val (.ref a), .val (.int top), .val (.int bottom), .val (.int w), .val (.int tier), .val (.int cc), .val (.int ch), .val (.int (1 : Int32))] [(.int ((2 : Int32) * ch)), (.int (1 : Int32)), (.ref ba3_45)])) rfl (hb hby d1_83) rfl hrn (cap := 2048) hrc (by decide) (by decide) (by decide) (ad := "[J") (by decide)
  obtain ⟨ba3_104, ga3_104⟩ : ∃ z, z = ha3_86.size := ⟨_, rfl⟩
  rw [← ga3_104] at Aa3_104 Eca3_104 sta3_104
  have ne_a_ba3_104 : a ≠ ba3_104 := Nat.ne_of_lt (Nat.lt_of_lt_of_le (Fa3_87.lt) (Nat.le_of_eq ga3_104.symm))
  have ne_ba3_26_ba3_104 : ba3_26 ≠ ba3_104 := Nat.ne_of_lt (Nat.lt_of_lt_of_le (Ea3_93.lt) (Nat.le_of_eq ga3_104.symm))
  have ne_ba3_45_ba3_104 : ba3_45 ≠ ba3_104 := Nat.ne_of_lt (Nat.lt_of_lt_of_le (Ea3_94.lt) (Nat.le_of_eq ga3_104.symm))
  have ne_ba3_72_ba3_104 : ba3_72 ≠ ba3_104 := Nat.ne_of_lt (Nat.lt_of_lt_of_le (Ea3_95.lt) (Nat.le_of_eq ga3_104.symm))
  have g_ba3_104 : n0 ≤ ba3_104 := Nat.le_trans Za3_99 (Nat.le_of_eq ga3_104.symm)
  have sz_ba3_104 : h0.size ≤ ba3_104 := Nat.le_trans Ka3_100.1 (Nat.le_of_eq ga3_104.symm)
  have Fa3_105 := Fld.ext Exa3_104 Fa3_87
  have Fa3_106 := Fld.ext Exa3_104 Fa3_88
  have Fa3_107 := Fld.ext Exa3_104 Fa3_89
  have Fa3_108 := Fld.ext Exa3_104 Fa3_90
  have Fa3_109 := Fld.ext Exa3_104 Fa3_91
  have Ea3_110 := Exa.ext Exa3_104 Ea3_92
  have Ea3_111 := Exa.ext Exa3_104 Ea3_93
  have Ea3_112 := Exa.ext Exa3_104 Ea3_94
  have Ea3_113 := Exa.ext Exa3_104 Ea3_95
  have Va3_114 := Arv.ext Va3_96 Exa3_104
  have Va3_115 := Arv.ext Va3_86 Exa3_104
  have Va3_116 := Arv.ext Va3_98 Exa3_104
  have Za3_117 : n0 ≤ ha3_104.size := Nat.le_trans Za3_99 Exa3_104.1
  have Ka3_118 : Keep h0 ha3_104 [a] := Ka3_100.ext Exa3_104
  have Va3_104 : Arv Z ha3_104 ba3_104 ka3_104 .long ((2 : Int32) * ch) [] (.long (0 : Int64)) := Arv.new Aa3_104 hrn
  refine own_go (T' := Ta3_104) (g' := (mkF mI 85 #[.val (.ref a), .val (.int top), .val (.int bottom), .val (.int w), .val (.int tier), .val (.int cc), .val (.int ch), .val (.int (1 : Int32))] [(.ref ba3_104), (.int (1 : Int32)), (.ref ba3_45)])) (fun t_ kt_ => sta3_104 _ kt_) ?_
  obtain ⟨cla3_119, Ara3_119, qa3_119, Sa3_119, Nga3_119, Ha3_119, Ga3_119⟩ := id Va3_115
  obtain ⟨Ta3_120, ha3_120, Xa3_120, ea3_120, Wa3_120, sta3_120⟩ := stR Xa3_104 hx hZ ea3_104 Ara3_119 (j := (1 : Int32)) (inb_of Sa3_119 ⟨by decide, by decide⟩) rfl (Sto.ofVA Ara3_119 qa3_119 Oa3_45 (Ins.self Eca3_104)) (g := (mkF mI 85 #[.val (.ref a), .val (.int top), .val (.int bottom), .val (.int w), .val (.int tier), .val (.int cc), .val (.int ch), .val (.int (1 : Int32))] [(.ref ba3_104), (.int (1 : Int32)), (.ref ba3_45)])) rfl rfl (hb hby d1_85)
  have Va3_120 : Arv Z ha3_120 ba3_45 ka3_45 (.array .long) (3 : Int32) [(.ref ba3_72), (.ref ba3_104), .null] .null := Arv.set Ara3_119 qa3_119 Sa3_119 Nga3_119 Ha3_119 Ga3_119 rfl Wa3_120 1 rfl (Nat.le_of_ble_eq_true rfl)
  have Fa3_121 := Fld.other Wa3_120 Fa3_105 (Or.inl ne_a_ba3_45)
  have Fa3_122 := Fld.other Wa3_120 Fa3_106 (Or.inl ne_a_ba3_45)
  have Fa3_123 := Fld.other Wa3_120 Fa3_107 (Or.inl ne_a_ba3_45)
  have Fa3_124 := Fld.other Wa3_120 Fa3_108 (Or.inl ne_a_ba3_45)
  have Fa3_125 := Fld.other Wa3_120 Fa3_109 (Or.inl ne_a_ba3_45)
  have Ea3_126 := Exa.wr Wa3_120 Ea3_110
  have Ea3_127 := Exa.wr Wa3_120 Ea3_111
  have Ea3_128 := Exa.wr Wa3_120 Ea3_112
  have Ea3_129 := Exa.wr Wa3_120 Ea3_113
  have Ea3_130 := Exa.wr Wa3_120 Eca3_104
  have Va3_131 := Arv.other Va3_114 Wa3_120 ne_ba3_26_ba3_45
  have Va3_133 := Arv.other Va3_116 Wa3_120 (Ne.symm ne_ba3_45_ba3_72)
  have Va3_134 := Arv.other Va3_104 Wa3_120 (Ne.symm ne_ba3_45_ba3_104)
  have Za3_135 : n0 ≤ ha3_120.size := Nat.le_trans Za3_117 (Nat.le_of_eq (Wr.size Wa3_120).symm)
  have Ka3_136 : Keep h0 ha3_120 [a] := Ka3_118.wr Wa3_120 (Or.inr sz_ba3_45)
  have Na3_120 := Fr.snoc Xa3_120 Na3_86 g_ba3_45
  refine own_go (T' := Ta3_120) (g' := (mkF mI 86 #[.val (.ref a), .val (.int top), .val (.int bottom), .val (.int w), .val (.int tier), .val (.int cc), .val (.int ch), .val (.int (1 : Int32))] [])) (fun t_ kt_ => sta3_120 _ kt_) ?_
  refine own_go (T' := Ta3_120) (g' := (mkF mI 89 #[.val (.ref a), .val (.int top), .val (.int bottom), .val (.int w), .val (.int tier), .val (.int cc), .val (.int ch), .val (.int (2 : Int32))] [])) (fun t_ kt_ => XS.iinc Xa3_120.here hx rfl (hb hby d1_86) rfl (l' := #[.val (.ref a), .val (.int top), .val (.int bottom), .val (.int w), .val (.int tier), .val (.int cc), .val (.int ch), .val (.int (2 : Int32))]) rfl kt_) ?_
  refine own_go (T' := Ta3_120) (g' := (mkF mI 63 #[.val (.ref a), .val (.int top), .val (.int bottom), .val (.int w), .val (.int tier), .val (.int cc), .val (.int ch), .val (.int (2 : Int32))] [])) (fun t_ kt_ => XS.goto Xa3_120.here hx rfl (pc0 := 89) (pc' := 63) rfl (hb hby d1_89) (by decide) (by decide) kt_) ?_
  refine own_go (T' := Ta3_120) (g' := (mkF mI 65 #[.val (.ref a), .val (.int top), .val (.int bottom), .val (.int w), .val (.int tier), .val (.int cc), .val (.int ch), .val (.int (2 : Int32))] [(.int (2 : Int32))])) (fun t_ kt_ => XS.iload Xa3_120.here hx rfl (hb hby d1_63) rfl kt_) ?_
  refine own_go (T' := Ta3_120) (g' := (mkF mI 66 #[.val (.ref a), .val (.int top), .val (.int bottom), .val (.int w), .val (.int tier), .val (.int cc), .val (.int ch), .val (.int (2 : Int32))] [(.ref a), (.int (2 : Int32))])) (fun t_ kt_ => XS.aloadN Xa3_120.here hx rfl (hb hby d1_65) rfl rfl kt_) ?_
  obtain ⟨Ta3_137, Xa3_137, ea3_137, sta3_137⟩ := getF Xa3_120 hx hZ hown (host := "") (Or.inl (hw _ (List.mem_of_getElem? (i := 23) rfl))) Via.refl ea3_120 Fa3_125 (g := (mkF mI 66 #[.val (.ref a), .val (.int top), .val (.int bottom), .val (.int w), .val (.int tier), .val (.int cc), .val (.int ch), .val (.int (2 : Int32))] [(.ref a), (.int (2 : Int32))])) rfl rfl (hb hby d1_66)
  refine own_go (T' := Ta3_137) (g' := (mkF mI 69 #[.val (.ref a), .val (.int top), .val (.int bottom), .val (.int w), .val (.int tier), .val (.int cc), .val (.int ch), .val (.int (2 : Int32))] [(.ref ba3_45), (.int (2 : Int32))])) (fun t_ kt_ => sta3_137 _ kt_) ?_
  obtain ⟨cla3_138, Ara3_138, qa3_138, Sa3_138, Nga3_138, Ha3_138, Ga3_138⟩ := id Va3_120
  refine own_go (T' := Ta3_137) (g' := (mkF mI 70 #[.val (.ref a), .val (.int top), .val (.int bottom), .val (.int w), .val (.int tier), .val (.int cc), .val (.int ch), .val (.int (2 : Int32))] [(.int (3 : Int32)), (.int (2 : Int32))])) (fun t_ kt_ => own_len Xa3_137 hx hZ ea3_137 Ara3_138 (len_of Sa3_138 Nga3_138) (g := (mkF mI 69 #[.val (.ref a), .val (.int top), .val (.int bottom), .val (.int w), .val (.int tier), .val (.int cc), .val (.int ch), .val (.int (2 : Int32))] [(.ref ba3_45), (.int (2 : Int32))])) rfl rfl (hb hby d1_69) _ kt_) ?_
  refine own_go (T' := Ta3_137) (g' := (mkF mI 73 #[.val (.ref a), .val (.int top), .val (.int bottom), .val (.int w), .val (.int tier), .val (.int cc), .val (.int ch), .val (.int (2 : Int32))] [])) (fun t_ kt_ => XS.icmpNo Xa3_137.here hx rfl (hb hby d1_70) rfl (tlt (by decide : (2 : Int32) < (3 : Int32))).2.1 kt_) ?_
  refine own_go (T' := Ta3_137) (g' := (mkF mI 74 #[.val (.ref a), .val (.int top), .val (.int bottom), .val (.int w), .val (.int tier), .val (.int cc), .val (.int ch), .val (.int (2 : Int32))] [(.ref a)])) (fun t_ kt_ => XS.aloadN Xa3_137.here hx rfl (hb hby d1_73) rfl rfl kt_) ?_
  obtain ⟨Ta3_139, Xa3_139, ea3_139, sta3_139⟩ := getF Xa3_137 hx hZ hown (host := "") (Or.inl (hw _ (List.mem_of_getElem? (i := 23) rfl))) Via.refl ea3_137 Fa3_125 (g := (mkF mI 74 #[.val (.ref a), .val (.int top), .val (.int bottom), .val (.int w), .val (.int tier), .val (.int cc), .val (.int ch), .val (.int (2 : Int32))] [(.ref a)])) rfl rfl (hb hby d1_74)
  refine own_go (T' := Ta3_139) (g' := (mkF mI 77 #[.val (.ref a), .val (.int top), .val (.int bottom), .val (.int w), .val (.int tier), .val (.int cc), .val (.int ch), .val (.int (2 : Int32))] [(.ref ba3_45)])) (fun t_ kt_ => sta3_139 _ kt_) ?_
  refine own_go (T' := Ta3_139) (g' := (mkF mI 79 #[.val (.ref a), .val (.int top), .val (.int bottom), .val (.int w), .val (.int tier), .val (.int cc), .val (.int ch), .val (.int (2 : Int32))] [(.int (2 : Int32)), (.ref ba3_45)])) (fun t_ kt_ => XS.iload Xa3_139.here hx rfl (hb hby d1_77) rfl kt_) ?_
  refine own_go (T' := Ta3_139) (g' := (mkF mI 80 #[.val (.ref a), .val (.int top), .val (.int bottom), .val (.int w), .val (.int tier), .val (.int cc), .val (.int ch), .val (.int (2 : Int32))] [(.int (2 : Int32)), (.int (2 : Int32)), (.ref ba3_45)])) (fun t_ kt_ => XS.iconst Xa3_139.here hx rfl (hb hby d1_79) kt_) ?_
  refine own_go (T' := Ta3_139) (g' := (mkF mI 82 #[.val (.ref a), .val (.int top), .val (.int bottom), .val (.int w), .val (.int tier), .val (.int cc), .val (.int ch), .val (.int (2 : Int32))] [(.int ch), (.int (2 : Int32)), (.int (2 : Int32)), (.ref ba3_45)])) (fun t_ kt_ => XS.iload Xa3_139.here hx rfl (hb hby d1_80) rfl kt_) ?_
  refine own_go (T' := Ta3_139) (g' := (mkF mI 83 #[.val (.ref a), .val (.int top), .val (.int bottom), .val (.int w), .val (.int tier), .val (.int cc), .val (.int ch), .val (.int (2 : Int32))] [(.int ((2 : Int32) * ch)), (.int (2 : Int32)), (.ref ba3_45)])) (fun t_ kt_ => XS.imul Xa3_139.here hx rfl (hb hby d1_82) rfl kt_) ?_
  obtain ⟨Ta3_140, ha3_140, ka3_140, Xa3_140, ea3_140, Exa3_140, Aa3_140, Eca3_140, sta3_140⟩ := newPE Xa3_139 hx hZ (hw _ (List.mem_of_getElem? (i := 25) rfl)) ea3_139 (g := (mkF mI 83 #[.val (.ref a), .val (.int top), .val (.int bottom), .val (.int w), .val (.int tier), .val (.int cc), .val (.int ch), .val (.int (2 : Int32))] [(.int ((2 : Int32) * ch)), (.int (2 : Int32)), (.ref ba3_45)])) rfl (hb hby d1_83) rfl hrn (cap := 2048) hrc (by decide) (by decide) (by decide) (ad := "[J") (by decide)
  obtain ⟨ba3_140, ga3_140⟩ : ∃ z, z = ha3_120.size := ⟨_, rfl⟩
  rw [← ga3_140] at Aa3_140 Eca3_140 sta3_140
  have ne_a_ba3_140 : a ≠ ba3_140 := Nat.ne_of_lt (Nat.lt_of_lt_of_le (Fa3_121.lt) (Nat.le_of_eq ga3_140.symm))
  have ne_ba3_26_ba3_140 : ba3_26 ≠ ba3_140 := Nat.ne_of_lt (Nat.lt_of_lt_of_le (Ea3_127.lt) (Nat.le_of_eq ga3_140.symm))
  have ne_ba3_45_ba3_140 : ba3_45 ≠ ba3_140 := Nat.ne_of_lt (Nat.lt_of_lt_of_le (Ea3_128.lt) (Nat.le_of_eq ga3_140.symm))
  have ne_ba3_72_ba3_140 : ba3_72 ≠ ba3_140 := Nat.ne_of_lt (Nat.lt_of_lt_of_le (Ea3_129.lt) (Nat.le_of_eq ga3_140.symm))
  have ne_ba3_104_ba3_140 : ba3_104 ≠ ba3_140 := Nat.ne_of_lt (Nat.lt_of_lt_of_le (Ea3_130.lt) (Nat.le_of_eq ga3_140.symm))
  have g_ba3_140 : n0 ≤ ba3_140 := Nat.le_trans Za3_135 (Nat.le_of_eq ga3_140.symm)
  have sz_ba3_140 : h0.size ≤ ba3_140 := Nat.le_trans Ka3_136.1 (Nat.le_of_eq ga3_140.symm)
  have Fa3_141 := Fld.ext Exa3_140 Fa3_121
  have Fa3_142 := Fld.ext Exa3_140 Fa3_122
  have Fa3_143 := Fld.ext Exa3_140 Fa3_123
  have Fa3_144 := Fld.ext Exa3_140 Fa3_124
  have Fa3_145 := Fld.ext Exa3_140 Fa3_125
  have Ea3_146 := Exa.ext Exa3_140 Ea3_126
  have Ea3_147 := Exa.ext Exa3_140 Ea3_127
  have Ea3_148 := Exa.ext Exa3_140 Ea3_128
  have Ea3_149 := Exa.ext Exa3_140 Ea3_129
  have Ea3_150 := Exa.ext Exa3_140 Ea3_130
  have Va3_151 := Arv.ext Va3_131 Exa3_140
  have Va3_152 := Arv.ext Va3_120 Exa3_140
  have Va3_153 := Arv.ext Va3_133 Exa3_140
  have Va3_154 := Arv.ext Va3_134 Exa3_140
  have Za3_155 : n0 ≤ ha3_140.size := Nat.le_trans Za3_135 Exa3_140.1
  have Ka3_156 : Keep h0 ha3_140 [a] := Ka3_136.ext Exa3_140
  have Va3_140 : Arv Z ha3_140 ba3_140 ka3_140 .long ((2 : Int32) * ch) [] (.long (0 : Int64)) := Arv.new Aa3_140 hrn
  refine own_go (T' := Ta3_140) (g' := (mkF mI 85 #[.val (.ref a), .val (.int top), .val (.int bottom), .val (.int w), .val (.int tier), .val (.int cc), .val (.int ch), .val (.int (2 : Int32))] [(.ref ba3_140), (.int (2 : Int32)), (.ref ba3_45)])) (fun t_ kt_ => sta3_140 _ kt_) ?_
  obtain ⟨cla3_157, Ara3_157, qa3_157, Sa3_157, Nga3_157, Ha3_157, Ga3_157⟩ := id Va3_152
  obtain ⟨Ta3_158, ha3_158, Xa3_158, ea3_158, Wa3_158, sta3_158⟩ := stR Xa3_140 hx hZ ea3_140 Ara3_157 (j := (2 : Int32)) (inb_of Sa3_157 ⟨by decide, by decide⟩) rfl (Sto.ofVA Ara3_157 qa3_157 Oa3_45 (Ins.self Eca3_140)) (g := (mkF mI 85 #[.val (.ref a), .val (.int top), .val (.int bottom), .val (.int w), .val (.int tier), .val (.int cc), .val (.int ch), .val (.int (2 : Int32))] [(.ref ba3_140), (.int (2 : Int32)), (.ref ba3_45)])) rfl rfl (hb hby d1_85)
  have Va3_158 : Arv Z ha3_158 ba3_45 ka3_45 (.array .long) (3 : Int32) [(.ref ba3_72), (.ref ba3_104), (.ref ba3_140)] .null := Arv.set Ara3_157 qa3_157 Sa3_157 Nga3_157 Ha3_157 Ga3_157 rfl Wa3_158 2 rfl (Nat.le_of_ble_eq_true rfl)
  have Fa3_159 := Fld.other Wa3_158 Fa3_141 (Or.inl ne_a_ba3_45)
  have Fa3_160 := Fld.other Wa3_158 Fa3_142 (Or.inl ne_a_ba3_45)
  have Fa3_161 := Fld.other Wa3_158 Fa3_143 (Or.inl ne_a_ba3_45)
  have Fa3_162 := Fld.other Wa3_158 Fa3_144 (Or.inl ne_a_ba3_45)
  have Fa3_163 := Fld.other Wa3_158 Fa3_145 (Or.inl ne_a_ba3_45)
  have Ea3_164 := Exa.wr Wa3_158 Ea3_146
  have Ea3_165 := Exa.wr Wa3_158 Ea3_147
  have Ea3_166 := Exa.wr Wa3_158 Ea3_148
  have Ea3_167 := Exa.wr Wa3_158 Ea3_149
  have Ea3_168 := Exa.wr Wa3_158 Ea3_150
  have Ea3_169 := Exa.wr Wa3_158 Eca3_140
  have Va3_170 := Arv.other Va3_151 Wa3_158 ne_ba3_26_ba3_45
  have Va3_172 := Arv.other Va3_153 Wa3_158 (Ne.symm ne_ba3_45_ba3_72)
  have Va3_173 := Arv.other Va3_154 Wa3_158 (Ne.symm ne_ba3_45_ba3_104)
  have Va3_174 := Arv.other Va3_140 Wa3_158 (Ne.symm ne_ba3_45_ba3_140)
  have Za3_175 : n0 ≤ ha3_158.size := Nat.le_trans Za3_155 (Nat.le_of_eq (Wr.size Wa3_158).symm)
  have Ka3_176 : Keep h0 ha3_158 [a] := Ka3_156.wr Wa3_158 (Or.inr sz_ba3_45)
  have Na3_158 := Fr.snoc Xa3_158 Na3_120 g_ba3_45
  refine own_go (T' := Ta3_158) (g' := (mkF mI 86 #[.val (.ref a), .val (.int top), .val (.int bottom), .val (.int w), .val (.int tier), .val (.int cc), .val (.int ch), .val (.int (2 : Int32))] [])) (fun t_ kt_ => sta3_158 _ kt_) ?_
  refine own_go (T' := Ta3_158) (g' := (mkF mI 89 #[.val (.ref a), .val (.int top), .val (.int bottom), .val (.int w), .val (.int tier), .val (.int cc), .val (.int ch), .val (.int (3 : Int32))] [])) (fun t_ kt_ => XS.iinc Xa3_158.here hx rfl (hb hby d1_86) rfl (l' := #[.val (.ref a), .val (.int top), .val (.int bottom), .val (.int w), .val (.int tier), .val (.int cc), .val (.int ch), .val (.int (3 : Int32))]) rfl kt_) ?_
  refine own_go (T' := Ta3_158) (g' := (mkF mI 63 #[.val (.ref a), .val (.int top), .val (.int bottom), .val (.int w), .val (.int tier), .val (.int cc), .val (.int ch), .val (.int (3 : Int32))] [])) (fun t_ kt_ => XS.goto Xa3_158.here hx rfl (pc0 := 89) (pc' := 63) rfl (hb hby d1_89) (by decide) (by decide) kt_) ?_
  refine own_go (T' := Ta3_158) (g' := (mkF mI 65 #[.val (.ref a), .val (.int top), .val (.int bottom), .val (.int w), .val (.int tier), .val (.int cc), .val (.int ch), .val (.int (3 : Int32))] [(.int (3 : Int32))])) (fun t_ kt_ => XS.iload Xa3_158.here hx rfl (hb hby d1_63) rfl kt_) ?_
  refine own_go (T' := Ta3_158) (g' := (mkF mI 66 #[.val (.ref a), .val (.int top), .val (.int bottom), .val (.int w), .val (.int tier), .val (.int cc), .val (.int ch), .val (.int (3 : Int32))] [(.ref a), (.int (3 : Int32))])) (fun t_ kt_ => XS.aloadN Xa3_158.here hx rfl (hb hby d1_65) rfl rfl kt_) ?_
  obtain ⟨Ta3_177, Xa3_177, ea3_177, sta3_177⟩ := getF Xa3_158 hx hZ hown (host := "") (Or.inl (hw _ (List.mem_of_getElem? (i := 23) rfl))) Via.refl ea3_158 Fa3_163 (g := (mkF mI 66 #[.val (.ref a), .val (.int top), .val (.int bottom), .val (.int w), .val (.int tier), .val (.int cc), .val (.int ch), .val (.int (3 : Int32))] [(.ref a), (.int (3 : Int32))])) rfl rfl (hb hby d1_66)
  refine own_go (T' := Ta3_177) (g' := (mkF mI 69 #[.val (.ref a), .val (.int top), .val (.int bottom), .val (.int w), .val (.int tier), .val (.int cc), .val (.int ch), .val (.int (3 : Int32))] [(.ref ba3_45), (.int (3 : Int32))])) (fun t_ kt_ => sta3_177 _ kt_) ?_
  obtain ⟨cla3_178, Ara3_178, qa3_178, Sa3_178, Nga3_178, Ha3_178, Ga3_178⟩ := id Va3_158
  refine own_go (T' := Ta3_177) (g' := (mkF mI 70 #[.val (.ref a), .val (.int top), .val (.int bottom), .val (.int w), .val (.int tier), .val (.int cc), .val (.int ch), .val (.int (3 : Int32))] [(.int (3 : Int32)), (.int (3 : Int32))])) (fun t_ kt_ => own_len Xa3_177 hx hZ ea3_177 Ara3_178 (len_of Sa3_178 Nga3_178) (g := (mkF mI 69 #[.val (.ref a), .val (.int top), .val (.int bottom), .val (.int w), .val (.int tier), .val (.int cc), .val (.int ch), .val (.int (3 : Int32))] [(.ref ba3_45), (.int (3 : Int32))])) rfl rfl (hb hby d1_69) _ kt_) ?_
  refine own_go (T' := Ta3_177) (g' := (mkF mI 92 #[.val (.ref a), .val (.int top), .val (.int bottom), .val (.int w), .val (.int tier), .val (.int cc), .val (.int ch), .val (.int (3 : Int32))] [])) (fun t_ kt_ => XS.icmpYes Xa3_177.here hx rfl (pc0 := 70) (pc' := 92) rfl (hb hby d1_70) rfl (flt (by decide : ¬ ((3 : Int32) < (3 : Int32)))).2.1 (by decide) (by decide) kt_) ?_
  refine own_retV Xa3_177 hx hlk hret (hb hby d1_92) (by decide) (by decide) ?_
  exact by
    rw [ea3_177]
    refine ⟨rfl, Na3_158, Ka3_176, Ea3_164, Fa3_159, ba3_45, _, _, Fa3_163, Va3_158, fun j hj => ?_⟩
    have hj' : j < 3 := hj
    rcases j with _ | j
    · exact ⟨ba3_72, _, rfl, Va3_172⟩
    rcases j with _ | j
    · exact ⟨ba3_104, _, rfl, Va3_173⟩
    rcases j with _ | j
    · exact ⟨ba3_140, _, rfl, Va3_174⟩
    · omega
theorem rmC_4_pn : plainFor (⟨"com/example/classic_strings/classicstrings/compare/Matrix$Checkpoints", "<init>", "(IIIII)V"⟩ : MethodName) = true := plainFor_of_name (show plainName "com/example/classic_strings/classicstrings/compare/Matrix$Checkpoints" = true by first | (simp [plainName, overriddenIn]; done) | decide +kernel)
theorem rmC_4_ef (mI : MethodId) (a : Addr) (top : Int32) (bottom : Int32) (w : Int32) (tier : Int32) (cc : Int32) : entryFrame mI #[(.ref a), (.int top), (.int bottom), (.int w), (.int tier), (.int cc)] 8 = mkF mI 0 #[.val (.ref a), .val (.int top), .val (.int bottom), .val (.int w), .val (.int tier), .val (.int cc), .unset, .unset] [] := by first | (simp [entryFrame, mkF, argsToLocals, Value.category]; done) | rfl
set_option maxRecDepth 65536 in
set_option maxHeartbeats 40000000 in
theorem rmC_4 (l : Launch) (Z : State) (a0 : Array Value) (hw : ∀ d ∈ tables_1, d.before a0 Z = true) (ws : List Jvm.Cond) (h0 : Heap) (n0 : Nat) (Z0 : n0 ≤ h0.size) (a : Addr) (top bottom w tier cc ch z1 : Int32) (E_a : Exa Z h0 a "com/example/classic_strings/classicstrings/compare/Matrix$Checkpoints") (F_top : Fld Z h0 a "com/example/classic_strings/classicstrings/compare/Matrix$Checkpoints" "top" "I" (.int 0)) (F_tierStrips : Fld Z h0 a "com/example/classic_strings/classicstrings/compare/Matrix$Checkpoints" "tierStrips" "I" (.int 0)) (F_chunkColumns : Fld Z h0 a "com/example/classic_strings/classicstrings/compare/Matrix$Checkpoints" "chunkColumns" "I" (.int 0)) (F_carries : Fld Z h0 a "com/example/classic_strings/classicstrings/compare/Matrix$Checkpoints" "carries" "[[B" .null) (F_states : Fld Z h0 a "com/example/classic_strings/classicstrings/compare/Matrix$Checkpoints" "states" "[[J" .null) (g_a : n0 ≤ a) (hd : bottom - top = (4 : Int32)) (htz : ¬ tier = 0) (hz1 : (((4 : Int32) + tier) - (1 : Int32)) / tier = z1) (hz1n : ¬ z1 < 0) (hz1c : z1.toNatClampNeg ≤ 8) (hcz : ¬ cc = 0) (hch : ((w + cc) - (1 : Int32)) / cc = ch) (hrn : ¬ ((2 : Int32) * ch) < 0) (hrc : ((2 : Int32) * ch).toNatClampNeg ≤ 2048) :
    own_Met l Z (⟨"com/example/classic_strings/classicstrings/compare/Matrix$Checkpoints", "<init>", "(IIIII)V"⟩ : MethodName) prog_14_method_1_code 8 none ws ({ frames := 1, cells := 6, slots := 8204, locals := 12 } : Room) #[(.ref a), (.int top), (.int bottom), (.int w), (.int tier), (.int cc)] h0 (own_QC Z h0 n0 a (4 : Int32) ((2 : Int32) * ch) top) := by
  refine own_met rmC_4_pn ?_
  intro pP eE sS mI bB mT cC s₁ hx hby hml hown hnm hret hlk hZ X0 e0
  replace hown : sS.vm.findClass "com/example/classic_strings/classicstrings/compare/Matrix$Checkpoints" = some mI.cls := hown
  refine own_cast (rmC_4_ef mI a top bottom w tier cc) ?_
  refine own_go (T' := s₁) (g' := (mkF mI 1 #[.val (.ref a), .val (.int top), .val (.int bottom), .val (.int w), .val (.int tier), .val (.int cc), .unset, .unset] [(.ref a)])) (fun t_ kt_ => XS.aloadN X0.here hx rfl (hb hby d1_0) rfl rfl kt_) ?_
  obtain ⟨Ta4_1, Xa4_1, ea4_1, sta4_1⟩ := initO X0 hx hZ hown (hw _ (List.mem_of_getElem? (i := 8) rfl)) (hw _ (List.mem_of_getElem? (i := 9) rfl)) (hw _ (List.mem_of_getElem? (i := 10) rfl)) e0 (g := (mkF mI 1 #[.val (.ref a), .val (.int top), .val (.int bottom), .val (.int w), .val (.int tier), .val (.int cc), .unset, .unset] [(.ref a)])) rfl (by rw [hml]; rfl) rfl (hb hby d1_1) (by decide) (W := 0) (by show 2 * 0 + _ ≤ _; exact Nat.le_of_eq rfl) (by decide)
  refine own_go (T' := Ta4_1) (g' := (mkF mI 4 #[.val (.ref a), .val (.int top), .val (.int bottom), .val (.int w), .val (.int tier), .val (.int cc), .unset, .unset] [])) (fun t_ kt_ => sta4_1 _ kt_) ?_
  refine own_go (T' := Ta4_1) (g' := (mkF mI 5 #[.val (.ref a), .val (.int top), .val (.int bottom), .val (.int w), .val (.int tier), .val (.int cc), .unset, .unset] [(.ref a)])) (fun t_ kt_ => XS.aloadN Xa4_1.here hx rfl (hb hby d1_4) rfl rfl kt_) ?_
  refine own_go (T' := Ta4_1) (g' := (mkF mI 6 #[.val (.ref a), .val (.int top), .val (.int bottom), .val (.int w), .val (.int tier), .val (.int cc), .unset, .unset] [(.int top), (.ref a)])) (fun t_ kt_ => XS.iloadN Xa4_1.here hx rfl (hb hby d1_5) rfl kt_) ?_
  obtain ⟨Ta4_2, ha4_2, Xa4_2, ea4_2, Wa4_2, sta4_2⟩ := putF Xa4_1 hx hZ hown (host := "") (Or.inl (hw _ (List.mem_of_getElem? (i := 11) rfl))) Via.refl ea4_1 F_top E_a (Or.inr ⟨(hw _ (List.mem_of_getElem? (i := 12) rfl)), rfl, hnm⟩) (hw _ (List.mem_of_getElem? (i := 3) rfl)) (ty := .int) (by decide) rfl rfl (g := (mkF mI 6 #[.val (.ref a), .val (.int top), .val (.int bottom), .val (.int w), .val (.int tier), .val (.int cc), .unset, .unset] [(.int top), (.ref a)])) rfl rfl (hb hby d1_6)
  have Fwa4_2 : Fld Z ha4_2 a "com/example/classic_strings/classicstrings/compare/Matrix$Checkpoints" "top" "I" (.int top) := Fld.same Wa4_2 F_top
  have Fa4_3 := Fld.other Wa4_2 F_tierStrips (Or.inr (slot_ne (Or.inr (hw _ (List.mem_of_getElem? (i := 14) rfl))) (Or.inr (hw _ (List.mem_of_getElem? (i := 12) rfl))) (by decide) (t := .int) (t' := .int) (by decide) (by decide)))
  have Fa4_4 := Fld.other Wa4_2 F_chunkColumns (Or.inr (slot_ne (Or.inr (hw _ (List.mem_of_getElem? (i := 16) rfl))) (Or.inr (hw _ (List.mem_of_getElem? (i := 12) rfl))) (by decide) (t := .int) (t' := .int) (by decide) (by decide)))
  have Fa4_5 := Fld.other Wa4_2 F_carries (Or.inr (slot_ne (Or.inr (hw _ (List.mem_of_getElem? (i := 20) rfl))) (Or.inr (hw _ (List.mem_of_getElem? (i := 12) rfl))) (by decide) (t := (.array (.array .byte))) (t' := .int) (by decide) (by decide)))
  have Fa4_6 := Fld.other Wa4_2 F_states (Or.inr (slot_ne (Or.inr (hw _ (List.mem_of_getElem? (i := 24) rfl))) (Or.inr (hw _ (List.mem_of_getElem? (i := 12) rfl))) (by decide) (t := (.array (.array .long))) (t' := .int) (by decide) (by decide)))
  have Ea4_7 := Exa.wr Wa4_2 E_a
  have Za4_8 : n0 ≤ ha4_2.size := Nat.le_trans Z0 (Nat.le_of_eq (Wr.size Wa4_2).symm)
  have Ka4_9 : Keep h0 ha4_2 [a] := (Keep.refl h0 [a]).wr Wa4_2 (Or.inl (List.mem_of_getElem? (i := 0) rfl))
  have Na4_2 := Fr.snoc Xa4_2 (Fr.nil n0) g_a
  refine own_go (T' := Ta4_2) (g' := (mkF mI 9 #[.val (.ref a), .val (.int top), .val (.int bottom), .val (.int w), .val (.int tier), .val (.int cc), .unset, .unset] [])) (fun t_ kt_ => sta4_2 _ kt_) ?_
  refine own_go (T' := Ta4_2) (g' := (mkF mI 10 #[.val (.ref a), .val (.int top), .val (.int bottom), .val (.int w), .val (.int tier), .val (.int cc), .unset, .unset] [(.ref a)])) (fun t_ kt_ => XS.aloadN Xa4_2.here hx rfl (hb hby d1_9) rfl rfl kt_) ?_
  refine own_go (T' := Ta4_2) (g' := (mkF mI 12 #[.val (.ref a), .val (.int top), .val (.int bottom), .val (.int w), .val (.int tier), .val (.int cc), .unset, .unset] [(.int tier), (.ref a)])) (fun t_ kt_ => XS.iload Xa4_2.here hx rfl (hb hby d1_10) rfl kt_) ?_
  obtain ⟨Ta4_10, ha4_10, Xa4_10, ea4_10, Wa4_10, sta4_10⟩ := putF Xa4_2 hx hZ hown (host := "") (Or.inl (hw _ (List.mem_of_getElem? (i := 13) rfl))) Via.refl ea4_2 Fa4_3 Ea4_7 (Or.inr ⟨(hw _ (List.mem_of_getElem? (i := 14) rfl)), rfl, hnm⟩) (hw _ (List.mem_of_getElem? (i := 3) rfl)) (ty := .int) (by decide) rfl rfl (g := (mkF mI 12 #[.val (.ref a), .val (.int top), .val (.int bottom), .val (.int w), .val (.int tier), .val (.int cc), .unset, .unset] [(.int tier), (.ref a)])) rfl rfl (hb hby d1_12)
  have Fwa4_10 : Fld Z ha4_10 a "com/example/classic_strings/classicstrings/compare/Matrix$Checkpoints" "tierStrips" "I" (.int tier) := Fld.same Wa4_10 Fa4_3
  have Fa4_11 := Fld.other Wa4_10 Fwa4_2 (Or.inr (slot_ne (Or.inr (hw _ (List.mem_of_getElem? (i := 12) rfl))) (Or.inr (hw _ (List.mem_of_getElem? (i := 14) rfl))) (by decide) (t := .int) (t' := .int) (by decide) (by decide)))
  have Fa4_12 := Fld.other Wa4_10 Fa4_4 (Or.inr (slot_ne (Or.inr (hw _ (List.mem_of_getElem? (i := 16) rfl))) (Or.inr (hw _ (List.mem_of_getElem? (i := 14) rfl))) (by decide) (t := .int) (t' := .int) (by decide) (by decide)))
  have Fa4_13 := Fld.other Wa4_10 Fa4_5 (Or.inr (slot_ne (Or.inr (hw _ (List.mem_of_getElem? (i := 20) rfl))) (Or.inr (hw _ (List.mem_of_getElem? (i := 14) rfl))) (by decide) (t := (.array (.array .byte))) (t' := .int) (by decide) (by decide)))
  have Fa4_14 := Fld.other Wa4_10 Fa4_6 (Or.inr (slot_ne (Or.inr (hw _ (List.mem_of_getElem? (i := 24) rfl))) (Or.inr (hw _ (List.mem_of_getElem? (i := 14) rfl))) (by decide) (t := (.array (.array .long))) (t' := .int) (by decide) (by decide)))
  have Ea4_15 := Exa.wr Wa4_10 Ea4_7
  have Za4_16 : n0 ≤ ha4_10.size := Nat.le_trans Za4_8 (Nat.le_of_eq (Wr.size Wa4_10).symm)
  have Ka4_17 : Keep h0 ha4_10 [a] := Ka4_9.wr Wa4_10 (Or.inl (List.mem_of_getElem? (i := 0) rfl))
  have Na4_10 := Fr.snoc Xa4_10 Na4_2 g_a
  refine own_go (T' := Ta4_10) (g' := (mkF mI 15 #[.val (.ref a), .val (.int top), .val (.int bottom), .val (.int w), .val (.int tier), .val (.int cc), .unset, .unset] [])) (fun t_ kt_ => sta4_10 _ kt_) ?_
  refine own_go (T' := Ta4_10) (g' := (mkF mI 16 #[.val (.ref a), .val (.int top), .val (.int bottom), .val (.int w), .val (.int tier), .val (.int cc), .unset, .unset] [(.ref a)])) (fun t_ kt_ => XS.aloadN Xa4_10.here hx rfl (hb hby d1_15) rfl rfl kt_) ?_
  refine own_go (T' := Ta4_10) (g' := (mkF mI 18 #[.val (.ref a), .val (.int top), .val (.int bottom), .val (.int w), .val (.int tier), .val (.int cc), .unset, .unset] [(.int cc), (.ref a)])) (fun t_ kt_ => XS.iload Xa4_10.here hx rfl (hb hby d1_16) rfl kt_) ?_
  obtain ⟨Ta4_18, ha4_18, Xa4_18, ea4_18, Wa4_18, sta4_18⟩ := putF Xa4_10 hx hZ hown (host := "") (Or.inl (hw _ (List.mem_of_getElem? (i := 15) rfl))) Via.refl ea4_10 Fa4_12 Ea4_15 (Or.inr ⟨(hw _ (List.mem_of_getElem? (i := 16) rfl)), rfl, hnm⟩) (hw _ (List.mem_of_getElem? (i := 3) rfl)) (ty := .int) (by decide) rfl rfl (g := (mkF mI 18 #[.val (.ref a), .val (.int top), .val (.int bottom), .val (.int w), .val (.int tier), .val (.int cc), .unset, .unset] [(.int cc), (.ref a)])) rfl rfl (hb hby d1_18)
  have Fwa4_18 : Fld Z ha4_18 a "com/example/classic_strings/classicstrings/compare/Matrix$Checkpoints" "chunkColumns" "I" (.int cc) := Fld.same Wa4_18 Fa4_12
  have Fa4_19 := Fld.other Wa4_18 Fa4_11 (Or.inr (slot_ne (Or.inr (hw _ (List.mem_of_getElem? (i := 12) rfl))) (Or.inr (hw _ (List.mem_of_getElem? (i := 16) rfl))) (by decide) (t := .int) (t' := .int) (by decide) (by decide)))
  have Fa4_20 := Fld.other Wa4_18 Fwa4_10 (Or.inr (slot_ne (Or.inr (hw _ (List.mem_of_getElem? (i := 14) rfl))) (Or.inr (hw _ (List.mem_of_getElem? (i := 16) rfl))) (by decide) (t := .int) (t' := .int) (by decide) (by decide)))
  have Fa4_21 := Fld.other Wa4_18 Fa4_13 (Or.inr (slot_ne (Or.inr (hw _ (List.mem_of_getElem? (i := 20) rfl))) (Or.inr (hw _ (List.mem_of_getElem? (i := 16) rfl))) (by decide) (t := (.array (.array .byte))) (t' := .int) (by decide) (by decide)))
  have Fa4_22 := Fld.other Wa4_18 Fa4_14 (Or.inr (slot_ne (Or.inr (hw _ (List.mem_of_getElem? (i := 24) rfl))) (Or.inr (hw _ (List.mem_of_getElem? (i := 16) rfl))) (by decide) (t := (.array (.array .long))) (t' := .int) (by decide) (by decide)))
  have Ea4_23 := Exa.wr Wa4_18 Ea4_15
  have Za4_24 : n0 ≤ ha4_18.size := Nat.le_trans Za4_16 (Nat.le_of_eq (Wr.size Wa4_18).symm)
  have Ka4_25 : Keep h0 ha4_18 [a] := Ka4_17.wr Wa4_18 (Or.inl (List.mem_of_getElem? (i := 0) rfl))
  have Na4_18 := Fr.snoc Xa4_18 Na4_10 g_a
  refine own_go (T' := Ta4_18) (g' := (mkF mI 21 #[.val (.ref a), .val (.int top), .val (.int bottom), .val (.int w), .val (.int tier), .val (.int cc), .unset, .unset] [])) (fun t_ kt_ => sta4_18 _ kt_) ?_
  refine own_go (T' := Ta4_18) (g' := (mkF mI 22 #[.val (.ref a), .val (.int top), .val (.int bottom), .val (.int w), .val (.int tier), .val (.int cc), .unset, .unset] [(.ref a)])) (fun t_ kt_ => XS.aloadN Xa4_18.here hx rfl (hb hby d1_21) rfl rfl kt_) ?_
  refine own_go (T' := Ta4_18) (g' := (mkF mI 23 #[.val (.ref a), .val (.int top), .val (.int bottom), .val (.int w), .val (.int tier), .val (.int cc), .unset, .unset] [(.int bottom), (.ref a)])) (fun t_ kt_ => XS.iloadN Xa4_18.here hx rfl (hb hby d1_22) rfl kt_) ?_
  refine own_go (T' := Ta4_18) (g' := (mkF mI 24 #[.val (.ref a), .val (.int top), .val (.int bottom), .val (.int w), .val (.int tier), .val (.int cc), .unset, .unset] [(.int top), (.int bottom), (.ref a)])) (fun t_ kt_ => XS.iloadN Xa4_18.here hx rfl (hb hby d1_23) rfl kt_) ?_
  refine own_go (T' := Ta4_18) (g' := (mkF mI 25 #[.val (.ref a), .val (.int top), .val (.int bottom), .val (.int w), .val (.int tier), .val (.int cc), .unset, .unset] [(.int (bottom - top)), (.ref a)])) (fun t_ kt_ => XS.isub Xa4_18.here hx rfl (hb hby d1_24) rfl kt_) ?_
  rw [hd]
  refine own_go (T' := Ta4_18) (g' := (mkF mI 27 #[.val (.ref a), .val (.int top), .val (.int bottom), .val (.int w), .val (.int tier), .val (.int cc), .unset, .unset] [(.int tier), (.int (4 : Int32)), (.ref a)])) (fun t_ kt_ => XS.iload Xa4_18.here hx rfl (hb hby d1_25) rfl kt_) ?_
  refine own_go (T' := Ta4_18) (g' := (mkF mI 28 #[.val (.ref a), .val (.int top), .val (.int bottom), .val (.int w), .val (.int tier), .val (.int cc), .unset, .unset] [(.int ((4 : Int32) + tier)), (.ref a)])) (fun t_ kt_ => XS.iadd Xa4_18.here hx rfl (hb hby d1_27) rfl kt_) ?_
  refine own_go (T' := Ta4_18) (g' := (mkF mI 29 #[.val (.ref a), .val (.int top), .val (.int bottom), .val (.int w), .val (.int tier), .val (.int cc), .unset, .unset] [(.int (1 : Int32)), (.int ((4 : Int32) + tier)), (.ref a)])) (fun t_ kt_ => XS.iconst Xa4_18.here hx rfl (hb hby d1_28) kt_) ?_
  refine own_go (T' := Ta4_18) (g' := (mkF mI 30 #[.val (.ref a), .val (.int top), .val (.int bottom), .val (.int w), .val (.int tier), .val (.int cc), .unset, .unset] [(.int (((4 : Int32) + tier) - (1 : Int32))), (.ref a)])) (fun t_ kt_ => XS.isub Xa4_18.here hx rfl (hb hby d1_29) rfl kt_) ?_
  refine own_go (T' := Ta4_18) (g' := (mkF mI 32 #[.val (.ref a), .val (.int top), .val (.int bottom), .val (.int w), .val (.int tier), .val (.int cc), .unset, .unset] [(.int tier), (.int (((4 : Int32) + tier) - (1 : Int32))), (.ref a)])) (fun t_ kt_ => XS.iload Xa4_18.here hx rfl (hb hby d1_30) rfl kt_) ?_
  refine own_go (T' := Ta4_18) (g' := (mkF mI 33 #[.val (.ref a), .val (.int top), .val (.int bottom), .val (.int w), .val (.int tier), .val (.int cc), .unset, .unset] [(.int ((((4 : Int32) + tier) - (1 : Int32)) / tier)), (.ref a)])) (fun t_ kt_ => XS.idiv Xa4_18.here hx rfl (hb hby d1_32) rfl htz kt_) ?_
  rw [hz1]
  obtain ⟨Ta4_26, ha4_26, ka4_26, Xa4_26, ea4_26, Exa4_26, Aa4_26, Eca4_26, Oa4_26, sta4_26⟩ := newRA Xa4_18 hx hZ (C := "[B") (ty := .byte) hown (by decide) (hw _ (List.mem_of_getElem? (i := 17) rfl)) (hw _ (List.mem_of_getElem? (i := 18) rfl)) ea4_18 (g := (mkF mI 33 #[.val (.ref a), .val (.int top), .val (.int bottom), .val (.int w), .val (.int tier), .val (.int cc), .unset, .unset] [(.int z1), (.ref a)])) rfl (hb hby d1_33) rfl hz1n (cap := 8) hz1c (by decide) (by decide) (by decide) (ad := "[[B") (by decide)
  obtain ⟨ba4_26, ga4_26⟩ : ∃ z, z = ha4_18.size := ⟨_, rfl⟩
  rw [← ga4_26] at Aa4_26 Eca4_26 sta4_26
  have ne_a_ba4_26 : a ≠ ba4_26 := Nat.ne_of_lt (Nat.lt_of_lt_of_le (Fa4_19.lt) (Nat.le_of_eq ga4_26.symm))
  have g_ba4_26 : n0 ≤ ba4_26 := Nat.le_trans Za4_24 (Nat.le_of_eq ga4_26.symm)
  have sz_ba4_26 : h0.size ≤ ba4_26 := Nat.le_trans Ka4_25.1 (Nat.le_of_eq ga4_26.symm)
  have Fa4_27 := Fld.ext Exa4_26 Fa4_19
  have Fa4_28 := Fld.ext Exa4_26 Fa4_20
  have Fa4_29 := Fld.ext Exa4_26 Fwa4_18
  have Fa4_30 := Fld.ext Exa4_26 Fa4_21
  have Fa4_31 := Fld.ext Exa4_26 Fa4_22
  have Ea4_32 := Exa.ext Exa4_26 Ea4_23
  have Za4_33 : n0 ≤ ha4_26.size := Nat.le_trans Za4_24 Exa4_26.1
  have Ka4_34 : Keep h0 ha4_26 [a] := Ka4_25.ext Exa4_26
  have Va4_26 : Arv Z ha4_26 ba4_26 ka4_26 (.array .byte) z1 [] .null := Arv.new Aa4_26 hz1n
  refine own_go (T' := Ta4_26) (g' := (mkF mI 36 #[.val (.ref a), .val (.int top), .val (.int bottom), .val (.int w), .val (.int tier), .val (.int cc), .unset, .unset] [(.ref ba4_26), (.ref a)])) (fun t_ kt_ => sta4_26 _ kt_) ?_
  obtain ⟨Ta4_35, ha4_35, Xa4_35, ea4_35, Wa4_35, sta4_35⟩ := putF Xa4_26 hx hZ hown (host := "") (Or.inl (hw _ (List.mem_of_getElem? (i := 19) rfl))) Via.refl ea4_26 Fa4_30 Ea4_32 (Or.inr ⟨(hw _ (List.mem_of_getElem? (i := 20) rfl)), rfl, hnm⟩) (hw _ (List.mem_of_getElem? (i := 3) rfl)) (ty := (.array (.array .byte))) (by decide) rfl rfl (g := (mkF mI 36 #[.val (.ref a), .val (.int top), .val (.int bottom), .val (.int w), .val (.int tier), .val (.int cc), .unset, .unset] [(.ref ba4_26), (.ref a)])) rfl rfl (hb hby d1_36)
  have Fwa4_35 : Fld Z ha4_35 a "com/example/classic_strings/classicstrings/compare/Matrix$Checkpoints" "carries" "[[B" (.ref ba4_26) := Fld.same Wa4_35 Fa4_30
  have Fa4_36 := Fld.other Wa4_35 Fa4_27 (Or.inr (slot_ne (Or.inr (hw _ (List.mem_of_getElem? (i := 12) rfl))) (Or.inr (hw _ (List.mem_of_getElem? (i := 20) rfl))) (by decide) (t := .int) (t' := (.array (.array .byte))) (by decide) (by decide)))
  have Fa4_37 := Fld.other Wa4_35 Fa4_28 (Or.inr (slot_ne (Or.inr (hw _ (List.mem_of_getElem? (i := 14) rfl))) (Or.inr (hw _ (List.mem_of_getElem? (i := 20) rfl))) (by decide) (t := .int) (t' := (.array (.array .byte))) (by decide) (by decide)))
  have Fa4_38 := Fld.other Wa4_35 Fa4_29 (Or.inr (slot_ne (Or.inr (hw _ (List.mem_of_getElem? (i := 16) rfl))) (Or.inr (hw _ (List.mem_of_getElem? (i := 20) rfl))) (by decide) (t := .int) (t' := (.array (.array .byte))) (by decide) (by decide)))
  have Fa4_39 := Fld.other Wa4_35 Fa4_31 (Or.inr (slot_ne (Or.inr (hw _ (List.mem_of_getElem? (i := 24) rfl))) (Or.inr (hw _ (List.mem_of_getElem? (i := 20) rfl))) (by decide) (t := (.array (.array .long))) (t' := (.array (.array .byte))) (by decide) (by decide)))
  have Ea4_40 := Exa.wr Wa4_35 Ea4_32
  have Ea4_41 := Exa.wr Wa4_35 Eca4_26
  have Va4_42 := Arv.other Va4_26 Wa4_35 (Ne.symm ne_a_ba4_26)
  have Za4_43 : n0 ≤ ha4_35.size := Nat.le_trans Za4_33 (Nat.le_of_eq (Wr.size Wa4_35).symm)
  have Ka4_44 : Keep h0 ha4_35 [a] := Ka4_34.wr Wa4_35 (Or.inl (List.mem_of_getElem? (i := 0) rfl))
  have Na4_35 := Fr.snoc Xa4_35 Na4_18 g_a
  refine own_go (T' := Ta4_35) (g' := (mkF mI 39 #[.val (.ref a), .val (.int top), .val (.int bottom), .val (.int w), .val (.int tier), .val (.int cc), .unset, .unset] [])) (fun t_ kt_ => sta4_35 _ kt_) ?_
  refine own_go (T' := Ta4_35) (g' := (mkF mI 40 #[.val (.ref a), .val (.int top), .val (.int bottom), .val (.int w), .val (.int tier), .val (.int cc), .unset, .unset] [(.int w)])) (fun t_ kt_ => XS.iloadN Xa4_35.here hx rfl (hb hby d1_39) rfl kt_) ?_
  refine own_go (T' := Ta4_35) (g' := (mkF mI 42 #[.val (.ref a), .val (.int top), .val (.int bottom), .val (.int w), .val (.int tier), .val (.int cc), .unset, .unset] [(.int cc), (.int w)])) (fun t_ kt_ => XS.iload Xa4_35.here hx rfl (hb hby d1_40) rfl kt_) ?_
  refine own_go (T' := Ta4_35) (g' := (mkF mI 43 #[.val (.ref a), .val (.int top), .val (.int bottom), .val (.int w), .val (.int tier), .val (.int cc), .unset, .unset] [(.int (w + cc))])) (fun t_ kt_ => XS.iadd Xa4_35.here hx rfl (hb hby d1_42) rfl kt_) ?_
  refine own_go (T' := Ta4_35) (g' := (mkF mI 44 #[.val (.ref a), .val (.int top), .val (.int bottom), .val (.int w), .val (.int tier), .val (.int cc), .unset, .unset] [(.int (1 : Int32)), (.int (w + cc))])) (fun t_ kt_ => XS.iconst Xa4_35.here hx rfl (hb hby d1_43) kt_) ?_
  refine own_go (T' := Ta4_35) (g' := (mkF mI 45 #[.val (.ref a), .val (.int top), .val (.int bottom), .val (.int w), .val (.int tier), .val (.int cc), .unset, .unset] [(.int ((w + cc) - (1 : Int32)))])) (fun t_ kt_ => XS.isub Xa4_35.here hx rfl (hb hby d1_44) rfl kt_) ?_
  refine own_go (T' := Ta4_35) (g' := (mkF mI 47 #[.val (.ref a), .val (.int top), .val (.int bottom), .val (.int w), .val (.int tier), .val (.int cc), .unset, .unset] [(.int cc), (.int ((w + cc) - (1 : Int32)))])) (fun t_ kt_ => XS.iload Xa4_35.here hx rfl (hb hby d1_45) rfl kt_) ?_
  refine own_go (T' := Ta4_35) (g' := (mkF mI 48 #[.val (.ref a), .val (.int top), .val (.int bottom), .val (.int w), .val (.int tier), .val (.int cc), .unset, .unset] [(.int (((w + cc) - (1 : Int32)) / cc))])) (fun t_ kt_ => XS.idiv Xa4_35.here hx rfl (hb hby d1_47) rfl hcz kt_) ?_
  rw [hch]
  refine own_go (T' := Ta4_35) (g' := (mkF mI 50 #[.val (.ref a), .val (.int top), .val (.int bottom), .val (.int w), .val (.int tier), .val (.int cc), .val (.int ch), .unset] [])) (fun t_ kt_ => XS.istore Xa4_35.here hx rfl (hb hby d1_48) rfl (l' := #[.val (.ref a), .val (.int top), .val (.int bottom), .val (.int w), .val (.int tier), .val (.int cc), .val (.int ch), .unset]) rfl kt_) ?_
  refine own_go (T' := Ta4_35) (g' := (mkF mI 51 #[.val (.ref a), .val (.int top), .val (.int bottom), .val (.int w), .val (.int tier), .val (.int cc), .val (.int ch), .unset] [(.ref a)])) (fun t_ kt_ => XS.aloadN Xa4_35.here hx rfl (hb hby d1_50) rfl rfl kt_) ?_
  refine own_go (T' := Ta4_35) (g' := (mkF mI 52 #[.val (.ref a), .val (.int top), .val (.int bottom), .val (.int w), .val (.int tier), .val (.int cc), .val (.int ch), .unset] [(.int bottom), (.ref a)])) (fun t_ kt_ => XS.iloadN Xa4_35.here hx rfl (hb hby d1_51) rfl kt_) ?_
  refine own_go (T' := Ta4_35) (g' := (mkF mI 53 #[.val (.ref a), .val (.int top), .val (.int bottom), .val (.int w), .val (.int tier), .val (.int cc), .val (.int ch), .unset] [(.int top), (.int bottom), (.ref a)])) (fun t_ kt_ => XS.iloadN Xa4_35.here hx rfl (hb hby d1_52) rfl kt_) ?_
  refine own_go (T' := Ta4_35) (g' := (mkF mI 54 #[.val (.ref a), .val (.int top), .val (.int bottom), .val (.int w), .val (.int tier), .val (.int cc), .val (.int ch), .unset] [(.int (bottom - top)), (.ref a)])) (fun t_ kt_ => XS.isub Xa4_35.here hx rfl (hb hby d1_53) rfl kt_) ?_
  rw [hd]
  obtain ⟨Ta4_45, ha4_45, ka4_45, Xa4_45, ea4_45, Exa4_45, Aa4_45, Eca4_45, Oa4_45, sta4_45⟩ := newRA Xa4_35 hx hZ (C := "[J") (ty := .long) hown (by decide) (hw _ (List.mem_of_getElem? (i := 21) rfl)) (hw _ (List.mem_of_getElem? (i := 22) rfl)) ea4_35 (g := (mkF mI 54 #[.val (.ref a), .val (.int top), .val (.int bottom), .val (.int w), .val (.int tier), .val (.int cc), .val (.int ch), .unset] [(.int (4 : Int32)), (.ref a)])) rfl (hb hby d1_54) rfl (by decide) (cap := 4) (by decide) (by decide) (by decide) (by decide) (ad := "[[J") (by decide)
  obtain ⟨ba4_45, ga4_45⟩ : ∃ z, z = ha4_35.size := ⟨_, rfl⟩
  rw [← ga4_45] at Aa4_45 Eca4_45 sta4_45
  have ne_a_ba4_45 : a ≠ ba4_45 := Nat.ne_of_lt (Nat.lt_of_lt_of_le (Fa4_36.lt) (Nat.le_of_eq ga4_45.symm))
  have ne_ba4_26_ba4_45 : ba4_26 ≠ ba4_45 := Nat.ne_of_lt (Nat.lt_of_lt_of_le (Ea4_41.lt) (Nat.le_of_eq ga4_45.symm))
  have g_ba4_45 : n0 ≤ ba4_45 := Nat.le_trans Za4_43 (Nat.le_of_eq ga4_45.symm)
  have sz_ba4_45 : h0.size ≤ ba4_45 := Nat.le_trans Ka4_44.1 (Nat.le_of_eq ga4_45.symm)
  have Fa4_46 := Fld.ext Exa4_45 Fa4_36
  have Fa4_47 := Fld.ext Exa4_45 Fa4_37
  have Fa4_48 := Fld.ext Exa4_45 Fa4_38
  have Fa4_49 := Fld.ext Exa4_45 Fwa4_35
  have Fa4_50 := Fld.ext Exa4_45 Fa4_39
  have Ea4_51 := Exa.ext Exa4_45 Ea4_40
  have Ea4_52 := Exa.ext Exa4_45 Ea4_41
  have Va4_53 := Arv.ext Va4_42 Exa4_45
  have Za4_54 : n0 ≤ ha4_45.size := Nat.le_trans Za4_43 Exa4_45.1
  have Ka4_55 : Keep h0 ha4_45 [a] := Ka4_44.ext Exa4_45
  have Va4_45 : Arv Z ha4_45 ba4_45 ka4_45 (.array .long) (4 : Int32) [] .null := Arv.new Aa4_45 (by decide)
  have Va4_56 : Arv Z ha4_45 ba4_45 ka4_45 (.array .long) (4 : Int32) [.null, .null, .null, .null] .null := Arv.pad Va4_45 (pad_rep [] .null 4)
  refine own_go (T' := Ta4_45) (g' := (mkF mI 57 #[.val (.ref a), .val (.int top), .val (.int bottom), .val (.int w), .val (.int tier), .val (.int cc), .val (.int ch), .unset] [(.ref ba4_45), (.ref a)])) (fun t_ kt_ => sta4_45 _ kt_) ?_
  obtain ⟨Ta4_57, ha4_57, Xa4_57, ea4_57, Wa4_57, sta4_57⟩ := putF Xa4_45 hx hZ hown (host := "") (Or.inl (hw _ (List.mem_of_getElem? (i := 23) rfl))) Via.refl ea4_45 Fa4_50 Ea4_51 (Or.inr ⟨(hw _ (List.mem_of_getElem? (i := 24) rfl)), rfl, hnm⟩) (hw _ (List.mem_of_getElem? (i := 3) rfl)) (ty := (.array (.array .long))) (by decide) rfl rfl (g := (mkF mI 57 #[.val (.ref a), .val (.int top), .val (.int bottom), .val (.int w), .val (.int tier), .val (.int cc), .val (.int ch), .unset] [(.ref ba4_45), (.ref a)])) rfl rfl (hb hby d1_57)
  have Fwa4_57 : Fld Z ha4_57 a "com/example/classic_strings/classicstrings/compare/Matrix$Checkpoints" "states" "[[J" (.ref ba4_45) := Fld.same Wa4_57 Fa4_50
  have Fa4_58 := Fld.other Wa4_57 Fa4_46 (Or.inr (slot_ne (Or.inr (hw _ (List.mem_of_getElem? (i := 12) rfl))) (Or.inr (hw _ (List.mem_of_getElem? (i := 24) rfl))) (by decide) (t := .int) (t' := (.array (.array .long))) (by decide) (by decide)))
  have Fa4_59 := Fld.other Wa4_57 Fa4_47 (Or.inr (slot_ne (Or.inr (hw _ (List.mem_of_getElem? (i := 14) rfl))) (Or.inr (hw _ (List.mem_of_getElem? (i := 24) rfl))) (by decide) (t := .int) (t' := (.array (.array .long))) (by decide) (by decide)))
  have Fa4_60 := Fld.other Wa4_57 Fa4_48 (Or.inr (slot_ne (Or.inr (hw _ (List.mem_of_getElem? (i := 16) rfl))) (Or.inr (hw _ (List.mem_of_getElem? (i := 24) rfl))) (by decide) (t := .int) (t' := (.array (.array .long))) (by decide) (by decide)))
  have Fa4_61 := Fld.other Wa4_57 Fa4_49 (Or.inr (slot_ne (Or.inr (hw _ (List.mem_of_getElem? (i := 20) rfl))) (Or.inr (hw _ (List.mem_of_getElem? (i := 24) rfl))) (by decide) (t := (.array (.array .byte))) (t' := (.array (.array .long))) (by decide) (by decide)))
  have Ea4_62 := Exa.wr Wa4_57 Ea4_51
  have Ea4_63 := Exa.wr Wa4_57 Ea4_52
  have Ea4_64 := Exa.wr Wa4_57 Eca4_45
  have Va4_65 := Arv.other Va4_53 Wa4_57 (Ne.symm ne_a_ba4_26)
  have Va4_66 := Arv.other Va4_56 Wa4_57 (Ne.symm ne_a_ba4_45)
  have Za4_67 : n0 ≤ ha4_57.size := Nat.le_trans Za4_54 (Nat.le_of_eq (Wr.size Wa4_57).symm)
  have Ka4_68 : Keep h0 ha4_57 [a] := Ka4_55.wr Wa4_57 (Or.inl (List.mem_of_getElem? (i := 0) rfl))
  have Na4_57 := Fr.snoc Xa4_57 Na4_35 g_a
  refine own_go (T' := Ta4_57) (g' := (mkF mI 60 #[.val (.ref a), .val (.int top), .val (.int bottom), .val (.int w), .val (.int tier), .val (.int cc), .val (.int ch), .unset] [])) (fun t_ kt_ => sta4_57 _ kt_) ?_
  refine own_go (T' := Ta4_57) (g' := (mkF mI 61 #[.val (.ref a), .val (.int top), .val (.int bottom), .val (.int w), .val (.int tier), .val (.int cc), .val (.int ch), .unset] [(.int (0 : Int32))])) (fun t_ kt_ => XS.iconst Xa4_57.here hx rfl (hb hby d1_60) kt_) ?_
  refine own_go (T' := Ta4_57) (g' := (mkF mI 63 #[.val (.ref a), .val (.int top), .val (.int bottom), .val (.int w), .val (.int tier), .val (.int cc), .val (.int ch), .val (.int (0 : Int32))] [])) (fun t_ kt_ => XS.istore Xa4_57.here hx rfl (hb hby d1_61) rfl (l' := #[.val (.ref a), .val (.int top), .val (.int bottom), .val (.int w), .val (.int tier), .val (.int cc), .val (.int ch), .val (.int (0 : Int32))]) rfl kt_) ?_
  refine own_go (T' := Ta4_57) (g' := (mkF mI 65 #[.val (.ref a), .val (.int top), .val (.int bottom), .val (.int w), .val (.int tier), .val (.int cc), .val (.int ch), .val (.int (0 : Int32))] [(.int (0 : Int32))])) (fun t_ kt_ => XS.iload Xa4_57.here hx rfl (hb hby d1_63) rfl kt_) ?_
  refine own_go (T' := Ta4_57) (g' := (mkF mI 66 #[.val (.ref a), .val (.int top), .val (.int bottom), .val (.int w), .val (.int tier), .val (.int cc), .val (.int ch), .val (.int (0 : Int32))] [(.ref a), (.int (0 : Int32))])) (fun t_ kt_ => XS.aloadN Xa4_57.here hx rfl (hb hby d1_65) rfl rfl kt_) ?_
  obtain ⟨Ta4_69, Xa4_69, ea4_69, sta4_69⟩ := getF Xa4_57 hx hZ hown (host := "") (Or.inl (hw _ (List.mem_of_getElem? (i := 23) rfl))) Via.refl ea4_57 Fwa4_57 (g := (mkF mI 66 #[.val (.ref a), .val (.int top), .val (.int bottom), .val (.int w), .val (.int tier), .val (.int cc), .val (.int ch), .val (.int (0 : Int32))] [(.ref a), (.int (0 : Int32))])) rfl rfl (hb hby d1_66)
  refine own_go (T' := Ta4_69) (g' := (mkF mI 69 #[.val (.ref a), .val (.int top), .val (.int bottom), .val (.int w), .val (.int tier), .val (.int cc), .val (.int ch), .val (.int (0 : Int32))] [(.ref ba4_45), (.int (0 : Int32))])) (fun t_ kt_ => sta4_69 _ kt_) ?_
  obtain ⟨cla4_70, Ara4_70, qa4_70, Sa4_70, Nga4_70, Ha4_70, Ga4_70⟩ := id Va4_66
  refine own_go (T' := Ta4_69) (g' := (mkF mI 70 #[.val (.ref a), .val (.int top), .val (.int bottom), .val (.int w), .val (.int tier), .val (.int cc), .val (.int ch), .val (.int (0 : Int32))] [(.int (4 : Int32)), (.int (0 : Int32))])) (fun t_ kt_ => own_len Xa4_69 hx hZ ea4_69 Ara4_70 (len_of Sa4_70 Nga4_70) (g := (mkF mI 69 #[.val (.ref a), .val (.int top), .val (.int bottom), .val (.int w), .val (.int tier), .val (.int cc), .val (.int ch), .val (.int (0 : Int32))] [(.ref ba4_45), (.int (0 : Int32))])) rfl rfl (hb hby d1_69) _ kt_) ?_
  refine own_go (T' := Ta4_69) (g' := (mkF mI 73 #[.val (.ref a), .val (.int top), .val (.int bottom), .val (.int w), .val (.int tier), .val (.int cc), .val (.int ch), .val (.int (0 : Int32))] [])) (fun t_ kt_ => XS.icmpNo Xa4_69.here hx rfl (hb hby d1_70) rfl (tlt (by decide : (0 : Int32) < (4 : Int32))).2.1 kt_) ?_
  refine own_go (T' := Ta4_69) (g' := (mkF mI 74 #[.val (.ref a), .val (.int top), .val (.int bottom), .val (.int w), .val (.int tier), .val (.int cc), .val (.int ch), .val (.int (0 : Int32))] [(.ref a)])) (fun t_ kt_ => XS.aloadN Xa4_69.here hx rfl (hb hby d1_73) rfl rfl kt_) ?_
  obtain ⟨Ta4_71, Xa4_71, ea4_71, sta4_71⟩ := getF Xa4_69 hx hZ hown (host := "") (Or.inl (hw _ (List.mem_of_getElem? (i := 23) rfl))) Via.refl ea4_69 Fwa4_57 (g := (mkF mI 74 #[.val (.ref a), .val (.int top), .val (.int bottom), .val (.int w), .val (.int tier), .val (.int cc), .val (.int ch), .val (.int (0 : Int32))] [(.ref a)])) rfl rfl (hb hby d1_74)
  refine own_go (T' := Ta4_71) (g' := (mkF mI 77 #[.val (.ref a), .val (.int top), .val (.int bottom), .val (.int w), .val (.int tier), .val (.int cc), .val (.int ch), .val (.int (0 : Int32))] [(.ref ba4_45)])) (fun t_ kt_ => sta4_71 _ kt_) ?_
  refine own_go (T' := Ta4_71) (g' := (mkF mI 79 #[.val (.ref a), .val (.int top), .val (.int bottom), .val (.int w), .val (.int tier), .val (.int cc), .val (.int ch), .val (.int (0 : Int32))] [(.int (0 : Int32)), (.ref ba4_45)])) (fun t_ kt_ => XS.iload Xa4_71.here hx rfl (hb hby d1_77) rfl kt_) ?_
  refine own_go (T' := Ta4_71) (g' := (mkF mI 80 #[.val (.ref a), .val (.int top), .val (.int bottom), .val (.int w), .val (.int tier), .val (.int cc), .val (.int ch), .val (.int (0 : Int32))] [(.int (2 : Int32)), (.int (0 : Int32)), (.ref ba4_45)])) (fun t_ kt_ => XS.iconst Xa4_71.here hx rfl (hb hby d1_79) kt_) ?_
  refine own_go (T' := Ta4_71) (g' := (mkF mI 82 #[.val (.ref a), .val (.int top), .val (.int bottom), .val (.int w), .val (.int tier), .val (.int cc), .val (.int ch), .val (.int (0 : Int32))] [(.int ch), (.int (2 : Int32)), (.int (0 : Int32)), (.ref ba4_45)])) (fun t_ kt_ => XS.iload Xa4_71.here hx rfl (hb hby d1_80) rfl kt_) ?_
  refine own_go (T' := Ta4_71) (g' := (mkF mI 83 #[.val (.ref a), .val (.int top), .val (.int bottom), .val (.int w), .val (.int tier), .val (.int cc), .val (.int ch), .val (.int (0 : Int32))] [(.int ((2 : Int32) * ch)), (.int (0 : Int32)), (.ref ba4_45)])) (fun t_ kt_ => XS.imul Xa4_71.here hx rfl (hb hby d1_82) rfl kt_) ?_
  obtain ⟨Ta4_72, ha4_72, ka4_72, Xa4_72, ea4_72, Exa4_72, Aa4_72, Eca4_72, sta4_72⟩ := newPE Xa4_71 hx hZ (hw _ (List.mem_of_getElem? (i := 25) rfl)) ea4_71 (g := (mkF mI 83 #[.val (.ref a), .val (.int top), .val (.int bottom), .val (.int w), .val (.int tier), .val (.int cc), .val (.int ch), .val (.int (0 : Int32))] [(.int ((2 : Int32) * ch)), (.int (0 : Int32)), (.ref ba4_45)])) rfl (hb hby d1_83) rfl hrn (cap := 2048) hrc (by decide) (by decide) (by decide) (ad := "[J") (by decide)
  obtain ⟨ba4_72, ga4_72⟩ : ∃ z, z = ha4_57.size := ⟨_, rfl⟩
  rw [← ga4_72] at Aa4_72 Eca4_72 sta4_72
  have ne_a_ba4_72 : a ≠ ba4_72 := Nat.ne_of_lt (Nat.lt_of_lt_of_le (Fa4_58.lt) (Nat.le_of_eq ga4_72.symm))
  have ne_ba4_26_ba4_72 : ba4_26 ≠ ba4_72 := Nat.ne_of_lt (Nat.lt_of_lt_of_le (Ea4_63.lt) (Nat.le_of_eq ga4_72.symm))
  have ne_ba4_45_ba4_72 : ba4_45 ≠ ba4_72 := Nat.ne_of_lt (Nat.lt_of_lt_of_le (Ea4_64.lt) (Nat.le_of_eq ga4_72.symm))
  have g_ba4_72 : n0 ≤ ba4_72 := Nat.le_trans Za4_67 (Nat.le_of_eq ga4_72.symm)
  have sz_ba4_72 : h0.size ≤ ba4_72 := Nat.le_trans Ka4_68.1 (Nat.le_of_eq ga4_72.symm)
  have Fa4_73 := Fld.ext Exa4_72 Fa4_58
  have Fa4_74 := Fld.ext Exa4_72 Fa4_59
  have Fa4_75 := Fld.ext Exa4_72 Fa4_60
  have Fa4_76 := Fld.ext Exa4_72 Fa4_61
  have Fa4_77 := Fld.ext Exa4_72 Fwa4_57
  have Ea4_78 := Exa.ext Exa4_72 Ea4_62
  have Ea4_79 := Exa.ext Exa4_72 Ea4_63
  have Ea4_80 := Exa.ext Exa4_72 Ea4_64
  have Va4_81 := Arv.ext Va4_65 Exa4_72
  have Va4_82 := Arv.ext Va4_66 Exa4_72
  have Za4_83 : n0 ≤ ha4_72.size := Nat.le_trans Za4_67 Exa4_72.1
  have Ka4_84 : Keep h0 ha4_72 [a] := Ka4_68.ext Exa4_72
  have Va4_72 : Arv Z ha4_72 ba4_72 ka4_72 .long ((2 : Int32) * ch) [] (.long (0 : Int64)) := Arv.new Aa4_72 hrn
  refine own_go (T' := Ta4_72) (g' := (mkF mI 85 #[.val (.ref a), .val (.int top), .val (.int bottom), .val (.int w), .val (.int tier), .val (.int cc), .val (.int ch), .val (.int (0 : Int32))] [(.ref ba4_72), (.int (0 : Int32)), (.ref ba4_45)])) (fun t_ kt_ => sta4_72 _ kt_) ?_
  obtain ⟨cla4_85, Ara4_85, qa4_85, Sa4_85, Nga4_85, Ha4_85, Ga4_85⟩ := id Va4_82
  obtain ⟨Ta4_86, ha4_86, Xa4_86, ea4_86, Wa4_86, sta4_86⟩ := stR Xa4_72 hx hZ ea4_72 Ara4_85 (j := (0 : Int32)) (inb_of Sa4_85 ⟨by decide, by decide⟩) rfl (Sto.ofVA Ara4_85 qa4_85 Oa4_45 (Ins.self Eca4_72)) (g := (mkF mI 85 #[.val (.ref a), .val (.int top), .val (.int bottom), .val (.int w), .val (.int tier), .val (.int cc), .val (.int ch), .val (.int (0 : Int32))] [(.ref ba4_72), (.int (0 : Int32)), (.ref ba4_45)])) rfl rfl (hb hby d1_85)
  have Va4_86 : Arv Z ha4_86 ba4_45 ka4_45 (.array .long) (4 : Int32) [(.ref ba4_72), .null, .null, .null] .null := Arv.set Ara4_85 qa4_85 Sa4_85 Nga4_85 Ha4_85 Ga4_85 rfl Wa4_86 0 rfl (Nat.le_of_ble_eq_true rfl)
  have Fa4_87 := Fld.other Wa4_86 Fa4_73 (Or.inl ne_a_ba4_45)
  have Fa4_88 := Fld.other Wa4_86 Fa4_74 (Or.inl ne_a_ba4_45)
  have Fa4_89 := Fld.other Wa4_86 Fa4_75 (Or.inl ne_a_ba4_45)
  have Fa4_90 := Fld.other Wa4_86 Fa4_76 (Or.inl ne_a_ba4_45)
  have Fa4_91 := Fld.other Wa4_86 Fa4_77 (Or.inl ne_a_ba4_45)
  have Ea4_92 := Exa.wr Wa4_86 Ea4_78
  have Ea4_93 := Exa.wr Wa4_86 Ea4_79
  have Ea4_94 := Exa.wr Wa4_86 Ea4_80
  have Ea4_95 := Exa.wr Wa4_86 Eca4_72
  have Va4_96 := Arv.other Va4_81 Wa4_86 ne_ba4_26_ba4_45
  have Va4_98 := Arv.other Va4_72 Wa4_86 (Ne.symm ne_ba4_45_ba4_72)
  have Za4_99 : n0 ≤ ha4_86.size := Nat.le_trans Za4_83 (Nat.le_of_eq (Wr.size Wa4_86).symm)
  have Ka4_100 : Keep h0 ha4_86 [a] := Ka4_84.wr Wa4_86 (Or.inr sz_ba4_45)
  have Na4_86 := Fr.snoc Xa4_86 Na4_57 g_ba4_45
  refine own_go (T' := Ta4_86) (g' := (mkF mI 86 #[.val (.ref a), .val (.int top), .val (.int bottom), .val (.int w), .val (.int tier), .val (.int cc), .val (.int ch), .val (.int (0 : Int32))] [])) (fun t_ kt_ => sta4_86 _ kt_) ?_
  refine own_go (T' := Ta4_86) (g' := (mkF mI 89 #[.val (.ref a), .val (.int top), .val (.int bottom), .val (.int w), .val (.int tier), .val (.int cc), .val (.int ch), .val (.int (1 : Int32))] [])) (fun t_ kt_ => XS.iinc Xa4_86.here hx rfl (hb hby d1_86) rfl (l' := #[.val (.ref a), .val (.int top), .val (.int bottom), .val (.int w), .val (.int tier), .val (.int cc), .val (.int ch), .val (.int (1 : Int32))]) rfl kt_) ?_
  refine own_go (T' := Ta4_86) (g' := (mkF mI 63 #[.val (.ref a), .val (.int top), .val (.int bottom), .val (.int w), .val (.int tier), .val (.int cc), .val (.int ch), .val (.int (1 : Int32))] [])) (fun t_ kt_ => XS.goto Xa4_86.here hx rfl (pc0 := 89) (pc' := 63) rfl (hb hby d1_89) (by decide) (by decide) kt_) ?_
  refine own_go (T' := Ta4_86) (g' := (mkF mI 65 #[.val (.ref a), .val (.int top), .val (.int bottom), .val (.int w), .val (.int tier), .val (.int cc), .val (.int ch), .val (.int (1 : Int32))] [(.int (1 : Int32))])) (fun t_ kt_ => XS.iload Xa4_86.here hx rfl (hb hby d1_63) rfl kt_) ?_
  refine own_go (T' := Ta4_86) (g' := (mkF mI 66 #[.val (.ref a), .val (.int top), .val (.int bottom), .val (.int w), .val (.int tier), .val (.int cc), .val (.int ch), .val (.int (1 : Int32))] [(.ref a), (.int (1 : Int32))])) (fun t_ kt_ => XS.aloadN Xa4_86.here hx rfl (hb hby d1_65) rfl rfl kt_) ?_
  obtain ⟨Ta4_101, Xa4_101, ea4_101, sta4_101⟩ := getF Xa4_86 hx hZ hown (host := "") (Or.inl (hw _ (List.mem_of_getElem? (i := 23) rfl))) Via.refl ea4_86 Fa4_91 (g := (mkF mI 66 #[.val (.ref a), .val (.int top), .val (.int bottom), .val (.int w), .val (.int tier), .val (.int cc), .val (.int ch), .val (.int (1 : Int32))] [(.ref a), (.int (1 : Int32))])) rfl rfl (hb hby d1_66)
  refine own_go (T' := Ta4_101) (g' := (mkF mI 69 #[.val (.ref a), .val (.int top), .val (.int bottom), .val (.int w), .val (.int tier), .val (.int cc), .val (.int ch), .val (.int (1 : Int32))] [(.ref ba4_45), (.int (1 : Int32))])) (fun t_ kt_ => sta4_101 _ kt_) ?_
  obtain ⟨cla4_102, Ara4_102, qa4_102, Sa4_102, Nga4_102, Ha4_102, Ga4_102⟩ := id Va4_86
  refine own_go (T' := Ta4_101) (g' := (mkF mI 70 #[.val (.ref a), .val (.int top), .val (.int bottom), .val (.int w), .val (.int tier), .val (.int cc), .val (.int ch), .val (.int (1 : Int32))] [(.int (4 : Int32)), (.int (1 : Int32))])) (fun t_ kt_ => own_len Xa4_101 hx hZ ea4_101 Ara4_102 (len_of Sa4_102 Nga4_102) (g := (mkF mI 69 #[.val (.ref a), .val (.int top), .val (.int bottom), .val (.int w), .val (.int tier), .val (.int cc), .val (.int ch), .val (.int (1 : Int32))] [(.ref ba4_45), (.int (1 : Int32))])) rfl rfl (hb hby d1_69) _ kt_) ?_
  refine own_go (T' := Ta4_101) (g' := (mkF mI 73 #[.val (.ref a), .val (.int top), .val (.int bottom), .val (.int w), .val (.int tier), .val (.int cc), .val (.int ch), .val (.int (1 : Int32))] [])) (fun t_ kt_ => XS.icmpNo Xa4_101.here hx rfl (hb hby d1_70) rfl (tlt (by decide : (1 : Int32) < (4 : Int32))).2.1 kt_) ?_
  refine own_go (T' := Ta4_101) (g' := (mkF mI 74 #[.val (.ref a), .val (.int top), .val (.int bottom), .val (.int w), .val (.int tier), .val (.int cc), .val (.int ch), .val (.int (1 : Int32))] [(.ref a)])) (fun t_ kt_ => XS.aloadN Xa4_101.here hx rfl (hb hby d1_73) rfl rfl kt_) ?_
  obtain ⟨Ta4_103, Xa4_103, ea4_103, sta4_103⟩ := getF Xa4_101 hx hZ hown (host := "") (Or.inl (hw _ (List.mem_of_getElem? (i := 23) rfl))) Via.refl ea4_101 Fa4_91 (g := (mkF mI 74 #[.val (.ref a), .val (.int top), .val (.int bottom), .val (.int w), .val (.int tier), .val (.int cc), .val (.int ch), .val (.int (1 : Int32))] [(.ref a)])) rfl rfl (hb hby d1_74)
  refine own_go (T' := Ta4_103) (g' := (mkF mI 77 #[.val (.ref a), .val (.int top), .val (.int bottom), .val (.int w), .val (.int tier), .val (.int cc), .val (.int ch), .val (.int (1 : Int32))] [(.ref ba4_45)])) (fun t_ kt_ => sta4_103 _ kt_) ?_
  refine own_go (T' := Ta4_103) (g' := (mkF mI 79 #[.val (.ref a), .val (.int top), .val (.int bottom), .val (.int w), .val (.int tier), .val (.int cc), .val (.int ch), .val (.int (1 : Int32))] [(.int (1 : Int32)), (.ref ba4_45)])) (fun t_ kt_ => XS.iload Xa4_103.here hx rfl (hb hby d1_77) rfl kt_) ?_
  refine own_go (T' := Ta4_103) (g' := (mkF mI 80 #[.val (.ref a), .val (.int top), .val (.int bottom), .val (.int w), .val (.int tier), .val (.int cc), .val (.int ch), .val (.int (1 : Int32))] [(.int (2 : Int32)), (.int (1 : Int32)), (.ref ba4_45)])) (fun t_ kt_ => XS.iconst Xa4_103.here hx rfl (hb hby d1_79) kt_) ?_
  refine own_go (T' := Ta4_103) (g' := (mkF mI 82 #[.val (.ref a), .val (.int top), .val (.int bottom), .val (.int w), .val (.int tier), .val (.int cc), .val (.int ch), .val (.int (1 : Int32))] [(.int ch), (.int (2 : Int32)), (.int (1 : Int32)), (.ref ba4_45)])) (fun t_ kt_ => XS.iload Xa4_103.here hx rfl (hb hby d1_80) rfl kt_) ?_
  refine own_go (T' := Ta4_103) (g' := (mkF mI 83 #[.val (.ref a), .val (.int top), .val (.int bottom), .val (.int w), .val (.int tier), .val (.int cc), .val (.int ch), .val (.int (1 : Int32))] [(.int ((2 : Int32) * ch)), (.int (1 : Int32)), (.ref ba4_45)])) (fun t_ kt_ => XS.imul Xa4_103.here hx rfl (hb hby d1_82) rfl kt_) ?_
  obtain ⟨Ta4_104, ha4_104, ka4_104, Xa4_104, ea4_104, Exa4_104, Aa4_104, Eca4_104, sta4_104⟩ := newPE Xa4_103 hx hZ (hw _ (List.mem_of_getElem? (i := 25) rfl)) ea4_103 (g := (mkF mI 83 #[.val (.ref a), .val (.int top), .val (.int bottom), .val (.int w), .val (.int tier), .val (.int cc), .val (.int ch), .val (.int (1 : Int32))] [(.int ((2 : Int32) * ch)), (.int (1 : Int32)), (.ref ba4_45)])) rfl (hb hby d1_83) rfl hrn (cap := 2048) hrc (by decide) (by decide) (by decide) (ad := "[J") (by decide)
  obtain ⟨ba4_104, ga4_104⟩ : ∃ z, z = ha4_86.size := ⟨_, rfl⟩
  rw [← ga4_104] at Aa4_104 Eca4_104 sta4_104
  have ne_a_ba4_104 : a ≠ ba4_104 := Nat.ne_of_lt (Nat.lt_of_lt_of_le (Fa4_87.lt) (Nat.le_of_eq ga4_104.symm))
  have ne_ba4_26_ba4_104 : ba4_26 ≠ ba4_104 := Nat.ne_of_lt (Nat.lt_of_lt_of_le (Ea4_93.lt) (Nat.le_of_eq ga4_104.symm))
  have ne_ba4_45_ba4_104 : ba4_45 ≠ ba4_104 := Nat.ne_of_lt (Nat.lt_of_lt_of_le (Ea4_94.lt) (Nat.le_of_eq ga4_104.symm))
  have ne_ba4_72_ba4_104 : ba4_72 ≠ ba4_104 := Nat.ne_of_lt (Nat.lt_of_lt_of_le (Ea4_95.lt) (Nat.le_of_eq ga4_104.symm))
  have g_ba4_104 : n0 ≤ ba4_104 := Nat.le_trans Za4_99 (Nat.le_of_eq ga4_104.symm)
  have sz_ba4_104 : h0.size ≤ ba4_104 := Nat.le_trans Ka4_100.1 (Nat.le_of_eq ga4_104.symm)
  have Fa4_105 := Fld.ext Exa4_104 Fa4_87
  have Fa4_106 := Fld.ext Exa4_104 Fa4_88
  have Fa4_107 := Fld.ext Exa4_104 Fa4_89
  have Fa4_108 := Fld.ext Exa4_104 Fa4_90
  have Fa4_109 := Fld.ext Exa4_104 Fa4_91
  have Ea4_110 := Exa.ext Exa4_104 Ea4_92
  have Ea4_111 := Exa.ext Exa4_104 Ea4_93
  have Ea4_112 := Exa.ext Exa4_104 Ea4_94
  have Ea4_113 := Exa.ext Exa4_104 Ea4_95
  have Va4_114 := Arv.ext Va4_96 Exa4_104
  have Va4_115 := Arv.ext Va4_86 Exa4_104
  have Va4_116 := Arv.ext Va4_98 Exa4_104
  have Za4_117 : n0 ≤ ha4_104.size := Nat.le_trans Za4_99 Exa4_104.1
  have Ka4_118 : Keep h0 ha4_104 [a] := Ka4_100.ext Exa4_104
  have Va4_104 : Arv Z ha4_104 ba4_104 ka4_104 .long ((2 : Int32) * ch) [] (.long (0 : Int64)) := Arv.new Aa4_104 hrn
  refine own_go (T' := Ta4_104) (g' := (mkF mI 85 #[.val (.ref a), .val (.int top), .val (.int bottom), .val (.int w), .val (.int tier), .val (.int cc), .val (.int ch), .val (.int (1 : Int32))] [(.ref ba4_104), (.int (1 : Int32)), (.ref ba4_45)])) (fun t_ kt_ => sta4_104 _ kt_) ?_
  obtain ⟨cla4_119, Ara4_119, qa4_119, Sa4_119, Nga4_119, Ha4_119, Ga4_119⟩ := id Va4_115
  obtain ⟨Ta4_120, ha4_120, Xa4_120, ea4_120, Wa4_120, sta4_120⟩ := stR Xa4_104 hx hZ ea4_104 Ara4_119 (j := (1 : Int32)) (inb_of Sa4_119 ⟨by decide, by decide⟩) rfl (Sto.ofVA Ara4_119 qa4_119 Oa4_45 (Ins.self Eca4_104)) (g := (mkF mI 85 #[.val (.ref a), .val (.int top), .val (.int bottom), .val (.int w), .val (.int tier), .val (.int cc), .val (.int ch), .val (.int (1 : Int32))] [(.ref ba4_104), (.int (1 : Int32)), (.ref ba4_45)])) rfl rfl (hb hby d1_85)
  have Va4_120 : Arv Z ha4_120 ba4_45 ka4_45 (.array .long) (4 : Int32) [(.ref ba4_72), (.ref ba4_104), .null, .null] .null := Arv.set Ara4_119 qa4_119 Sa4_119 Nga4_119 Ha4_119 Ga4_119 rfl Wa4_120 1 rfl (Nat.le_of_ble_eq_true rfl)
  have Fa4_121 := Fld.other Wa4_120 Fa4_105 (Or.inl ne_a_ba4_45)
  have Fa4_122 := Fld.other Wa4_120 Fa4_106 (Or.inl ne_a_ba4_45)
  have Fa4_123 := Fld.other Wa4_120 Fa4_107 (Or.inl ne_a_ba4_45)
  have Fa4_124 := Fld.other Wa4_120 Fa4_108 (Or.inl ne_a_ba4_45)
  have Fa4_125 := Fld.other Wa4_120 Fa4_109 (Or.inl ne_a_ba4_45)
  have Ea4_126 := Exa.wr Wa4_120 Ea4_110
  have Ea4_127 := Exa.wr Wa4_120 Ea4_111
  have Ea4_128 := Exa.wr Wa4_120 Ea4_112
  have Ea4_129 := Exa.wr Wa4_120 Ea4_113
  have Ea4_130 := Exa.wr Wa4_120 Eca4_104
  have Va4_131 := Arv.other Va4_114 Wa4_120 ne_ba4_26_ba4_45
  have Va4_133 := Arv.other Va4_116 Wa4_120 (Ne.symm ne_ba4_45_ba4_72)
  have Va4_134 := Arv.other Va4_104 Wa4_120 (Ne.symm ne_ba4_45_ba4_104)
  have Za4_135 : n0 ≤ ha4_120.size := Nat.le_trans Za4_117 (Nat.le_of_eq (Wr.size Wa4_120).symm)
  have Ka4_136 : Keep h0 ha4_120 [a] := Ka4_118.wr Wa4_120 (Or.inr sz_ba4_45)
  have Na4_120 := Fr.snoc Xa4_120 Na4_86 g_ba4_45
  refine own_go (T' := Ta4_120) (g' := (mkF mI 86 #[.val (.ref a), .val (.int top), .val (.int bottom), .val (.int w), .val (.int tier), .val (.int cc), .val (.int ch), .val (.int (1 : Int32))] [])) (fun t_ kt_ => sta4_120 _ kt_) ?_
  refine own_go (T' := Ta4_120) (g' := (mkF mI 89 #[.val (.ref a), .val (.int top), .val (.int bottom), .val (.int w), .val (.int tier), .val (.int cc), .val (.int ch), .val (.int (2 : Int32))] [])) (fun t_ kt_ => XS.iinc Xa4_120.here hx rfl (hb hby d1_86) rfl (l' := #[.val (.ref a), .val (.int top), .val (.int bottom), .val (.int w), .val (.int tier), .val (.int cc), .val (.int ch), .val (.int (2 : Int32))]) rfl kt_) ?_
  refine own_go (T' := Ta4_120) (g' := (mkF mI 63 #[.val (.ref a), .val (.int top), .val (.int bottom), .val (.int w), .val (.int tier), .val (.int cc), .val (.int ch), .val (.int (2 : Int32))] [])) (fun t_ kt_ => XS.goto Xa4_120.here hx rfl (pc0 := 89) (pc' := 63) rfl (hb hby d1_89) (by decide) (by decide) kt_) ?_
  refine own_go (T' := Ta4_120) (g' := (mkF mI 65 #[.val (.ref a), .val (.int top), .val (.int bottom), .val (.int w), .val (.int tier), .val (.int cc), .val (.int ch), .val (.int (2 : Int32))] [(.int (2 : Int32))])) (fun t_ kt_ => XS.iload Xa4_120.here hx rfl (hb hby d1_63) rfl kt_) ?_
  refine own_go (T' := Ta4_120) (g' := (mkF mI 66 #[.val (.ref a), .val (.int top), .val (.int bottom), .val (.int w), .val (.int tier), .val (.int cc), .val (.int ch), .val (.int (2 : Int32))] [(.ref a), (.int (2 : Int32))])) (fun t_ kt_ => XS.aloadN Xa4_120.here hx rfl (hb hby d1_65) rfl rfl kt_) ?_
  obtain ⟨Ta4_137, Xa4_137, ea4_137, sta4_137⟩ := getF Xa4_120 hx hZ hown (host := "") (Or.inl (hw _ (List.mem_of_getElem? (i := 23) rfl))) Via.refl ea4_120 Fa4_125 (g := (mkF mI 66 #[.val (.ref a), .val (.int top), .val (.int bottom), .val (.int w), .val (.int tier), .val (.int cc), .val (.int ch), .val (.int (2 : Int32))] [(.ref a), (.int (2 : Int32))])) rfl rfl (hb hby d1_66)
  refine own_go (T' := Ta4_137) (g' := (mkF mI 69 #[.val (.ref a), .val (.int top), .val (.int bottom), .val (.int w), .val (.int tier), .val (.int cc), .val (.int ch), .val (.int (2 : Int32))] [(.ref ba4_45), (.int (2 : Int32))])) (fun t_ kt_ => sta4_137 _ kt_) ?_
  obtain ⟨cla4_138, Ara4_138, qa4_138, Sa4_138, Nga4_138, Ha4_138, Ga4_138⟩ := id Va4_120
  refine own_go (T' := Ta4_137) (g' := (mkF mI 70 #[.val (.ref a), .val (.int top), .val (.int bottom), .val (.int w), .val (.int tier), .val (.int cc), .val (.int ch), .val (.int (2 : Int32))] [(.int (4 : Int32)), (.int (2 : Int32))])) (fun t_ kt_ => own_len Xa4_137 hx hZ ea4_137 Ara4_138 (len_of Sa4_138 Nga4_138) (g := (mkF mI 69 #[.val (.ref a), .val (.int top), .val (.int bottom), .val (.int w), .val (.int tier), .val (.int cc), .val (.int ch), .val (.int (2 : Int32))] [(.ref ba4_45), (.int (2 : Int32))])) rfl rfl (hb hby d1_69) _ kt_) ?_
  refine own_go (T' := Ta4_137) (g' := (mkF mI 73 #[.val (.ref a), .val (.int top), .val (.int bottom), .val (.int w), .val (.int tier), .val (.int cc), .val (.int ch), .val (.int (2 : Int32))] [])) (fun t_ kt_ => XS.icmpNo Xa4_137.here hx rfl (hb hby d1_70) rfl (tlt (by decide : (2 : Int32) < (4 : Int32))).2.1 kt_) ?_
  refine own_go (T' := Ta4_137) (g' := (mkF mI 74 #[.val (.ref a), .val (.int top), .val (.int bottom), .val (.int w), .val (.int tier), .val (.int cc), .val (.int ch), .val (.int (2 : Int32))] [(.ref a)])) (fun t_ kt_ => XS.aloadN Xa4_137.here hx rfl (hb hby d1_73) rfl rfl kt_) ?_
  obtain ⟨Ta4_139, Xa4_139, ea4_139, sta4_139⟩ := getF Xa4_137 hx hZ hown (host := "") (Or.inl (hw _ (List.mem_of_getElem? (i := 23) rfl))) Via.refl ea4_137 Fa4_125 (g := (mkF mI 74 #[.val (.ref a), .val (.int top), .val (.int bottom), .val (.int w), .val (.int tier), .val (.int cc), .val (.int ch), .val (.int (2 : Int32))] [(.ref a)])) rfl rfl (hb hby d1_74)
  refine own_go (T' := Ta4_139) (g' := (mkF mI 77 #[.val (.ref a), .val (.int top), .val (.int bottom), .val (.int w), .val (.int tier), .val (.int cc), .val (.int ch), .val (.int (2 : Int32))] [(.ref ba4_45)])) (fun t_ kt_ => sta4_139 _ kt_) ?_
  refine own_go (T' := Ta4_139) (g' := (mkF mI 79 #[.val (.ref a), .val (.int top), .val (.int bottom), .val (.int w), .val (.int tier), .val (.int cc), .val (.int ch), .val (.int (2 : Int32))] [(.int (2 : Int32)), (.ref ba4_45)])) (fun t_ kt_ => XS.iload Xa4_139.here hx rfl (hb hby d1_77) rfl kt_) ?_
  refine own_go (T' := Ta4_139) (g' := (mkF mI 80 #[.val (.ref a), .val (.int top), .val (.int bottom), .val (.int w), .val (.int tier), .val (.int cc), .val (.int ch), .val (.int (2 : Int32))] [(.int (2 : Int32)), (.int (2 : Int32)), (.ref ba4_45)])) (fun t_ kt_ => XS.iconst Xa4_139.here hx rfl (hb hby d1_79) kt_) ?_
  refine own_go (T' := Ta4_139) (g' := (mkF mI 82 #[.val (.ref a), .val (.int top), .val (.int bottom), .val (.int w), .val (.int tier), .val (.int cc), .val (.int ch), .val (.int (2 : Int32))] [(.int ch), (.int (2 : Int32)), (.int (2 : Int32)), (.ref ba4_45)])) (fun t_ kt_ => XS.iload Xa4_139.here hx rfl (hb hby d1_80) rfl kt_) ?_
  refine own_go (T' := Ta4_139) (g' := (mkF mI 83 #[.val (.ref a), .val (.int top), .val (.int bottom), .val (.int w), .val (.int tier), .val (.int cc), .val (.int ch), .val (.int (2 : Int32))] [(.int ((2 : Int32) * ch)), (.int (2 : Int32)), (.ref ba4_45)])) (fun t_ kt_ => XS.imul Xa4_139.here hx rfl (hb hby d1_82) rfl kt_) ?_
  obtain ⟨Ta4_140, ha4_140, ka4_140, Xa4_140, ea4_140, Exa4_140, Aa4_140, Eca4_140, sta4_140⟩ := newPE Xa4_139 hx hZ (hw _ (List.mem_of_getElem? (i := 25) rfl)) ea4_139 (g := (mkF mI 83 #[.val (.ref a), .val (.int top), .val (.int bottom), .val (.int w), .val (.int tier), .val (.int cc), .val (.int ch), .val (.int (2 : Int32))] [(.int ((2 : Int32) * ch)), (.int (2 : Int32)), (.ref ba4_45)])) rfl (hb hby d1_83) rfl hrn (cap := 2048) hrc (by decide) (by decide) (by decide) (ad := "[J") (by decide)
  obtain ⟨ba4_140, ga4_140⟩ : ∃ z, z = ha4_120.size := ⟨_, rfl⟩
  rw [← ga4_140] at Aa4_140 Eca4_140 sta4_140
  have ne_a_ba4_140 : a ≠ ba4_140 := Nat.ne_of_lt (Nat.lt_of_lt_of_le (Fa4_121.lt) (Nat.le_of_eq ga4_140.symm))
  have ne_ba4_26_ba4_140 : ba4_26 ≠ ba4_140 := Nat.ne_of_lt (Nat.lt_of_lt_of_le (Ea4_127.lt) (Nat.le_of_eq ga4_140.symm))
  have ne_ba4_45_ba4_140 : ba4_45 ≠ ba4_140 := Nat.ne_of_lt (Nat.lt_of_lt_of_le (Ea4_128.lt) (Nat.le_of_eq ga4_140.symm))
  have ne_ba4_72_ba4_140 : ba4_72 ≠ ba4_140 := Nat.ne_of_lt (Nat.lt_of_lt_of_le (Ea4_129.lt) (Nat.le_of_eq ga4_140.symm))
  have ne_ba4_104_ba4_140 : ba4_104 ≠ ba4_140 := Nat.ne_of_lt (Nat.lt_of_lt_of_le (Ea4_130.lt) (Nat.le_of_eq ga4_140.symm))
  have g_ba4_140 : n0 ≤ ba4_140 := Nat.le_trans Za4_135 (Nat.le_of_eq ga4_140.symm)
  have sz_ba4_140 : h0.size ≤ ba4_140 := Nat.le_trans Ka4_136.1 (Nat.le_of_eq ga4_140.symm)
  have Fa4_141 := Fld.ext Exa4_140 Fa4_121
  have Fa4_142 := Fld.ext Exa4_140 Fa4_122
  have Fa4_143 := Fld.ext Exa4_140 Fa4_123
  have Fa4_144 := Fld.ext Exa4_140 Fa4_124
  have Fa4_145 := Fld.ext Exa4_140 Fa4_125
  have Ea4_146 := Exa.ext Exa4_140 Ea4_126
  have Ea4_147 := Exa.ext Exa4_140 Ea4_127
  have Ea4_148 := Exa.ext Exa4_140 Ea4_128
  have Ea4_149 := Exa.ext Exa4_140 Ea4_129
  have Ea4_150 := Exa.ext Exa4_140 Ea4_130
  have Va4_151 := Arv.ext Va4_131 Exa4_140
  have Va4_152 := Arv.ext Va4_120 Exa4_140
  have Va4_153 := Arv.ext Va4_133 Exa4_140
  have Va4_154 := Arv.ext Va4_134 Exa4_140
  have Za4_155 : n0 ≤ ha4_140.size := Nat.le_trans Za4_135 Exa4_140.1
  have Ka4_156 : Keep h0 ha4_140 [a] := Ka4_136.ext Exa4_140
  have Va4_140 : Arv Z ha4_140 ba4_140 ka4_140 .long ((2 : Int32) * ch) [] (.long (0 : Int64)) := Arv.new Aa4_140 hrn
  refine own_go (T' := Ta4_140) (g' := (mkF mI 85 #[.val (.ref a), .val (.int top), .val (.int bottom), .val (.int w), .val (.int tier), .val (.int cc), .val (.int ch), .val (.int (2 : Int32))] [(.ref ba4_140), (.int (2 : Int32)), (.ref ba4_45)])) (fun t_ kt_ => sta4_140 _ kt_) ?_
  obtain ⟨cla4_157, Ara4_157, qa4_157, Sa4_157, Nga4_157, Ha4_157, Ga4_157⟩ := id Va4_152
  obtain ⟨Ta4_158, ha4_158, Xa4_158, ea4_158, Wa4_158, sta4_158⟩ := stR Xa4_140 hx hZ ea4_140 Ara4_157 (j := (2 : Int32)) (inb_of Sa4_157 ⟨by decide, by decide⟩) rfl (Sto.ofVA Ara4_157 qa4_157 Oa4_45 (Ins.self Eca4_140)) (g := (mkF mI 85 #[.val (.ref a), .val (.int top), .val (.int bottom), .val (.int w), .val (.int tier), .val (.int cc), .val (.int ch), .val (.int (2 : Int32))] [(.ref ba4_140), (.int (2 : Int32)), (.ref ba4_45)])) rfl rfl (hb hby d1_85)
  have Va4_158 : Arv Z ha4_158 ba4_45 ka4_45 (.array .long) (4 : Int32) [(.ref ba4_72), (.ref ba4_104), (.ref ba4_140), .null] .null := Arv.set Ara4_157 qa4_157 Sa4_157 Nga4_157 Ha4_157 Ga4_157 rfl Wa4_158 2 rfl (Nat.le_of_ble_eq_true rfl)
  have Fa4_159 := Fld.other Wa4_158 Fa4_141 (Or.inl ne_a_ba4_45)
  have Fa4_160 := Fld.other Wa4_158 Fa4_142 (Or.inl ne_a_ba4_45)
  have Fa4_161 := Fld.other Wa4_158 Fa4_143 (Or.inl ne_a_ba4_45)
  have Fa4_162 := Fld.other Wa4_158 Fa4_144 (Or.inl ne_a_ba4_45)
  have Fa4_163 := Fld.other Wa4_158 Fa4_145 (Or.inl ne_a_ba4_45)
  have Ea4_164 := Exa.wr Wa4_158 Ea4_146
  have Ea4_165 := Exa.wr Wa4_158 Ea4_147
  have Ea4_166 := Exa.wr Wa4_158 Ea4_148
  have Ea4_167 := Exa.wr Wa4_158 Ea4_149
  have Ea4_168 := Exa.wr Wa4_158 Ea4_150
  have Ea4_169 := Exa.wr Wa4_158 Eca4_140
  have Va4_170 := Arv.other Va4_151 Wa4_158 ne_ba4_26_ba4_45
  have Va4_172 := Arv.other Va4_153 Wa4_158 (Ne.symm ne_ba4_45_ba4_72)
  have Va4_173 := Arv.other Va4_154 Wa4_158 (Ne.symm ne_ba4_45_ba4_104)
  have Va4_174 := Arv.other Va4_140 Wa4_158 (Ne.symm ne_ba4_45_ba4_140)
  have Za4_175 : n0 ≤ ha4_158.size := Nat.le_trans Za4_155 (Nat.le_of_eq (Wr.size Wa4_158).symm)
  have Ka4_176 : Keep h0 ha4_158 [a] := Ka4_156.wr Wa4_158 (Or.inr sz_ba4_45)
  have Na4_158 := Fr.snoc Xa4_158 Na4_120 g_ba4_45
  refine own_go (T' := Ta4_158) (g' := (mkF mI 86 #[.val (.ref a), .val (.int top), .val (.int bottom), .val (.int w), .val (.int tier), .val (.int cc), .val (.int ch), .val (.int (2 : Int32))] [])) (fun t_ kt_ => sta4_158 _ kt_) ?_
  refine own_go (T' := Ta4_158) (g' := (mkF mI 89 #[.val (.ref a), .val (.int top), .val (.int bottom), .val (.int w), .val (.int tier), .val (.int cc), .val (.int ch), .val (.int (3 : Int32))] [])) (fun t_ kt_ => XS.iinc Xa4_158.here hx rfl (hb hby d1_86) rfl (l' := #[.val (.ref a), .val (.int top), .val (.int bottom), .val (.int w), .val (.int tier), .val (.int cc), .val (.int ch), .val (.int (3 : Int32))]) rfl kt_) ?_
  refine own_go (T' := Ta4_158) (g' := (mkF mI 63 #[.val (.ref a), .val (.int top), .val (.int bottom), .val (.int w), .val (.int tier), .val (.int cc), .val (.int ch), .val (.int (3 : Int32))] [])) (fun t_ kt_ => XS.goto Xa4_158.here hx rfl (pc0 := 89) (pc' := 63) rfl (hb hby d1_89) (by decide) (by decide) kt_) ?_
  refine own_go (T' := Ta4_158) (g' := (mkF mI 65 #[.val (.ref a), .val (.int top), .val (.int bottom), .val (.int w), .val (.int tier), .val (.int cc), .val (.int ch), .val (.int (3 : Int32))] [(.int (3 : Int32))])) (fun t_ kt_ => XS.iload Xa4_158.here hx rfl (hb hby d1_63) rfl kt_) ?_
  refine own_go (T' := Ta4_158) (g' := (mkF mI 66 #[.val (.ref a), .val (.int top), .val (.int bottom), .val (.int w), .val (.int tier), .val (.int cc), .val (.int ch), .val (.int (3 : Int32))] [(.ref a), (.int (3 : Int32))])) (fun t_ kt_ => XS.aloadN Xa4_158.here hx rfl (hb hby d1_65) rfl rfl kt_) ?_
  obtain ⟨Ta4_177, Xa4_177, ea4_177, sta4_177⟩ := getF Xa4_158 hx hZ hown (host := "") (Or.inl (hw _ (List.mem_of_getElem? (i := 23) rfl))) Via.refl ea4_158 Fa4_163 (g := (mkF mI 66 #[.val (.ref a), .val (.int top), .val (.int bottom), .val (.int w), .val (.int tier), .val (.int cc), .val (.int ch), .val (.int (3 : Int32))] [(.ref a), (.int (3 : Int32))])) rfl rfl (hb hby d1_66)
  refine own_go (T' := Ta4_177) (g' := (mkF mI 69 #[.val (.ref a), .val (.int top), .val (.int bottom), .val (.int w), .val (.int tier), .val (.int cc), .val (.int ch), .val (.int (3 : Int32))] [(.ref ba4_45), (.int (3 : Int32))])) (fun t_ kt_ => sta4_177 _ kt_) ?_
  obtain ⟨cla4_178, Ara4_178, qa4_178, Sa4_178, Nga4_178, Ha4_178, Ga4_178⟩ := id Va4_158
  refine own_go (T' := Ta4_177) (g' := (mkF mI 70 #[.val (.ref a), .val (.int top), .val (.int bottom), .val (.int w), .val (.int tier), .val (.int cc), .val (.int ch), .val (.int (3 : Int32))] [(.int (4 : Int32)), (.int (3 : Int32))])) (fun t_ kt_ => own_len Xa4_177 hx hZ ea4_177 Ara4_178 (len_of Sa4_178 Nga4_178) (g := (mkF mI 69 #[.val (.ref a), .val (.int top), .val (.int bottom), .val (.int w), .val (.int tier), .val (.int cc), .val (.int ch), .val (.int (3 : Int32))] [(.ref ba4_45), (.int (3 : Int32))])) rfl rfl (hb hby d1_69) _ kt_) ?_
  refine own_go (T' := Ta4_177) (g' := (mkF mI 73 #[.val (.ref a), .val (.int top), .val (.int bottom), .val (.int w), .val (.int tier), .val (.int cc), .val (.int ch), .val (.int (3 : Int32))] [])) (fun t_ kt_ => XS.icmpNo Xa4_177.here hx rfl (hb hby d1_70) rfl (tlt (by decide : (3 : Int32) < (4 : Int32))).2.1 kt_) ?_
  refine own_go (T' := Ta4_177) (g' := (mkF mI 74 #[.val (.ref a), .val (.int top), .val (.int bottom), .val (.int w), .val (.int tier), .val (.int cc), .val (.int ch), .val (.int (3 : Int32))] [(.ref a)])) (fun t_ kt_ => XS.aloadN Xa4_177.here hx rfl (hb hby d1_73) rfl rfl kt_) ?_
  obtain ⟨Ta4_179, Xa4_179, ea4_179, sta4_179⟩ := getF Xa4_177 hx hZ hown (host := "") (Or.inl (hw _ (List.mem_of_getElem? (i := 23) rfl))) Via.refl ea4_177 Fa4_163 (g := (mkF mI 74 #[.val (.ref a), .val (.int top), .val (.int bottom), .val (.int w), .val (.int tier), .val (.int cc), .val (.int ch), .val (.int (3 : Int32))] [(.ref a)])) rfl rfl (hb hby d1_74)
  refine own_go (T' := Ta4_179) (g' := (mkF mI 77 #[.val (.ref a), .val (.int top), .val (.int bottom), .val (.int w), .val (.int tier), .val (.int cc), .val (.int ch), .val (.int (3 : Int32))] [(.ref ba4_45)])) (fun t_ kt_ => sta4_179 _ kt_) ?_
  refine own_go (T' := Ta4_179) (g' := (mkF mI 79 #[.val (.ref a), .val (.int top), .val (.int bottom), .val (.int w), .val (.int tier), .val (.int cc), .val (.int ch), .val (.int (3 : Int32))] [(.int (3 : Int32)), (.ref ba4_45)])) (fun t_ kt_ => XS.iload Xa4_179.here hx rfl (hb hby d1_77) rfl kt_) ?_
  refine own_go (T' := Ta4_179) (g' := (mkF mI 80 #[.val (.ref a), .val (.int top), .val (.int bottom), .val (.int w), .val (.int tier), .val (.int cc), .val (.int ch), .val (.int (3 : Int32))] [(.int (2 : Int32)), (.int (3 : Int32)), (.ref ba4_45)])) (fun t_ kt_ => XS.iconst Xa4_179.here hx rfl (hb hby d1_79) kt_) ?_
  refine own_go (T' := Ta4_179) (g' := (mkF mI 82 #[.val (.ref a), .val (.int top), .val (.int bottom), .val (.int w), .val (.int tier), .val (.int cc), .val (.int ch), .val (.int (3 : Int32))] [(.int ch), (.int (2 : Int32)), (.int (3 : Int32)), (.ref ba4_45)])) (fun t_ kt_ => XS.iload Xa4_179.here hx rfl (hb hby d1_80) rfl kt_) ?_
  refine own_go (T' := Ta4_179) (g' := (mkF mI 83 #[.val (.ref a), .val (.int top), .val (.int bottom), .val (.int w), .val (.int tier), .val (.int cc), .val (.int ch), .val (.int (3 : Int32))] [(.int ((2 : Int32) * ch)), (.int (3 : Int32)), (.ref ba4_45)])) (fun t_ kt_ => XS.imul Xa4_179.here hx rfl (hb hby d1_82) rfl kt_) ?_
  obtain ⟨Ta4_180, ha4_180, ka4_180, Xa4_180, ea4_180, Exa4_180, Aa4_180, Eca4_180, sta4_180⟩ := newPE Xa4_179 hx hZ (hw _ (List.mem_of_getElem? (i := 25) rfl)) ea4_179 (g := (mkF mI 83 #[.val (.ref a), .val (.int top), .val (.int bottom), .val (.int w), .val (.int tier), .val (.int cc), .val (.int ch), .val (.int (3 : Int32))] [(.int ((2 : Int32) * ch)), (.int (3 : Int32)), (.ref ba4_45)])) rfl (hb hby d1_83) rfl hrn (cap := 2048) hrc (by decide) (by decide) (by decide) (ad := "[J") (by decide)
  obtain ⟨ba4_180, ga4_180⟩ : ∃ z, z = ha4_158.size := ⟨_, rfl⟩
  rw [← ga4_180] at Aa4_180 Eca4_180 sta4_180
  have ne_a_ba4_180 : a ≠ ba4_180 := Nat.ne_of_lt (Nat.lt_of_lt_of_le (Fa4_159.lt) (Nat.le_of_eq ga4_180.symm))
  have ne_ba4_26_ba4_180 : ba4_26 ≠ ba4_180 := Nat.ne_of_lt (Nat.lt_of_lt_of_le (Ea4_165.lt) (Nat.le_of_eq ga4_180.symm))
  have ne_ba4_45_ba4_180 : ba4_45 ≠ ba4_180 := Nat.ne_of_lt (Nat.lt_of_lt_of_le (Ea4_166.lt) (Nat.le_of_eq ga4_180.symm))
  have ne_ba4_72_ba4_180 : ba4_72 ≠ ba4_180 := Nat.ne_of_lt (Nat.lt_of_lt_of_le (Ea4_167.lt) (Nat.le_of_eq ga4_180.symm))
  have ne_ba4_104_ba4_180 : ba4_104 ≠ ba4_180 := Nat.ne_of_lt (Nat.lt_of_lt_of_le (Ea4_168.lt) (Nat.le_of_eq ga4_180.symm))
  have ne_ba4_140_ba4_180 : ba4_140 ≠ ba4_180 := Nat.ne_of_lt (Nat.lt_of_lt_of_le (Ea4_169.lt) (Nat.le_of_eq ga4_180.symm))
  have g_ba4_180 : n0 ≤ ba4_180 := Nat.le_trans Za4_175 (Nat.le_of_eq ga4_180.symm)
  have sz_ba4_180 : h0.size ≤ ba4_180 := Nat.le_trans Ka4_176.1 (Nat.le_of_eq ga4_180.symm)
  have Fa4_181 := Fld.ext Exa4_180 Fa4_159
  have Fa4_182 := Fld.ext Exa4_180 Fa4_160
  have Fa4_183 := Fld.ext Exa4_180 Fa4_161
  have Fa4_184 := Fld.ext Exa4_180 Fa4_162
  have Fa4_185 := Fld.ext Exa4_180 Fa4_163
  have Ea4_186 := Exa.ext Exa4_180 Ea4_164
  have Ea4_187 := Exa.ext Exa4_180 Ea4_165
  have Ea4_188 := Exa.ext Exa4_180 Ea4_166
  have Ea4_189 := Exa.ext Exa4_180 Ea4_167
  have Ea4_190 := Exa.ext Exa4_180 Ea4_168
  have Ea4_191 := Exa.ext Exa4_180 Ea4_169
  have Va4_192 := Arv.ext Va4_170 Exa4_180
  have Va4_193 := Arv.ext Va4_158 Exa4_180
  have Va4_194 := Arv.ext Va4_172 Exa4_180
  have Va4_195 := Arv.ext Va4_173 Exa4_180
  have Va4_196 := Arv.ext Va4_174 Exa4_180
  have Za4_197 : n0 ≤ ha4_180.size := Nat.le_trans Za4_175 Exa4_180.1
  have Ka4_198 : Keep h0 ha4_180 [a] := Ka4_176.ext Exa4_180
  have Va4_180 : Arv Z ha4_180 ba4_180 ka4_180 .long ((2 : Int32) * ch) [] (.long (0 : Int64)) := Arv.new Aa4_180 hrn
  refine own_go (T' := Ta4_180) (g' := (mkF mI 85 #[.val (.ref a), .val (.int top), .val (.int bottom), .val (.int w), .val (.int tier), .val (.int cc), .val (.int ch), .val (.int (3 : Int32))] [(.ref ba4_180), (.int (3 : Int32)), (.ref ba4_45)])) (fun t_ kt_ => sta4_180 _ kt_) ?_
  obtain ⟨cla4_199, Ara4_199, qa4_199, Sa4_199, Nga4_199, Ha4_199, Ga4_199⟩ := id Va4_193
  obtain ⟨Ta4_200, ha4_200, Xa4_200, ea4_200, Wa4_200, sta4_200⟩ := stR Xa4_180 hx hZ ea4_180 Ara4_199 (j := (3 : Int32)) (inb_of Sa4_199 ⟨by decide, by decide⟩) rfl (Sto.ofVA Ara4_199 qa4_199 Oa4_45 (Ins.self Eca4_180)) (g := (mkF mI 85 #[.val (.ref a), .val (.int top), .val (.int bottom), .val (.int w), .val (.int tier), .val (.int cc), .val (.int ch), .val (.int (3 : Int32))] [(.ref ba4_180), (.int (3 : Int32)), (.ref ba4_45)])) rfl rfl (hb hby d1_85)
  have Va4_200 : Arv Z ha4_200 ba4_45 ka4_45 (.array .long) (4 : Int32) [(.ref ba4_72), (.ref ba4_104), (.ref ba4_140), (.ref ba4_180)] .null := Arv.set Ara4_199 qa4_199 Sa4_199 Nga4_199 Ha4_199 Ga4_199 rfl Wa4_200 3 rfl (Nat.le_of_ble_eq_true rfl)
  have Fa4_201 := Fld.other Wa4_200 Fa4_181 (Or.inl ne_a_ba4_45)
  have Fa4_202 := Fld.other Wa4_200 Fa4_182 (Or.inl ne_a_ba4_45)
  have Fa4_203 := Fld.other Wa4_200 Fa4_183 (Or.inl ne_a_ba4_45)
  have Fa4_204 := Fld.other Wa4_200 Fa4_184 (Or.inl ne_a_ba4_45)
  have Fa4_205 := Fld.other Wa4_200 Fa4_185 (Or.inl ne_a_ba4_45)
  have Ea4_206 := Exa.wr Wa4_200 Ea4_186
  have Ea4_207 := Exa.wr Wa4_200 Ea4_187
  have Ea4_208 := Exa.wr Wa4_200 Ea4_188
  have Ea4_209 := Exa.wr Wa4_200 Ea4_189
  have Ea4_210 := Exa.wr Wa4_200 Ea4_190
  have Ea4_211 := Exa.wr Wa4_200 Ea4_191
  have Ea4_212 := Exa.wr Wa4_200 Eca4_180
  have Va4_213 := Arv.other Va4_192 Wa4_200 ne_ba4_26_ba4_45
  have Va4_215 := Arv.other Va4_194 Wa4_200 (Ne.symm ne_ba4_45_ba4_72)
  have Va4_216 := Arv.other Va4_195 Wa4_200 (Ne.symm ne_ba4_45_ba4_104)
  have Va4_217 := Arv.other Va4_196 Wa4_200 (Ne.symm ne_ba4_45_ba4_140)
  have Va4_218 := Arv.other Va4_180 Wa4_200 (Ne.symm ne_ba4_45_ba4_180)
  have Za4_219 : n0 ≤ ha4_200.size := Nat.le_trans Za4_197 (Nat.le_of_eq (Wr.size Wa4_200).symm)
  have Ka4_220 : Keep h0 ha4_200 [a] := Ka4_198.wr Wa4_200 (Or.inr sz_ba4_45)
  have Na4_200 := Fr.snoc Xa4_200 Na4_158 g_ba4_45
  refine own_go (T' := Ta4_200) (g' := (mkF mI 86 #[.val (.ref a), .val (.int top), .val (.int bottom), .val (.int w), .val (.int tier), .val (.int cc), .val (.int ch), .val (.int (3 : Int32))] [])) (fun t_ kt_ => sta4_200 _ kt_) ?_
  refine own_go (T' := Ta4_200) (g' := (mkF mI 89 #[.val (.ref a), .val (.int top), .val (.int bottom), .val (.int w), .val (.int tier), .val (.int cc), .val (.int ch), .val (.int (4 : Int32))] [])) (fun t_ kt_ => XS.iinc Xa4_200.here hx rfl (hb hby d1_86) rfl (l' := #[.val (.ref a), .val (.int top), .val (.int bottom), .val (.int w), .val (.int tier), .val (.int cc), .val (.int ch), .val (.int (4 : Int32))]) rfl kt_) ?_
  refine own_go (T' := Ta4_200) (g' := (mkF mI 63 #[.val (.ref a), .val (.int top), .val (.int bottom), .val (.int w), .val (.int tier), .val (.int cc), .val (.int ch), .val (.int (4 : Int32))] [])) (fun t_ kt_ => XS.goto Xa4_200.here hx rfl (pc0 := 89) (pc' := 63) rfl (hb hby d1_89) (by decide) (by decide) kt_) ?_
  refine own_go (T' := Ta4_200) (g' := (mkF mI 65 #[.val (.ref a), .val (.int top), .val (.int bottom), .val (.int w), .val (.int tier), .val (.int cc), .val (.int ch), .val (.int (4 : Int32))] [(.int (4 : Int32))])) (fun t_ kt_ => XS.iload Xa4_200.here hx rfl (hb hby d1_63) rfl kt_) ?_
  refine own_go (T' := Ta4_200) (g' := (mkF mI 66 #[.val (.ref a), .val (.int top), .val (.int bottom), .val (.int w), .val (.int tier), .val (.int cc), .val (.int ch), .val (.int (4 : Int32))] [(.ref a), (.int (4 : Int32))])) (fun t_ kt_ => XS.aloadN Xa4_200.here hx rfl (hb hby d1_65) rfl rfl kt_) ?_
  obtain ⟨Ta4_221, Xa4_221, ea4_221, sta4_221⟩ := getF Xa4_200 hx hZ hown (host := "") (Or.inl (hw _ (List.mem_of_getElem? (i := 23) rfl))) Via.refl ea4_200 Fa4_205 (g := (mkF mI 66 #[.val (.ref a), .val (.int top), .val (.int bottom), .val (.int w), .val (.int tier), .val (.int cc), .val (.int ch), .val (.int (4 : Int32))] [(.ref a), (.int (4 : Int32))])) rfl rfl (hb hby d1_66)
  refine own_go (T' := Ta4_221) (g' := (mkF mI 69 #[.val (.ref a), .val (.int top), .val (.int bottom), .val (.int w), .val (.int tier), .val (.int cc), .val (.int ch), .val (.int (4 : Int32))] [(.ref ba4_45), (.int (4 : Int32))])) (fun t_ kt_ => sta4_221 _ kt_) ?_
  obtain ⟨cla4_222, Ara4_222, qa4_222, Sa4_222, Nga4_222, Ha4_222, Ga4_222⟩ := id Va4_200
  refine own_go (T' := Ta4_221) (g' := (mkF mI 70 #[.val (.ref a), .val (.int top), .val (.int bottom), .val (.int w), .val (.int tier), .val (.int cc), .val (.int ch), .val (.int (4 : Int32))] [(.int (4 : Int32)), (.int (4 : Int32))])) (fun t_ kt_ => own_len Xa4_221 hx hZ ea4_221 Ara4_222 (len_of Sa4_222 Nga4_222) (g := (mkF mI 69 #[.val (.ref a), .val (.int top), .val (.int bottom), .val (.int w), .val (.int tier), .val (.int cc), .val (.int ch), .val (.int (4 : Int32))] [(.ref ba4_45), (.int (4 : Int32))])) rfl rfl (hb hby d1_69) _ kt_) ?_
  refine own_go (T' := Ta4_221) (g' := (mkF mI 92 #[.val (.ref a), .val (.int top), .val (.int bottom), .val (.int w), .val (.int tier), .val (.int cc), .val (.int ch), .val (.int (4 : Int32))] [])) (fun t_ kt_ => XS.icmpYes Xa4_221.here hx rfl (pc0 := 70) (pc' := 92) rfl (hb hby d1_70) rfl (flt (by decide : ¬ ((4 : Int32) < (4 : Int32)))).2.1 (by decide) (by decide) kt_) ?_
  refine own_retV Xa4_221 hx hlk hret (hb hby d1_92) (by decide) (by decide) ?_
  exact by
    rw [ea4_221]
    refine ⟨rfl, Na4_200, Ka4_220, Ea4_206, Fa4_201, ba4_45, _, _, Fa4_205, Va4_200, fun j hj => ?_⟩
    have hj' : j < 4 := hj
    rcases j with _ | j
    · exact ⟨ba4_72, _, rfl, Va4_215⟩
    rcases j with _ | j
    · exact ⟨ba4_104, _, rfl, Va4_216⟩
    rcases j with _ | j
    · exact ⟨ba4_140, _, rfl, Va4_217⟩
    rcases j with _ | j
    · exact ⟨ba4_180, _, rfl, Va4_218⟩
    · omega
theorem rmC (l : Launch) (Z : State) (a0 : Array Value) (hw : ∀ d ∈ tables_1, d.before a0 Z = true) (ws : List Jvm.Cond) (h0 : Heap) (n0 : Nat) (Z0 : n0 ≤ h0.size) (a : Addr) (top bottom w tier cc ch z1 : Int32) (E_a : Exa Z h0 a "com/example/classic_strings/classicstrings/compare/Matrix$Checkpoints") (F_top : Fld Z h0 a "com/example/classic_strings/classicstrings/compare/Matrix$Checkpoints" "top" "I" (.int 0)) (F_tierStrips : Fld Z h0 a "com/example/classic_strings/classicstrings/compare/Matrix$Checkpoints" "tierStrips" "I" (.int 0)) (F_chunkColumns : Fld Z h0 a "com/example/classic_strings/classicstrings/compare/Matrix$Checkpoints" "chunkColumns" "I" (.int 0)) (F_carries : Fld Z h0 a "com/example/classic_strings/classicstrings/compare/Matrix$Checkpoints" "carries" "[[B" .null) (F_states : Fld Z h0 a "com/example/classic_strings/classicstrings/compare/Matrix$Checkpoints" "states" "[[J" .null) (g_a : n0 ≤ a) (n : Int32) (hn : n = 1 ∨ n = 2 ∨ n = 3 ∨ n = 4) (hd : bottom - top = n) (htz : ¬ tier = 0) (hz1 : ((n + tier) - (1 : Int32)) / tier = z1) (hz1n : ¬ z1 < 0) (hz1c : z1.toNatClampNeg ≤ 8) (hcz : ¬ cc = 0) (hch : ((w + cc) - (1 : Int32)) / cc = ch) (hrn : ¬ ((2 : Int32) * ch) < 0) (hrc : ((2 : Int32) * ch).toNatClampNeg ≤ 2048) :
    own_Met l Z (⟨"com/example/classic_strings/classicstrings/compare/Matrix$Checkpoints", "<init>", "(IIIII)V"⟩ : MethodName) prog_14_method_1_code 8 none ws ({ frames := 1, cells := 6, slots := 8204, locals := 12 } : Room) #[(.ref a), (.int top), (.int bottom), (.int w), (.int tier), (.int cc)] h0 (own_QC Z h0 n0 a n ((2 : Int32) * ch) top) := by
  rcases hn with rfl | rfl | rfl | rfl
  · exact rmC_1 l Z a0 hw ws h0 n0 Z0 a top bottom w tier cc ch z1 E_a F_top F_tierStrips F_chunkColumns F_carries F_states g_a hd htz hz1 hz1n hz1c hcz hch hrn hrc
  · exact rmC_2 l Z a0 hw ws h0 n0 Z0 a top bottom w tier cc ch z1 E_a F_top F_tierStrips F_chunkColumns F_carries F_states g_a hd htz hz1 hz1n hz1c hcz hch hrn hrc
  · exact rmC_3 l Z a0 hw ws h0 n0 Z0 a top bottom w tier cc ch z1 E_a F_top F_tierStrips F_chunkColumns F_carries F_states g_a hd htz hz1 hz1n hz1c hcz hch hrn hrc
  · exact rmC_4 l Z a0 hw ws h0 n0 Z0 a top bottom w tier cc ch z1 E_a F_top F_tierStrips F_chunkColumns F_carries F_states g_a hd htz hz1 hz1n hz1c hcz hch hrn hrc
def own_QS (Z : State) (n0 : Nat) (b : Addr) (kb : ClassId) (x2 : Int64) (v : Option Value) (h : Heap) (L : List Loc) : Prop := v = none ∧ Fr n0 L ∧ Arv Z h b kb .long 3 [(.long (0 : Int64)), (.long (0 : Int64)), (.long x2)] (.long (0 : Int64))
theorem d3_0 : decode prog_14_method_4_code 0 = .ok (.aload_n 0, 1) := by decide +kernel
theorem d3_1 : decode prog_14_method_4_code 1 = .ok (.getfield 27, 3) := by decide +kernel
theorem d3_4 : decode prog_14_method_4_code 4 = .ok (.iload_n 1, 1) := by decide +kernel
theorem d3_5 : decode prog_14_method_4_code 5 = .ok (.aload_n 0, 1) := by decide +kernel
theorem d3_6 : decode prog_14_method_4_code 6 = .ok (.getfield 7, 3) := by decide +kernel
theorem d3_9 : decode prog_14_method_4_code 9 = .ok (.isub, 1) := by decide +kernel
theorem d3_10 : decode prog_14_method_4_code 10 = .ok (.aaload, 1) := by decide +kernel
theorem d3_11 : decode prog_14_method_4_code 11 = .ok (.astore 4, 2) := by decide +kernel
theorem d3_13 : decode prog_14_method_4_code 13 = .ok (.aload_n 3, 1) := by decide +kernel
theorem d3_14 : decode prog_14_method_4_code 14 = .ok (.iconst 0, 1) := by decide +kernel
theorem d3_15 : decode prog_14_method_4_code 15 = .ok (.aload 4, 2) := by decide +kernel
theorem d3_17 : decode prog_14_method_4_code 17 = .ok (.iconst 2, 1) := by decide +kernel
theorem d3_18 : decode prog_14_method_4_code 18 = .ok (.iload_n 2, 1) := by decide +kernel
theorem d3_19 : decode prog_14_method_4_code 19 = .ok (.imul, 1) := by decide +kernel
theorem d3_20 : decode prog_14_method_4_code 20 = .ok (.laload, 1) := by decide +kernel
theorem d3_21 : decode prog_14_method_4_code 21 = .ok (.lastore, 1) := by decide +kernel
theorem d3_22 : decode prog_14_method_4_code 22 = .ok (.aload_n 3, 1) := by decide +kernel
theorem d3_23 : decode prog_14_method_4_code 23 = .ok (.iconst 1, 1) := by decide +kernel
theorem d3_24 : decode prog_14_method_4_code 24 = .ok (.aload 4, 2) := by decide +kernel
theorem d3_26 : decode prog_14_method_4_code 26 = .ok (.iconst 2, 1) := by decide +kernel
theorem d3_27 : decode prog_14_method_4_code 27 = .ok (.iload_n 2, 1) := by decide +kernel
theorem d3_28 : decode prog_14_method_4_code 28 = .ok (.imul, 1) := by decide +kernel
theorem d3_29 : decode prog_14_method_4_code 29 = .ok (.iconst 1, 1) := by decide +kernel
theorem d3_30 : decode prog_14_method_4_code 30 = .ok (.iadd, 1) := by decide +kernel
theorem d3_31 : decode prog_14_method_4_code 31 = .ok (.laload, 1) := by decide +kernel
theorem d3_32 : decode prog_14_method_4_code 32 = .ok (.lastore, 1) := by decide +kernel
theorem d3_33 : decode prog_14_method_4_code 33 = .ok (.return_, 1) := by decide +kernel
theorem rmS_pn : plainFor (⟨"com/example/classic_strings/classicstrings/compare/Matrix$Checkpoints", "state", "(II[J)V"⟩ : MethodName) = true := plainFor_of_name (show plainName "com/example/classic_strings/classicstrings/compare/Matrix$Checkpoints" = true by first | (simp [plainName, overriddenIn]; done) | decide +kernel)
theorem rmS_ef (mI : MethodId) (a : Addr) (strip : Int32) (chunk : Int32) (b : Addr) : entryFrame mI #[(.ref a), (.int strip), (.int chunk), (.ref b)] 5 = mkF mI 0 #[.val (.ref a), .val (.int strip), .val (.int chunk), .val (.ref b), .unset] [] := by first | (simp [entryFrame, mkF, argsToLocals, Value.category]; done) | rfl
set_option maxRecDepth 65536 in
set_option maxHeartbeats 40000000 in
theorem rmS (l : Launch) (Z : State) (a0 : Array Value) (hw : ∀ d ∈ tables_1, d.before a0 Z = true) (ws : List Jvm.Cond) (h0 : Heap) (n0 : Nat) (Z0 : n0 ≤ h0.size) (a : Addr) (strip chunk : Int32) (b : Addr) (top k n z : Int32) (sa r : Addr) (kA kJ kb : ClassId) (vs : List Value) (x0 x1 x2 : Int64) (g_b : n0 ≤ b) (F_top : Fld Z h0 a "com/example/classic_strings/classicstrings/compare/Matrix$Checkpoints" "top" "I" (.int top)) (F_states : Fld Z h0 a "com/example/classic_strings/classicstrings/compare/Matrix$Checkpoints" "states" "[[J" (.ref sa)) (V_sa : Arv Z h0 sa kA (.array .long) n vs .null) (V_r : Arv Z h0 r kJ .long z [] (.long 0)) (V_b : Arv Z h0 b kb .long 3 [(.long x0), (.long x1), (.long x2)] (.long (0 : Int64))) (ne_a_b : a ≠ b) (ne_r_b : r ≠ b) (hst : strip - top = k) (hk0 : ¬ k < 0) (hkn : k < n) (hr : vs.getD k.toNatClampNeg .null = .ref r) (hi0 : ¬ ((2 : Int32) * chunk) < 0) (hi1 : ((2 : Int32) * chunk) < z) (hj0 : ¬ (((2 : Int32) * chunk) + (1 : Int32)) < 0) (hj1 : (((2 : Int32) * chunk) + (1 : Int32)) < z) :
    own_Met l Z (⟨"com/example/classic_strings/classicstrings/compare/Matrix$Checkpoints", "state", "(II[J)V"⟩ : MethodName) prog_14_method_4_code 5 none ws ({ frames := 0, cells := 0, slots := 0, locals := 0 } : Room) #[(.ref a), (.int strip), (.int chunk), (.ref b)] h0 (own_QS Z n0 b kb x2) := by
  refine own_met rmS_pn ?_
  intro pP eE sS mI bB mT cC s₁ hx hby hml hown hnm hret hlk hZ X0 e0
  replace hown : sS.vm.findClass "com/example/classic_strings/classicstrings/compare/Matrix$Checkpoints" = some mI.cls := hown
  refine own_cast (rmS_ef mI a strip chunk b) ?_
  refine own_go (T' := s₁) (g' := (mkF mI 1 #[.val (.ref a), .val (.int strip), .val (.int chunk), .val (.ref b), .unset] [(.ref a)])) (fun t_ kt_ => XS.aloadN X0.here hx rfl (hb hby d3_0) rfl rfl kt_) ?_
  obtain ⟨Ts1, Xs1, es1, sts1⟩ := getF X0 hx hZ hown (host := "") (Or.inl (hw _ (List.mem_of_getElem? (i := 23) rfl))) Via.refl e0 F_states (g := (mkF mI 1 #[.val (.ref a), .val (.int strip), .val (.int chunk), .val (.ref b), .unset] [(.ref a)])) rfl rfl (hb hby d3_1)
  refine own_go (T' := Ts1) (g' := (mkF mI 4 #[.val (.ref a), .val (.int strip), .val (.int chunk), .val (.ref b), .unset] [(.ref sa)])) (fun t_ kt_ => sts1 _ kt_) ?_
  refine own_go (T' := Ts1) (g' := (mkF mI 5 #[.val (.ref a), .val (.int strip), .val (.int chunk), .val (.ref b), .unset] [(.int strip), (.ref sa)])) (fun t_ kt_ => XS.iloadN Xs1.here hx rfl (hb hby d3_4) rfl kt_) ?_
  refine own_go (T' := Ts1) (g' := (mkF mI 6 #[.val (.ref a), .val (.int strip), .val (.int chunk), .val (.ref b), .unset] [(.ref a), (.int strip), (.ref sa)])) (fun t_ kt_ => XS.aloadN Xs1.here hx rfl (hb hby d3_5) rfl rfl kt_) ?_
  obtain ⟨Ts2, Xs2, es2, sts2⟩ := getF Xs1 hx hZ hown (host := "") (Or.inl (hw _ (List.mem_of_getElem? (i := 11) rfl))) Via.refl es1 F_top (g := (mkF mI 6 #[.val (.ref a), .val (.int strip), .val (.int chunk), .val (.ref b), .unset] [(.ref a), (.int strip), (.ref sa)])) rfl rfl (hb hby d3_6)
  refine own_go (T' := Ts2) (g' := (mkF mI 9 #[.val (.ref a), .val (.int strip), .val (.int chunk), .val (.ref b), .unset] [(.int top), (.int strip), (.ref sa)])) (fun t_ kt_ => sts2 _ kt_) ?_
  refine own_go (T' := Ts2) (g' := (mkF mI 10 #[.val (.ref a), .val (.int strip), .val (.int chunk), .val (.ref b), .unset] [(.int (strip - top)), (.ref sa)])) (fun t_ kt_ => XS.isub Xs2.here hx rfl (hb hby d3_9) rfl kt_) ?_
  rw [hst]
  obtain ⟨cls3, Ars3, qs3, Ss3, Ngs3, Hs3, Gs3⟩ := id V_sa
  refine own_go (T' := Ts2) (g' := (mkF mI 11 #[.val (.ref a), .val (.int strip), .val (.int chunk), .val (.ref b), .unset] [(.ref r)])) (fun t_ kt_ => own_aald Xs2 hx hZ es2 Ars3 rfl (inb_of Ss3 ⟨hk0, hkn⟩) (Has.at Hs3 (inb_of Ss3 ⟨hk0, hkn⟩) hr) (g := (mkF mI 10 #[.val (.ref a), .val (.int strip), .val (.int chunk), .val (.ref b), .unset] [(.int k), (.ref sa)])) rfl rfl (hb hby d3_10) _ kt_) ?_
  refine own_go (T' := Ts2) (g' := (mkF mI 13 #[.val (.ref a), .val (.int strip), .val (.int chunk), .val (.ref b), .val (.ref r)] [])) (fun t_ kt_ => XS.astore Xs2.here hx rfl (hb hby d3_11) rfl rfl (l' := #[.val (.ref a), .val (.int strip), .val (.int chunk), .val (.ref b), .val (.ref r)]) rfl kt_) ?_
  refine own_go (T' := Ts2) (g' := (mkF mI 14 #[.val (.ref a), .val (.int strip), .val (.int chunk), .val (.ref b), .val (.ref r)] [(.ref b)])) (fun t_ kt_ => XS.aloadN Xs2.here hx rfl (hb hby d3_13) rfl rfl kt_) ?_
  refine own_go (T' := Ts2) (g' := (mkF mI 15 #[.val (.ref a), .val (.int strip), .val (.int chunk), .val (.ref b), .val (.ref r)] [(.int (0 : Int32)), (.ref b)])) (fun t_ kt_ => XS.iconst Xs2.here hx rfl (hb hby d3_14) kt_) ?_
  refine own_go (T' := Ts2) (g' := (mkF mI 17 #[.val (.ref a), .val (.int strip), .val (.int chunk), .val (.ref b), .val (.ref r)] [(.ref r), (.int (0 : Int32)), (.ref b)])) (fun t_ kt_ => XS.aload Xs2.here hx rfl (hb hby d3_15) rfl rfl kt_) ?_
  refine own_go (T' := Ts2) (g' := (mkF mI 18 #[.val (.ref a), .val (.int strip), .val (.int chunk), .val (.ref b), .val (.ref r)] [(.int (2 : Int32)), (.ref r), (.int (0 : Int32)), (.ref b)])) (fun t_ kt_ => XS.iconst Xs2.here hx rfl (hb hby d3_17) kt_) ?_
  refine own_go (T' := Ts2) (g' := (mkF mI 19 #[.val (.ref a), .val (.int strip), .val (.int chunk), .val (.ref b), .val (.ref r)] [(.int chunk), (.int (2 : Int32)), (.ref r), (.int (0 : Int32)), (.ref b)])) (fun t_ kt_ => XS.iloadN Xs2.here hx rfl (hb hby d3_18) rfl kt_) ?_
  refine own_go (T' := Ts2) (g' := (mkF mI 20 #[.val (.ref a), .val (.int strip), .val (.int chunk), .val (.ref b), .val (.ref r)] [(.int ((2 : Int32) * chunk)), (.ref r), (.int (0 : Int32)), (.ref b)])) (fun t_ kt_ => XS.imul Xs2.here hx rfl (hb hby d3_19) rfl kt_) ?_
  obtain ⟨cls4, Ars4, qs4, Ss4, Ngs4, Hs4, Gs4⟩ := id V_r
  refine own_go (T' := Ts2) (g' := (mkF mI 21 #[.val (.ref a), .val (.int strip), .val (.int chunk), .val (.ref b), .val (.ref r)] [(.long (0 : Int64)), (.int (0 : Int32)), (.ref b)])) (fun t_ kt_ => own_lald Xs2 hx hZ es2 Ars4 (inb_of Ss4 ⟨hi0, hi1⟩) (Has.at Hs4 (inb_of Ss4 ⟨hi0, hi1⟩) rfl) (g := (mkF mI 20 #[.val (.ref a), .val (.int strip), .val (.int chunk), .val (.ref b), .val (.ref r)] [(.int ((2 : Int32) * chunk)), (.ref r), (.int (0 : Int32)), (.ref b)])) rfl rfl (hb hby d3_20) _ kt_) ?_
  obtain ⟨cls5, Ars5, qs5, Ss5, Ngs5, Hs5, Gs5⟩ := id V_b
  obtain ⟨Ts6, hs6, Xs6, es6, Ws6, sts6⟩ := stJ Xs2 hx hZ es2 Ars5 (j := (0 : Int32)) (inb_of Ss5 ⟨by decide, by decide⟩) (g := (mkF mI 21 #[.val (.ref a), .val (.int strip), .val (.int chunk), .val (.ref b), .val (.ref r)] [(.long (0 : Int64)), (.int (0 : Int32)), (.ref b)])) rfl rfl (hb hby d3_21)
  have Vs6 : Arv Z hs6 b kb .long 3 [(.long (0 : Int64)), (.long x1), (.long x2)] (.long (0 : Int64)) := Arv.set Ars5 qs5 Ss5 Ngs5 Hs5 Gs5 rfl Ws6 0 rfl (Nat.le_of_ble_eq_true rfl)
  have Fs7 := Fld.other Ws6 F_top (Or.inl ne_a_b)
  have Fs8 := Fld.other Ws6 F_states (Or.inl ne_a_b)
  have Vs9 := Arv.other V_r Ws6 ne_r_b
  have Zs11 : n0 ≤ hs6.size := Nat.le_trans Z0 (Nat.le_of_eq (Wr.size Ws6).symm)
  have Ns6 := Fr.snoc Xs6 (Fr.nil n0) g_b
  refine own_go (T' := Ts6) (g' := (mkF mI 22 #[.val (.ref a), .val (.int strip), .val (.int chunk), .val (.ref b), .val (.ref r)] [])) (fun t_ kt_ => sts6 _ kt_) ?_
  refine own_go (T' := Ts6) (g' := (mkF mI 23 #[.val (.ref a), .val (.int strip), .val (.int chunk), .val (.ref b), .val (.ref r)] [(.ref b)])) (fun t_ kt_ => XS.aloadN Xs6.here hx rfl (hb hby d3_22) rfl rfl kt_) ?_
  refine own_go (T' := Ts6) (g' := (mkF mI 24 #[.val (.ref a), .val (.int strip), .val (.int chunk), .val (.ref b), .val (.ref r)] [(.int (1 : Int32)), (.ref b)])) (fun t_ kt_ => XS.iconst Xs6.here hx rfl (hb hby d3_23) kt_) ?_
  refine own_go (T' := Ts6) (g' := (mkF mI 26 #[.val (.ref a), .val (.int strip), .val (.int chunk), .val (.ref b), .val (.ref r)] [(.ref r), (.int (1 : Int32)), (.ref b)])) (fun t_ kt_ => XS.aload Xs6.here hx rfl (hb hby d3_24) rfl rfl kt_) ?_
  refine own_go (T' := Ts6) (g' := (mkF mI 27 #[.val (.ref a), .val (.int strip), .val (.int chunk), .val (.ref b), .val (.ref r)] [(.int (2 : Int32)), (.ref r), (.int (1 : Int32)), (.ref b)])) (fun t_ kt_ => XS.iconst Xs6.here hx rfl (hb hby d3_26) kt_) ?_
  refine own_go (T' := Ts6) (g' := (mkF mI 28 #[.val (.ref a), .val (.int strip), .val (.int chunk), .val (.ref b), .val (.ref r)] [(.int chunk), (.int (2 : Int32)), (.ref r), (.int (1 : Int32)), (.ref b)])) (fun t_ kt_ => XS.iloadN Xs6.here hx rfl (hb hby d3_27) rfl kt_) ?_
  refine own_go (T' := Ts6) (g' := (mkF mI 29 #[.val (.ref a), .val (.int strip), .val (.int chunk), .val (.ref b), .val (.ref r)] [(.int ((2 : Int32) * chunk)), (.ref r), (.int (1 : Int32)), (.ref b)])) (fun t_ kt_ => XS.imul Xs6.here hx rfl (hb hby d3_28) rfl kt_) ?_
  refine own_go (T' := Ts6) (g' := (mkF mI 30 #[.val (.ref a), .val (.int strip), .val (.int chunk), .val (.ref b), .val (.ref r)] [(.int (1 : Int32)), (.int ((2 : Int32) * chunk)), (.ref r), (.int (1 : Int32)), (.ref b)])) (fun t_ kt_ => XS.iconst Xs6.here hx rfl (hb hby d3_29) kt_) ?_
  refine own_go (T' := Ts6) (g' := (mkF mI 31 #[.val (.ref a), .val (.int strip), .val (.int chunk), .val (.ref b), .val (.ref r)] [(.int (((2 : Int32) * chunk) + (1 : Int32))), (.ref r), (.int (1 : Int32)), (.ref b)])) (fun t_ kt_ => XS.iadd Xs6.here hx rfl (hb hby d3_30) rfl kt_) ?_
  obtain ⟨cls12, Ars12, qs12, Ss12, Ngs12, Hs12, Gs12⟩ := id Vs9
  refine own_go (T' := Ts6) (g' := (mkF mI 32 #[.val (.ref a), .val (.int strip), .val (.int chunk), .val (.ref b), .val (.ref r)] [(.long (0 : Int64)), (.int (1 : Int32)), (.ref b)])) (fun t_ kt_ => own_lald Xs6 hx hZ es6 Ars12 (inb_of Ss12 ⟨hj0, hj1⟩) (Has.at Hs12 (inb_of Ss12 ⟨hj0, hj1⟩) rfl) (g := (mkF mI 31 #[.val (.ref a), .val (.int strip), .val (.int chunk), .val (.ref b), .val (.ref r)] [(.int (((2 : Int32) * chunk) + (1 : Int32))), (.ref r), (.int (1 : Int32)), (.ref b)])) rfl rfl (hb hby d3_31) _ kt_) ?_
  obtain ⟨cls13, Ars13, qs13, Ss13, Ngs13, Hs13, Gs13⟩ := id Vs6
  obtain ⟨Ts14, hs14, Xs14, es14, Ws14, sts14⟩ := stJ Xs6 hx hZ es6 Ars13 (j := (1 : Int32)) (inb_of Ss13 ⟨by decide, by decide⟩) (g := (mkF mI 32 #[.val (.ref a), .val (.int strip), .val (.int chunk), .val (.ref b), .val (.ref r)] [(.long (0 : Int64)), (.int (1 : Int32)), (.ref b)])) rfl rfl (hb hby d3_32)
  have Vs14 : Arv Z hs14 b kb .long 3 [(.long (0 : Int64)), (.long (0 : Int64)), (.long x2)] (.long (0 : Int64)) := Arv.set Ars13 qs13 Ss13 Ngs13 Hs13 Gs13 rfl Ws14 1 rfl (Nat.le_of_ble_eq_true rfl)
  have Fs15 := Fld.other Ws14 Fs7 (Or.inl ne_a_b)
  have Fs16 := Fld.other Ws14 Fs8 (Or.inl ne_a_b)
  have Vs17 := Arv.other Vs9 Ws14 ne_r_b
  have Zs19 : n0 ≤ hs14.size := Nat.le_trans Zs11 (Nat.le_of_eq (Wr.size Ws14).symm)
  have Ns14 := Fr.snoc Xs14 Ns6 g_b
  refine own_go (T' := Ts14) (g' := (mkF mI 33 #[.val (.ref a), .val (.int strip), .val (.int chunk), .val (.ref b), .val (.ref r)] [])) (fun t_ kt_ => sts14 _ kt_) ?_
  refine own_retV Xs14 hx hlk hret (hb hby d3_33) (by decide) (by decide) ?_
  exact by rw [es14]; exact ⟨rfl, Ns14, Vs14⟩
def own_Q1 (n0 : Nat) (v : Option Value) (h : Heap) (L : List Loc) : Prop := v = some (.int 1) ∧ Fr n0 L
theorem rm0_pn : plainFor x = true := plainFor_of_name (show plainName "com/example/classic_strings/classicstrings/compare/CheckpointsStatePinLaw" = true by first | (simp [plainName, overriddenIn]; done) | decide +kernel)
theorem rm0_ef (mI : MethodId) (top : Int32) (shape : Int32) (width : Int32) (cols : Int32) (pick : Int32) (fill : Int64) : entryFrame mI #[(.int top), (.int shape), (.int width), (.int cols), (.int pick), (.long fill)] maxLocals = mkF mI 0 #[.val (.int top), .val (.int shape), .val (.int width), .val (.int cols), .val (.int pick), .val (.long fill), .second, .unset, .unset, .unset, .unset, .unset, .unset, .unset, .unset, .unset, .unset, .unset, .unset, .unset] [] := by first | (simp [entryFrame, mkF, argsToLocals, Value.category, maxLocals]; done) | rfl
set_option maxRecDepth 65536 in
set_option maxHeartbeats 40000000 in
theorem rm0 (l : Launch) (Z : State) (a0 : Array Value) (hw : ∀ d ∈ tables_1, d.before a0 Z = true) (ws : List Jvm.Cond) (h0 : Heap) (n0 : Nat) (Z0 : n0 ≤ h0.size) (top shape width cols pick : Int32) (fill : Int64) :
    own_Met l Z x code maxLocals ret ws room_1 #[(.int top), (.int shape), (.int width), (.int cols), (.int pick), (.long fill)] h0 (own_Q1 n0) := by
  refine own_met rm0_pn ?_
  intro pP eE sS mI bB mT cC s₁ hx hby hml hown hnm hret hlk hZ X0 e0
  replace hown : sS.vm.findClass "com/example/classic_strings/classicstrings/compare/CheckpointsStatePinLaw" = some mI.cls := hown
  replace hml : cC.maxLocals = 20 := hml
  replace hret : mT.sig.returnType = (some .boolean) := hret
  refine own_cast (rm0_ef mI top shape width cols pick fill) ?_
  refine own_go (T' := s₁) (g' := (mkF mI 1 #[.val (.int top), .val (.int shape), .val (.int width), .val (.int cols), .val (.int pick), .val (.long fill), .second, .unset, .unset, .unset, .unset, .unset, .unset, .unset, .unset, .unset, .unset, .unset, .unset, .unset] [(.int (1 : Int32))])) (fun t_ kt_ => XS.iconst X0.here hx rfl (hb hby at_0) kt_) ?_
  refine own_go (T' := s₁) (g' := (mkF mI 2 #[.val (.int top), .val (.int shape), .val (.int width), .val (.int cols), .val (.int pick), .val (.long fill), .second, .unset, .unset, .unset, .unset, .unset, .unset, .unset, .unset, .unset, .unset, .unset, .unset, .unset] [(.int shape), (.int (1 : Int32))])) (fun t_ kt_ => XS.iloadN X0.here hx rfl (hb hby at_1) rfl kt_) ?_
  refine own_go (T' := s₁) (g' := (mkF mI 3 #[.val (.int top), .val (.int shape), .val (.int width), .val (.int cols), .val (.int pick), .val (.long fill), .second, .unset, .unset, .unset, .unset, .unset, .unset, .unset, .unset, .unset, .unset, .unset, .unset, .unset] [(.int (3 : Int32)), (.int shape), (.int (1 : Int32))])) (fun t_ kt_ => XS.iconst X0.here hx rfl (hb hby at_2) kt_) ?_
  refine own_go (T' := s₁) (g' := (mkF mI 4 #[.val (.int top), .val (.int shape), .val (.int width), .val (.int cols), .val (.int pick), .val (.long fill), .second, .unset, .unset, .unset, .unset, .unset, .unset, .unset, .unset, .unset, .unset, .unset, .unset, .unset] [(.int (shape &&& (3 : Int32))), (.int (1 : Int32))])) (fun t_ kt_ => XS.iand X0.here hx rfl (hb hby at_3) rfl kt_) ?_
  refine own_go (T' := s₁) (g' := (mkF mI 5 #[.val (.int top), .val (.int shape), .val (.int width), .val (.int cols), .val (.int pick), .val (.long fill), .second, .unset, .unset, .unset, .unset, .unset, .unset, .unset, .unset, .unset, .unset, .unset, .unset, .unset] [(.int ((1 : Int32) + (shape &&& (3 : Int32))))])) (fun t_ kt_ => XS.iadd X0.here hx rfl (hb hby at_4) rfl kt_) ?_
  obtain ⟨n, hn⟩ : ∃ z, z = ((1 : Int32) + (shape &&& (3 : Int32))) := ⟨_, rfl⟩
  rw [← hn]
  refine own_go (T' := s₁) (g' := (mkF mI 7 #[.val (.int top), .val (.int shape), .val (.int width), .val (.int cols), .val (.int pick), .val (.long fill), .second, .val (.int n), .unset, .unset, .unset, .unset, .unset, .unset, .unset, .unset, .unset, .unset, .unset, .unset] [])) (fun t_ kt_ => XS.istore X0.here hx rfl (hb hby at_5) rfl (l' := #[.val (.int top), .val (.int shape), .val (.int width), .val (.int cols), .val (.int pick), .val (.long fill), .second, .val (.int n), .unset, .unset, .unset, .unset, .unset, .unset, .unset, .unset, .unset, .unset, .unset, .unset]) rfl kt_) ?_
  refine own_go (T' := s₁) (g' := (mkF mI 8 #[.val (.int top), .val (.int shape), .val (.int width), .val (.int cols), .val (.int pick), .val (.long fill), .second, .val (.int n), .unset, .unset, .unset, .unset, .unset, .unset, .unset, .unset, .unset, .unset, .unset, .unset] [(.int (1 : Int32))])) (fun t_ kt_ => XS.iconst X0.here hx rfl (hb hby at_7) kt_) ?_
  refine own_go (T' := s₁) (g' := (mkF mI 9 #[.val (.int top), .val (.int shape), .val (.int width), .val (.int cols), .val (.int pick), .val (.long fill), .second, .val (.int n), .unset, .unset, .unset, .unset, .unset, .unset, .unset, .unset, .unset, .unset, .unset, .unset] [(.int shape), (.int (1 : Int32))])) (fun t_ kt_ => XS.iloadN X0.here hx rfl (hb hby at_8) rfl kt_) ?_
  refine own_go (T' := s₁) (g' := (mkF mI 10 #[.val (.int top), .val (.int shape), .val (.int width), .val (.int cols), .val (.int pick), .val (.long fill), .second, .val (.int n), .unset, .unset, .unset, .unset, .unset, .unset, .unset, .unset, .unset, .unset, .unset, .unset] [(.int (2 : Int32)), (.int shape), (.int (1 : Int32))])) (fun t_ kt_ => XS.iconst X0.here hx rfl (hb hby at_9) kt_) ?_
  refine own_go (T' := s₁) (g' := (mkF mI 11 #[.val (.int top), .val (.int shape), .val (.int width), .val (.int cols), .val (.int pick), .val (.long fill), .second, .val (.int n), .unset, .unset, .unset, .unset, .unset, .unset, .unset, .unset, .unset, .unset, .unset, .unset] [(.int ((shape.toUInt32 >>> ((2 : Int32) &&& 31).toUInt32).toInt32)), (.int (1 : Int32))])) (fun t_ kt_ => XS.iushr X0.here hx rfl (hb hby at_10) rfl kt_) ?_
  refine own_go (T' := s₁) (g' := (mkF mI 12 #[.val (.int top), .val (.int shape), .val (.int width), .val (.int cols), .val (.int pick), .val (.long fill), .second, .val (.int n), .unset, .unset, .unset, .unset, .unset, .unset, .unset, .unset, .unset, .unset, .unset, .unset] [(.int (3 : Int32)), (.int ((shape.toUInt32 >>> ((2 : Int32) &&& 31).toUInt32).toInt32)), (.int (1 : Int32))])) (fun t_ kt_ => XS.iconst X0.here hx rfl (hb hby at_11) kt_) ?_
  refine own_go (T' := s₁) (g' := (mkF mI 13 #[.val (.int top), .val (.int shape), .val (.int width), .val (.int cols), .val (.int pick), .val (.long fill), .second, .val (.int n), .unset, .unset, .unset, .unset, .unset, .unset, .unset, .unset, .unset, .unset, .unset, .unset] [(.int (((shape.toUInt32 >>> ((2 : Int32) &&& 31).toUInt32).toInt32) &&& (3 : Int32))), (.int (1 : Int32))])) (fun t_ kt_ => XS.iand X0.here hx rfl (hb hby at_12) rfl kt_) ?_
  refine own_go (T' := s₁) (g' := (mkF mI 14 #[.val (.int top), .val (.int shape), .val (.int width), .val (.int cols), .val (.int pick), .val (.long fill), .second, .val (.int n), .unset, .unset, .unset, .unset, .unset, .unset, .unset, .unset, .unset, .unset, .unset, .unset] [(.int ((1 : Int32) + (((shape.toUInt32 >>> ((2 : Int32) &&& 31).toUInt32).toInt32) &&& (3 : Int32))))])) (fun t_ kt_ => XS.iadd X0.here hx rfl (hb hby at_13) rfl kt_) ?_
  obtain ⟨tier, htier⟩ : ∃ z, z = ((1 : Int32) + (((shape.toUInt32 >>> ((2 : Int32) &&& 31).toUInt32).toInt32) &&& (3 : Int32))) := ⟨_, rfl⟩
  rw [← htier]
  refine own_go (T' := s₁) (g' := (mkF mI 16 #[.val (.int top), .val (.int shape), .val (.int width), .val (.int cols), .val (.int pick), .val (.long fill), .second, .val (.int n), .val (.int tier), .unset, .unset, .unset, .unset, .unset, .unset, .unset, .unset, .unset, .unset, .unset] [])) (fun t_ kt_ => XS.istore X0.here hx rfl (hb hby at_14) rfl (l' := #[.val (.int top), .val (.int shape), .val (.int width), .val (.int cols), .val (.int pick), .val (.long fill), .second, .val (.int n), .val (.int tier), .unset, .unset, .unset, .unset, .unset, .unset, .unset, .unset, .unset, .unset, .unset]) rfl kt_) ?_
  refine own_go (T' := s₁) (g' := (mkF mI 17 #[.val (.int top), .val (.int shape), .val (.int width), .val (.int cols), .val (.int pick), .val (.long fill), .second, .val (.int n), .val (.int tier), .unset, .unset, .unset, .unset, .unset, .unset, .unset, .unset, .unset, .unset, .unset] [(.int (1 : Int32))])) (fun t_ kt_ => XS.iconst X0.here hx rfl (hb hby at_16) kt_) ?_
  refine own_go (T' := s₁) (g' := (mkF mI 18 #[.val (.int top), .val (.int shape), .val (.int width), .val (.int cols), .val (.int pick), .val (.long fill), .second, .val (.int n), .val (.int tier), .unset, .unset, .unset, .unset, .unset, .unset, .unset, .unset, .unset, .unset, .unset] [(.int width), (.int (1 : Int32))])) (fun t_ kt_ => XS.iloadN X0.here hx rfl (hb hby at_17) rfl kt_) ?_
  refine own_go (T' := s₁) (g' := (mkF mI 21 #[.val (.int top), .val (.int shape), .val (.int width), .val (.int cols), .val (.int pick), .val (.long fill), .second, .val (.int n), .val (.int tier), .unset, .unset, .unset, .unset, .unset, .unset, .unset, .unset, .unset, .unset, .unset] [(.int (1023 : Int32)), (.int width), (.int (1 : Int32))])) (fun t_ kt_ => XS.sipush X0.here hx rfl (hb hby at_18) kt_) ?_
  refine own_go (T' := s₁) (g' := (mkF mI 22 #[.val (.int top), .val (.int shape), .val (.int width), .val (.int cols), .val (.int pick), .val (.long fill), .second, .val (.int n), .val (.int tier), .unset, .unset, .unset, .unset, .unset, .unset, .unset, .unset, .unset, .unset, .unset] [(.int (width &&& (1023 : Int32))), (.int (1 : Int32))])) (fun t_ kt_ => XS.iand X0.here hx rfl (hb hby at_21) rfl kt_) ?_
  refine own_go (T' := s₁) (g' := (mkF mI 23 #[.val (.int top), .val (.int shape), .val (.int width), .val (.int cols), .val (.int pick), .val (.long fill), .second, .val (.int n), .val (.int tier), .unset, .unset, .unset, .unset, .unset, .unset, .unset, .unset, .unset, .unset, .unset] [(.int ((1 : Int32) + (width &&& (1023 : Int32))))])) (fun t_ kt_ => XS.iadd X0.here hx rfl (hb hby at_22) rfl kt_) ?_
  obtain ⟨w, hwd⟩ : ∃ z, z = ((1 : Int32) + (width &&& (1023 : Int32))) := ⟨_, rfl⟩
  rw [← hwd]
  refine own_go (T' := s₁) (g' := (mkF mI 25 #[.val (.int top), .val (.int shape), .val (.int width), .val (.int cols), .val (.int pick), .val (.long fill), .second, .val (.int n), .val (.int tier), .val (.int w), .unset, .unset, .unset, .unset, .unset, .unset, .unset, .unset, .unset, .unset] [])) (fun t_ kt_ => XS.istore X0.here hx rfl (hb hby at_23) rfl (l' := #[.val (.int top), .val (.int shape), .val (.int width), .val (.int cols), .val (.int pick), .val (.long fill), .second, .val (.int n), .val (.int tier), .val (.int w), .unset, .unset, .unset, .unset, .unset, .unset, .unset, .unset, .unset, .unset]) rfl kt_) ?_
  refine own_go (T' := s₁) (g' := (mkF mI 26 #[.val (.int top), .val (.int shape), .val (.int width), .val (.int cols), .val (.int pick), .val (.long fill), .second, .val (.int n), .val (.int tier), .val (.int w), .unset, .unset, .unset, .unset, .unset, .unset, .unset, .unset, .unset, .unset] [(.int (1 : Int32))])) (fun t_ kt_ => XS.iconst X0.here hx rfl (hb hby at_25) kt_) ?_
  refine own_go (T' := s₁) (g' := (mkF mI 27 #[.val (.int top), .val (.int shape), .val (.int width), .val (.int cols), .val (.int pick), .val (.long fill), .second, .val (.int n), .val (.int tier), .val (.int w), .unset, .unset, .unset, .unset, .unset, .unset, .unset, .unset, .unset, .unset] [(.int cols), (.int (1 : Int32))])) (fun t_ kt_ => XS.iloadN X0.here hx rfl (hb hby at_26) rfl kt_) ?_
  refine own_go (T' := s₁) (g' := (mkF mI 30 #[.val (.int top), .val (.int shape), .val (.int width), .val (.int cols), .val (.int pick), .val (.long fill), .second, .val (.int n), .val (.int tier), .val (.int w), .unset, .unset, .unset, .unset, .unset, .unset, .unset, .unset, .unset, .unset] [(.int (255 : Int32)), (.int cols), (.int (1 : Int32))])) (fun t_ kt_ => XS.sipush X0.here hx rfl (hb hby at_27) kt_) ?_
  refine own_go (T' := s₁) (g' := (mkF mI 31 #[.val (.int top), .val (.int shape), .val (.int width), .val (.int cols), .val (.int pick), .val (.long fill), .second, .val (.int n), .val (.int tier), .val (.int w), .unset, .unset, .unset, .unset, .unset, .unset, .unset, .unset, .unset, .unset] [(.int (cols &&& (255 : Int32))), (.int (1 : Int32))])) (fun t_ kt_ => XS.iand X0.here hx rfl (hb hby at_30) rfl kt_) ?_
  refine own_go (T' := s₁) (g' := (mkF mI 32 #[.val (.int top), .val (.int shape), .val (.int width), .val (.int cols), .val (.int pick), .val (.long fill), .second, .val (.int n), .val (.int tier), .val (.int w), .unset, .unset, .unset, .unset, .unset, .unset, .unset, .unset, .unset, .unset] [(.int ((1 : Int32) + (cols &&& (255 : Int32))))])) (fun t_ kt_ => XS.iadd X0.here hx rfl (hb hby at_31) rfl kt_) ?_
  obtain ⟨cc, hcc⟩ : ∃ z, z = ((1 : Int32) + (cols &&& (255 : Int32))) := ⟨_, rfl⟩
  rw [← hcc]
  refine own_go (T' := s₁) (g' := (mkF mI 34 #[.val (.int top), .val (.int shape), .val (.int width), .val (.int cols), .val (.int pick), .val (.long fill), .second, .val (.int n), .val (.int tier), .val (.int w), .val (.int cc), .unset, .unset, .unset, .unset, .unset, .unset, .unset, .unset, .unset] [])) (fun t_ kt_ => XS.istore X0.here hx rfl (hb hby at_32) rfl (l' := #[.val (.int top), .val (.int shape), .val (.int width), .val (.int cols), .val (.int pick), .val (.long fill), .second, .val (.int n), .val (.int tier), .val (.int w), .val (.int cc), .unset, .unset, .unset, .unset, .unset, .unset, .unset, .unset, .unset]) rfl kt_) ?_
  refine own_go (T' := s₁) (g' := (mkF mI 36 #[.val (.int top), .val (.int shape), .val (.int width), .val (.int cols), .val (.int pick), .val (.long fill), .second, .val (.int n), .val (.int tier), .val (.int w), .val (.int cc), .unset, .unset, .unset, .unset, .unset, .unset, .unset, .unset, .unset] [(.int w)])) (fun t_ kt_ => XS.iload X0.here hx rfl (hb hby at_34) rfl kt_) ?_
  refine own_go (T' := s₁) (g' := (mkF mI 38 #[.val (.int top), .val (.int shape), .val (.int width), .val (.int cols), .val (.int pick), .val (.long fill), .second, .val (.int n), .val (.int tier), .val (.int w), .val (.int cc), .unset, .unset, .unset, .unset, .unset, .unset, .unset, .unset, .unset] [(.int cc), (.int w)])) (fun t_ kt_ => XS.iload X0.here hx rfl (hb hby at_36) rfl kt_) ?_
  refine own_go (T' := s₁) (g' := (mkF mI 39 #[.val (.int top), .val (.int shape), .val (.int width), .val (.int cols), .val (.int pick), .val (.long fill), .second, .val (.int n), .val (.int tier), .val (.int w), .val (.int cc), .unset, .unset, .unset, .unset, .unset, .unset, .unset, .unset, .unset] [(.int (w + cc))])) (fun t_ kt_ => XS.iadd X0.here hx rfl (hb hby at_38) rfl kt_) ?_
  refine own_go (T' := s₁) (g' := (mkF mI 40 #[.val (.int top), .val (.int shape), .val (.int width), .val (.int cols), .val (.int pick), .val (.long fill), .second, .val (.int n), .val (.int tier), .val (.int w), .val (.int cc), .unset, .unset, .unset, .unset, .unset, .unset, .unset, .unset, .unset] [(.int (1 : Int32)), (.int (w + cc))])) (fun t_ kt_ => XS.iconst X0.here hx rfl (hb hby at_39) kt_) ?_
  refine own_go (T' := s₁) (g' := (mkF mI 41 #[.val (.int top), .val (.int shape), .val (.int width), .val (.int cols), .val (.int pick), .val (.long fill), .second, .val (.int n), .val (.int tier), .val (.int w), .val (.int cc), .unset, .unset, .unset, .unset, .unset, .unset, .unset, .unset, .unset] [(.int ((w + cc) - (1 : Int32)))])) (fun t_ kt_ => XS.isub X0.here hx rfl (hb hby at_40) rfl kt_) ?_
  refine own_go (T' := s₁) (g' := (mkF mI 43 #[.val (.int top), .val (.int shape), .val (.int width), .val (.int cols), .val (.int pick), .val (.long fill), .second, .val (.int n), .val (.int tier), .val (.int w), .val (.int cc), .unset, .unset, .unset, .unset, .unset, .unset, .unset, .unset, .unset] [(.int cc), (.int ((w + cc) - (1 : Int32)))])) (fun t_ kt_ => XS.iload X0.here hx rfl (hb hby at_41) rfl kt_) ?_
  refine own_go (T' := s₁) (g' := (mkF mI 44 #[.val (.int top), .val (.int shape), .val (.int width), .val (.int cols), .val (.int pick), .val (.long fill), .second, .val (.int n), .val (.int tier), .val (.int w), .val (.int cc), .unset, .unset, .unset, .unset, .unset, .unset, .unset, .unset, .unset] [(.int (((w + cc) - (1 : Int32)) / cc))])) (fun t_ kt_ => XS.idiv X0.here hx rfl (hb hby at_43) rfl (fun q => by
        have h1 : cc.toInt = 0 := by rw [q]; decide
        have h2 : 1 ≤ cc.toInt := by rw [hcc]; exact (own_one _ 255 8 (Jvm.Kit.i32_mask _ 255 (k := 8) (by decide) (by decide)) (by decide)).1
        omega) kt_) ?_
  obtain ⟨ch, hch⟩ : ∃ z, z = (((w + cc) - (1 : Int32)) / cc) := ⟨_, rfl⟩
  rw [← hch]
  refine own_go (T' := s₁) (g' := (mkF mI 46 #[.val (.int top), .val (.int shape), .val (.int width), .val (.int cols), .val (.int pick), .val (.long fill), .second, .val (.int n), .val (.int tier), .val (.int w), .val (.int cc), .val (.int ch), .unset, .unset, .unset, .unset, .unset, .unset, .unset, .unset] [])) (fun t_ kt_ => XS.istore X0.here hx rfl (hb hby at_44) rfl (l' := #[.val (.int top), .val (.int shape), .val (.int width), .val (.int cols), .val (.int pick), .val (.long fill), .second, .val (.int n), .val (.int tier), .val (.int w), .val (.int cc), .val (.int ch), .unset, .unset, .unset, .unset, .unset, .unset, .unset, .unset]) rfl kt_) ?_
  refine own_go (T' := s₁) (g' := (mkF mI 48 #[.val (.int top), .val (.int shape), .val (.int width), .val (.int cols), .val (.int pick), .val (.long fill), .second, .val (.int n), .val (.int tier), .val (.int w), .val (.int cc), .val (.int ch), .unset, .unset, .unset, .unset, .unset, .unset, .unset, .unset] [(.int pick)])) (fun t_ kt_ => XS.iload X0.here hx rfl (hb hby at_46) rfl kt_) ?_
  refine own_go (T' := s₁) (g' := (mkF mI 50 #[.val (.int top), .val (.int shape), .val (.int width), .val (.int cols), .val (.int pick), .val (.long fill), .second, .val (.int n), .val (.int tier), .val (.int w), .val (.int cc), .val (.int ch), .unset, .unset, .unset, .unset, .unset, .unset, .unset, .unset] [(.int (2147483647 : Int32)), (.int pick)])) (fun t_ kt_ => ldcI X0 hx hown (mvT hZ (hw _ (List.mem_of_getElem? (i := 0) rfl))) rfl (hb hby at_48) kt_) ?_
  refine own_go (T' := s₁) (g' := (mkF mI 51 #[.val (.int top), .val (.int shape), .val (.int width), .val (.int cols), .val (.int pick), .val (.long fill), .second, .val (.int n), .val (.int tier), .val (.int w), .val (.int cc), .val (.int ch), .unset, .unset, .unset, .unset, .unset, .unset, .unset, .unset] [(.int (pick &&& (2147483647 : Int32)))])) (fun t_ kt_ => XS.iand X0.here hx rfl (hb hby at_50) rfl kt_) ?_
  refine own_go (T' := s₁) (g' := (mkF mI 53 #[.val (.int top), .val (.int shape), .val (.int width), .val (.int cols), .val (.int pick), .val (.long fill), .second, .val (.int n), .val (.int tier), .val (.int w), .val (.int cc), .val (.int ch), .unset, .unset, .unset, .unset, .unset, .unset, .unset, .unset] [(.int n), (.int (pick &&& (2147483647 : Int32)))])) (fun t_ kt_ => XS.iload X0.here hx rfl (hb hby at_51) rfl kt_) ?_
  refine own_go (T' := s₁) (g' := (mkF mI 54 #[.val (.int top), .val (.int shape), .val (.int width), .val (.int cols), .val (.int pick), .val (.long fill), .second, .val (.int n), .val (.int tier), .val (.int w), .val (.int cc), .val (.int ch), .unset, .unset, .unset, .unset, .unset, .unset, .unset, .unset] [(.int ((pick &&& (2147483647 : Int32)) % n))])) (fun t_ kt_ => iremM X0 hx rfl (hb hby at_53) rfl (fun q => by
        have h1 := own_n4 shape
        rw [← hn, q] at h1
        revert h1; decide) kt_) ?_
  obtain ⟨k, hkk⟩ : ∃ z, z = ((pick &&& (2147483647 : Int32)) % n) := ⟨_, rfl⟩
  rw [← hkk]
  refine own_go (T' := s₁) (g' := (mkF mI 56 #[.val (.int top), .val (.int shape), .val (.int width), .val (.int cols), .val (.int pick), .val (.long fill), .second, .val (.int n), .val (.int tier), .val (.int w), .val (.int cc), .val (.int ch), .val (.int k), .unset, .unset, .unset, .unset, .unset, .unset, .unset] [])) (fun t_ kt_ => XS.istore X0.here hx rfl (hb hby at_54) rfl (l' := #[.val (.int top), .val (.int shape), .val (.int width), .val (.int cols), .val (.int pick), .val (.long fill), .second, .val (.int n), .val (.int tier), .val (.int w), .val (.int cc), .val (.int ch), .val (.int k), .unset, .unset, .unset, .unset, .unset, .unset, .unset]) rfl kt_) ?_
  refine own_go (T' := s₁) (g' := (mkF mI 58 #[.val (.int top), .val (.int shape), .val (.int width), .val (.int cols), .val (.int pick), .val (.long fill), .second, .val (.int n), .val (.int tier), .val (.int w), .val (.int cc), .val (.int ch), .val (.int k), .unset, .unset, .unset, .unset, .unset, .unset, .unset] [(.int pick)])) (fun t_ kt_ => XS.iload X0.here hx rfl (hb hby at_56) rfl kt_) ?_
  refine own_go (T' := s₁) (g' := (mkF mI 59 #[.val (.int top), .val (.int shape), .val (.int width), .val (.int cols), .val (.int pick), .val (.long fill), .second, .val (.int n), .val (.int tier), .val (.int w), .val (.int cc), .val (.int ch), .val (.int k), .unset, .unset, .unset, .unset, .unset, .unset, .unset] [(.int (2 : Int32)), (.int pick)])) (fun t_ kt_ => XS.iconst X0.here hx rfl (hb hby at_58) kt_) ?_
  refine own_go (T' := s₁) (g' := (mkF mI 60 #[.val (.int top), .val (.int shape), .val (.int width), .val (.int cols), .val (.int pick), .val (.long fill), .second, .val (.int n), .val (.int tier), .val (.int w), .val (.int cc), .val (.int ch), .val (.int k), .unset, .unset, .unset, .unset, .unset, .unset, .unset] [(.int ((pick.toUInt32 >>> ((2 : Int32) &&& 31).toUInt32).toInt32))])) (fun t_ kt_ => XS.iushr X0.here hx rfl (hb hby at_59) rfl kt_) ?_
  refine own_go (T' := s₁) (g' := (mkF mI 62 #[.val (.int top), .val (.int shape), .val (.int width), .val (.int cols), .val (.int pick), .val (.long fill), .second, .val (.int n), .val (.int tier), .val (.int w), .val (.int cc), .val (.int ch), .val (.int k), .unset, .unset, .unset, .unset, .unset, .unset, .unset] [(.int (1073741823 : Int32)), (.int ((pick.toUInt32 >>> ((2 : Int32) &&& 31).toUInt32).toInt32))])) (fun t_ kt_ => ldcI X0 hx hown (mvT hZ (hw _ (List.mem_of_getElem? (i := 1) rfl))) rfl (hb hby at_60) kt_) ?_
  refine own_go (T' := s₁) (g' := (mkF mI 63 #[.val (.int top), .val (.int shape), .val (.int width), .val (.int cols), .val (.int pick), .val (.long fill), .second, .val (.int n), .val (.int tier), .val (.int w), .val (.int cc), .val (.int ch), .val (.int k), .unset, .unset, .unset, .unset, .unset, .unset, .unset] [(.int (((pick.toUInt32 >>> ((2 : Int32) &&& 31).toUInt32).toInt32) &&& (1073741823 : Int32)))])) (fun t_ kt_ => XS.iand X0.here hx rfl (hb hby at_62) rfl kt_) ?_
  refine own_go (T' := s₁) (g' := (mkF mI 65 #[.val (.int top), .val (.int shape), .val (.int width), .val (.int cols), .val (.int pick), .val (.long fill), .second, .val (.int n), .val (.int tier), .val (.int w), .val (.int cc), .val (.int ch), .val (.int k), .unset, .unset, .unset, .unset, .unset, .unset, .unset] [(.int ch), (.int (((pick.toUInt32 >>> ((2 : Int32) &&& 31).toUInt32).toInt32) &&& (1073741823 : Int32)))])) (fun t_ kt_ => XS.iload X0.here hx rfl (hb hby at_63) rfl kt_) ?_
  refine own_go (T' := s₁) (g' := (mkF mI 66 #[.val (.int top), .val (.int shape), .val (.int width), .val (.int cols), .val (.int pick), .val (.long fill), .second, .val (.int n), .val (.int tier), .val (.int w), .val (.int cc), .val (.int ch), .val (.int k), .unset, .unset, .unset, .unset, .unset, .unset, .unset] [(.int ((((pick.toUInt32 >>> ((2 : Int32) &&& 31).toUInt32).toInt32) &&& (1073741823 : Int32)) % ch))])) (fun t_ kt_ => iremM X0 hx rfl (hb hby at_65) rfl (fun q => by
        have h1 : ch.toInt = 0 := by rw [q]; decide
        have b1 : 1 ≤ w.toInt ∧ w.toInt ≤ 1024 := by rw [hwd]; exact own_one _ 1023 10 (Jvm.Kit.i32_mask _ 1023 (k := 10) (by decide) (by decide)) (by decide)
        have b2 : 1 ≤ cc.toInt ∧ cc.toInt ≤ 256 := by rw [hcc]; exact own_one _ 255 8 (Jvm.Kit.i32_mask _ 255 (k := 8) (by decide) (by decide)) (by decide)
        have h2 : 1 ≤ ch.toInt := by rw [hch]; exact (own_up w cc b1.1 b1.2 b2.1 b2.2).1
        omega) kt_) ?_
  obtain ⟨chunk, hchunk⟩ : ∃ z, z = ((((pick.toUInt32 >>> ((2 : Int32) &&& 31).toUInt32).toInt32) &&& (1073741823 : Int32)) % ch) := ⟨_, rfl⟩
  rw [← hchunk]
  refine own_go (T' := s₁) (g' := (mkF mI 68 #[.val (.int top), .val (.int shape), .val (.int width), .val (.int cols), .val (.int pick), .val (.long fill), .second, .val (.int n), .val (.int tier), .val (.int w), .val (.int cc), .val (.int ch), .val (.int k), .val (.int chunk), .unset, .unset, .unset, .unset, .unset, .unset] [])) (fun t_ kt_ => XS.istore X0.here hx rfl (hb hby at_66) rfl (l' := #[.val (.int top), .val (.int shape), .val (.int width), .val (.int cols), .val (.int pick), .val (.long fill), .second, .val (.int n), .val (.int tier), .val (.int w), .val (.int cc), .val (.int ch), .val (.int k), .val (.int chunk), .unset, .unset, .unset, .unset, .unset, .unset]) rfl kt_) ?_
  refine own_go (T' := s₁) (g' := (mkF mI 69 #[.val (.int top), .val (.int shape), .val (.int width), .val (.int cols), .val (.int pick), .val (.long fill), .second, .val (.int n), .val (.int tier), .val (.int w), .val (.int cc), .val (.int ch), .val (.int k), .val (.int chunk), .unset, .unset, .unset, .unset, .unset, .unset] [(.int top)])) (fun t_ kt_ => XS.iloadN X0.here hx rfl (hb hby at_68) rfl kt_) ?_
  refine own_go (T' := s₁) (g' := (mkF mI 71 #[.val (.int top), .val (.int shape), .val (.int width), .val (.int cols), .val (.int pick), .val (.long fill), .second, .val (.int n), .val (.int tier), .val (.int w), .val (.int cc), .val (.int ch), .val (.int k), .val (.int chunk), .unset, .unset, .unset, .unset, .unset, .unset] [(.int n), (.int top)])) (fun t_ kt_ => XS.iload X0.here hx rfl (hb hby at_69) rfl kt_) ?_
  refine own_go (T' := s₁) (g' := (mkF mI 72 #[.val (.int top), .val (.int shape), .val (.int width), .val (.int cols), .val (.int pick), .val (.long fill), .second, .val (.int n), .val (.int tier), .val (.int w), .val (.int cc), .val (.int ch), .val (.int k), .val (.int chunk), .unset, .unset, .unset, .unset, .unset, .unset] [(.int (top + n))])) (fun t_ kt_ => XS.iadd X0.here hx rfl (hb hby at_71) rfl kt_) ?_
  obtain ⟨bottom, hbot⟩ : ∃ z, z = (top + n) := ⟨_, rfl⟩
  rw [← hbot]
  refine own_go (T' := s₁) (g' := (mkF mI 74 #[.val (.int top), .val (.int shape), .val (.int width), .val (.int cols), .val (.int pick), .val (.long fill), .second, .val (.int n), .val (.int tier), .val (.int w), .val (.int cc), .val (.int ch), .val (.int k), .val (.int chunk), .val (.int bottom), .unset, .unset, .unset, .unset, .unset] [])) (fun t_ kt_ => XS.istore X0.here hx rfl (hb hby at_72) rfl (l' := #[.val (.int top), .val (.int shape), .val (.int width), .val (.int cols), .val (.int pick), .val (.long fill), .second, .val (.int n), .val (.int tier), .val (.int w), .val (.int cc), .val (.int ch), .val (.int k), .val (.int chunk), .val (.int bottom), .unset, .unset, .unset, .unset, .unset]) rfl kt_) ?_
  refine own_go (T' := s₁) (g' := (mkF mI 75 #[.val (.int top), .val (.int shape), .val (.int width), .val (.int cols), .val (.int pick), .val (.long fill), .second, .val (.int n), .val (.int tier), .val (.int w), .val (.int cc), .val (.int ch), .val (.int k), .val (.int chunk), .val (.int bottom), .unset, .unset, .unset, .unset, .unset] [(.int top)])) (fun t_ kt_ => XS.iloadN X0.here hx rfl (hb hby at_74) rfl kt_) ?_
  refine own_go (T' := s₁) (g' := (mkF mI 77 #[.val (.int top), .val (.int shape), .val (.int width), .val (.int cols), .val (.int pick), .val (.long fill), .second, .val (.int n), .val (.int tier), .val (.int w), .val (.int cc), .val (.int ch), .val (.int k), .val (.int chunk), .val (.int bottom), .unset, .unset, .unset, .unset, .unset] [(.int k), (.int top)])) (fun t_ kt_ => XS.iload X0.here hx rfl (hb hby at_75) rfl kt_) ?_
  refine own_go (T' := s₁) (g' := (mkF mI 78 #[.val (.int top), .val (.int shape), .val (.int width), .val (.int cols), .val (.int pick), .val (.long fill), .second, .val (.int n), .val (.int tier), .val (.int w), .val (.int cc), .val (.int ch), .val (.int k), .val (.int chunk), .val (.int bottom), .unset, .unset, .unset, .unset, .unset] [(.int (top + k))])) (fun t_ kt_ => XS.iadd X0.here hx rfl (hb hby at_77) rfl kt_) ?_
  obtain ⟨strip, hstrip⟩ : ∃ z, z = (top + k) := ⟨_, rfl⟩
  rw [← hstrip]
  refine own_go (T' := s₁) (g' := (mkF mI 80 #[.val (.int top), .val (.int shape), .val (.int width), .val (.int cols), .val (.int pick), .val (.long fill), .second, .val (.int n), .val (.int tier), .val (.int w), .val (.int cc), .val (.int ch), .val (.int k), .val (.int chunk), .val (.int bottom), .val (.int strip), .unset, .unset, .unset, .unset] [])) (fun t_ kt_ => XS.istore X0.here hx rfl (hb hby at_78) rfl (l' := #[.val (.int top), .val (.int shape), .val (.int width), .val (.int cols), .val (.int pick), .val (.long fill), .second, .val (.int n), .val (.int tier), .val (.int w), .val (.int cc), .val (.int ch), .val (.int k), .val (.int chunk), .val (.int bottom), .val (.int strip), .unset, .unset, .unset, .unset]) rfl kt_) ?_
  have hn4 : n = 1 ∨ n = 2 ∨ n = 3 ∨ n = 4 := by rw [hn]; exact own_n4 shape
  have c0 : (0 : Int32).toInt = 0 := by decide
  have c1 : (1 : Int32).toInt = 1 := by decide
  have c2 : (2 : Int32).toInt = 2 := by decide
  have bn : 1 ≤ n.toInt ∧ n.toInt ≤ 4 := by rcases hn4 with q | q | q | q <;> rw [q] <;> decide
  have bt : 1 ≤ tier.toInt ∧ tier.toInt ≤ 4 := by rw [htier]; exact own_one _ 3 2 (Jvm.Kit.i32_mask _ 3 (k := 2) (by decide) (by decide)) (by decide)
  have bw : 1 ≤ w.toInt ∧ w.toInt ≤ 1024 := by rw [hwd]; exact own_one _ 1023 10 (Jvm.Kit.i32_mask _ 1023 (k := 10) (by decide) (by decide)) (by decide)
  have bc : 1 ≤ cc.toInt ∧ cc.toInt ≤ 256 := by rw [hcc]; exact own_one _ 255 8 (Jvm.Kit.i32_mask _ 255 (k := 8) (by decide) (by decide)) (by decide)
  have bch : 1 ≤ ch.toInt ∧ ch.toInt ≤ w.toInt := by rw [hch]; exact own_up w cc bw.1 bw.2 bc.1 bc.2
  have bk : 0 ≤ k.toInt ∧ k.toInt < n.toInt := by rw [hkk]; exact own_rem _ n (by rw [Jvm.Kit.i32_mask pick 2147483647 (k := 31) (by decide) (by decide)]; omega) bn.1
  have bq : 0 ≤ chunk.toInt ∧ chunk.toInt < ch.toInt := by rw [hchunk]; exact own_rem _ ch (by rw [Jvm.Kit.i32_mask _ 1073741823 (k := 30) (by decide) (by decide)]; omega) bch.1
  have e2c : ((2 : Int32) * ch).toInt = 2 * ch.toInt := by rw [Int32.toInt_mul, show (2 : Int32).toInt = 2 from by decide]; exact Int.bmod_eq_of_le (by omega) (by omega)
  have e2q : ((2 : Int32) * chunk).toInt = 2 * chunk.toInt := by rw [Int32.toInt_mul, show (2 : Int32).toInt = 2 from by decide]; exact Int.bmod_eq_of_le (by omega) (by omega)
  have e2r : (((2 : Int32) * chunk) + (1 : Int32)).toInt = 2 * chunk.toInt + 1 := by rw [Int32.toInt_add, e2q, show (1 : Int32).toInt = 1 from by decide]; exact Int.bmod_eq_of_le (by omega) (by omega)
  have hd : bottom - top = n := by rw [hbot, Int32.add_comm, Int32.add_sub_cancel]
  have hst : strip - top = k := by rw [hstrip, Int32.add_comm, Int32.add_sub_cancel]
  have htz : ¬ tier = 0 := fun q => by rw [q] at bt; exact absurd bt (by decide)
  have hcz : ¬ cc = 0 := fun q => by rw [q] at bc; exact absurd bc (by decide)
  obtain ⟨z1, hz1⟩ : ∃ z, z = ((n + tier) - (1 : Int32)) / tier := ⟨_, rfl⟩
  have e5 : (n + tier).toInt = n.toInt + tier.toInt := by rw [Int32.toInt_add]; exact Int.bmod_eq_of_le (by omega) (by omega)
  have e6 : ((n + tier) - (1 : Int32)).toInt = n.toInt + tier.toInt - 1 := by rw [Int32.toInt_sub, e5, show (1 : Int32).toInt = 1 from by decide]; exact Int.bmod_eq_of_le (by omega) (by omega)
  have hne : tier ≠ -1 := fun q => by rw [q] at bt; exact absurd bt (by decide)
  have e7 := (c_idiv ((n + tier) - (1 : Int32)) tier tier.toInt rfl hne).1 (by omega)
  have a7 := Int.ediv_nonneg (show 0 ≤ n.toInt + tier.toInt - 1 by omega) (show 0 ≤ tier.toInt by omega)
  have b7 := Int.ediv_le_self tier.toInt (show 0 ≤ n.toInt + tier.toInt - 1 by omega)
  rw [e6] at e7
  have hz1n : ¬ z1 < 0 := own_nn (by rw [hz1]; omega)
  have hz1c : z1.toNatClampNeg ≤ 8 := own_clamp (by rw [hz1]; omega)
  have hrn : ¬ ((2 : Int32) * ch) < 0 := own_nn (by omega)
  have hrc : ((2 : Int32) * ch).toNatClampNeg ≤ 2048 := own_clamp (by omega)
  have hk0 : ¬ k < 0 := own_nn bk.1
  have hkn : k < n := by rw [Int32.lt_iff_toInt_lt]; exact bk.2
  have hkN : k.toNatClampNeg < n.toNatClampNeg := by simp only [Int32.toNatClampNeg]; omega
  have hi0 : ¬ ((2 : Int32) * chunk) < 0 := own_nn (by omega)
  have hi1 : ((2 : Int32) * chunk) < ((2 : Int32) * ch) := by rw [Int32.lt_iff_toInt_lt]; omega
  have hj0 : ¬ (((2 : Int32) * chunk) + (1 : Int32)) < 0 := own_nn (by omega)
  have hj1 : (((2 : Int32) * chunk) + (1 : Int32)) < ((2 : Int32) * ch) := by rw [Int32.lt_iff_toInt_lt]; omega
  obtain ⟨Te1, he1, Xe1, ee1, Exe1, Ae1, De1, -, ste1⟩ := newO X0 hx hZ hown (hw _ (List.mem_of_getElem? (i := 2) rfl)) (hw _ (List.mem_of_getElem? (i := 3) rfl)) (hw _ (List.mem_of_getElem? (i := 4) rfl)) e0 (g := (mkF mI 80 #[.val (.int top), .val (.int shape), .val (.int width), .val (.int cols), .val (.int pick), .val (.long fill), .second, .val (.int n), .val (.int tier), .val (.int w), .val (.int cc), .val (.int ch), .val (.int k), .val (.int chunk), .val (.int bottom), .val (.int strip), .unset, .unset, .unset, .unset] [])) rfl (hb hby at_80) (by decide) (by decide)
  obtain ⟨be1, ge1⟩ : ∃ z, z = h0.size := ⟨_, rfl⟩
  rw [← ge1] at Ae1 De1 ste1
  have g_be1 : n0 ≤ be1 := Nat.le_trans Z0 (Nat.le_of_eq ge1.symm)
  have Ze2 : n0 ≤ he1.size := Nat.le_trans Z0 Exe1.1
  have F_top_be1 : Fld Z he1 be1 "com/example/classic_strings/classicstrings/compare/Matrix$Checkpoints" "top" "I" (.int (0 : Int32)) := De1 (Or.inr (hw _ (List.mem_of_getElem? (i := 12) rfl))) (ty := .int) (by decide)
  have F_tierStrips_be1 : Fld Z he1 be1 "com/example/classic_strings/classicstrings/compare/Matrix$Checkpoints" "tierStrips" "I" (.int (0 : Int32)) := De1 (Or.inr (hw _ (List.mem_of_getElem? (i := 14) rfl))) (ty := .int) (by decide)
  have F_chunkColumns_be1 : Fld Z he1 be1 "com/example/classic_strings/classicstrings/compare/Matrix$Checkpoints" "chunkColumns" "I" (.int (0 : Int32)) := De1 (Or.inr (hw _ (List.mem_of_getElem? (i := 16) rfl))) (ty := .int) (by decide)
  have F_carries_be1 : Fld Z he1 be1 "com/example/classic_strings/classicstrings/compare/Matrix$Checkpoints" "carries" "[[B" .null := De1 (Or.inr (hw _ (List.mem_of_getElem? (i := 20) rfl))) (ty := (.array (.array .byte))) (by decide)
  have F_states_be1 : Fld Z he1 be1 "com/example/classic_strings/classicstrings/compare/Matrix$Checkpoints" "states" "[[J" .null := De1 (Or.inr (hw _ (List.mem_of_getElem? (i := 24) rfl))) (ty := (.array (.array .long))) (by decide)
  refine own_go (T' := Te1) (g' := (mkF mI 83 #[.val (.int top), .val (.int shape), .val (.int width), .val (.int cols), .val (.int pick), .val (.long fill), .second, .val (.int n), .val (.int tier), .val (.int w), .val (.int cc), .val (.int ch), .val (.int k), .val (.int chunk), .val (.int bottom), .val (.int strip), .unset, .unset, .unset, .unset] [(.ref be1)])) (fun t_ kt_ => ste1 _ kt_) ?_
  refine own_go (T' := Te1) (g' := (mkF mI 84 #[.val (.int top), .val (.int shape), .val (.int width), .val (.int cols), .val (.int pick), .val (.long fill), .second, .val (.int n), .val (.int tier), .val (.int w), .val (.int cc), .val (.int ch), .val (.int k), .val (.int chunk), .val (.int bottom), .val (.int strip), .unset, .unset, .unset, .unset] [(.ref be1), (.ref be1)])) (fun t_ kt_ => XS.dup Xe1.here hx rfl (hb hby at_83) rfl rfl kt_) ?_
  refine own_go (T' := Te1) (g' := (mkF mI 85 #[.val (.int top), .val (.int shape), .val (.int width), .val (.int cols), .val (.int pick), .val (.long fill), .second, .val (.int n), .val (.int tier), .val (.int w), .val (.int cc), .val (.int ch), .val (.int k), .val (.int chunk), .val (.int bottom), .val (.int strip), .unset, .unset, .unset, .unset] [(.int top), (.ref be1), (.ref be1)])) (fun t_ kt_ => XS.iloadN Xe1.here hx rfl (hb hby at_84) rfl kt_) ?_
  refine own_go (T' := Te1) (g' := (mkF mI 87 #[.val (.int top), .val (.int shape), .val (.int width), .val (.int cols), .val (.int pick), .val (.long fill), .second, .val (.int n), .val (.int tier), .val (.int w), .val (.int cc), .val (.int ch), .val (.int k), .val (.int chunk), .val (.int bottom), .val (.int strip), .unset, .unset, .unset, .unset] [(.int bottom), (.int top), (.ref be1), (.ref be1)])) (fun t_ kt_ => XS.iload Xe1.here hx rfl (hb hby at_85) rfl kt_) ?_
  refine own_go (T' := Te1) (g' := (mkF mI 89 #[.val (.int top), .val (.int shape), .val (.int width), .val (.int cols), .val (.int pick), .val (.long fill), .second, .val (.int n), .val (.int tier), .val (.int w), .val (.int cc), .val (.int ch), .val (.int k), .val (.int chunk), .val (.int bottom), .val (.int strip), .unset, .unset, .unset, .unset] [(.int w), (.int bottom), (.int top), (.ref be1), (.ref be1)])) (fun t_ kt_ => XS.iload Xe1.here hx rfl (hb hby at_87) rfl kt_) ?_
  refine own_go (T' := Te1) (g' := (mkF mI 91 #[.val (.int top), .val (.int shape), .val (.int width), .val (.int cols), .val (.int pick), .val (.long fill), .second, .val (.int n), .val (.int tier), .val (.int w), .val (.int cc), .val (.int ch), .val (.int k), .val (.int chunk), .val (.int bottom), .val (.int strip), .unset, .unset, .unset, .unset] [(.int tier), (.int w), (.int bottom), (.int top), (.ref be1), (.ref be1)])) (fun t_ kt_ => XS.iload Xe1.here hx rfl (hb hby at_89) rfl kt_) ?_
  refine own_go (T' := Te1) (g' := (mkF mI 93 #[.val (.int top), .val (.int shape), .val (.int width), .val (.int cols), .val (.int pick), .val (.long fill), .second, .val (.int n), .val (.int tier), .val (.int w), .val (.int cc), .val (.int ch), .val (.int k), .val (.int chunk), .val (.int bottom), .val (.int strip), .unset, .unset, .unset, .unset] [(.int cc), (.int tier), (.int w), (.int bottom), (.int top), (.ref be1), (.ref be1)])) (fun t_ kt_ => XS.iload Xe1.here hx rfl (hb hby at_91) rfl kt_) ?_
  refine own_callI own_closed Xe1 hx hZ (y := (⟨"com/example/classic_strings/classicstrings/compare/Matrix$Checkpoints", "<init>", "(IIIII)V"⟩ : MethodName)) rfl hown (hw _ (List.mem_of_getElem? (i := 5) rfl)) (hw _ (List.mem_of_getElem? (i := 6) rfl)) (by decide) (rmC l Z a0 hw [] he1 n0 Ze2 be1 top bottom w tier cc ch z1 Ae1 F_top_be1 F_tierStrips_be1 F_chunkColumns_be1 F_carries_be1 F_states_be1 g_be1 n hn4 hd htz hz1.symm hz1n hz1c hcz hch.symm hrn hrc) (hw _ (List.mem_of_getElem? (i := 7) rfl)) (hw _ (List.mem_of_getElem? (i := 4) rfl)) (b := be1) ee1 (pc := 93) (Ls := #[.val (.int top), .val (.int shape), .val (.int width), .val (.int cols), .val (.int pick), .val (.long fill), .second, .val (.int n), .val (.int tier), .val (.int w), .val (.int cc), .val (.int ch), .val (.int k), .val (.int chunk), .val (.int bottom), .val (.int strip), .unset, .unset, .unset, .unset]) (argsL := [(.int top), (.int bottom), (.int w), (.int tier), (.int cc)]) (rest := [(.ref be1)]) (by rw [hml]; rfl) (lenOf pd_0 rfl) (W := 1) (Nat.le_of_eq rfl) (by decide) (by decide) (by decide) (by decide) (hb hby at_93) rfl rfl ?_
  intro Te3 Le3 ve3 Xe3 hQe3
  obtain ⟨rfl, Ne3, Ke3, Eoe3, Fte3, sae3, kAe3, vse3, Fse3, Vse3, hrowe3⟩ := hQe3
  have Ne3a := Fr.app (Fr.nil n0) Ne3
  obtain ⟨re3, kJe3, hre3, Vre3⟩ := hrowe3 k.toNatClampNeg hkN
  have Ze4 : n0 ≤ Te3.heap.size := Nat.le_trans Ze2 Ke3.1
  show own_Ends pP eE bB sS _ _ Te3 (mkF mI 96 #[.val (.int top), .val (.int shape), .val (.int width), .val (.int cols), .val (.int pick), .val (.long fill), .second, .val (.int n), .val (.int tier), .val (.int w), .val (.int cc), .val (.int ch), .val (.int k), .val (.int chunk), .val (.int bottom), .val (.int strip), .unset, .unset, .unset, .unset] [(.ref be1)])
  refine own_go (T' := Te3) (g' := (mkF mI 98 #[.val (.int top), .val (.int shape), .val (.int width), .val (.int cols), .val (.int pick), .val (.long fill), .second, .val (.int n), .val (.int tier), .val (.int w), .val (.int cc), .val (.int ch), .val (.int k), .val (.int chunk), .val (.int bottom), .val (.int strip), .val (.ref be1), .unset, .unset, .unset] [])) (fun t_ kt_ => XS.astore Xe3.here hx rfl (hb hby at_96) rfl rfl (l' := #[.val (.int top), .val (.int shape), .val (.int width), .val (.int cols), .val (.int pick), .val (.long fill), .second, .val (.int n), .val (.int tier), .val (.int w), .val (.int cc), .val (.int ch), .val (.int k), .val (.int chunk), .val (.int bottom), .val (.int strip), .val (.ref be1), .unset, .unset, .unset]) rfl kt_) ?_
  refine own_go (T' := Te3) (g' := (mkF mI 99 #[.val (.int top), .val (.int shape), .val (.int width), .val (.int cols), .val (.int pick), .val (.long fill), .second, .val (.int n), .val (.int tier), .val (.int w), .val (.int cc), .val (.int ch), .val (.int k), .val (.int chunk), .val (.int bottom), .val (.int strip), .val (.ref be1), .unset, .unset, .unset] [(.int (3 : Int32))])) (fun t_ kt_ => XS.iconst Xe3.here hx rfl (hb hby at_98) kt_) ?_
  obtain ⟨Te5, he5, ke5, Xe5, ee5, Exe5, Ae5, Ece5, ste5⟩ := newPE Xe3 hx hZ (hw _ (List.mem_of_getElem? (i := 25) rfl)) rfl (g := (mkF mI 99 #[.val (.int top), .val (.int shape), .val (.int width), .val (.int cols), .val (.int pick), .val (.long fill), .second, .val (.int n), .val (.int tier), .val (.int w), .val (.int cc), .val (.int ch), .val (.int k), .val (.int chunk), .val (.int bottom), .val (.int strip), .val (.ref be1), .unset, .unset, .unset] [(.int (3 : Int32))])) rfl (hb hby at_99) rfl (by decide) (cap := 3) (by decide) (by decide) (by decide) (by decide) (ad := "[J") (by decide)
  obtain ⟨be5, ge5⟩ : ∃ z, z = Te3.heap.size := ⟨_, rfl⟩
  rw [← ge5] at Ae5 Ece5 ste5
  have ne_be1_be5 : be1 ≠ be5 := Nat.ne_of_lt (Nat.lt_of_lt_of_le (Fte3.lt) (Nat.le_of_eq ge5.symm))
  have ne_sae3_be5 : sae3 ≠ be5 := Nat.ne_of_lt (Nat.lt_of_lt_of_le (Vse3.lt) (Nat.le_of_eq ge5.symm))
  have ne_re3_be5 : re3 ≠ be5 := Nat.ne_of_lt (Nat.lt_of_lt_of_le (Vre3.lt) (Nat.le_of_eq ge5.symm))
  have g_be5 : n0 ≤ be5 := Nat.le_trans Ze4 (Nat.le_of_eq ge5.symm)
  have Fe6 := Fld.ext Exe5 Fte3
  have Fe7 := Fld.ext Exe5 Fse3
  have Ee8 := Exa.ext Exe5 Eoe3
  have Ve9 := Arv.ext Vse3 Exe5
  have Ve10 := Arv.ext Vre3 Exe5
  have Ze11 : n0 ≤ he5.size := Nat.le_trans Ze4 Exe5.1
  have Ve5 : Arv Z he5 be5 ke5 .long (3 : Int32) [] (.long (0 : Int64)) := Arv.new Ae5 (by decide)
  have Ve12 : Arv Z he5 be5 ke5 .long (3 : Int32) [(.long (0 : Int64)), (.long (0 : Int64)), (.long (0 : Int64))] (.long (0 : Int64)) := Arv.pad Ve5 (pad_rep [] (.long (0 : Int64)) 3)
  refine own_go (T' := Te5) (g' := (mkF mI 101 #[.val (.int top), .val (.int shape), .val (.int width), .val (.int cols), .val (.int pick), .val (.long fill), .second, .val (.int n), .val (.int tier), .val (.int w), .val (.int cc), .val (.int ch), .val (.int k), .val (.int chunk), .val (.int bottom), .val (.int strip), .val (.ref be1), .unset, .unset, .unset] [(.ref be5)])) (fun t_ kt_ => ste5 _ kt_) ?_
  refine own_go (T' := Te5) (g' := (mkF mI 103 #[.val (.int top), .val (.int shape), .val (.int width), .val (.int cols), .val (.int pick), .val (.long fill), .second, .val (.int n), .val (.int tier), .val (.int w), .val (.int cc), .val (.int ch), .val (.int k), .val (.int chunk), .val (.int bottom), .val (.int strip), .val (.ref be1), .val (.ref be5), .unset, .unset] [])) (fun t_ kt_ => XS.astore Xe5.here hx rfl (hb hby at_101) rfl rfl (l' := #[.val (.int top), .val (.int shape), .val (.int width), .val (.int cols), .val (.int pick), .val (.long fill), .second, .val (.int n), .val (.int tier), .val (.int w), .val (.int cc), .val (.int ch), .val (.int k), .val (.int chunk), .val (.int bottom), .val (.int strip), .val (.ref be1), .val (.ref be5), .unset, .unset]) rfl kt_) ?_
  refine own_go (T' := Te5) (g' := (mkF mI 105 #[.val (.int top), .val (.int shape), .val (.int width), .val (.int cols), .val (.int pick), .val (.long fill), .second, .val (.int n), .val (.int tier), .val (.int w), .val (.int cc), .val (.int ch), .val (.int k), .val (.int chunk), .val (.int bottom), .val (.int strip), .val (.ref be1), .val (.ref be5), .unset, .unset] [(.ref be5)])) (fun t_ kt_ => XS.aload Xe5.here hx rfl (hb hby at_103) rfl rfl kt_) ?_
  refine own_go (T' := Te5) (g' := (mkF mI 106 #[.val (.int top), .val (.int shape), .val (.int width), .val (.int cols), .val (.int pick), .val (.long fill), .second, .val (.int n), .val (.int tier), .val (.int w), .val (.int cc), .val (.int ch), .val (.int k), .val (.int chunk), .val (.int bottom), .val (.int strip), .val (.ref be1), .val (.ref be5), .unset, .unset] [(.int (0 : Int32)), (.ref be5)])) (fun t_ kt_ => XS.iconst Xe5.here hx rfl (hb hby at_105) kt_) ?_
  refine own_go (T' := Te5) (g' := (mkF mI 108 #[.val (.int top), .val (.int shape), .val (.int width), .val (.int cols), .val (.int pick), .val (.long fill), .second, .val (.int n), .val (.int tier), .val (.int w), .val (.int cc), .val (.int ch), .val (.int k), .val (.int chunk), .val (.int bottom), .val (.int strip), .val (.ref be1), .val (.ref be5), .unset, .unset] [(.long fill), (.int (0 : Int32)), (.ref be5)])) (fun t_ kt_ => XS.lload Xe5.here hx rfl (hb hby at_106) rfl kt_) ?_
  obtain ⟨cle13, Are13, qe13, Se13, Nge13, He13, Ge13⟩ := id Ve12
  obtain ⟨Te14, he14, Xe14, ee14, We14, ste14⟩ := stJ Xe5 hx hZ ee5 Are13 (j := (0 : Int32)) (inb_of Se13 ⟨by decide, by decide⟩) (g := (mkF mI 108 #[.val (.int top), .val (.int shape), .val (.int width), .val (.int cols), .val (.int pick), .val (.long fill), .second, .val (.int n), .val (.int tier), .val (.int w), .val (.int cc), .val (.int ch), .val (.int k), .val (.int chunk), .val (.int bottom), .val (.int strip), .val (.ref be1), .val (.ref be5), .unset, .unset] [(.long fill), (.int (0 : Int32)), (.ref be5)])) rfl rfl (hb hby at_108)
  have Ve14 : Arv Z he14 be5 ke5 .long (3 : Int32) [(.long fill), (.long (0 : Int64)), (.long (0 : Int64))] (.long (0 : Int64)) := Arv.set Are13 qe13 Se13 Nge13 He13 Ge13 rfl We14 0 rfl (Nat.le_of_ble_eq_true rfl)
  have Fe15 := Fld.other We14 Fe6 (Or.inl ne_be1_be5)
  have Fe16 := Fld.other We14 Fe7 (Or.inl ne_be1_be5)
  have Ee17 := Exa.wr We14 Ee8
  have Ee18 := Exa.wr We14 Ece5
  have Ve19 := Arv.other Ve9 We14 ne_sae3_be5
  have Ve20 := Arv.other Ve10 We14 ne_re3_be5
  have Ze22 : n0 ≤ he14.size := Nat.le_trans Ze11 (Nat.le_of_eq (Wr.size We14).symm)
  have Ne14 := Fr.snoc Xe14 Ne3a g_be5
  refine own_go (T' := Te14) (g' := (mkF mI 109 #[.val (.int top), .val (.int shape), .val (.int width), .val (.int cols), .val (.int pick), .val (.long fill), .second, .val (.int n), .val (.int tier), .val (.int w), .val (.int cc), .val (.int ch), .val (.int k), .val (.int chunk), .val (.int bottom), .val (.int strip), .val (.ref be1), .val (.ref be5), .unset, .unset] [])) (fun t_ kt_ => ste14 _ kt_) ?_
  refine own_go (T' := Te14) (g' := (mkF mI 111 #[.val (.int top), .val (.int shape), .val (.int width), .val (.int cols), .val (.int pick), .val (.long fill), .second, .val (.int n), .val (.int tier), .val (.int w), .val (.int cc), .val (.int ch), .val (.int k), .val (.int chunk), .val (.int bottom), .val (.int strip), .val (.ref be1), .val (.ref be5), .unset, .unset] [(.ref be5)])) (fun t_ kt_ => XS.aload Xe14.here hx rfl (hb hby at_109) rfl rfl kt_) ?_
  refine own_go (T' := Te14) (g' := (mkF mI 112 #[.val (.int top), .val (.int shape), .val (.int width), .val (.int cols), .val (.int pick), .val (.long fill), .second, .val (.int n), .val (.int tier), .val (.int w), .val (.int cc), .val (.int ch), .val (.int k), .val (.int chunk), .val (.int bottom), .val (.int strip), .val (.ref be1), .val (.ref be5), .unset, .unset] [(.int (1 : Int32)), (.ref be5)])) (fun t_ kt_ => XS.iconst Xe14.here hx rfl (hb hby at_111) kt_) ?_
  refine own_go (T' := Te14) (g' := (mkF mI 114 #[.val (.int top), .val (.int shape), .val (.int width), .val (.int cols), .val (.int pick), .val (.long fill), .second, .val (.int n), .val (.int tier), .val (.int w), .val (.int cc), .val (.int ch), .val (.int k), .val (.int chunk), .val (.int bottom), .val (.int strip), .val (.ref be1), .val (.ref be5), .unset, .unset] [(.long fill), (.int (1 : Int32)), (.ref be5)])) (fun t_ kt_ => XS.lload Xe14.here hx rfl (hb hby at_112) rfl kt_) ?_
  refine own_go (T' := Te14) (g' := (mkF mI 117 #[.val (.int top), .val (.int shape), .val (.int width), .val (.int cols), .val (.int pick), .val (.long fill), .second, .val (.int n), .val (.int tier), .val (.int w), .val (.int cc), .val (.int ch), .val (.int k), .val (.int chunk), .val (.int bottom), .val (.int strip), .val (.ref be1), .val (.ref be5), .unset, .unset] [(.long (-1 : Int64)), (.long fill), (.int (1 : Int32)), (.ref be5)])) (fun t_ kt_ => ldc2J Xe14 hx hown (mvT hZ (hw _ (List.mem_of_getElem? (i := 27) rfl))) rfl (hb hby at_114) kt_) ?_
  refine own_go (T' := Te14) (g' := (mkF mI 118 #[.val (.int top), .val (.int shape), .val (.int width), .val (.int cols), .val (.int pick), .val (.long fill), .second, .val (.int n), .val (.int tier), .val (.int w), .val (.int cc), .val (.int ch), .val (.int k), .val (.int chunk), .val (.int bottom), .val (.int strip), .val (.ref be1), .val (.ref be5), .unset, .unset] [(.long (fill ^^^ (-1 : Int64))), (.int (1 : Int32)), (.ref be5)])) (fun t_ kt_ => XS.lxor Xe14.here hx rfl (hb hby at_117) rfl kt_) ?_
  obtain ⟨cle23, Are23, qe23, Se23, Nge23, He23, Ge23⟩ := id Ve14
  obtain ⟨Te24, he24, Xe24, ee24, We24, ste24⟩ := stJ Xe14 hx hZ ee14 Are23 (j := (1 : Int32)) (inb_of Se23 ⟨by decide, by decide⟩) (g := (mkF mI 118 #[.val (.int top), .val (.int shape), .val (.int width), .val (.int cols), .val (.int pick), .val (.long fill), .second, .val (.int n), .val (.int tier), .val (.int w), .val (.int cc), .val (.int ch), .val (.int k), .val (.int chunk), .val (.int bottom), .val (.int strip), .val (.ref be1), .val (.ref be5), .unset, .unset] [(.long (fill ^^^ (-1 : Int64))), (.int (1 : Int32)), (.ref be5)])) rfl rfl (hb hby at_118)
  have Ve24 : Arv Z he24 be5 ke5 .long (3 : Int32) [(.long fill), (.long (fill ^^^ (-1 : Int64))), (.long (0 : Int64))] (.long (0 : Int64)) := Arv.set Are23 qe23 Se23 Nge23 He23 Ge23 rfl We24 1 rfl (Nat.le_of_ble_eq_true rfl)
  have Fe25 := Fld.other We24 Fe15 (Or.inl ne_be1_be5)
  have Fe26 := Fld.other We24 Fe16 (Or.inl ne_be1_be5)
  have Ee27 := Exa.wr We24 Ee17
  have Ee28 := Exa.wr We24 Ee18
  have Ve29 := Arv.other Ve19 We24 ne_sae3_be5
  have Ve30 := Arv.other Ve20 We24 ne_re3_be5
  have Ze32 : n0 ≤ he24.size := Nat.le_trans Ze22 (Nat.le_of_eq (Wr.size We24).symm)
  have Ne24 := Fr.snoc Xe24 Ne14 g_be5
  refine own_go (T' := Te24) (g' := (mkF mI 119 #[.val (.int top), .val (.int shape), .val (.int width), .val (.int cols), .val (.int pick), .val (.long fill), .second, .val (.int n), .val (.int tier), .val (.int w), .val (.int cc), .val (.int ch), .val (.int k), .val (.int chunk), .val (.int bottom), .val (.int strip), .val (.ref be1), .val (.ref be5), .unset, .unset] [])) (fun t_ kt_ => ste24 _ kt_) ?_
  refine own_go (T' := Te24) (g' := (mkF mI 121 #[.val (.int top), .val (.int shape), .val (.int width), .val (.int cols), .val (.int pick), .val (.long fill), .second, .val (.int n), .val (.int tier), .val (.int w), .val (.int cc), .val (.int ch), .val (.int k), .val (.int chunk), .val (.int bottom), .val (.int strip), .val (.ref be1), .val (.ref be5), .unset, .unset] [(.ref be5)])) (fun t_ kt_ => XS.aload Xe24.here hx rfl (hb hby at_119) rfl rfl kt_) ?_
  refine own_go (T' := Te24) (g' := (mkF mI 122 #[.val (.int top), .val (.int shape), .val (.int width), .val (.int cols), .val (.int pick), .val (.long fill), .second, .val (.int n), .val (.int tier), .val (.int w), .val (.int cc), .val (.int ch), .val (.int k), .val (.int chunk), .val (.int bottom), .val (.int strip), .val (.ref be1), .val (.ref be5), .unset, .unset] [(.int (2 : Int32)), (.ref be5)])) (fun t_ kt_ => XS.iconst Xe24.here hx rfl (hb hby at_121) kt_) ?_
  refine own_go (T' := Te24) (g' := (mkF mI 124 #[.val (.int top), .val (.int shape), .val (.int width), .val (.int cols), .val (.int pick), .val (.long fill), .second, .val (.int n), .val (.int tier), .val (.int w), .val (.int cc), .val (.int ch), .val (.int k), .val (.int chunk), .val (.int bottom), .val (.int strip), .val (.ref be1), .val (.ref be5), .unset, .unset] [(.long fill), (.int (2 : Int32)), (.ref be5)])) (fun t_ kt_ => XS.lload Xe24.here hx rfl (hb hby at_122) rfl kt_) ?_
  refine own_go (T' := Te24) (g' := (mkF mI 127 #[.val (.int top), .val (.int shape), .val (.int width), .val (.int cols), .val (.int pick), .val (.long fill), .second, .val (.int n), .val (.int tier), .val (.int w), .val (.int cc), .val (.int ch), .val (.int k), .val (.int chunk), .val (.int bottom), .val (.int strip), .val (.ref be1), .val (.ref be5), .unset, .unset] [(.long (6510615555426900570 : Int64)), (.long fill), (.int (2 : Int32)), (.ref be5)])) (fun t_ kt_ => ldc2J Xe24 hx hown (mvT hZ (hw _ (List.mem_of_getElem? (i := 28) rfl))) rfl (hb hby at_124) kt_) ?_
  refine own_go (T' := Te24) (g' := (mkF mI 128 #[.val (.int top), .val (.int shape), .val (.int width), .val (.int cols), .val (.int pick), .val (.long fill), .second, .val (.int n), .val (.int tier), .val (.int w), .val (.int cc), .val (.int ch), .val (.int k), .val (.int chunk), .val (.int bottom), .val (.int strip), .val (.ref be1), .val (.ref be5), .unset, .unset] [(.long (fill ^^^ (6510615555426900570 : Int64))), (.int (2 : Int32)), (.ref be5)])) (fun t_ kt_ => XS.lxor Xe24.here hx rfl (hb hby at_127) rfl kt_) ?_
  obtain ⟨cle33, Are33, qe33, Se33, Nge33, He33, Ge33⟩ := id Ve24
  obtain ⟨Te34, he34, Xe34, ee34, We34, ste34⟩ := stJ Xe24 hx hZ ee24 Are33 (j := (2 : Int32)) (inb_of Se33 ⟨by decide, by decide⟩) (g := (mkF mI 128 #[.val (.int top), .val (.int shape), .val (.int width), .val (.int cols), .val (.int pick), .val (.long fill), .second, .val (.int n), .val (.int tier), .val (.int w), .val (.int cc), .val (.int ch), .val (.int k), .val (.int chunk), .val (.int bottom), .val (.int strip), .val (.ref be1), .val (.ref be5), .unset, .unset] [(.long (fill ^^^ (6510615555426900570 : Int64))), (.int (2 : Int32)), (.ref be5)])) rfl rfl (hb hby at_128)
  have Ve34 : Arv Z he34 be5 ke5 .long (3 : Int32) [(.long fill), (.long (fill ^^^ (-1 : Int64))), (.long (fill ^^^ (6510615555426900570 : Int64)))] (.long (0 : Int64)) := Arv.set Are33 qe33 Se33 Nge33 He33 Ge33 rfl We34 2 rfl (Nat.le_of_ble_eq_true rfl)
  have Fe35 := Fld.other We34 Fe25 (Or.inl ne_be1_be5)
  have Fe36 := Fld.other We34 Fe26 (Or.inl ne_be1_be5)
  have Ee37 := Exa.wr We34 Ee27
  have Ee38 := Exa.wr We34 Ee28
  have Ve39 := Arv.other Ve29 We34 ne_sae3_be5
  have Ve40 := Arv.other Ve30 We34 ne_re3_be5
  have Ze42 : n0 ≤ he34.size := Nat.le_trans Ze32 (Nat.le_of_eq (Wr.size We34).symm)
  have Ne34 := Fr.snoc Xe34 Ne24 g_be5
  refine own_go (T' := Te34) (g' := (mkF mI 129 #[.val (.int top), .val (.int shape), .val (.int width), .val (.int cols), .val (.int pick), .val (.long fill), .second, .val (.int n), .val (.int tier), .val (.int w), .val (.int cc), .val (.int ch), .val (.int k), .val (.int chunk), .val (.int bottom), .val (.int strip), .val (.ref be1), .val (.ref be5), .unset, .unset] [])) (fun t_ kt_ => ste34 _ kt_) ?_
  refine own_go (T' := Te34) (g' := (mkF mI 131 #[.val (.int top), .val (.int shape), .val (.int width), .val (.int cols), .val (.int pick), .val (.long fill), .second, .val (.int n), .val (.int tier), .val (.int w), .val (.int cc), .val (.int ch), .val (.int k), .val (.int chunk), .val (.int bottom), .val (.int strip), .val (.ref be1), .val (.ref be5), .unset, .unset] [(.ref be5)])) (fun t_ kt_ => XS.aload Xe34.here hx rfl (hb hby at_129) rfl rfl kt_) ?_
  refine own_go (T' := Te34) (g' := (mkF mI 132 #[.val (.int top), .val (.int shape), .val (.int width), .val (.int cols), .val (.int pick), .val (.long fill), .second, .val (.int n), .val (.int tier), .val (.int w), .val (.int cc), .val (.int ch), .val (.int k), .val (.int chunk), .val (.int bottom), .val (.int strip), .val (.ref be1), .val (.ref be5), .unset, .unset] [(.int (2 : Int32)), (.ref be5)])) (fun t_ kt_ => XS.iconst Xe34.here hx rfl (hb hby at_131) kt_) ?_
  obtain ⟨cle43, Are43, qe43, Se43, Nge43, He43, Ge43⟩ := id Ve34
  refine own_go (T' := Te34) (g' := (mkF mI 133 #[.val (.int top), .val (.int shape), .val (.int width), .val (.int cols), .val (.int pick), .val (.long fill), .second, .val (.int n), .val (.int tier), .val (.int w), .val (.int cc), .val (.int ch), .val (.int k), .val (.int chunk), .val (.int bottom), .val (.int strip), .val (.ref be1), .val (.ref be5), .unset, .unset] [(.long (fill ^^^ (6510615555426900570 : Int64)))])) (fun t_ kt_ => own_lald Xe34 hx hZ ee34 Are43 (j := (2 : Int32)) (inb_of Se43 ⟨by decide, by decide⟩) (Has.at He43 (inb_of Se43 ⟨by decide, by decide⟩) rfl) (g := (mkF mI 132 #[.val (.int top), .val (.int shape), .val (.int width), .val (.int cols), .val (.int pick), .val (.long fill), .second, .val (.int n), .val (.int tier), .val (.int w), .val (.int cc), .val (.int ch), .val (.int k), .val (.int chunk), .val (.int bottom), .val (.int strip), .val (.ref be1), .val (.ref be5), .unset, .unset] [(.int (2 : Int32)), (.ref be5)])) rfl rfl (hb hby at_132) _ kt_) ?_
  refine own_go (T' := Te34) (g' := (mkF mI 135 #[.val (.int top), .val (.int shape), .val (.int width), .val (.int cols), .val (.int pick), .val (.long fill), .second, .val (.int n), .val (.int tier), .val (.int w), .val (.int cc), .val (.int ch), .val (.int k), .val (.int chunk), .val (.int bottom), .val (.int strip), .val (.ref be1), .val (.ref be5), .val (.long (fill ^^^ (6510615555426900570 : Int64))), .second] [])) (fun t_ kt_ => XS.lstore Xe34.here hx rfl (hb hby at_133) rfl (l' := #[.val (.int top), .val (.int shape), .val (.int width), .val (.int cols), .val (.int pick), .val (.long fill), .second, .val (.int n), .val (.int tier), .val (.int w), .val (.int cc), .val (.int ch), .val (.int k), .val (.int chunk), .val (.int bottom), .val (.int strip), .val (.ref be1), .val (.ref be5), .val (.long (fill ^^^ (6510615555426900570 : Int64))), .second]) rfl kt_) ?_
  refine own_go (T' := Te34) (g' := (mkF mI 137 #[.val (.int top), .val (.int shape), .val (.int width), .val (.int cols), .val (.int pick), .val (.long fill), .second, .val (.int n), .val (.int tier), .val (.int w), .val (.int cc), .val (.int ch), .val (.int k), .val (.int chunk), .val (.int bottom), .val (.int strip), .val (.ref be1), .val (.ref be5), .val (.long (fill ^^^ (6510615555426900570 : Int64))), .second] [(.ref be1)])) (fun t_ kt_ => XS.aload Xe34.here hx rfl (hb hby at_135) rfl rfl kt_) ?_
  refine own_go (T' := Te34) (g' := (mkF mI 139 #[.val (.int top), .val (.int shape), .val (.int width), .val (.int cols), .val (.int pick), .val (.long fill), .second, .val (.int n), .val (.int tier), .val (.int w), .val (.int cc), .val (.int ch), .val (.int k), .val (.int chunk), .val (.int bottom), .val (.int strip), .val (.ref be1), .val (.ref be5), .val (.long (fill ^^^ (6510615555426900570 : Int64))), .second] [(.int strip), (.ref be1)])) (fun t_ kt_ => XS.iload Xe34.here hx rfl (hb hby at_137) rfl kt_) ?_
  refine own_go (T' := Te34) (g' := (mkF mI 141 #[.val (.int top), .val (.int shape), .val (.int width), .val (.int cols), .val (.int pick), .val (.long fill), .second, .val (.int n), .val (.int tier), .val (.int w), .val (.int cc), .val (.int ch), .val (.int k), .val (.int chunk), .val (.int bottom), .val (.int strip), .val (.ref be1), .val (.ref be5), .val (.long (fill ^^^ (6510615555426900570 : Int64))), .second] [(.int chunk), (.int strip), (.ref be1)])) (fun t_ kt_ => XS.iload Xe34.here hx rfl (hb hby at_139) rfl kt_) ?_
  refine own_go (T' := Te34) (g' := (mkF mI 143 #[.val (.int top), .val (.int shape), .val (.int width), .val (.int cols), .val (.int pick), .val (.long fill), .second, .val (.int n), .val (.int tier), .val (.int w), .val (.int cc), .val (.int ch), .val (.int k), .val (.int chunk), .val (.int bottom), .val (.int strip), .val (.ref be1), .val (.ref be5), .val (.long (fill ^^^ (6510615555426900570 : Int64))), .second] [(.ref be5), (.int chunk), (.int strip), (.ref be1)])) (fun t_ kt_ => XS.aload Xe34.here hx rfl (hb hby at_141) rfl rfl kt_) ?_
  refine own_callV own_closed Xe34 hx hZ (y := (⟨"com/example/classic_strings/classicstrings/compare/Matrix$Checkpoints", "state", "(II[J)V"⟩ : MethodName)) (z := (⟨"com/example/classic_strings/classicstrings/compare/Matrix$Checkpoints", "state", "(II[J)V"⟩ : MethodName)) hown (hw _ (List.mem_of_getElem? (i := 29) rfl)) (hw _ (List.mem_of_getElem? (i := 30) rfl)) (hw _ (List.mem_of_getElem? (i := 32) rfl)) (hw _ (List.mem_of_getElem? (i := 31) rfl)) (hw _ (List.mem_of_getElem? (i := 32) rfl)) rfl (by decide) (rmS l Z a0 hw [] he34 n0 Ze42 be1 strip chunk be5 top k n ((2 : Int32) * ch) sae3 re3 _ _ _ _ fill (fill ^^^ (-1 : Int64)) (fill ^^^ (6510615555426900570 : Int64)) g_be5 Fe35 Fe36 Ve39 Ve40 Ve34 ne_be1_be5 ne_re3_be5 hst hk0 hkn hre3 hi0 hi1 hj0 hj1) (hw _ (List.mem_of_getElem? (i := 33) rfl)) (hw _ (List.mem_of_getElem? (i := 4) rfl)) ee34 Ee37 (pc := 143) (Ls := #[.val (.int top), .val (.int shape), .val (.int width), .val (.int cols), .val (.int pick), .val (.long fill), .second, .val (.int n), .val (.int tier), .val (.int w), .val (.int cc), .val (.int ch), .val (.int k), .val (.int chunk), .val (.int bottom), .val (.int strip), .val (.ref be1), .val (.ref be5), .val (.long (fill ^^^ (6510615555426900570 : Int64))), .second]) (argsL := [(.int strip), (.int chunk), (.ref be5)]) (rest := []) (by rw [hml]; rfl) (lenOf pd_1 rfl) (W := 0) (Nat.le_of_eq rfl) (by decide) (by decide) (by decide) (by decide) (hb hby at_143) rfl rfl ?_
  intro Te44 Le44 ve44 Xe44 hQe44
  obtain ⟨rfl, Ne44, Vbe44⟩ := hQe44
  have Ne44a := Fr.app Ne34 Ne44
  show own_Ends pP eE bB sS _ _ Te44 (mkF mI 146 #[.val (.int top), .val (.int shape), .val (.int width), .val (.int cols), .val (.int pick), .val (.long fill), .second, .val (.int n), .val (.int tier), .val (.int w), .val (.int cc), .val (.int ch), .val (.int k), .val (.int chunk), .val (.int bottom), .val (.int strip), .val (.ref be1), .val (.ref be5), .val (.long (fill ^^^ (6510615555426900570 : Int64))), .second] [])
  refine own_go (T' := Te44) (g' := (mkF mI 148 #[.val (.int top), .val (.int shape), .val (.int width), .val (.int cols), .val (.int pick), .val (.long fill), .second, .val (.int n), .val (.int tier), .val (.int w), .val (.int cc), .val (.int ch), .val (.int k), .val (.int chunk), .val (.int bottom), .val (.int strip), .val (.ref be1), .val (.ref be5), .val (.long (fill ^^^ (6510615555426900570 : Int64))), .second] [(.ref be5)])) (fun t_ kt_ => XS.aload Xe44.here hx rfl (hb hby at_146) rfl rfl kt_) ?_
  refine own_go (T' := Te44) (g' := (mkF mI 149 #[.val (.int top), .val (.int shape), .val (.int width), .val (.int cols), .val (.int pick), .val (.long fill), .second, .val (.int n), .val (.int tier), .val (.int w), .val (.int cc), .val (.int ch), .val (.int k), .val (.int chunk), .val (.int bottom), .val (.int strip), .val (.ref be1), .val (.ref be5), .val (.long (fill ^^^ (6510615555426900570 : Int64))), .second] [(.int (0 : Int32)), (.ref be5)])) (fun t_ kt_ => XS.iconst Xe44.here hx rfl (hb hby at_148) kt_) ?_
  obtain ⟨cle45, Are45, qe45, Se45, Nge45, He45, Ge45⟩ := id Vbe44
  refine own_go (T' := Te44) (g' := (mkF mI 150 #[.val (.int top), .val (.int shape), .val (.int width), .val (.int cols), .val (.int pick), .val (.long fill), .second, .val (.int n), .val (.int tier), .val (.int w), .val (.int cc), .val (.int ch), .val (.int k), .val (.int chunk), .val (.int bottom), .val (.int strip), .val (.ref be1), .val (.ref be5), .val (.long (fill ^^^ (6510615555426900570 : Int64))), .second] [(.long (0 : Int64))])) (fun t_ kt_ => own_lald Xe44 hx hZ rfl Are45 (j := (0 : Int32)) (inb_of Se45 ⟨by decide, by decide⟩) (Has.at He45 (inb_of Se45 ⟨by decide, by decide⟩) rfl) (g := (mkF mI 149 #[.val (.int top), .val (.int shape), .val (.int width), .val (.int cols), .val (.int pick), .val (.long fill), .second, .val (.int n), .val (.int tier), .val (.int w), .val (.int cc), .val (.int ch), .val (.int k), .val (.int chunk), .val (.int bottom), .val (.int strip), .val (.ref be1), .val (.ref be5), .val (.long (fill ^^^ (6510615555426900570 : Int64))), .second] [(.int (0 : Int32)), (.ref be5)])) rfl rfl (hb hby at_149) _ kt_) ?_
  refine own_go (T' := Te44) (g' := (mkF mI 151 #[.val (.int top), .val (.int shape), .val (.int width), .val (.int cols), .val (.int pick), .val (.long fill), .second, .val (.int n), .val (.int tier), .val (.int w), .val (.int cc), .val (.int ch), .val (.int k), .val (.int chunk), .val (.int bottom), .val (.int strip), .val (.ref be1), .val (.ref be5), .val (.long (fill ^^^ (6510615555426900570 : Int64))), .second] [(.long (0 : Int64)), (.long (0 : Int64))])) (fun t_ kt_ => XS.lconst Xe44.here hx rfl (hb hby at_150) kt_) ?_
  refine own_go (T' := Te44) (g' := (mkF mI 152 #[.val (.int top), .val (.int shape), .val (.int width), .val (.int cols), .val (.int pick), .val (.long fill), .second, .val (.int n), .val (.int tier), .val (.int w), .val (.int cc), .val (.int ch), .val (.int k), .val (.int chunk), .val (.int bottom), .val (.int strip), .val (.ref be1), .val (.ref be5), .val (.long (fill ^^^ (6510615555426900570 : Int64))), .second] [(.int (lcmpW (0 : Int64) (0 : Int64)))])) (fun t_ kt_ => XS.lcmp Xe44.here hx rfl (hb hby at_151) rfl kt_) ?_
  refine own_go (T' := Te44) (g' := (mkF mI 155 #[.val (.int top), .val (.int shape), .val (.int width), .val (.int cols), .val (.int pick), .val (.long fill), .second, .val (.int n), .val (.int tier), .val (.int w), .val (.int cc), .val (.int ch), .val (.int k), .val (.int chunk), .val (.int bottom), .val (.int strip), .val (.ref be1), .val (.ref be5), .val (.long (fill ^^^ (6510615555426900570 : Int64))), .second] [])) (fun t_ kt_ => XS.ifNo Xe44.here hx rfl (hb hby at_152) rfl (XT.ll_ne_f (rfl : (0 : Int64) = (0 : Int64))) kt_) ?_
  refine own_go (T' := Te44) (g' := (mkF mI 157 #[.val (.int top), .val (.int shape), .val (.int width), .val (.int cols), .val (.int pick), .val (.long fill), .second, .val (.int n), .val (.int tier), .val (.int w), .val (.int cc), .val (.int ch), .val (.int k), .val (.int chunk), .val (.int bottom), .val (.int strip), .val (.ref be1), .val (.ref be5), .val (.long (fill ^^^ (6510615555426900570 : Int64))), .second] [(.ref be5)])) (fun t_ kt_ => XS.aload Xe44.here hx rfl (hb hby at_155) rfl rfl kt_) ?_
  refine own_go (T' := Te44) (g' := (mkF mI 158 #[.val (.int top), .val (.int shape), .val (.int width), .val (.int cols), .val (.int pick), .val (.long fill), .second, .val (.int n), .val (.int tier), .val (.int w), .val (.int cc), .val (.int ch), .val (.int k), .val (.int chunk), .val (.int bottom), .val (.int strip), .val (.ref be1), .val (.ref be5), .val (.long (fill ^^^ (6510615555426900570 : Int64))), .second] [(.int (1 : Int32)), (.ref be5)])) (fun t_ kt_ => XS.iconst Xe44.here hx rfl (hb hby at_157) kt_) ?_
  obtain ⟨cle46, Are46, qe46, Se46, Nge46, He46, Ge46⟩ := id Vbe44
  refine own_go (T' := Te44) (g' := (mkF mI 159 #[.val (.int top), .val (.int shape), .val (.int width), .val (.int cols), .val (.int pick), .val (.long fill), .second, .val (.int n), .val (.int tier), .val (.int w), .val (.int cc), .val (.int ch), .val (.int k), .val (.int chunk), .val (.int bottom), .val (.int strip), .val (.ref be1), .val (.ref be5), .val (.long (fill ^^^ (6510615555426900570 : Int64))), .second] [(.long (0 : Int64))])) (fun t_ kt_ => own_lald Xe44 hx hZ rfl Are46 (j := (1 : Int32)) (inb_of Se46 ⟨by decide, by decide⟩) (Has.at He46 (inb_of Se46 ⟨by decide, by decide⟩) rfl) (g := (mkF mI 158 #[.val (.int top), .val (.int shape), .val (.int width), .val (.int cols), .val (.int pick), .val (.long fill), .second, .val (.int n), .val (.int tier), .val (.int w), .val (.int cc), .val (.int ch), .val (.int k), .val (.int chunk), .val (.int bottom), .val (.int strip), .val (.ref be1), .val (.ref be5), .val (.long (fill ^^^ (6510615555426900570 : Int64))), .second] [(.int (1 : Int32)), (.ref be5)])) rfl rfl (hb hby at_158) _ kt_) ?_
  refine own_go (T' := Te44) (g' := (mkF mI 160 #[.val (.int top), .val (.int shape), .val (.int width), .val (.int cols), .val (.int pick), .val (.long fill), .second, .val (.int n), .val (.int tier), .val (.int w), .val (.int cc), .val (.int ch), .val (.int k), .val (.int chunk), .val (.int bottom), .val (.int strip), .val (.ref be1), .val (.ref be5), .val (.long (fill ^^^ (6510615555426900570 : Int64))), .second] [(.long (0 : Int64)), (.long (0 : Int64))])) (fun t_ kt_ => XS.lconst Xe44.here hx rfl (hb hby at_159) kt_) ?_
  refine own_go (T' := Te44) (g' := (mkF mI 161 #[.val (.int top), .val (.int shape), .val (.int width), .val (.int cols), .val (.int pick), .val (.long fill), .second, .val (.int n), .val (.int tier), .val (.int w), .val (.int cc), .val (.int ch), .val (.int k), .val (.int chunk), .val (.int bottom), .val (.int strip), .val (.ref be1), .val (.ref be5), .val (.long (fill ^^^ (6510615555426900570 : Int64))), .second] [(.int (lcmpW (0 : Int64) (0 : Int64)))])) (fun t_ kt_ => XS.lcmp Xe44.here hx rfl (hb hby at_160) rfl kt_) ?_
  refine own_go (T' := Te44) (g' := (mkF mI 164 #[.val (.int top), .val (.int shape), .val (.int width), .val (.int cols), .val (.int pick), .val (.long fill), .second, .val (.int n), .val (.int tier), .val (.int w), .val (.int cc), .val (.int ch), .val (.int k), .val (.int chunk), .val (.int bottom), .val (.int strip), .val (.ref be1), .val (.ref be5), .val (.long (fill ^^^ (6510615555426900570 : Int64))), .second] [])) (fun t_ kt_ => XS.ifNo Xe44.here hx rfl (hb hby at_161) rfl (XT.ll_ne_f (rfl : (0 : Int64) = (0 : Int64))) kt_) ?_
  refine own_go (T' := Te44) (g' := (mkF mI 166 #[.val (.int top), .val (.int shape), .val (.int width), .val (.int cols), .val (.int pick), .val (.long fill), .second, .val (.int n), .val (.int tier), .val (.int w), .val (.int cc), .val (.int ch), .val (.int k), .val (.int chunk), .val (.int bottom), .val (.int strip), .val (.ref be1), .val (.ref be5), .val (.long (fill ^^^ (6510615555426900570 : Int64))), .second] [(.ref be5)])) (fun t_ kt_ => XS.aload Xe44.here hx rfl (hb hby at_164) rfl rfl kt_) ?_
  refine own_go (T' := Te44) (g' := (mkF mI 167 #[.val (.int top), .val (.int shape), .val (.int width), .val (.int cols), .val (.int pick), .val (.long fill), .second, .val (.int n), .val (.int tier), .val (.int w), .val (.int cc), .val (.int ch), .val (.int k), .val (.int chunk), .val (.int bottom), .val (.int strip), .val (.ref be1), .val (.ref be5), .val (.long (fill ^^^ (6510615555426900570 : Int64))), .second] [(.int (2 : Int32)), (.ref be5)])) (fun t_ kt_ => XS.iconst Xe44.here hx rfl (hb hby at_166) kt_) ?_
  obtain ⟨cle47, Are47, qe47, Se47, Nge47, He47, Ge47⟩ := id Vbe44
  refine own_go (T' := Te44) (g' := (mkF mI 168 #[.val (.int top), .val (.int shape), .val (.int width), .val (.int cols), .val (.int pick), .val (.long fill), .second, .val (.int n), .val (.int tier), .val (.int w), .val (.int cc), .val (.int ch), .val (.int k), .val (.int chunk), .val (.int bottom), .val (.int strip), .val (.ref be1), .val (.ref be5), .val (.long (fill ^^^ (6510615555426900570 : Int64))), .second] [(.long (fill ^^^ (6510615555426900570 : Int64)))])) (fun t_ kt_ => own_lald Xe44 hx hZ rfl Are47 (j := (2 : Int32)) (inb_of Se47 ⟨by decide, by decide⟩) (Has.at He47 (inb_of Se47 ⟨by decide, by decide⟩) rfl) (g := (mkF mI 167 #[.val (.int top), .val (.int shape), .val (.int width), .val (.int cols), .val (.int pick), .val (.long fill), .second, .val (.int n), .val (.int tier), .val (.int w), .val (.int cc), .val (.int ch), .val (.int k), .val (.int chunk), .val (.int bottom), .val (.int strip), .val (.ref be1), .val (.ref be5), .val (.long (fill ^^^ (6510615555426900570 : Int64))), .second] [(.int (2 : Int32)), (.ref be5)])) rfl rfl (hb hby at_167) _ kt_) ?_
  refine own_go (T' := Te44) (g' := (mkF mI 170 #[.val (.int top), .val (.int shape), .val (.int width), .val (.int cols), .val (.int pick), .val (.long fill), .second, .val (.int n), .val (.int tier), .val (.int w), .val (.int cc), .val (.int ch), .val (.int k), .val (.int chunk), .val (.int bottom), .val (.int strip), .val (.ref be1), .val (.ref be5), .val (.long (fill ^^^ (6510615555426900570 : Int64))), .second] [(.long (fill ^^^ (6510615555426900570 : Int64))), (.long (fill ^^^ (6510615555426900570 : Int64)))])) (fun t_ kt_ => XS.lload Xe44.here hx rfl (hb hby at_168) rfl kt_) ?_
  refine own_go (T' := Te44) (g' := (mkF mI 171 #[.val (.int top), .val (.int shape), .val (.int width), .val (.int cols), .val (.int pick), .val (.long fill), .second, .val (.int n), .val (.int tier), .val (.int w), .val (.int cc), .val (.int ch), .val (.int k), .val (.int chunk), .val (.int bottom), .val (.int strip), .val (.ref be1), .val (.ref be5), .val (.long (fill ^^^ (6510615555426900570 : Int64))), .second] [(.int (lcmpW (fill ^^^ (6510615555426900570 : Int64)) (fill ^^^ (6510615555426900570 : Int64))))])) (fun t_ kt_ => XS.lcmp Xe44.here hx rfl (hb hby at_170) rfl kt_) ?_
  refine own_go (T' := Te44) (g' := (mkF mI 174 #[.val (.int top), .val (.int shape), .val (.int width), .val (.int cols), .val (.int pick), .val (.long fill), .second, .val (.int n), .val (.int tier), .val (.int w), .val (.int cc), .val (.int ch), .val (.int k), .val (.int chunk), .val (.int bottom), .val (.int strip), .val (.ref be1), .val (.ref be5), .val (.long (fill ^^^ (6510615555426900570 : Int64))), .second] [])) (fun t_ kt_ => XS.ifNo Xe44.here hx rfl (hb hby at_171) rfl (XT.ll_ne_f (rfl : (fill ^^^ (6510615555426900570 : Int64)) = (fill ^^^ (6510615555426900570 : Int64)))) kt_) ?_
  refine own_go (T' := Te44) (g' := (mkF mI 175 #[.val (.int top), .val (.int shape), .val (.int width), .val (.int cols), .val (.int pick), .val (.long fill), .second, .val (.int n), .val (.int tier), .val (.int w), .val (.int cc), .val (.int ch), .val (.int k), .val (.int chunk), .val (.int bottom), .val (.int strip), .val (.ref be1), .val (.ref be5), .val (.long (fill ^^^ (6510615555426900570 : Int64))), .second] [(.int (1 : Int32))])) (fun t_ kt_ => XS.iconst Xe44.here hx rfl (hb hby at_174) kt_) ?_
  refine own_go (T' := Te44) (g' := (mkF mI 179 #[.val (.int top), .val (.int shape), .val (.int width), .val (.int cols), .val (.int pick), .val (.long fill), .second, .val (.int n), .val (.int tier), .val (.int w), .val (.int cc), .val (.int ch), .val (.int k), .val (.int chunk), .val (.int bottom), .val (.int strip), .val (.ref be1), .val (.ref be5), .val (.long (fill ^^^ (6510615555426900570 : Int64))), .second] [(.int (1 : Int32))])) (fun t_ kt_ => XS.goto Xe44.here hx rfl (pc0 := 175) (pc' := 179) rfl (hb hby at_175) (by decide) (by decide) kt_) ?_
  refine own_retN Xe44 hx hlk (t := .boolean) hret (by simp) (hb hby at_179) (show nar .boolean (1 : Int32) = (1 : Int32) from by decide) (by decide) (by decide) ?_
  exact ⟨rfl, Ne44a⟩
set_option maxRecDepth 65536 in
set_option maxHeartbeats 40000000 in
theorem comes_1 {Post : Tables → Env → Array Value → State → Outcome → State → Prop} (hpost : ∀ tb e args s v u, (limb_1_1.after args s (.returned v) u = true ∧ limb_1_2.after args s (.returned v) u = true ∧ True) → FrameEnd s (.returned v) u (Jvm.fieldLocs frame_1_writes args s ++ Jvm.arrayLocs frame_1_arrays args s ++ Jvm.staticLocs frame_1_statics s) 24 16448 → Post tb e args s (.returned v) u) :
    ArmFor flags0 classFile x code maxLocals ret World_1 tables_1 room_1 Calls_1 rest_1 Pre_1 Post := by
  intro l hfl _ _ p e ha hc hk s m args below hf hA hF happ hP
  obtain ⟨hcalls, hrest, hpre⟩ := hP
  obtain ⟨-, -, -, hnamed, -, -, -, hat⟩ := (Spec.applies_iff hf).mp happ
  obtain ⟨hg, hn⟩ := and_e (Cond.before_iff.mp (show (Jvm.Cond.and given_1 narrow_1).before args s = true from hpre))
  obtain ⟨hg0, hgr0⟩ := and_e hg
  obtain ⟨hg1, hgr1⟩ := and_e hgr0
  obtain ⟨hg2, hgr2⟩ := and_e hgr1
  obtain ⟨hg3, hgr3⟩ := and_e hgr2
  obtain ⟨hg4, hgr4⟩ := and_e hgr3
  obtain ⟨hg5, hgr5⟩ := and_e hgr4
  obtain ⟨w0, w1, w2, w3, w4, w5, rfl⟩ : ∃ w0 w1 w2 w3 w4 w5 : Value, args = #[w0, w1, w2, w3, w4, w5] := by
    have hs : args.size = 6 := by simpa [Cond.value, given_1] using hg0
    obtain ⟨L⟩ := args
    match L, hs with
    | [w0, w1, w2, w3, w4, w5], _ => exact ⟨w0, w1, w2, w3, w4, w5, rfl⟩
  have hw := fun d (hd : d ∈ tables_1) => atoms_spec (ws := Jvm.Cond.code x code maxLocals ret :: tables_1) hat d (List.mem_cons_of_mem _ hd)
  have hfit : Fit s := fun {y c} hc i hi => by
    obtain ⟨ha, rfl⟩ := Array.getElem?_eq_some_iff.mp hc
    have q := List.all_eq_true.mp ((Array.all_eq_true_iff_forall_mem.mp hF) _ (Array.getElem_mem ha)) i (List.mem_range.mpr hi)
    simpa [Array.getElem?_eq_getElem hi] using q
  obtain ⟨i0, ei0⟩ := is_v hg1
  obtain rfl : w0 = (.int i0) := Option.some.inj ei0
  obtain ⟨i1, ei1⟩ := is_v hg2
  obtain rfl : w1 = (.int i1) := Option.some.inj ei1
  obtain ⟨i2, ei2⟩ := is_v hg3
  obtain rfl : w2 = (.int i2) := Option.some.inj ei2
  obtain ⟨i3, ei3⟩ := is_v hg4
  obtain rfl : w3 = (.int i3) := Option.some.inj ei3
  obtain ⟨i4, ei4⟩ := is_v hg5
  obtain rfl : w4 = (.int i4) := Option.some.inj ei4
  obtain ⟨i5, ei5⟩ := isL_v hgr5
  obtain rfl : w5 = (.long i5) := Option.some.inj ei5
  obtain ⟨n, o, h1, h2, h3, _, L, rfl, ⟨rfl, N⟩, hq⟩ := rm0 l s _ hw tables_1 s.heap s.heap.size (Nat.le_refl _) i0 i1 i2 i3 i4 i5 p e ha hc hk s m _ below hf ((Spec.applies_iff_loose hf).mp happ).1 ⟨rfl, State.Warmed39.refl s, rfl⟩ trivial
  exact ⟨n, _, h1, h2, h3, hpost _ _ _ _ _ _ ⟨Cond.after_iff.mpr rfl, Cond.after_iff.mpr (eq_i res_at (Term.int_eval (1)) rfl), trivial⟩ ⟨hq.1, hq.2.1, (hq.2.2.sift fun y hy => Or.inr (N y hy)).mono (by decide) (by decide)⟩⟩
theorem main_1_1 : Claimed_1_1 := comes_1 fun _ _ _ _ _ _ h hF => ⟨h.1, hF⟩
theorem main_1_2 : Claimed_1_2 := comes_1 fun _ _ _ _ _ _ h hF => ⟨h.2.1, hF⟩
end Jvm.Pilot.@@N@@
namespace Jvm.Pilot.@@N@@
open Jvm Jvm.ClassFile Sem Op Lib Jvm.Free Jvm.Stand Jvm.Pilot.@@N@@.Jvm.D
/-! MADE BY PROGRAM (witnessworld.py) out of the Statement's table words and the real class files: 13 classes; the members and pool entries that the words name. The judged class is class 1, her method 1. -/
namespace start1
open Jvm.ClassFile
def u (s : String) : CpInfo := .utf8 (stringToUtf16 s)
/-- a pool by its gaps: so many unusable entries, then the entry; so many at the end -/
def gap : Nat → List CpInfo → List CpInfo
  | 0, r => r
  | n + 1, r => .unusable :: gap n r
def poolList (es : List (Nat × CpInfo)) (last : Nat) : List CpInfo := es.foldr (fun e r => gap e.1 (e.2 :: r)) (gap last [])
def pool (es : List (Nat × CpInfo)) (last : Nat) : Array CpInfo := ⟨poolList es last⟩
def fileOf (pool : Array CpInfo) (this : Nat) (attrs : Array Attribute := #[]) (ms : Array MethodInfo := #[]) (fl : Nat := 33) (sup : Nat := 0) (ifs : Array Nat := #[]) (fds : Array FieldInfo := #[]) : ClassFile where
  minorVersion := 0
  majorVersion := 65
  constantPool := pool
  accessFlags := fl
  thisClass := this
  superClass := sup
  interfaces := ifs
  fields := fds
  methods := ms
  attributes := attrs
def plain (name : String) (sup : Option ClassId) : Class where
  name := name
  kind := .ordinary
  loader := none
  accessFlags := 33
  super := sup
  interfaces := #[]
  cf := none
  fields := #[]
  methods := #[]
  instanceTypes := #[]
  staticTypes := #[]
  resolved := #[]
  callSites := []
  init := .initialized
  statics := none
  mirror := none

def pool0 : Array CpInfo := pool [(5, u "<init>"), (0, u "()V"), (1, .class_ 10), (1, u "java/lang/Object")] 113

def k0c0 : Code := { maxStack := 0, maxLocals := 1, code := object_method_1_code, exceptionTable := #[], attributes := #[] }
def k0m0 : Method := { name := "<init>", desc := "()V", sig := { parameters := [], returnType := none }, accessFlags := 1, code := some k0c0 }
/-- java/lang/Object -/
def k0 : Class := { plain "java/lang/Object" none with
  accessFlags := 33
  interfaces := #[]
  cf := some (fileOf pool0 8 #[] #[{ accessFlags := 1, nameIndex := 5, descriptorIndex := 6, attributes := #[] }] 33 0 #[] #[])
  fields := #[]
  methods := #[k0m0]
  instanceTypes := #[]
  staticTypes := #[]
  resolved := Array.replicate 124 none
  statics := none }

def pool1 : Array CpInfo := pool [(2, .class_ 4), (1, u "java/lang/Object"), (0, u "<init>"), (0, u "()V"), (0, .integer 2147483647), (0, .integer 1073741823), (0, .class_ 10), (0, u "com/example/classic_strings/classicstrings/compare/Matrix$Checkpoints"), (0, .methodref 9 12), (0, .nameAndType 5 13), (0, u "(IIIII)V"), (0, .long 18446744073709551615), (1, .long 6510615555426900570), (1, .methodref 9 19), (0, .nameAndType 20 21), (0, u "state"), (0, u "(II[J)V"), (0, .class_ 23), (0, u "com/example/classic_strings/classicstrings/compare/CheckpointsStatePinLaw"), (2, u "law"), (0, u "(IIIIIJ)Z")] 9

def k1m0 : Method := { name := "<init>", desc := "()V", sig := { parameters := [], returnType := none }, accessFlags := 1, code := none }
def k1c1 : Code := { maxStack := 7, maxLocals := 20, code := code, exceptionTable := #[], attributes := #[] }
def k1m1 : Method := { name := "law", desc := "(IIIIIJ)Z", sig := { parameters := [.int, .int, .int, .int, .int, .long], returnType := some .boolean }, accessFlags := 9, code := some k1c1 }
/-- com/example/classic_strings/classicstrings/compare/CheckpointsStatePinLaw -/
def k1 : Class := { plain "com/example/classic_strings/classicstrings/compare/CheckpointsStatePinLaw" (some 0) with
  accessFlags := 49
  interfaces := #[]
  cf := some (fileOf pool1 22 #[] #[{ accessFlags := 1, nameIndex := 5, descriptorIndex := 6, attributes := #[] }, { accessFlags := 9, nameIndex := 26, descriptorIndex := 27, attributes := #[] }] 49 2 #[] #[])
  fields := #[]
  methods := #[k1m0, k1m1]
  instanceTypes := #[]
  staticTypes := #[]
  resolved := Array.replicate 37 none
  statics := none }

def pool2 : Array CpInfo := pool [(1, .methodref 2 3), (0, .class_ 4), (0, .nameAndType 5 6), (0, u "java/lang/Object"), (0, u "<init>"), (0, u "()V"), (0, .fieldref 8 9), (0, .class_ 10), (0, .nameAndType 11 12), (0, u "com/example/classic_strings/classicstrings/compare/Matrix$Checkpoints"), (0, u "top"), (0, u "I"), (0, .fieldref 8 14), (0, .nameAndType 15 12), (0, u "tierStrips"), (0, .fieldref 8 17), (0, .nameAndType 18 12), (0, u "chunkColumns"), (0, .class_ 20), (0, u "[B"), (0, .fieldref 8 22), (0, .nameAndType 23 24), (0, u "carries"), (0, u "[[B"), (0, .class_ 26), (0, u "[J"), (0, .fieldref 8 28), (0, .nameAndType 29 30), (0, u "states"), (0, u "[[J"), (5, .class_ 38), (1, u "com/example/classic_strings/classicstrings/compare/Matrix"), (8, u "(IIIII)V"), (7, u "state"), (0, u "(II[J)V")] 8

def k2c0 : Code := { maxStack := 4, maxLocals := 8, code := prog_14_method_1_code, exceptionTable := #[], attributes := #[] }
def k2m0 : Method := { name := "<init>", desc := "(IIIII)V", sig := { parameters := [.int, .int, .int, .int, .int], returnType := none }, accessFlags := 0, code := some k2c0 }
def k2c1 : Code := { maxStack := 5, maxLocals := 5, code := prog_14_method_4_code, exceptionTable := #[], attributes := #[] }
def k2m1 : Method := { name := "state", desc := "(II[J)V", sig := { parameters := [.int, .int, (.array .long)], returnType := none }, accessFlags := 0, code := some k2c1 }
/-- com/example/classic_strings/classicstrings/compare/Matrix$Checkpoints -/
def k2 : Class := { plain "com/example/classic_strings/classicstrings/compare/Matrix$Checkpoints" (some 0) with
  accessFlags := 32
  interfaces := #[]
  cf := some (fileOf pool2 8 #[.nestHost 36] #[{ accessFlags := 0, nameIndex := 5, descriptorIndex := 47, attributes := #[] }, { accessFlags := 0, nameIndex := 55, descriptorIndex := 56, attributes := #[] }] 32 2 #[] #[{ accessFlags := 18, nameIndex := 11, descriptorIndex := 12, attributes := #[] }, { accessFlags := 18, nameIndex := 15, descriptorIndex := 12, attributes := #[] }, { accessFlags := 18, nameIndex := 18, descriptorIndex := 12, attributes := #[] }, { accessFlags := 18, nameIndex := 23, descriptorIndex := 24, attributes := #[] }, { accessFlags := 18, nameIndex := 29, descriptorIndex := 30, attributes := #[] }])
  fields := #[{ name := "top", type := .int, accessFlags := 18, slot := 0, constantValue := 0 }, { name := "tierStrips", type := .int, accessFlags := 18, slot := 1, constantValue := 0 }, { name := "chunkColumns", type := .int, accessFlags := 18, slot := 2, constantValue := 0 }, { name := "carries", type := (.array (.array .byte)), accessFlags := 18, slot := 3, constantValue := 0 }, { name := "states", type := (.array (.array .long)), accessFlags := 18, slot := 4, constantValue := 0 }]
  methods := #[k2m0, k2m1]
  instanceTypes := #[.int, .int, .int, (.array (.array .byte)), (.array (.array .long))]
  staticTypes := #[]
  resolved := Array.replicate 65 none
  statics := none }

def pool3 : Array CpInfo := pool [(1, u "java/lang/Cloneable"), (0, .class_ 1), (0, u "java/lang/Object"), (0, .class_ 3)] 3

/-- java/lang/Cloneable -/
def k3 : Class := { plain "java/lang/Cloneable" (some 0) with
  accessFlags := 1537
  interfaces := #[]
  cf := some (fileOf pool3 2 #[] #[] 1537 4 #[] #[])
  fields := #[]
  methods := #[]
  instanceTypes := #[]
  staticTypes := #[]
  resolved := Array.replicate 8 none
  statics := none }

def pool4 : Array CpInfo := pool [(1, u "java/io/Serializable"), (0, .class_ 1), (0, u "java/lang/Object"), (0, .class_ 3)] 3

/-- java/io/Serializable -/
def k4 : Class := { plain "java/io/Serializable" (some 0) with
  accessFlags := 1537
  interfaces := #[]
  cf := some (fileOf pool4 2 #[] #[] 1537 4 #[] #[])
  fields := #[]
  methods := #[]
  instanceTypes := #[]
  staticTypes := #[]
  resolved := Array.replicate 8 none
  statics := none }

/-- the primitive byte -/
def k5 : Class := { plain "byte" none with kind := .primitive 'B', accessFlags := 0x411 }
/-- [B -/
def k6 : Class := { plain "[B" (some 0) with kind := .array 5 .byte, interfaces := #[3, 4], accessFlags := 1041 }

/-- the primitive int -/
def k7 : Class := { plain "int" none with kind := .primitive 'I', accessFlags := 0x411 }
/-- [I -/
def k8 : Class := { plain "[I" (some 0) with kind := .array 7 .int, interfaces := #[3, 4], accessFlags := 1041 }

/-- the primitive long -/
def k9 : Class := { plain "long" none with kind := .primitive 'J', accessFlags := 0x411 }
/-- [J -/
def k10 : Class := { plain "[J" (some 0) with kind := .array 9 .long, interfaces := #[3, 4], accessFlags := 1041 }

/-- [L[B; -/
def k11 : Class := { plain "[[B" (some 0) with kind := .array 6 (.array .byte), interfaces := #[3, 4], accessFlags := 1041 }

/-- [L[J; -/
def k12 : Class := { plain "[[J" (some 0) with kind := .array 10 (.array .long), interfaces := #[3, 4], accessFlags := 1041 }

def heap : Heap := #[{ cls := 11, slots := #[.null], vm := .none },
  { cls := 12, slots := #[.null], vm := .none }]
def classes : Array Class := #[k0, k1, k2, k3, k4, k5, k6, k7, k8, k9, k10, k11, k12]
def interned : List (Array UInt16 × Addr) := []
def slotsUsed : Nat := 2
def theMethod : MethodId := ⟨1, 1⟩
def args0 : Array Value := #[.int 5, .int 3, .int 1, .int 7, .int 9, .long 4]
def aboutOver (below : List Frame) : State where
  vm := { classes := classes, interned := interned.toArray }
  heap := heap
  slotsUsed := slotsUsed
  threads := #[{ frames := .invoking theMethod args0 :: below }]
def below0 : List Frame := [.native { method := ⟨0, 0⟩, args := #[] }]
def about1 : State := aboutOver below0
def p0 : Program := .bare "" "" ""
def e0 : Env := launch0.env 0 0 0
theorem w_frames : about1.frames = Frame.invoking theMethod args0 :: below0 := rfl
set_option maxRecDepth 65536 in
theorem w_args : argsFit about1.vm theMethod args0 = true := by decide +kernel
set_option maxRecDepth 65536 in
theorem w_heap : heapFits about1 = true := by decide +kernel
set_option maxRecDepth 65536 in
theorem w_runnable : about1.curStatus? = some .runnable := by decide +kernel
set_option maxRecDepth 65536 in
theorem w_alone : about1.alone = true := by decide +kernel
set_option maxRecDepth 65536 in
theorem w_named : about1.methodNamed? x = some theMethod := by decide +kernel
set_option maxRecDepth 65536 in
theorem w_hears : about1.hears theMethod below0 = true := by decide +kernel
set_option maxRecDepth 65536 in
theorem w_ripe : about1.ripe theMethod args0 below0 = true := by decide +kernel
theorem w_running : about1.status = .running := rfl
set_option maxRecDepth 65536 in
theorem w_room : about1.hasRoom e0.platform room_1 = true :=
  launch0.hasRoom_least _ room_1 (by decide +kernel) (by decide +kernel) (by decide +kernel) (by decide +kernel) (by decide +kernel) (by decide +kernel)
theorem allAtoms_all (ts : List Jvm.Cond) (a : Array Jvm.Value) (st : Jvm.State) : (allAtoms ts).before a st = ts.all (fun c => c.before a st) := by
  induction ts with
  | nil => rfl
  | cons c t ih =>
    show (Jvm.Cond.and c (allAtoms t)).before a st = _
    rw [Jvm.Cond.before_and, ih, List.all_cons]
def words1 : List Jvm.Cond := Jvm.Cond.code x code maxLocals ret :: tables_1
/-- a 'code' word, met by the world's own term for the bytes: nothing is compared byte by byte -/
theorem code_word {y : MethodName} {bytes : ByteArray} {mx : Nat} {rt : Option FieldType} {a : Array Value} {s : State} {m : MethodId} {meth : Method} {c : Code} (h1 : s.methodNamed? y = some m) (h2 : s.vm.method? m = some meth) (h3 : meth.code = some c) (h4 : c.code = bytes)
    (h5 : (c.maxLocals == mx && c.exceptionTable.isEmpty && decide (c.maxStack ≤ mostOperands) && decide (meth.sig.returnType = rt) && !meth.locks && decide (parseMethodDescriptor y.desc = some meth.sig)) = true) : (Jvm.Cond.code y bytes mx rt).before a s = true := by
  simp only [Bool.and_eq_true, beq_iff_eq, Bool.not_eq_true', decide_eq_true_eq] at h5
  obtain ⟨⟨⟨⟨⟨g1, g2⟩, g3⟩, g4⟩, g5⟩, g6⟩ := h5
  simp [Cond.before, Cond.holds, Cond.value, h1, h2, h3, h4, g1, g2, g3, g4, g5, g6]
def isCode : Jvm.Cond → Bool
  | .code _ _ _ _ => true
  | _ => false
theorem all_split {L : List Jvm.Cond} {P : Jvm.Cond → Bool} (h1 : L.all (fun c => isCode c || P c) = true) (h2 : ∀ c ∈ L.filter isCode, P c = true) : L.all P = true := by
  refine List.all_eq_true.mpr fun c hc => ?_
  have h := List.all_eq_true.mp h1 c hc
  rcases Bool.eq_false_or_eq_true (isCode c) with hi | hi
  · exact h2 c (List.mem_filter.mpr ⟨hc, hi⟩)
  · simpa [hi] using h
set_option maxRecDepth 65536 in
theorem w_c0 : (Jvm.Cond.code x code maxLocals ret).before args0 about1 = true := code_word (m := ⟨1, 1⟩) (meth := k1m1) (c := k1c1) (by decide +kernel) rfl rfl rfl (by decide +kernel)
set_option maxRecDepth 65536 in
theorem w_c1 : (Jvm.Cond.code ({ cls := "com/example/classic_strings/classicstrings/compare/Matrix$Checkpoints", name := "<init>", desc := "(IIIII)V" } : Jvm.MethodName) prog_14_method_1_code (8 : Nat) (Option.none : Option Jvm.ClassFile.FieldType)).before args0 about1 = true := code_word (m := ⟨2, 0⟩) (meth := k2m0) (c := k2c0) (by decide +kernel) rfl rfl rfl (by decide +kernel)
set_option maxRecDepth 65536 in
theorem w_c2 : (Jvm.Cond.code ({ cls := "java/lang/Object", name := "<init>", desc := "()V" } : Jvm.MethodName) object_method_1_code (1 : Nat) (Option.none : Option Jvm.ClassFile.FieldType)).before args0 about1 = true := code_word (m := ⟨0, 0⟩) (meth := k0m0) (c := k0c0) (by decide +kernel) rfl rfl rfl (by decide +kernel)
set_option maxRecDepth 65536 in
theorem w_c3 : (Jvm.Cond.code ({ cls := "com/example/classic_strings/classicstrings/compare/Matrix$Checkpoints", name := "state", desc := "(II[J)V" } : Jvm.MethodName) prog_14_method_4_code (5 : Nat) (Option.none : Option Jvm.ClassFile.FieldType)).before args0 about1 = true := code_word (m := ⟨2, 1⟩) (meth := k2m1) (c := k2c1) (by decide +kernel) rfl rfl rfl (by decide +kernel)
def codes1 : List Jvm.Cond := [Jvm.Cond.code x code maxLocals ret, Jvm.Cond.code ({ cls := "com/example/classic_strings/classicstrings/compare/Matrix$Checkpoints", name := "<init>", desc := "(IIIII)V" } : Jvm.MethodName) prog_14_method_1_code (8 : Nat) (Option.none : Option Jvm.ClassFile.FieldType), Jvm.Cond.code ({ cls := "java/lang/Object", name := "<init>", desc := "()V" } : Jvm.MethodName) object_method_1_code (1 : Nat) (Option.none : Option Jvm.ClassFile.FieldType), Jvm.Cond.code ({ cls := "com/example/classic_strings/classicstrings/compare/Matrix$Checkpoints", name := "state", desc := "(II[J)V" } : Jvm.MethodName) prog_14_method_4_code (5 : Nat) (Option.none : Option Jvm.ClassFile.FieldType)]
set_option maxRecDepth 65536 in
theorem codes_eq : words1.filter isCode = codes1 := rfl
theorem w_codes : ∀ c ∈ words1.filter isCode, c.before args0 about1 = true := by
  rw [codes_eq]
  intro c hc
  simp only [codes1, List.mem_cons, List.not_mem_nil, or_false] at hc
  rcases hc with rfl | rfl | rfl | rfl
  · exact w_c0
  · exact w_c1
  · exact w_c2
  · exact w_c3
set_option maxRecDepth 65536 in
theorem w_t1 : (words1.take 24).all (fun c => isCode c || c.before args0 about1) = true := by decide +kernel
set_option maxRecDepth 65536 in
theorem w_t2 : (words1.drop 24).all (fun c => isCode c || c.before args0 about1) = true := by decide +kernel
theorem w_tables : (allAtoms (Jvm.Cond.code x code maxLocals ret :: tables_1)).before args0 about1 = true := by
  rw [allAtoms_all]
  show words1.all (fun c => c.before args0 about1) = true
  refine all_split ?_ w_codes
  rw [← List.take_append_drop 24 words1, List.all_append, w_t1, w_t2]
  rfl
set_option maxRecDepth 65536 in
theorem w_case : (Jvm.Cond.and given_1 narrow_1).before args0 about1 = true := by decide +kernel
theorem w_applies : (headSpec (Jvm.Cond.code x code maxLocals ret :: tables_1) room_1).applies x e0.platform about1 = true :=
  (Spec.applies_iff w_frames).mpr ⟨w_running, w_runnable, w_alone, w_named, w_hears, w_ripe, w_room, w_tables⟩
theorem atStart : AtStart classFile x code maxLocals ret World_1 tables_1 room_1 Calls_1 rest_1 Pre_1 launch0 p0 e0 about1 theMethod args0 below0 :=
  ⟨lists_1, trivial, launch0.admits_env _ _ _, launch0.least_env, fairChoices_fair.cas, fairChoices_fair.clock, w_frames, w_args, w_heap, w_applies, trivial, trivial, w_case⟩
end start1
theorem witness_1 : WitnessClaimed_1 := ⟨start1.p0, start1.e0, start1.about1, start1.theMethod, start1.args0, start1.below0, start1.atStart⟩
end Jvm.Pilot.@@N@@
