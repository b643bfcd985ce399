import JvmDerived
import JvmDerived.Pilot.@@N@@Statement
import JvmDerived.Pilot.@@N@@Code
set_option linter.unusedVariables false
set_option linter.unusedSimpArgs false
namespace Jvm.RoadKit
open Sem ClassFile Op Lib Jvm.Stand Jvm.Free Jvm.LawKit
section Own
variable {p : Program} {l : Launch} {e : Env} {R : Room} {s : State} {m : MethodId} {args : Array Value} {below : List Frame} {meth : Method} {c : Code} {T T' : State} {locs : List Loc} {cells slots : Nat} {Z : State} {h0 h : Heap} {a0 : Array Value} {Q Q' : Option Value → Heap → List Loc → Prop} {rm rm0 : Room}
/-- from here on the walk returns, and what it leaves is Q -/
def own_Ends (p : Program) (e : Env) (below : List Frame) (s : State) (Q : Option Value → Heap → List Loc → Prop) (rm : Room) (T : State) (g : JFrame) : Prop :=
  ∃ s₂ o, Steps p.tables e below (T.setTop g) s₂ ∧ s₂.status = .running ∧ Ended s₂ below o ∧ ∃ v L, o = .returned v ∧ Q v s₂.heap L ∧ FrameEnd s o s₂ L rm.cells rm.slots
theorem own_go {g g' : JFrame} (h : ∀ t, Steps p.tables e below (T'.setTop g') t → Steps p.tables e below (T.setTop g) t) (H : own_Ends p e below s Q rm T' g') : own_Ends p e below s Q rm T g := by
  obtain ⟨s₂, o, h1, r⟩ := H
  exact ⟨s₂, o, h _ h1, r⟩
/-- a goal that may be stepped back -/
def own_Closed (p : Program) (e : Env) (below : List Frame) (G : State → JFrame → Prop) : Prop := ∀ (T T' : State) (g g' : JFrame), (∀ t, Steps p.tables e below (T'.setTop g') t → Steps p.tables e below (T.setTop g) t) → G T' g' → G T g
theorem own_closed : own_Closed p e below (own_Ends p e below s Q rm) := fun _ _ _ _ h H => own_go h H
theorem own_cast {g g' : JFrame} (q : g = g') (H : own_Ends p e below s Q rm T g') : own_Ends p e below s Q rm T g := q ▸ H
/-- it gives r back, and the heap as it was -/
def own_QP (h0 : Heap) (r : Option Value) (v : Option Value) (h : Heap) (L : List Loc) : Prop := v = r ∧ L = [] ∧ h = h0
theorem own_lrem (x y : Int64) : x - (x / y) * y = x % y := by
  apply Int64.toInt_inj.mp
  have h1 := Int64.le_toInt (x % y)
  have h2 := Int64.toInt_lt (x % y)
  rw [Int64.toInt_sub, Int64.toInt_mul, Int64.toInt_div, Int.bmod_mul_bmod, Int.sub_bmod_bmod, Int.mul_comm (x.toInt.tdiv y.toInt), ← Int.tmod_def, ← Int64.toInt_mod]
  exact Int.bmod_eq_of_le_mul_two (by omega) (by omega)
theorem own_lremM {g : JFrame} {target : State} (X : Stand p l e R s m args below meth c T locs cells slots) (hx : p.tables.exec = Jvm.exec) (hg : g.method = m) {x y : Int64} {rest : List Value} (hd : decode c.code g.pc = .ok (.lrem, 1)) (hs : g.stack = .long y :: .long x :: rest) (hy : y ≠ 0)
    (hr : Steps p.tables e below (T.setTop { g with pc := g.pc + 1, stack := .long (x % y) :: rest }) target) : Steps p.tables e below (T.setTop g) target := by
  have q : x - x / y * y = x % y := own_lrem x y
  exact XS.lrem X.here hx hg hd hs hy (by rw [q]; exact hr)
/-- a body's contract -/
def own_Met (l : Launch) (Z : State) (y : MethodName) (bytes : ByteArray) (maxL : Nat) (ret : Option FieldType) (ws : List Cond) (rm : Room) (as' : Array Value) (h0 : Heap) (Q : Option Value → Heap → List Loc → Prop) : Prop :=
  MetFree l y (head1 (Cond.code y bytes maxL ret :: ws) rm) (fun a U => a = as' ∧ Z.Warmed39 U.vm ∧ U.heap = h0) (fun _ _ _ _ _ => True) (fun _ U o U' => ∃ v L, o = .returned v ∧ Q v U'.heap L ∧ FrameEnd U o U' L rm.cells rm.slots)
theorem own_met {y : MethodName} {bytes : ByteArray} {maxL : Nat} {ret : Option FieldType} {ws : List Cond} {as' : Array Value} (hy : plainFor y = true)
    (H : ∀ (p : Program) (e : Env) (s : State) (m : MethodId) (below : List Frame) (meth : Method) (c : Code) (s₁ : State), p.tables.exec = Jvm.exec → c.code = bytes → c.maxLocals = maxL → s.vm.findClass y.cls = some m.cls → meth.name = y.name → meth.sig.returnType = ret → meth.locks = false → Z.Warmed39 s.vm →
      Stand p l e rm s m as' below meth c s₁ [] 0 0 → s₁.heap = h0 → own_Ends p e below s Q rm s₁ (entryFrame m as' maxL)) : own_Met l Z y bytes maxL ret ws rm as' h0 Q := by
  refine MetFree.of_bodySF hy hisR ?_
  intro p e s m args below meth c s₁ Bd hml0 hP hK
  obtain ⟨rfl, hZ, hh⟩ := hP
  exact H p e s m below meth c s₁ Bd.exec Bd.bytes hml0 (findClass_of_methodNamed Bd.named) (name_of_methodNamed Bd.named Bd.method).1 Bd.returns Bd.notSynchronized hZ (Stand.of_body Bd) (by rw [← hh, Bd.state]; rfl)
theorem own_retI (X : Stand p l e R s m args below meth c T locs cells slots) (hx : p.tables.exec = Jvm.exec) (hlk : meth.locks = false) {pc : Nat} {Ls : Array Slot} {z : Int32} {rest : List Value} (hret : meth.sig.returnType = some .int) (hd : decode c.code pc = .ok (.ireturn, 1))
    (hk : cells ≤ rm.cells) (hn : slots ≤ rm.slots) (hq : Q (some (.int z)) T.heap locs) : own_Ends p e below s Q rm T (mkF m pc Ls (.int z :: rest)) := by
  obtain ⟨fs, hr, hrun, hended, hW, hsame⟩ := X.leave (v := some (.int z)) (fun h => by rw [hret] at h; cases h) hlk
  exact ⟨_, _, retOut X hx hret rfl (Or.inl ⟨rfl, Or.inl rfl, z, rfl⟩) hd hr, hrun, hended, _, _, rfl, hq, ⟨_, rfl⟩, hW, hsame.mono hk hn⟩
theorem own_retN (X : Stand p l e R s m args below meth c T locs cells slots) (hx : p.tables.exec = Jvm.exec) (hlk : meth.locks = false) {pc : Nat} {Ls : Array Slot} {z z' : Int32} {t : FieldType} {rest : List Value} (hret : meth.sig.returnType = some t) (ht : t = .boolean ∨ t = .byte ∨ t = .char ∨ t = .short) (hd : decode c.code pc = .ok (.ireturn, 1)) (hz : nar t z = z')
    (hk : cells ≤ rm.cells) (hn : slots ≤ rm.slots) (hq : Q (some (.int z')) T.heap locs) : own_Ends p e below s Q rm T (mkF m pc Ls (.int z :: rest)) := by
  subst hz
  obtain ⟨fs, hr, hrun, hended, hW, hsame⟩ := X.leave (v := some (.int (nar t z))) (fun h => by rw [hret] at h; cases h) hlk
  exact ⟨_, _, retN X hx hret ht hd hr, hrun, hended, _, _, rfl, hq, ⟨_, rfl⟩, hW, hsame.mono hk hn⟩
theorem own_retA (X : Stand p l e R s m args below meth c T locs cells slots) (hx : p.tables.exec = Jvm.exec) (hlk : meth.locks = false) {pc : Nat} {Ls : Array Slot} {w : Value} {t : FieldType} {rest : List Value} (hret : meth.sig.returnType = some t) (ht : t.isReference = true) (hw : w.isRef = true) (hd : decode c.code pc = .ok (.areturn, 1))
    (hk : cells ≤ rm.cells) (hn : slots ≤ rm.slots) (hq : Q (some w) T.heap locs) : own_Ends p e below s Q rm T (mkF m pc Ls (w :: rest)) := by
  obtain ⟨fs, hr, hrun, hended, hW, hsame⟩ := X.leave (v := some w) (fun h => by rw [hret] at h; cases h) hlk
  have hnw : narrow t w = w := by cases w <;> cases t <;> first | rfl | cases ht | cases hw
  exact ⟨_, _, retOut X hx hret hnw (Or.inr (Or.inr (Or.inr (Or.inr ⟨rfl, ht, hw⟩)))) hd hr, hrun, hended, _, _, rfl, hq, ⟨_, rfl⟩, hW, hsame.mono hk hn⟩
theorem own_retJ (X : Stand p l e R s m args below meth c T locs cells slots) (hx : p.tables.exec = Jvm.exec) (hlk : meth.locks = false) {pc : Nat} {Ls : Array Slot} {z : Int64} {rest : List Value} (hret : meth.sig.returnType = some .long) (hd : decode c.code pc = .ok (.lreturn, 1))
    (hk : cells ≤ rm.cells) (hn : slots ≤ rm.slots) (hq : Q (some (.long z)) T.heap locs) : own_Ends p e below s Q rm T (mkF m pc Ls (.long z :: rest)) := by
  obtain ⟨fs, hr, hrun, hended, hW, hsame⟩ := X.leave (v := some (.long z)) (fun h => by rw [hret] at h; cases h) hlk
  exact ⟨_, _, retOut X hx hret rfl (Or.inr (Or.inl ⟨rfl, rfl, z, rfl⟩)) hd hr, hrun, hended, _, _, rfl, hq, ⟨_, rfl⟩, hW, hsame.mono hk hn⟩
theorem own_retV (X : Stand p l e R s m args below meth c T locs cells slots) (hx : p.tables.exec = Jvm.exec) (hlk : meth.locks = false) {pc : Nat} {Ls : Array Slot} (hret : meth.sig.returnType = none) (hd : decode c.code pc = .ok (.return_, 1))
    (hk : cells ≤ rm.cells) (hn : slots ≤ rm.slots) (hq : Q none T.heap locs) : own_Ends p e below s Q rm T (mkF m pc Ls []) := by
  obtain ⟨fs, hr, hrun, hended, hW, hsame⟩ := X.leave (v := none) (fun _ => rfl) hlk
  exact ⟨_, _, X.returnOut hx hret hd hr, hrun, hended, _, _, rfl, hq, ⟨_, rfl⟩, hW, hsame.mono hk hn⟩
/-- what an instance method's words say besides: its own class declares it; that class is no interface; the look-up from there finds it -/
theorem own_decl {y : MethodName} {bytes : ByteArray} {maxL : Nat} {ret : Option FieldType} (w : (Cond.instanceMethod y).before a0 Z = true) (wc : (Cond.code y bytes maxL ret).before a0 Z = true) : (Cond.declares y).before a0 Z = true := by
  obtain ⟨mk, methM, hn, hm, hs, -⟩ := Cond.instanceMethod_spec w
  obtain ⟨m2, c, h1, -, -, -, -, -, -, hsig⟩ := Cond.code_spec hn wc
  cases hm.symm.trans h1
  simp [Cond.before, Cond.holds, Cond.value, hn, hm, hs, hsig]
theorem own_nf {C6 : String} {y y6 : MethodName} (w6 : (Cond.selects C6 y6 y6).before a0 Z = true) (h6 : y6.cls = y.cls) : NotFace Z y := fun r0 h0 => by
  obtain ⟨c2, r2, m2, q1, q2, q3, q4, kP, hkP, hkPi⟩ := Cond.selects_spec w6
  have e1 := findClass_of_methodNamed q3
  have e2 := findClass_of_methodNamed h0
  rw [h6] at e1
  have q := Option.some.inj (e1.symm.trans e2)
  exact ⟨kP, by rw [← q]; exact hkP, hkPi⟩
theorem own_same {C6 : String} {y y6 : MethodName} (w : (Cond.instanceMethod y).before a0 Z = true) (w6 : (Cond.selects C6 y6 y6).before a0 Z = true) (h6 : y6.cls = y.cls) (hy : y.cls ≠ "java/lang/invoke/MethodHandle" ∧ y.cls ≠ "java/lang/invoke/VarHandle") : (Cond.sameMethod y.cls y.cls y.name y.desc).before a0 Z = true := by
  obtain ⟨mk, methM, hn, hm, hs, -⟩ := Cond.instanceMethod_spec w
  obtain ⟨kr, hk, hi⟩ := own_nf w6 h6 _ hn
  have e1 := findClass_of_methodNamed hn
  have e2 := State.methodFound?_of_named hn hy
  simp [Cond.before, Cond.holds, Cond.value, e1, e2, hn, hk, hi]
/-- invokevirtual by the contract of the body that the receiver's class selects -/
theorem own_callV {G : State → JFrame → Prop} (hG : own_Closed p e below G) (X : Stand p l e R s m args below meth c T locs cells slots) (hx : p.tables.exec = Jvm.exec) (hZ : Z.Warmed39 s.vm) {own C : String} {index : Nat} {y z : MethodName} (hown : s.vm.findClass own = some m.cls)
    (w1 : (Cond.methodLink own index y).before a0 Z = true) (w2 : (Cond.declares y).before a0 Z = true) (w3 : (Cond.selects C y z).before a0 Z = true) (w4 : (Cond.instanceMethod z).before a0 Z = true) {C6 : String} {y6 : MethodName} (w6 : (Cond.selects C6 y6 y6).before a0 Z = true) (h6 : y6.cls = y.cls) (hy : y.cls ≠ "java/lang/invoke/MethodHandle" ∧ y.cls ≠ "java/lang/invoke/VarHandle")
    {bytes : ByteArray} {maxL : Nat} {ret : Option FieldType} {as' : Array Value} (hM : own_Met l Z z bytes maxL ret [] rm as' h Q') (wc : (Cond.code z bytes maxL ret).before a0 Z = true) (wz : (Cond.initialized z.cls).before a0 Z = true)
    {b : Addr} (eT : T.heap = h) (E : Exa Z h b C) {pc W : Nat} {Ls : Array Slot} {argsL rest : List Value} (hsize : Ls.size = c.maxLocals) (hlen : ∀ sig, parseMethodDescriptor y.desc = some sig → argsL.length = sig.parameters.length)
    (hW : (rest.map fun v => v.category).sum ≤ W) (hf : rm.frames + 1 ≤ R.frames) (hl : W + (maxL + 11) + rm.locals ≤ R.locals) (hc : cells + rm.cells ≤ R.cells) (hn : slots + rm.slots ≤ R.slots)
    (hdg : decode c.code pc = .ok (.invokevirtual index, 3)) (has : (Value.ref b :: argsL).toArray = as') {st : List Value} (hst : st = argsL.reverse ++ .ref b :: rest)
    (k : ∀ (T' : State) (L : List Loc) (v : Option Value), Stand p l e R s m args below meth c T' (locs ++ L) (cells + rm.cells) (slots + rm.slots) → Q' v T'.heap L → G T' (mkF m (pc + 3) Ls (v.toList ++ rest))) :
    G T (mkF m pc Ls st) := by
  subst hst
  obtain ⟨cq, kq, qa, qb, qc⟩ := isOf hZ eT E
  obtain ⟨v, _, ⟨T4, L4, k4, n4⟩, -, X4, ⟨Lc, hQ, l4, y4, z4⟩, st4⟩ := X.virtualBack hx (y := y) (z := z) hown (mvT hZ w1) (mvT hZ w2) (own_nf (a0 := #[]) (mvT hZ w6) h6) (mvT hZ w3) (mvT hZ w4) hy (backOf (W := W) hM hZ wc wz hf hl) qa qc (g := mkF m pc Ls (argsL.reverse ++ .ref b :: rest)) rfl hsize (Steps.refl _) (argsL := argsL) (rest := rest) hlen rfl (by simpa [JFrame.monitorRoom] using hW) hdg (fun _ _ => ⟨has, eT, hc, hn⟩)
  dsimp only [Pt.U, Pt.locs, Pt.cells, Pt.slots] at X4 l4 y4 z4 st4 hQ
  subst l4 y4 z4
  exact hG _ _ _ _ (fun t kt => st4.trans kt) (k _ _ _ X4 hQ)
/-- the same through a class that inherits the method -/
theorem own_callU {G : State → JFrame → Prop} (hG : own_Closed p e below G) (X : Stand p l e R s m args below meth c T locs cells slots) (hx : p.tables.exec = Jvm.exec) (hZ : Z.Warmed39 s.vm) {own C owner : String} {index : Nat} {y z : MethodName} (hown : s.vm.findClass own = some m.cls)
    (w1 : (Cond.methodLink own index y).before a0 Z = true) (w0 : (Cond.sameMethod y.cls owner y.name y.desc).before a0 Z = true) (w2 : (Cond.declares ⟨owner, y.name, y.desc⟩).before a0 Z = true) (w3 : (Cond.selects C y z).before a0 Z = true) (w4 : (Cond.instanceMethod z).before a0 Z = true) (hy : owner ≠ "java/lang/invoke/MethodHandle" ∧ owner ≠ "java/lang/invoke/VarHandle")
    {bytes : ByteArray} {maxL : Nat} {ret : Option FieldType} {as' : Array Value} (hM : own_Met l Z z bytes maxL ret [] rm as' h Q') (wc : (Cond.code z bytes maxL ret).before a0 Z = true) (wz : (Cond.initialized z.cls).before a0 Z = true)
    {b : Addr} (eT : T.heap = h) (E : Exa Z h b C) {pc W : Nat} {Ls : Array Slot} {argsL rest : List Value} (hsize : Ls.size = c.maxLocals) (hlen : ∀ sig, parseMethodDescriptor y.desc = some sig → argsL.length = sig.parameters.length)
    (hW : (rest.map fun v => v.category).sum ≤ W) (hf : rm.frames + 1 ≤ R.frames) (hl : W + (maxL + 11) + rm.locals ≤ R.locals) (hc : cells + rm.cells ≤ R.cells) (hn : slots + rm.slots ≤ R.slots)
    (hdg : decode c.code pc = .ok (.invokevirtual index, 3)) (has : (Value.ref b :: argsL).toArray = as') {st : List Value} (hst : st = argsL.reverse ++ .ref b :: rest)
    (k : ∀ (T' : State) (L : List Loc) (v : Option Value), Stand p l e R s m args below meth c T' (locs ++ L) (cells + rm.cells) (slots + rm.slots) → Q' v T'.heap L → G T' (mkF m (pc + 3) Ls (v.toList ++ rest))) :
    G T (mkF m pc Ls st) := by
  subst hst
  obtain ⟨cq, kq, qa, qb, qc⟩ := isOf hZ eT E
  obtain ⟨v, _, ⟨T4, L4, k4, n4⟩, -, X4, ⟨Lc, hQ, l4, y4, z4⟩, st4⟩ := X.virtualBackUp hx (x := y) (y := z) hown (mvT hZ w1) (mvT hZ w0) (mvT hZ w2) hy (mvT hZ w3) (mvT hZ w4) (backOf (W := W) hM hZ wc wz hf hl) qa qc (g := mkF m pc Ls (argsL.reverse ++ .ref b :: rest)) rfl hsize (Steps.refl _) (argsL := argsL) (rest := rest) hlen rfl (by simpa [JFrame.monitorRoom] using hW) hdg (fun _ _ => ⟨has, eT, hc, hn⟩)
  dsimp only [Pt.U, Pt.locs, Pt.cells, Pt.slots] at X4 l4 y4 z4 st4 hQ
  subst l4 y4 z4
  exact hG _ _ _ _ (fun t kt => st4.trans kt) (k _ _ _ X4 hQ)
/-- a constructor by its contract -/
theorem own_callI {G : State → JFrame → Prop} (hG : own_Closed p e below G) (X : Stand p l e R s m args below meth c T locs cells slots) (hx : p.tables.exec = Jvm.exec) (hZ : Z.Warmed39 s.vm) {own : String} {index : Nat} {y : MethodName} (hy1 : y.name = "<init>") (hown : s.vm.findClass own = some m.cls)
    (w1 : (Cond.methodLink own index y).before a0 Z = true) (w4 : (Cond.instanceMethod y).before a0 Z = true) (hy : y.cls ≠ "java/lang/invoke/MethodHandle" ∧ y.cls ≠ "java/lang/invoke/VarHandle")
    {bytes : ByteArray} {maxL : Nat} {as' : Array Value} (hM : own_Met l Z y bytes maxL none [] rm as' h Q') (wc : (Cond.code y bytes maxL none).before a0 Z = true) (wz : (Cond.initialized y.cls).before a0 Z = true)
    {b : Addr} (eT : T.heap = h) {pc W : Nat} {Ls : Array Slot} {argsL rest : List Value} (hsize : Ls.size = c.maxLocals) (hlen : ∀ sig, parseMethodDescriptor y.desc = some sig → argsL.length = sig.parameters.length)
    (hW : (rest.map fun v => v.category).sum ≤ W) (hf : rm.frames + 1 ≤ R.frames) (hl : W + (maxL + 11) + rm.locals ≤ R.locals) (hc : cells + rm.cells ≤ R.cells) (hn : slots + rm.slots ≤ R.slots)
    (hdg : decode c.code pc = .ok (.invokespecial index, 3)) (has : (Value.ref b :: argsL).toArray = as') {st : List Value} (hst : st = argsL.reverse ++ .ref b :: rest)
    (k : ∀ (T' : State) (L : List Loc) (v : Option Value), Stand p l e R s m args below meth c T' (locs ++ L) (cells + rm.cells) (slots + rm.slots) → Q' v T'.heap L → G T' (mkF m (pc + 3) Ls (v.toList ++ rest))) :
    G T (mkF m pc Ls st) := by
  subst hst
  obtain ⟨v, _, ⟨T4, L4, k4, n4⟩, -, X4, ⟨Lc, hQ, l4, y4, z4⟩, st4⟩ := X.specialBack hx (y := y) hy1 hown (mvT hZ w1) (mvT hZ w4) (mvT hZ wc) hy (backOf (W := W) hM hZ wc wz hf hl) (g := mkF m pc Ls (argsL.reverse ++ .ref b :: rest)) rfl hsize (Steps.refl _) (a := b) (argsL := argsL) (rest := rest) hlen rfl (by simpa [JFrame.monitorRoom] using hW) hdg (fun _ _ => ⟨has, eT, hc, hn⟩)
  dsimp only [Pt.U, Pt.locs, Pt.cells, Pt.slots] at X4 l4 y4 z4 st4 hQ
  subst l4 y4 z4
  exact hG _ _ _ _ (fun t kt => st4.trans kt) (k _ _ _ X4 hQ)
/-- super.m(..) by its contract -/
theorem own_callX {G : State → JFrame → Prop} (hG : own_Closed p e below G) (X : Stand p l e R s m args below meth c T locs cells slots) (hx : p.tables.exec = Jvm.exec) (hZ : Z.Warmed39 s.vm) {own C : String} {index : Nat} {y : MethodName} (hown : s.vm.findClass own = some m.cls)
    (w1 : (Cond.methodLink own index y).before a0 Z = true) (w4 : (Cond.instanceMethod y).before a0 Z = true) (w5 : (Cond.superclass own y.cls).before a0 Z = true) {C6 : String} {y6 : MethodName} (w6 : (Cond.selects C6 y6 y6).before a0 Z = true) (h6 : y6.cls = y.cls) (hy : y.cls ≠ "java/lang/invoke/MethodHandle" ∧ y.cls ≠ "java/lang/invoke/VarHandle") (hni : y.name ≠ "<init>")
    {bytes : ByteArray} {maxL : Nat} {ret : Option FieldType} {as' : Array Value} (hM : own_Met l Z y bytes maxL ret [] rm as' h Q') (wc : (Cond.code y bytes maxL ret).before a0 Z = true) (wz : (Cond.initialized y.cls).before a0 Z = true)
    {b : Addr} (eT : T.heap = h) (E : Exa Z h b C) {pc W : Nat} {Ls : Array Slot} {argsL rest : List Value} (hsize : Ls.size = c.maxLocals) (hlen : ∀ sig, parseMethodDescriptor y.desc = some sig → argsL.length = sig.parameters.length)
    (hW : (rest.map fun v => v.category).sum ≤ W) (hf : rm.frames + 1 ≤ R.frames) (hl : W + (maxL + 11) + rm.locals ≤ R.locals) (hc : cells + rm.cells ≤ R.cells) (hn : slots + rm.slots ≤ R.slots)
    (hdg : decode c.code pc = .ok (.invokespecial index, 3)) (has : (Value.ref b :: argsL).toArray = as') {st : List Value} (hst : st = argsL.reverse ++ .ref b :: rest)
    (k : ∀ (T' : State) (L : List Loc) (v : Option Value), Stand p l e R s m args below meth c T' (locs ++ L) (cells + rm.cells) (slots + rm.slots) → Q' v T'.heap L → G T' (mkF m (pc + 3) Ls (v.toList ++ rest))) :
    G T (mkF m pc Ls st) := by
  subst hst
  obtain ⟨v, _, ⟨T4, L4, k4, n4⟩, -, X4, ⟨Lc, hQ, l4, y4, z4⟩, st4⟩ := superBack X hx hZ (y := y) hown w1 (own_same w4 w6 h6 hy) w4 w5 hni (backOf (W := W) hM hZ wc wz hf hl) eT (Ins.self E) (g := mkF m pc Ls (argsL.reverse ++ .ref b :: rest)) rfl hsize wc (argsL := argsL) (rest := rest) hlen rfl (by simpa [JFrame.monitorRoom] using hW) hdg (fun _ _ => ⟨has, eT, hc, hn⟩)
  dsimp only [Pt.U, Pt.locs, Pt.cells, Pt.slots] at X4 l4 y4 z4 st4 hQ
  subst l4 y4 z4
  exact hG _ _ _ _ (fun t kt => st4.trans kt) (k _ _ _ X4 hQ)
/-- invokestatic by the callee's contract -/
theorem own_callS {G : State → JFrame → Prop} (hG : own_Closed p e below G) (X : Stand p l e R s m args below meth c T locs cells slots) (hx : p.tables.exec = Jvm.exec) (hZ : Z.Warmed39 s.vm) {own : String} {index : Nat} {y : MethodName} (hown : s.vm.findClass own = some m.cls)
    (w1 : (Cond.methodLink own index y).before a0 Z = true) (w2 : (Cond.static y).before a0 Z = true) (hy : y.cls ≠ "java/lang/invoke/MethodHandle" ∧ y.cls ≠ "java/lang/invoke/VarHandle")
    {bytes : ByteArray} {maxL : Nat} {ret : Option FieldType} {as' : Array Value} (hM : own_Met l Z y bytes maxL ret [] rm as' h Q') (wc : (Cond.code y bytes maxL ret).before a0 Z = true) (wz : (Cond.initialized y.cls).before a0 Z = true)
    (eT : T.heap = h) {pc W : Nat} {Ls : Array Slot} {argsL rest : List Value} (hsize : Ls.size = c.maxLocals) (hlen : ∀ sig, parseMethodDescriptor y.desc = some sig → argsL.length = sig.parameters.length)
    (hW : (rest.map fun v => v.category).sum ≤ W) (hf : rm.frames + 1 ≤ R.frames) (hl : W + (maxL + 11) + rm.locals ≤ R.locals) (hc : cells + rm.cells ≤ R.cells) (hn : slots + rm.slots ≤ R.slots)
    (hdg : decode c.code pc = .ok (.invokestatic index, 3)) (has : argsL.toArray = as') {st : List Value} (hst : st = argsL.reverse ++ rest)
    (k : ∀ (T' : State) (L : List Loc) (v : Option Value), Stand p l e R s m args below meth c T' (locs ++ L) (cells + rm.cells) (slots + rm.slots) → Q' v T'.heap L → G T' (mkF m (pc + 3) Ls (v.toList ++ rest))) :
    G T (mkF m pc Ls st) := by
  subst hst
  obtain ⟨v, _, ⟨T4, L4, k4, n4⟩, -, X4, ⟨Lc, hQ, l4, y4, z4⟩, st4⟩ := Jvm.LawKit.callS X hx (y := y) hown (mvT hZ w1) (mvT hZ w2) (mvT hZ wz) (mvT hZ wc) hy (backOf (W := W) hM hZ wc wz hf hl) (g := mkF m pc Ls (argsL.reverse ++ rest)) rfl hsize (argsL := argsL) (rest := rest) hlen rfl (by simpa [JFrame.monitorRoom] using hW) hdg (fun _ _ => ⟨has, eT, hc, hn⟩)
  dsimp only [Pt.U, Pt.locs, Pt.cells, Pt.slots] at X4 l4 y4 z4 st4 hQ
  subst l4 y4 z4
  exact hG _ _ _ _ (fun t kt => st4 t kt) (k _ _ _ X4 hQ)
/-- it gives r back; the heap has grown at the most -/
def own_QE (h0 : Heap) (r : Option Value) (v : Option Value) (h : Heap) (L : List Loc) : Prop := v = r ∧ L = [] ∧ Ext h0 h
theorem own_ext0 {h : Heap} : Ext h h := ⟨Nat.le_refl _, fun _ _ q => q⟩
theorem own_extT {h1 h2 h3 : Heap} (A : Ext h1 h2) (B : Ext h2 h3) : Ext h1 h3 := ⟨Nat.le_trans A.1 B.1, fun a c q => B.2 a c (A.2 a c q)⟩
theorem own_len (X : Stand p l e R s m args below meth c T locs cells slots) (hx : p.tables.exec = Jvm.exec) (hZ : Z.Warmed39 s.vm) (eT : T.heap = h) {a : Addr} {cl : Cell} {ty : FieldType} (A : Arr Z h a cl ty) {z : Int32} (hz : cl.slots.size.toInt32 = z) {g : JFrame} (hg : g.method = m) {rest : List Value} (hs : g.stack = .ref a :: rest) (hd : decode c.code g.pc = .ok (.arraylength, 1)) (t : State)
    (hr : Steps p.tables e below (T.setTop { g with pc := g.pc + 1, stack := .int z :: rest }) t) : Steps p.tables e below (T.setTop g) t := by
  subst hz
  exact X.arraylength hx (by rw [eT]; exact A.1) (State.isArrayOf_alike hZ.alike A.2.1) hg hs hd t hr
theorem own_aald (X : Stand p l e R s m args below meth c T locs cells slots) (hx : p.tables.exec = Jvm.exec) (hZ : Z.Warmed39 s.vm) (eT : T.heap = h) {a : Addr} {cl : Cell} {ty : FieldType} (A : Arr Z h a cl ty) (ht : ty.isReference = true) {j : Int32} {v : Value} (hin : ¬ (j < 0 ∨ cl.slots.size ≤ j.toNatClampNeg)) (hv : cl.slots[j.toNatClampNeg]? = some v) {g : JFrame} (hg : g.method = m) {rest : List Value} (hs : g.stack = .int j :: .ref a :: rest) (hd : decode c.code g.pc = .ok (.aaload, 1)) (t : State)
    (hr : Steps p.tables e below (T.setTop { g with pc := g.pc + 1, stack := v :: rest }) t) : Steps p.tables e below (T.setTop g) t :=
  X.aaload hx (by rw [eT]; exact A.1) (State.isArrayOf_alike hZ.alike A.2.1) ht A.2.2 hin hv hg hs hd t hr
theorem own_lald (X : Stand p l e R s m args below meth c T locs cells slots) (hx : p.tables.exec = Jvm.exec) (hZ : Z.Warmed39 s.vm) (eT : T.heap = h) {a : Addr} {cl : Cell} (A : Arr Z h a cl .long) {j : Int32} {v : Value} (hin : ¬ (j < 0 ∨ cl.slots.size ≤ j.toNatClampNeg)) (hv : cl.slots[j.toNatClampNeg]? = some v) {g : JFrame} (hg : g.method = m) {rest : List Value} (hs : g.stack = .int j :: .ref a :: rest) (hd : decode c.code g.pc = .ok (.laload, 1)) (t : State)
    (hr : Steps p.tables e below (T.setTop { g with pc := g.pc + 1, stack := v :: rest }) t) : Steps p.tables e below (T.setTop g) t :=
  X.laload hx (by rw [eT]; exact A.1) (State.isArrayOf_alike hZ.alike A.2.1) A.2.2 hin hv hg hs hd t hr
theorem own_bald (X : Stand p l e R s m args below meth c T locs cells slots) (hx : p.tables.exec = Jvm.exec) (hZ : Z.Warmed39 s.vm) (eT : T.heap = h) {a : Addr} {cl : Cell} (A : Arr Z h a cl .byte) {j : Int32} {v : Value} (hin : ¬ (j < 0 ∨ cl.slots.size ≤ j.toNatClampNeg)) (hv : cl.slots[j.toNatClampNeg]? = some v) {g : JFrame} (hg : g.method = m) {rest : List Value} (hs : g.stack = .int j :: .ref a :: rest) (hd : decode c.code g.pc = .ok (.baload, 1)) (t : State)
    (hr : Steps p.tables e below (T.setTop { g with pc := g.pc + 1, stack := v :: rest }) t) : Steps p.tables e below (T.setTop g) t :=
  X.baloadBytes hx (by rw [eT]; exact A.1) (State.isArrayOf_alike hZ.alike A.2.1) A.2.2 hin hv hg hs hd t hr
/-- a field that the case says holds what the other term holds -/
theorem own_fldR {t u : Term} {C n d : String} {a b : Addr} (ev : t.eval args s none [] s = some (.ref a)) (ev2 : u.eval args s none [] s = some (.ref b)) (hq : (Cond.eq (Term.field t C n d) u).value args s none s [] = some true) : Fld s s.heap a C n d (.ref b) := by
  obtain ⟨x, y, h1, h2, k1, k2⟩ := cmp_v (Or.inl hq)
  cases ev2.symm.trans h2
  have hx : x = .ref b := by
    cases x <;> simp [Kin, Value.isRef] at k1 k2
    · simp [Cond.value, h1, h2] at hq
    · simpa [Cond.value, h1, h2] using hq
  subst hx
  exact Fld.start ((fld_at ev).symm.trans h1)
/-- an element that the case says is what the other term is -/
theorem own_elemR {t u : Term} {k : Int32} {a b : Addr} {cl : Cell} (ev : t.eval args s none [] s = some (.ref a)) (hc : s.heap[a]? = some cl) (ev2 : u.eval args s none [] s = some (.ref b)) (hq : (Cond.eq (Term.elem t (Term.int k)) u).value args s none s [] = some true) : cl.slots[k.toNatClampNeg]? = some (.ref b) := by
  obtain ⟨x, y, h1, h2, k1, k2⟩ := cmp_v (Or.inl hq)
  cases ev2.symm.trans h2
  have hx : x = .ref b := by
    cases x <;> simp [Kin, Value.isRef] at k1 k2
    · simp [Cond.value, h1, h2] at hq
    · simpa [Cond.value, h1, h2] using hq
  subst hx
  exact (elem_in h1 ev rfl hc).2
/-- an element that the case says is this int -/
theorem own_elemI {t : Term} {k w : Int32} {a : Addr} {cl : Cell} (ev : t.eval args s none [] s = some (.ref a)) (hc : s.heap[a]? = some cl) (hq : (Cond.eq (Term.elem t (Term.int k)) (Term.int w)).value args s none s [] = some true) : cl.slots[k.toNatClampNeg]? = some (.int w) := by
  obtain ⟨x, y, h1, h2, k1, k2⟩ := cmp_v (Or.inl hq)
  have e2 : y = .int w := (Option.some.inj h2).symm
  subst e2
  obtain ⟨z, rfl⟩ : ∃ z, x = .int z := k2
  have e3 : z = w := by simpa [Cond.value, h1, h2] using hq
  subst e3
  exact (elem_in h1 ev rfl hc).2
/-- a length that the case says -/
theorem own_lenI {t : Term} {k : Int32} {a : Addr} {cl : Cell} {ty : FieldType} (ev : t.eval args s none [] s = some (.ref a)) (A : Arr s s.heap a cl ty) (hq : (Cond.eq (Term.length t) (Term.int k)).value args s none s [] = some true) (hk : ¬ k < 0) : cl.slots.size = k.toNatClampNeg := by
  obtain ⟨x, y, h1, h2, k1, k2⟩ := cmp_v (Or.inl hq)
  have e2 : y = .int k := (Option.some.inj h2).symm
  subst e2
  obtain ⟨z, rfl⟩ : ∃ z, x = .int z := k2
  have e3 : z = k := by simpa [Cond.value, h1, h2] using hq
  subst e3
  have ha : s.arrayAt? a = some cl := A.fin (Vm.Alike.refl _)
  by_cases hlt : cl.slots.size < 2 ^ 31
  · have q : cl.slots.size.toInt32 = z := by
      have h3 := len_f ev ha hlt
      rw [h1] at h3
      exact (Value.int.inj (Option.some.inj h3)).symm
    rw [← q]; simp only [Int32.toNatClampNeg, len_toInt hlt]; rfl
  · simp [Term.eval, ev, ha, hlt] at h1
/-- a field that the case says holds this int -/
theorem own_fldI {t : Term} {C n d : String} {k : Int32} {a : Addr} (ev : t.eval args s none [] s = some (.ref a)) (hq : (Cond.eq (Term.field t C n d) (Term.int k)).value args s none s [] = some true) : Fld s s.heap a C n d (.int k) := by
  obtain ⟨x, y, h1, h2, k1, k2⟩ := cmp_v (Or.inl hq)
  have e2 : y = .int k := (Option.some.inj h2).symm
  subst e2
  obtain ⟨z, rfl⟩ : ∃ z, x = .int z := k2
  have e3 : z = k := by simpa [Cond.value, h1, h2] using hq
  subst e3
  exact Fld.start ((fld_at ev).symm.trans h1)
end Own
end Jvm.RoadKit
namespace Jvm.Pilot.@@N@@
open Jvm Jvm.ClassFile Sem Op Lib Jvm.Free Jvm.Stand Jvm.LawKit Jvm.RoadKit Bundle Jvm.Pilot.@@N@@.Jvm.D
theorem pd_0 : parseMethodDescriptor "()I" = some ⟨[], some .int⟩ := by decide +kernel
theorem pd_1 : parseMethodDescriptor "()Lcom/example/meaning_search/meaningsearch/Relation;" = some ⟨[], some (.object "com/example/meaning_search/meaningsearch/Relation")⟩ := by decide +kernel
theorem d2_0 : decode jdk_37_method_2_code 0 = .ok (.aload_n 0, 1) := by decide +kernel
theorem d2_1 : decode jdk_37_method_2_code 1 = .ok (.getfield 7, 3) := by decide +kernel
theorem d2_4 : decode jdk_37_method_2_code 4 = .ok (.ireturn, 1) := by decide +kernel
theorem rm2_pn : plainFor (⟨"java/lang/Enum", "ordinal", "()I"⟩ : MethodName) = true := plainFor_of_name (show plainName "java/lang/Enum" = true by first | (simp [plainName, overriddenIn]; done) | decide +kernel)
theorem rm2_ef (mI : MethodId) (a : Addr) : entryFrame mI #[(.ref a)] 1 = mkF mI 0 #[.val (.ref a)] [] := by first | (simp [entryFrame, mkF, argsToLocals, Value.category]; done) | rfl
set_option maxRecDepth 65536 in
set_option maxHeartbeats 40000000 in
theorem rm2 (l : Launch) (Z : State) (a0 : Array Value) (hw : ∀ d ∈ tables_1, d.before a0 Z = true) (ws : List Jvm.Cond) (h0 : Heap) (a : Addr) (w : Int32) (F : Fld Z h0 a "java/lang/Enum" "ordinal" "I" (.int w)) :
    own_Met l Z (⟨"java/lang/Enum", "ordinal", "()I"⟩ : MethodName) jdk_37_method_2_code 1 (some .int) ws ({ frames := 0, cells := 0, slots := 0, locals := 0 } : Room) #[(.ref a)] h0 (own_QP h0 (some (.int w))) := by
  refine own_met rm2_pn ?_
  intro pP eE sS mI bB mT cC s₁ hx hby hml hown hnm hret hlk hZ X0 e0
  replace hown : sS.vm.findClass "java/lang/Enum" = some mI.cls := hown
  refine own_cast (rm2_ef mI a) ?_
  refine own_go (T' := s₁) (g' := (mkF mI 1 #[.val (.ref a)] [(.ref a)])) (fun t_ kt_ => XS.aloadN X0.here hx rfl (hb hby d2_0) rfl rfl kt_) ?_
  obtain ⟨Ta1, Xa1, ea1, sta1⟩ := getF X0 hx hZ hown (host := "") (Or.inl (hw _ (List.mem_of_getElem? (i := 18) rfl))) Via.refl e0 F (g := (mkF mI 1 #[.val (.ref a)] [(.ref a)])) rfl rfl (hb hby d2_1)
  refine own_go (T' := Ta1) (g' := (mkF mI 4 #[.val (.ref a)] [(.int w)])) (fun t_ kt_ => sta1 _ kt_) ?_
  refine own_retI Xa1 hx hlk hret (hb hby d2_4) (by decide) (by decide) ?_
  exact ⟨rfl, rfl, ea1⟩
theorem d1_0 : decode prog_15_method_4_code 0 = .ok (.aload_n 0, 1) := by decide +kernel
theorem d1_1 : decode prog_15_method_4_code 1 = .ok (.invokevirtual 38, 3) := by decide +kernel
theorem d1_4 : decode prog_15_method_4_code 4 = .ok (.tableswitch 36 0 2 #[28, 32, 32], 28) := by decide +kernel
theorem d1_32 : decode prog_15_method_4_code 32 = .ok (.getstatic 7, 3) := by decide +kernel
theorem d1_35 : decode prog_15_method_4_code 35 = .ok (.areturn, 1) := by decide +kernel
theorem rm1_0_pn : plainFor (⟨"com/example/meaning_search/meaningsearch/Relation", "inverse", "()Lcom/example/meaning_search/meaningsearch/Relation;"⟩ : MethodName) = true := plainFor_of_name (show plainName "com/example/meaning_search/meaningsearch/Relation" = true by first | (simp [plainName, overriddenIn]; done) | decide +kernel)
theorem rm1_0_ef (mI : MethodId) (a : Addr) : entryFrame mI #[(.ref a)] 1 = mkF mI 0 #[.val (.ref a)] [] := by first | (simp [entryFrame, mkF, argsToLocals, Value.category]; done) | rfl
set_option maxRecDepth 65536 in
set_option maxHeartbeats 40000000 in
theorem rm1_0 (l : Launch) (Z : State) (a0 : Array Value) (hw : ∀ d ∈ tables_1, d.before a0 Z = true) (ws : List Jvm.Cond) (h0 : Heap) (a : Addr) (E : Exa Z h0 a "com/example/meaning_search/meaningsearch/Relation") (F : Fld Z h0 a "java/lang/Enum" "ordinal" "I" (.int 0)) (aN : Addr) (S_aN : Sta Z h0 "com/example/meaning_search/meaningsearch/Relation" "NARROWER" "Lcom/example/meaning_search/meaningsearch/Relation;" (.ref aN)) :
    own_Met l Z (⟨"com/example/meaning_search/meaningsearch/Relation", "inverse", "()Lcom/example/meaning_search/meaningsearch/Relation;"⟩ : MethodName) prog_15_method_4_code 1 (some (.object "com/example/meaning_search/meaningsearch/Relation")) ws ({ frames := 1, cells := 0, slots := 0, locals := 12 } : Room) #[(.ref a)] h0 (own_QP h0 (some (.ref aN))) := by
  refine own_met rm1_0_pn ?_
  intro pP eE sS mI bB mT cC s₁ hx hby hml hown hnm hret hlk hZ X0 e0
  replace hown : sS.vm.findClass "com/example/meaning_search/meaningsearch/Relation" = some mI.cls := hown
  refine own_cast (rm1_0_ef mI a) ?_
  refine own_go (T' := s₁) (g' := (mkF mI 1 #[.val (.ref a)] [(.ref a)])) (fun t_ kt_ => XS.aloadN X0.here hx rfl (hb hby d1_0) rfl rfl kt_) ?_
  refine own_callU own_closed X0 hx hZ (y := (⟨"com/example/meaning_search/meaningsearch/Relation", "ordinal", "()I"⟩ : MethodName)) (z := (⟨"java/lang/Enum", "ordinal", "()I"⟩ : MethodName)) hown (hw _ (List.mem_of_getElem? (i := 11) rfl)) (hw _ (List.mem_of_getElem? (i := 12) rfl)) (hw _ (List.mem_of_getElem? (i := 13) rfl)) (hw _ (List.mem_of_getElem? (i := 15) rfl)) (hw _ (List.mem_of_getElem? (i := 14) rfl)) (by decide) (rm2 l Z a0 hw [] h0 a (0 : Int32) F) (hw _ (List.mem_of_getElem? (i := 17) rfl)) (hw _ (List.mem_of_getElem? (i := 16) rfl)) e0 E (pc := 1) (Ls := #[.val (.ref a)]) (argsL := []) (rest := []) (by rw [hml]; rfl) (lenOf pd_0 rfl) (W := 0) (by decide) (by decide) (by decide) (by decide) (by decide) (hb hby d1_1) rfl rfl ?_
  intro Tb1 Lb1 vb1 Xb1 hQb1
  obtain ⟨rfl, rfl, eb1⟩ := hQb1
  show own_Ends pP eE bB sS _ _ Tb1 (mkF mI 4 #[.val (.ref a)] [(.int (0 : Int32))])
  refine own_go (T' := Tb1) (g' := (mkF mI 32 #[.val (.ref a)] [])) (fun t_ kt_ => XS.tswIn Xb1.here hx rfl (pc0 := 4) (pc' := 32) (o := 28) rfl (hb hby d1_4) rfl (by decide) rfl (by decide) (by decide) kt_) ?_
  obtain ⟨Tb2, Xb2, eb2, stb2⟩ := getS2 Xb1 hx hZ hown (host := "") (Or.inl (hw _ (List.mem_of_getElem? (i := 20) rfl))) Via.refl eb1 S_aN (g := (mkF mI 32 #[.val (.ref a)] [])) rfl (hb hby d1_32)
  refine own_go (T' := Tb2) (g' := (mkF mI 35 #[.val (.ref a)] [(.ref aN)])) (fun t_ kt_ => stb2 _ kt_) ?_
  refine own_retA Xb2 hx hlk hret rfl rfl (hb hby d1_35) (by decide) (by decide) ?_
  exact ⟨rfl, rfl, eb2⟩
theorem d1_36 : decode prog_15_method_4_code 36 = .ok (.getstatic 3, 3) := by decide +kernel
theorem d1_39 : decode prog_15_method_4_code 39 = .ok (.areturn, 1) := by decide +kernel
theorem rm1_1_pn : plainFor (⟨"com/example/meaning_search/meaningsearch/Relation", "inverse", "()Lcom/example/meaning_search/meaningsearch/Relation;"⟩ : MethodName) = true := plainFor_of_name (show plainName "com/example/meaning_search/meaningsearch/Relation" = true by first | (simp [plainName, overriddenIn]; done) | decide +kernel)
theorem rm1_1_ef (mI : MethodId) (a : Addr) : entryFrame mI #[(.ref a)] 1 = mkF mI 0 #[.val (.ref a)] [] := by first | (simp [entryFrame, mkF, argsToLocals, Value.category]; done) | rfl
set_option maxRecDepth 65536 in
set_option maxHeartbeats 40000000 in
theorem rm1_1 (l : Launch) (Z : State) (a0 : Array Value) (hw : ∀ d ∈ tables_1, d.before a0 Z = true) (ws : List Jvm.Cond) (h0 : Heap) (a : Addr) (E : Exa Z h0 a "com/example/meaning_search/meaningsearch/Relation") (F : Fld Z h0 a "java/lang/Enum" "ordinal" "I" (.int 1)) (aB : Addr) (S_aB : Sta Z h0 "com/example/meaning_search/meaningsearch/Relation" "BROADER" "Lcom/example/meaning_search/meaningsearch/Relation;" (.ref aB)) :
    own_Met l Z (⟨"com/example/meaning_search/meaningsearch/Relation", "inverse", "()Lcom/example/meaning_search/meaningsearch/Relation;"⟩ : MethodName) prog_15_method_4_code 1 (some (.object "com/example/meaning_search/meaningsearch/Relation")) ws ({ frames := 1, cells := 0, slots := 0, locals := 12 } : Room) #[(.ref a)] h0 (own_QP h0 (some (.ref aB))) := by
  refine own_met rm1_1_pn ?_
  intro pP eE sS mI bB mT cC s₁ hx hby hml hown hnm hret hlk hZ X0 e0
  replace hown : sS.vm.findClass "com/example/meaning_search/meaningsearch/Relation" = some mI.cls := hown
  refine own_cast (rm1_1_ef mI a) ?_
  refine own_go (T' := s₁) (g' := (mkF mI 1 #[.val (.ref a)] [(.ref a)])) (fun t_ kt_ => XS.aloadN X0.here hx rfl (hb hby d1_0) rfl rfl kt_) ?_
  refine own_callU own_closed X0 hx hZ (y := (⟨"com/example/meaning_search/meaningsearch/Relation", "ordinal", "()I"⟩ : MethodName)) (z := (⟨"java/lang/Enum", "ordinal", "()I"⟩ : MethodName)) hown (hw _ (List.mem_of_getElem? (i := 11) rfl)) (hw _ (List.mem_of_getElem? (i := 12) rfl)) (hw _ (List.mem_of_getElem? (i := 13) rfl)) (hw _ (List.mem_of_getElem? (i := 15) rfl)) (hw _ (List.mem_of_getElem? (i := 14) rfl)) (by decide) (rm2 l Z a0 hw [] h0 a (1 : Int32) F) (hw _ (List.mem_of_getElem? (i := 17) rfl)) (hw _ (List.mem_of_getElem? (i := 16) rfl)) e0 E (pc := 1) (Ls := #[.val (.ref a)]) (argsL := []) (rest := []) (by rw [hml]; rfl) (lenOf pd_0 rfl) (W := 0) (by decide) (by decide) (by decide) (by decide) (by decide) (hb hby d1_1) rfl rfl ?_
  intro Tb1 Lb1 vb1 Xb1 hQb1
  obtain ⟨rfl, rfl, eb1⟩ := hQb1
  show own_Ends pP eE bB sS _ _ Tb1 (mkF mI 4 #[.val (.ref a)] [(.int (1 : Int32))])
  refine own_go (T' := Tb1) (g' := (mkF mI 36 #[.val (.ref a)] [])) (fun t_ kt_ => XS.tswIn Xb1.here hx rfl (pc0 := 4) (pc' := 36) (o := 32) rfl (hb hby d1_4) rfl (by decide) rfl (by decide) (by decide) kt_) ?_
  obtain ⟨Tb2, Xb2, eb2, stb2⟩ := getS2 Xb1 hx hZ hown (host := "") (Or.inl (hw _ (List.mem_of_getElem? (i := 23) rfl))) Via.refl eb1 S_aB (g := (mkF mI 36 #[.val (.ref a)] [])) rfl (hb hby d1_36)
  refine own_go (T' := Tb2) (g' := (mkF mI 39 #[.val (.ref a)] [(.ref aB)])) (fun t_ kt_ => stb2 _ kt_) ?_
  refine own_retA Xb2 hx hlk hret rfl rfl (hb hby d1_39) (by decide) (by decide) ?_
  exact ⟨rfl, rfl, eb2⟩
theorem rm1_2_pn : plainFor (⟨"com/example/meaning_search/meaningsearch/Relation", "inverse", "()Lcom/example/meaning_search/meaningsearch/Relation;"⟩ : MethodName) = true := plainFor_of_name (show plainName "com/example/meaning_search/meaningsearch/Relation" = true by first | (simp [plainName, overriddenIn]; done) | decide +kernel)
theorem rm1_2_ef (mI : MethodId) (a : Addr) : entryFrame mI #[(.ref a)] 1 = mkF mI 0 #[.val (.ref a)] [] := by first | (simp [entryFrame, mkF, argsToLocals, Value.category]; done) | rfl
set_option maxRecDepth 65536 in
set_option maxHeartbeats 40000000 in
theorem rm1_2 (l : Launch) (Z : State) (a0 : Array Value) (hw : ∀ d ∈ tables_1, d.before a0 Z = true) (ws : List Jvm.Cond) (h0 : Heap) (a : Addr) (E : Exa Z h0 a "com/example/meaning_search/meaningsearch/Relation") (F : Fld Z h0 a "java/lang/Enum" "ordinal" "I" (.int 2)) (aB : Addr) (S_aB : Sta Z h0 "com/example/meaning_search/meaningsearch/Relation" "BROADER" "Lcom/example/meaning_search/meaningsearch/Relation;" (.ref aB)) :
    own_Met l Z (⟨"com/example/meaning_search/meaningsearch/Relation", "inverse", "()Lcom/example/meaning_search/meaningsearch/Relation;"⟩ : MethodName) prog_15_method_4_code 1 (some (.object "com/example/meaning_search/meaningsearch/Relation")) ws ({ frames := 1, cells := 0, slots := 0, locals := 12 } : Room) #[(.ref a)] h0 (own_QP h0 (some (.ref aB))) := by
  refine own_met rm1_2_pn ?_
  intro pP eE sS mI bB mT cC s₁ hx hby hml hown hnm hret hlk hZ X0 e0
  replace hown : sS.vm.findClass "com/example/meaning_search/meaningsearch/Relation" = some mI.cls := hown
  refine own_cast (rm1_2_ef mI a) ?_
  refine own_go (T' := s₁) (g' := (mkF mI 1 #[.val (.ref a)] [(.ref a)])) (fun t_ kt_ => XS.aloadN X0.here hx rfl (hb hby d1_0) rfl rfl kt_) ?_
  refine own_callU own_closed X0 hx hZ (y := (⟨"com/example/meaning_search/meaningsearch/Relation", "ordinal", "()I"⟩ : MethodName)) (z := (⟨"java/lang/Enum", "ordinal", "()I"⟩ : MethodName)) hown (hw _ (List.mem_of_getElem? (i := 11) rfl)) (hw _ (List.mem_of_getElem? (i := 12) rfl)) (hw _ (List.mem_of_getElem? (i := 13) rfl)) (hw _ (List.mem_of_getElem? (i := 15) rfl)) (hw _ (List.mem_of_getElem? (i := 14) rfl)) (by decide) (rm2 l Z a0 hw [] h0 a (2 : Int32) F) (hw _ (List.mem_of_getElem? (i := 17) rfl)) (hw _ (List.mem_of_getElem? (i := 16) rfl)) e0 E (pc := 1) (Ls := #[.val (.ref a)]) (argsL := []) (rest := []) (by rw [hml]; rfl) (lenOf pd_0 rfl) (W := 0) (by decide) (by decide) (by decide) (by decide) (by decide) (hb hby d1_1) rfl rfl ?_
  intro Tb1 Lb1 vb1 Xb1 hQb1
  obtain ⟨rfl, rfl, eb1⟩ := hQb1
  show own_Ends pP eE bB sS _ _ Tb1 (mkF mI 4 #[.val (.ref a)] [(.int (2 : Int32))])
  refine own_go (T' := Tb1) (g' := (mkF mI 36 #[.val (.ref a)] [])) (fun t_ kt_ => XS.tswIn Xb1.here hx rfl (pc0 := 4) (pc' := 36) (o := 32) rfl (hb hby d1_4) rfl (by decide) rfl (by decide) (by decide) kt_) ?_
  obtain ⟨Tb2, Xb2, eb2, stb2⟩ := getS2 Xb1 hx hZ hown (host := "") (Or.inl (hw _ (List.mem_of_getElem? (i := 23) rfl))) Via.refl eb1 S_aB (g := (mkF mI 36 #[.val (.ref a)] [])) rfl (hb hby d1_36)
  refine own_go (T' := Tb2) (g' := (mkF mI 39 #[.val (.ref a)] [(.ref aB)])) (fun t_ kt_ => stb2 _ kt_) ?_
  refine own_retA Xb2 hx hlk hret rfl rfl (hb hby d1_39) (by decide) (by decide) ?_
  exact ⟨rfl, rfl, eb2⟩
theorem d1_40 : decode prog_15_method_4_code 40 = .ok (.aload_n 0, 1) := by decide +kernel
theorem d1_41 : decode prog_15_method_4_code 41 = .ok (.areturn, 1) := by decide +kernel
theorem rm1_3_pn : plainFor (⟨"com/example/meaning_search/meaningsearch/Relation", "inverse", "()Lcom/example/meaning_search/meaningsearch/Relation;"⟩ : MethodName) = true := plainFor_of_name (show plainName "com/example/meaning_search/meaningsearch/Relation" = true by first | (simp [plainName, overriddenIn]; done) | decide +kernel)
theorem rm1_3_ef (mI : MethodId) (a : Addr) : entryFrame mI #[(.ref a)] 1 = mkF mI 0 #[.val (.ref a)] [] := by first | (simp [entryFrame, mkF, argsToLocals, Value.category]; done) | rfl
set_option maxRecDepth 65536 in
set_option maxHeartbeats 40000000 in
theorem rm1_3 (l : Launch) (Z : State) (a0 : Array Value) (hw : ∀ d ∈ tables_1, d.before a0 Z = true) (ws : List Jvm.Cond) (h0 : Heap) (a : Addr) (E : Exa Z h0 a "com/example/meaning_search/meaningsearch/Relation") (F : Fld Z h0 a "java/lang/Enum" "ordinal" "I" (.int 3))  :
    own_Met l Z (⟨"com/example/meaning_search/meaningsearch/Relation", "inverse", "()Lcom/example/meaning_search/meaningsearch/Relation;"⟩ : MethodName) prog_15_method_4_code 1 (some (.object "com/example/meaning_search/meaningsearch/Relation")) ws ({ frames := 1, cells := 0, slots := 0, locals := 12 } : Room) #[(.ref a)] h0 (own_QP h0 (some (.ref a))) := by
  refine own_met rm1_3_pn ?_
  intro pP eE sS mI bB mT cC s₁ hx hby hml hown hnm hret hlk hZ X0 e0
  replace hown : sS.vm.findClass "com/example/meaning_search/meaningsearch/Relation" = some mI.cls := hown
  refine own_cast (rm1_3_ef mI a) ?_
  refine own_go (T' := s₁) (g' := (mkF mI 1 #[.val (.ref a)] [(.ref a)])) (fun t_ kt_ => XS.aloadN X0.here hx rfl (hb hby d1_0) rfl rfl kt_) ?_
  refine own_callU own_closed X0 hx hZ (y := (⟨"com/example/meaning_search/meaningsearch/Relation", "ordinal", "()I"⟩ : MethodName)) (z := (⟨"java/lang/Enum", "ordinal", "()I"⟩ : MethodName)) hown (hw _ (List.mem_of_getElem? (i := 11) rfl)) (hw _ (List.mem_of_getElem? (i := 12) rfl)) (hw _ (List.mem_of_getElem? (i := 13) rfl)) (hw _ (List.mem_of_getElem? (i := 15) rfl)) (hw _ (List.mem_of_getElem? (i := 14) rfl)) (by decide) (rm2 l Z a0 hw [] h0 a (3 : Int32) F) (hw _ (List.mem_of_getElem? (i := 17) rfl)) (hw _ (List.mem_of_getElem? (i := 16) rfl)) e0 E (pc := 1) (Ls := #[.val (.ref a)]) (argsL := []) (rest := []) (by rw [hml]; rfl) (lenOf pd_0 rfl) (W := 0) (by decide) (by decide) (by decide) (by decide) (by decide) (hb hby d1_1) rfl rfl ?_
  intro Tb1 Lb1 vb1 Xb1 hQb1
  obtain ⟨rfl, rfl, eb1⟩ := hQb1
  show own_Ends pP eE bB sS _ _ Tb1 (mkF mI 4 #[.val (.ref a)] [(.int (3 : Int32))])
  refine own_go (T' := Tb1) (g' := (mkF mI 40 #[.val (.ref a)] [])) (fun t_ kt_ => XS.tswOut Xb1.here hx rfl (pc0 := 4) (pc' := 40) rfl (hb hby d1_4) rfl (by decide) (by decide) (by decide) kt_) ?_
  refine own_go (T' := Tb1) (g' := (mkF mI 41 #[.val (.ref a)] [(.ref a)])) (fun t_ kt_ => XS.aloadN Xb1.here hx rfl (hb hby d1_40) rfl rfl kt_) ?_
  refine own_retA Xb1 hx hlk hret rfl rfl (hb hby d1_41) (by decide) (by decide) ?_
  exact ⟨rfl, rfl, eb1⟩
theorem rm1_4_pn : plainFor (⟨"com/example/meaning_search/meaningsearch/Relation", "inverse", "()Lcom/example/meaning_search/meaningsearch/Relation;"⟩ : MethodName) = true := plainFor_of_name (show plainName "com/example/meaning_search/meaningsearch/Relation" = true by first | (simp [plainName, overriddenIn]; done) | decide +kernel)
theorem rm1_4_ef (mI : MethodId) (a : Addr) : entryFrame mI #[(.ref a)] 1 = mkF mI 0 #[.val (.ref a)] [] := by first | (simp [entryFrame, mkF, argsToLocals, Value.category]; done) | rfl
set_option maxRecDepth 65536 in
set_option maxHeartbeats 40000000 in
theorem rm1_4 (l : Launch) (Z : State) (a0 : Array Value) (hw : ∀ d ∈ tables_1, d.before a0 Z = true) (ws : List Jvm.Cond) (h0 : Heap) (a : Addr) (E : Exa Z h0 a "com/example/meaning_search/meaningsearch/Relation") (F : Fld Z h0 a "java/lang/Enum" "ordinal" "I" (.int 4))  :
    own_Met l Z (⟨"com/example/meaning_search/meaningsearch/Relation", "inverse", "()Lcom/example/meaning_search/meaningsearch/Relation;"⟩ : MethodName) prog_15_method_4_code 1 (some (.object "com/example/meaning_search/meaningsearch/Relation")) ws ({ frames := 1, cells := 0, slots := 0, locals := 12 } : Room) #[(.ref a)] h0 (own_QP h0 (some (.ref a))) := by
  refine own_met rm1_4_pn ?_
  intro pP eE sS mI bB mT cC s₁ hx hby hml hown hnm hret hlk hZ X0 e0
  replace hown : sS.vm.findClass "com/example/meaning_search/meaningsearch/Relation" = some mI.cls := hown
  refine own_cast (rm1_4_ef mI a) ?_
  refine own_go (T' := s₁) (g' := (mkF mI 1 #[.val (.ref a)] [(.ref a)])) (fun t_ kt_ => XS.aloadN X0.here hx rfl (hb hby d1_0) rfl rfl kt_) ?_
  refine own_callU own_closed X0 hx hZ (y := (⟨"com/example/meaning_search/meaningsearch/Relation", "ordinal", "()I"⟩ : MethodName)) (z := (⟨"java/lang/Enum", "ordinal", "()I"⟩ : MethodName)) hown (hw _ (List.mem_of_getElem? (i := 11) rfl)) (hw _ (List.mem_of_getElem? (i := 12) rfl)) (hw _ (List.mem_of_getElem? (i := 13) rfl)) (hw _ (List.mem_of_getElem? (i := 15) rfl)) (hw _ (List.mem_of_getElem? (i := 14) rfl)) (by decide) (rm2 l Z a0 hw [] h0 a (4 : Int32) F) (hw _ (List.mem_of_getElem? (i := 17) rfl)) (hw _ (List.mem_of_getElem? (i := 16) rfl)) e0 E (pc := 1) (Ls := #[.val (.ref a)]) (argsL := []) (rest := []) (by rw [hml]; rfl) (lenOf pd_0 rfl) (W := 0) (by decide) (by decide) (by decide) (by decide) (by decide) (hb hby d1_1) rfl rfl ?_
  intro Tb1 Lb1 vb1 Xb1 hQb1
  obtain ⟨rfl, rfl, eb1⟩ := hQb1
  show own_Ends pP eE bB sS _ _ Tb1 (mkF mI 4 #[.val (.ref a)] [(.int (4 : Int32))])
  refine own_go (T' := Tb1) (g' := (mkF mI 40 #[.val (.ref a)] [])) (fun t_ kt_ => XS.tswOut Xb1.here hx rfl (pc0 := 4) (pc' := 40) rfl (hb hby d1_4) rfl (by decide) (by decide) (by decide) kt_) ?_
  refine own_go (T' := Tb1) (g' := (mkF mI 41 #[.val (.ref a)] [(.ref a)])) (fun t_ kt_ => XS.aloadN Xb1.here hx rfl (hb hby d1_40) rfl rfl kt_) ?_
  refine own_retA Xb1 hx hlk hret rfl rfl (hb hby d1_41) (by decide) (by decide) ?_
  exact ⟨rfl, rfl, eb1⟩
theorem rm0_pn : plainFor x = true := plainFor_of_name (show plainName "com/example/meaning_search/meaningsearch/RelationInversePinLaw" = true by first | (simp [plainName, overriddenIn]; done) | decide +kernel)
theorem rm0_ef (mI : MethodId) (k : Int32) : entryFrame mI #[(.int k)] maxLocals = mkF mI 0 #[.val (.int k), .unset, .unset, .unset, .unset] [] := by first | (simp [entryFrame, mkF, argsToLocals, Value.category, maxLocals]; done) | rfl
set_option maxRecDepth 65536 in
set_option maxHeartbeats 40000000 in
theorem rm0 (l : Launch) (Z : State) (a0 : Array Value) (hw : ∀ d ∈ tables_1, d.before a0 Z = true) (ws : List Jvm.Cond) (h0 : Heap) (k : Int32) (aB : Addr) (S_aB : Sta Z h0 "com/example/meaning_search/meaningsearch/Relation" "BROADER" "Lcom/example/meaning_search/meaningsearch/Relation;" (.ref aB)) (E_aB : Exa Z h0 aB "com/example/meaning_search/meaningsearch/Relation") (F_aB_ordinal : Fld Z h0 aB "java/lang/Enum" "ordinal" "I" (.int 0)) (aN : Addr) (S_aN : Sta Z h0 "com/example/meaning_search/meaningsearch/Relation" "NARROWER" "Lcom/example/meaning_search/meaningsearch/Relation;" (.ref aN)) (E_aN : Exa Z h0 aN "com/example/meaning_search/meaningsearch/Relation") (F_aN_ordinal : Fld Z h0 aN "java/lang/Enum" "ordinal" "I" (.int 1)) (aI : Addr) (S_aI : Sta Z h0 "com/example/meaning_search/meaningsearch/Relation" "INSTANCE" "Lcom/example/meaning_search/meaningsearch/Relation;" (.ref aI)) (E_aI : Exa Z h0 aI "com/example/meaning_search/meaningsearch/Relation") (F_aI_ordinal : Fld Z h0 aI "java/lang/Enum" "ordinal" "I" (.int 2)) (aS : Addr) (S_aS : Sta Z h0 "com/example/meaning_search/meaningsearch/Relation" "SIBLING" "Lcom/example/meaning_search/meaningsearch/Relation;" (.ref aS)) (E_aS : Exa Z h0 aS "com/example/meaning_search/meaningsearch/Relation") (F_aS_ordinal : Fld Z h0 aS "java/lang/Enum" "ordinal" "I" (.int 3)) (aR : Addr) (S_aR : Sta Z h0 "com/example/meaning_search/meaningsearch/Relation" "RELATED" "Lcom/example/meaning_search/meaningsearch/Relation;" (.ref aR)) (E_aR : Exa Z h0 aR "com/example/meaning_search/meaningsearch/Relation") (F_aR_ordinal : Fld Z h0 aR "java/lang/Enum" "ordinal" "I" (.int 4)) :
    own_Met l Z x code maxLocals ret ws room_1 #[(.int k)] h0 (own_QP h0 (some (.int 1))) := by
  refine own_met rm0_pn ?_
  intro pP eE sS mI bB mT cC s₁ hx hby hml hown hnm hret hlk hZ X0 e0
  replace hown : sS.vm.findClass "com/example/meaning_search/meaningsearch/RelationInversePinLaw" = some mI.cls := hown
  replace hml : cC.maxLocals = 5 := hml
  replace hret : mT.sig.returnType = (some .boolean) := hret
  refine own_cast (rm0_ef mI k) ?_
  refine own_go (T' := s₁) (g' := (mkF mI 1 #[.val (.int k), .unset, .unset, .unset, .unset] [(.int k)])) (fun t_ kt_ => XS.iloadN X0.here hx rfl (hb hby at_0) rfl kt_) ?_
  refine own_go (T' := s₁) (g' := (mkF mI 3 #[.val (.int k), .unset, .unset, .unset, .unset] [(.int (2147483647 : Int32)), (.int k)])) (fun t_ kt_ => ldcI X0 hx hown (mvT hZ (hw _ (List.mem_of_getElem? (i := 0) rfl))) rfl (hb hby at_1) kt_) ?_
  refine own_go (T' := s₁) (g' := (mkF mI 4 #[.val (.int k), .unset, .unset, .unset, .unset] [(.int (k &&& (2147483647 : Int32)))])) (fun t_ kt_ => XS.iand X0.here hx rfl (hb hby at_3) rfl kt_) ?_
  refine own_go (T' := s₁) (g' := (mkF mI 5 #[.val (.int k), .unset, .unset, .unset, .unset] [(.int (5 : Int32)), (.int (k &&& (2147483647 : Int32)))])) (fun t_ kt_ => XS.iconst X0.here hx rfl (hb hby at_4) kt_) ?_
  refine own_go (T' := s₁) (g' := (mkF mI 6 #[.val (.int k), .unset, .unset, .unset, .unset] [(.int ((k &&& (2147483647 : Int32)) % (5 : Int32)))])) (fun t_ kt_ => iremM X0 hx rfl (hb hby at_5) rfl (by decide) kt_) ?_
  refine own_go (T' := s₁) (g' := (mkF mI 7 #[.val (.int k), .val (.int ((k &&& (2147483647 : Int32)) % (5 : Int32))), .unset, .unset, .unset] [])) (fun t_ kt_ => XS.istoreN X0.here hx rfl (hb hby at_6) rfl (l' := #[.val (.int k), .val (.int ((k &&& (2147483647 : Int32)) % (5 : Int32))), .unset, .unset, .unset]) rfl kt_) ?_
  refine own_go (T' := s₁) (g' := (mkF mI 8 #[.val (.int k), .val (.int ((k &&& (2147483647 : Int32)) % (5 : Int32))), .unset, .unset, .unset] [(.int ((k &&& (2147483647 : Int32)) % (5 : Int32)))])) (fun t_ kt_ => XS.iloadN X0.here hx rfl (hb hby at_7) rfl kt_) ?_
  by_cases hc8_c1 : ((k &&& (2147483647 : Int32)) % (5 : Int32)) = (0 : Int32)
  · skip
    refine own_go (T' := s₁) (g' := (mkF mI 11 #[.val (.int k), .val (.int ((k &&& (2147483647 : Int32)) % (5 : Int32))), .unset, .unset, .unset] [])) (fun t_ kt_ => XS.ifNo X0.here hx rfl (hb hby at_8) rfl ((if0 _ _).trans (teq hc8_c1).2) kt_) ?_
    obtain ⟨Tc2, Xc2, ec2, stc2⟩ := getS2 X0 hx hZ hown (host := "") (Or.inl (hw _ (List.mem_of_getElem? (i := 1) rfl))) Via.refl e0 S_aB (g := (mkF mI 11 #[.val (.int k), .val (.int ((k &&& (2147483647 : Int32)) % (5 : Int32))), .unset, .unset, .unset] [])) rfl (hb hby at_11)
    refine own_go (T' := Tc2) (g' := (mkF mI 14 #[.val (.int k), .val (.int ((k &&& (2147483647 : Int32)) % (5 : Int32))), .unset, .unset, .unset] [(.ref aB)])) (fun t_ kt_ => stc2 _ kt_) ?_
    refine own_go (T' := Tc2) (g' := (mkF mI 15 #[.val (.int k), .val (.int ((k &&& (2147483647 : Int32)) % (5 : Int32))), .val (.ref aB), .unset, .unset] [])) (fun t_ kt_ => XS.astoreN Xc2.here hx rfl (hb hby at_14) rfl rfl (l' := #[.val (.int k), .val (.int ((k &&& (2147483647 : Int32)) % (5 : Int32))), .val (.ref aB), .unset, .unset]) rfl kt_) ?_
    obtain ⟨Tc3, Xc3, ec3, stc3⟩ := getS2 Xc2 hx hZ hown (host := "") (Or.inl (hw _ (List.mem_of_getElem? (i := 4) rfl))) Via.refl ec2 S_aN (g := (mkF mI 15 #[.val (.int k), .val (.int ((k &&& (2147483647 : Int32)) % (5 : Int32))), .val (.ref aB), .unset, .unset] [])) rfl (hb hby at_15)
    refine own_go (T' := Tc3) (g' := (mkF mI 18 #[.val (.int k), .val (.int ((k &&& (2147483647 : Int32)) % (5 : Int32))), .val (.ref aB), .unset, .unset] [(.ref aN)])) (fun t_ kt_ => stc3 _ kt_) ?_
    refine own_go (T' := Tc3) (g' := (mkF mI 19 #[.val (.int k), .val (.int ((k &&& (2147483647 : Int32)) % (5 : Int32))), .val (.ref aB), .val (.ref aN), .unset] [])) (fun t_ kt_ => XS.astoreN Xc3.here hx rfl (hb hby at_18) rfl rfl (l' := #[.val (.int k), .val (.int ((k &&& (2147483647 : Int32)) % (5 : Int32))), .val (.ref aB), .val (.ref aN), .unset]) rfl kt_) ?_
    refine own_go (T' := Tc3) (g' := (mkF mI 78 #[.val (.int k), .val (.int ((k &&& (2147483647 : Int32)) % (5 : Int32))), .val (.ref aB), .val (.ref aN), .unset] [])) (fun t_ kt_ => XS.goto Xc3.here hx rfl (pc0 := 19) (pc' := 78) rfl (hb hby at_19) (by decide) (by decide) kt_) ?_
    refine own_go (T' := Tc3) (g' := (mkF mI 79 #[.val (.int k), .val (.int ((k &&& (2147483647 : Int32)) % (5 : Int32))), .val (.ref aB), .val (.ref aN), .unset] [(.ref aB)])) (fun t_ kt_ => XS.aloadN Xc3.here hx rfl (hb hby at_78) rfl rfl kt_) ?_
    refine own_callV own_closed Xc3 hx hZ (y := (⟨"com/example/meaning_search/meaningsearch/Relation", "inverse", "()Lcom/example/meaning_search/meaningsearch/Relation;"⟩ : MethodName)) (z := (⟨"com/example/meaning_search/meaningsearch/Relation", "inverse", "()Lcom/example/meaning_search/meaningsearch/Relation;"⟩ : MethodName)) hown (hw _ (List.mem_of_getElem? (i := 6) rfl)) (hw _ (List.mem_of_getElem? (i := 7) rfl)) (hw _ (List.mem_of_getElem? (i := 9) rfl)) (hw _ (List.mem_of_getElem? (i := 8) rfl)) (hw _ (List.mem_of_getElem? (i := 9) rfl)) rfl (by decide) (rm1_0 l Z a0 hw [] h0 aB E_aB F_aB_ordinal aN S_aN) (hw _ (List.mem_of_getElem? (i := 10) rfl)) (hw _ (List.mem_of_getElem? (i := 2) rfl)) ec3 E_aB (pc := 79) (Ls := #[.val (.int k), .val (.int ((k &&& (2147483647 : Int32)) % (5 : Int32))), .val (.ref aB), .val (.ref aN), .unset]) (argsL := []) (rest := []) (by rw [hml]; rfl) (lenOf pd_1 rfl) (W := 0) (by decide) (by decide) (by decide) (by decide) (by decide) (hb hby at_79) rfl rfl ?_
    intro Tc4 Lc4 vc4 Xc4 hQc4
    obtain ⟨rfl, rfl, ec4⟩ := hQc4
    show own_Ends pP eE bB sS _ _ Tc4 (mkF mI 82 #[.val (.int k), .val (.int ((k &&& (2147483647 : Int32)) % (5 : Int32))), .val (.ref aB), .val (.ref aN), .unset] [(.ref aN)])
    refine own_go (T' := Tc4) (g' := (mkF mI 84 #[.val (.int k), .val (.int ((k &&& (2147483647 : Int32)) % (5 : Int32))), .val (.ref aB), .val (.ref aN), .val (.ref aN)] [])) (fun t_ kt_ => XS.astore Xc4.here hx rfl (hb hby at_82) rfl rfl (l' := #[.val (.int k), .val (.int ((k &&& (2147483647 : Int32)) % (5 : Int32))), .val (.ref aB), .val (.ref aN), .val (.ref aN)]) rfl kt_) ?_
    refine own_go (T' := Tc4) (g' := (mkF mI 86 #[.val (.int k), .val (.int ((k &&& (2147483647 : Int32)) % (5 : Int32))), .val (.ref aB), .val (.ref aN), .val (.ref aN)] [(.ref aN)])) (fun t_ kt_ => XS.aload Xc4.here hx rfl (hb hby at_84) rfl rfl kt_) ?_
    refine own_go (T' := Tc4) (g' := (mkF mI 87 #[.val (.int k), .val (.int ((k &&& (2147483647 : Int32)) % (5 : Int32))), .val (.ref aB), .val (.ref aN), .val (.ref aN)] [(.ref aN), (.ref aN)])) (fun t_ kt_ => XS.aloadN Xc4.here hx rfl (hb hby at_86) rfl rfl kt_) ?_
    refine own_go (T' := Tc4) (g' := (mkF mI 92 #[.val (.int k), .val (.int ((k &&& (2147483647 : Int32)) % (5 : Int32))), .val (.ref aB), .val (.ref aN), .val (.ref aN)] [])) (fun t_ kt_ => Jvm.RoadKit.acmp (g := (mkF mI 87 #[.val (.int k), .val (.int ((k &&& (2147483647 : Int32)) % (5 : Int32))), .val (.ref aB), .val (.ref aN), .val (.ref aN)] [(.ref aN), (.ref aN)])) Xc4 hx rfl rfl rfl (pc0 := 87) (pc' := 92) (same := true) rfl (hb hby at_87) rfl (decide_eq_true rfl) (by decide) (by decide) kt_) ?_
    refine own_go (T' := Tc4) (g' := (mkF mI 93 #[.val (.int k), .val (.int ((k &&& (2147483647 : Int32)) % (5 : Int32))), .val (.ref aB), .val (.ref aN), .val (.ref aN)] [(.ref aB)])) (fun t_ kt_ => XS.aloadN Xc4.here hx rfl (hb hby at_92) rfl rfl kt_) ?_
    obtain ⟨Tc5, Xc5, ec5, stc5⟩ := getS2 Xc4 hx hZ hown (host := "") (Or.inl (hw _ (List.mem_of_getElem? (i := 21) rfl))) Via.refl ec4 S_aI (g := (mkF mI 93 #[.val (.int k), .val (.int ((k &&& (2147483647 : Int32)) % (5 : Int32))), .val (.ref aB), .val (.ref aN), .val (.ref aN)] [(.ref aB)])) rfl (hb hby at_93)
    refine own_go (T' := Tc5) (g' := (mkF mI 96 #[.val (.int k), .val (.int ((k &&& (2147483647 : Int32)) % (5 : Int32))), .val (.ref aB), .val (.ref aN), .val (.ref aN)] [(.ref aI), (.ref aB)])) (fun t_ kt_ => stc5 _ kt_) ?_
    refine own_go (T' := Tc5) (g' := (mkF mI 99 #[.val (.int k), .val (.int ((k &&& (2147483647 : Int32)) % (5 : Int32))), .val (.ref aB), .val (.ref aN), .val (.ref aN)] [])) (fun t_ kt_ => Jvm.RoadKit.acmp (g := (mkF mI 96 #[.val (.int k), .val (.int ((k &&& (2147483647 : Int32)) % (5 : Int32))), .val (.ref aB), .val (.ref aN), .val (.ref aN)] [(.ref aI), (.ref aB)])) Xc5 hx rfl rfl rfl (pc0 := 96) (pc' := 99) (same := false) rfl (hb hby at_96) rfl (decide_eq_false (fun q => (Fld.ne F_aB_ordinal F_aI_ordinal (fun q => absurd (Value.int.inj q) (by decide))) (Value.ref.inj q))) (by decide) (by decide) kt_) ?_
    refine own_go (T' := Tc5) (g' := (mkF mI 101 #[.val (.int k), .val (.int ((k &&& (2147483647 : Int32)) % (5 : Int32))), .val (.ref aB), .val (.ref aN), .val (.ref aN)] [(.ref aN)])) (fun t_ kt_ => XS.aload Xc5.here hx rfl (hb hby at_99) rfl rfl kt_) ?_
    refine own_callV own_closed Xc5 hx hZ (y := (⟨"com/example/meaning_search/meaningsearch/Relation", "inverse", "()Lcom/example/meaning_search/meaningsearch/Relation;"⟩ : MethodName)) (z := (⟨"com/example/meaning_search/meaningsearch/Relation", "inverse", "()Lcom/example/meaning_search/meaningsearch/Relation;"⟩ : MethodName)) hown (hw _ (List.mem_of_getElem? (i := 6) rfl)) (hw _ (List.mem_of_getElem? (i := 7) rfl)) (hw _ (List.mem_of_getElem? (i := 9) rfl)) (hw _ (List.mem_of_getElem? (i := 8) rfl)) (hw _ (List.mem_of_getElem? (i := 9) rfl)) rfl (by decide) (rm1_1 l Z a0 hw [] h0 aN E_aN F_aN_ordinal aB S_aB) (hw _ (List.mem_of_getElem? (i := 10) rfl)) (hw _ (List.mem_of_getElem? (i := 2) rfl)) ec5 E_aN (pc := 101) (Ls := #[.val (.int k), .val (.int ((k &&& (2147483647 : Int32)) % (5 : Int32))), .val (.ref aB), .val (.ref aN), .val (.ref aN)]) (argsL := []) (rest := []) (by rw [hml]; rfl) (lenOf pd_1 rfl) (W := 0) (by decide) (by decide) (by decide) (by decide) (by decide) (hb hby at_101) rfl rfl ?_
    intro Tc6 Lc6 vc6 Xc6 hQc6
    obtain ⟨rfl, rfl, ec6⟩ := hQc6
    show own_Ends pP eE bB sS _ _ Tc6 (mkF mI 104 #[.val (.int k), .val (.int ((k &&& (2147483647 : Int32)) % (5 : Int32))), .val (.ref aB), .val (.ref aN), .val (.ref aN)] [(.ref aB)])
    refine own_go (T' := Tc6) (g' := (mkF mI 105 #[.val (.int k), .val (.int ((k &&& (2147483647 : Int32)) % (5 : Int32))), .val (.ref aB), .val (.ref aN), .val (.ref aN)] [(.ref aB), (.ref aB)])) (fun t_ kt_ => XS.aloadN Xc6.here hx rfl (hb hby at_104) rfl rfl kt_) ?_
    refine own_go (T' := Tc6) (g' := (mkF mI 108 #[.val (.int k), .val (.int ((k &&& (2147483647 : Int32)) % (5 : Int32))), .val (.ref aB), .val (.ref aN), .val (.ref aN)] [])) (fun t_ kt_ => Jvm.RoadKit.acmp (g := (mkF mI 105 #[.val (.int k), .val (.int ((k &&& (2147483647 : Int32)) % (5 : Int32))), .val (.ref aB), .val (.ref aN), .val (.ref aN)] [(.ref aB), (.ref aB)])) Xc6 hx rfl rfl rfl (pc0 := 105) (pc' := 108) (same := true) rfl (hb hby at_105) rfl (decide_eq_true rfl) (by decide) (by decide) kt_) ?_
    refine own_go (T' := Tc6) (g' := (mkF mI 109 #[.val (.int k), .val (.int ((k &&& (2147483647 : Int32)) % (5 : Int32))), .val (.ref aB), .val (.ref aN), .val (.ref aN)] [(.int (1 : Int32))])) (fun t_ kt_ => XS.iconst Xc6.here hx rfl (hb hby at_108) kt_) ?_
    refine own_go (T' := Tc6) (g' := (mkF mI 113 #[.val (.int k), .val (.int ((k &&& (2147483647 : Int32)) % (5 : Int32))), .val (.ref aB), .val (.ref aN), .val (.ref aN)] [(.int (1 : Int32))])) (fun t_ kt_ => XS.goto Xc6.here hx rfl (pc0 := 109) (pc' := 113) rfl (hb hby at_109) (by decide) (by decide) kt_) ?_
    refine own_retN Xc6 hx hlk (t := .boolean) hret (by simp) (hb hby at_113) rfl (by decide) (by decide) ?_
    exact ⟨rfl, rfl, ec6⟩
  · skip
    refine own_go (T' := s₁) (g' := (mkF mI 22 #[.val (.int k), .val (.int ((k &&& (2147483647 : Int32)) % (5 : Int32))), .unset, .unset, .unset] [])) (fun t_ kt_ => XS.ifYes X0.here hx rfl (pc0 := 8) (pc' := 22) rfl (hb hby at_8) rfl ((if0 _ _).trans (feq hc8_c1).2) (by decide) (by decide) kt_) ?_
    refine own_go (T' := s₁) (g' := (mkF mI 23 #[.val (.int k), .val (.int ((k &&& (2147483647 : Int32)) % (5 : Int32))), .unset, .unset, .unset] [(.int ((k &&& (2147483647 : Int32)) % (5 : Int32)))])) (fun t_ kt_ => XS.iloadN X0.here hx rfl (hb hby at_22) rfl kt_) ?_
    refine own_go (T' := s₁) (g' := (mkF mI 24 #[.val (.int k), .val (.int ((k &&& (2147483647 : Int32)) % (5 : Int32))), .unset, .unset, .unset] [(.int (1 : Int32)), (.int ((k &&& (2147483647 : Int32)) % (5 : Int32)))])) (fun t_ kt_ => XS.iconst X0.here hx rfl (hb hby at_23) kt_) ?_
    by_cases hc24_c7 : ((k &&& (2147483647 : Int32)) % (5 : Int32)) = (1 : Int32)
    · skip
      refine own_go (T' := s₁) (g' := (mkF mI 27 #[.val (.int k), .val (.int ((k &&& (2147483647 : Int32)) % (5 : Int32))), .unset, .unset, .unset] [])) (fun t_ kt_ => XS.icmpNo X0.here hx rfl (hb hby at_24) rfl (teq hc24_c7).2 kt_) ?_
      obtain ⟨Tc8, Xc8, ec8, stc8⟩ := getS2 X0 hx hZ hown (host := "") (Or.inl (hw _ (List.mem_of_getElem? (i := 4) rfl))) Via.refl e0 S_aN (g := (mkF mI 27 #[.val (.int k), .val (.int ((k &&& (2147483647 : Int32)) % (5 : Int32))), .unset, .unset, .unset] [])) rfl (hb hby at_27)
      refine own_go (T' := Tc8) (g' := (mkF mI 30 #[.val (.int k), .val (.int ((k &&& (2147483647 : Int32)) % (5 : Int32))), .unset, .unset, .unset] [(.ref aN)])) (fun t_ kt_ => stc8 _ kt_) ?_
      refine own_go (T' := Tc8) (g' := (mkF mI 31 #[.val (.int k), .val (.int ((k &&& (2147483647 : Int32)) % (5 : Int32))), .val (.ref aN), .unset, .unset] [])) (fun t_ kt_ => XS.astoreN Xc8.here hx rfl (hb hby at_30) rfl rfl (l' := #[.val (.int k), .val (.int ((k &&& (2147483647 : Int32)) % (5 : Int32))), .val (.ref aN), .unset, .unset]) rfl kt_) ?_
      obtain ⟨Tc9, Xc9, ec9, stc9⟩ := getS2 Xc8 hx hZ hown (host := "") (Or.inl (hw _ (List.mem_of_getElem? (i := 1) rfl))) Via.refl ec8 S_aB (g := (mkF mI 31 #[.val (.int k), .val (.int ((k &&& (2147483647 : Int32)) % (5 : Int32))), .val (.ref aN), .unset, .unset] [])) rfl (hb hby at_31)
      refine own_go (T' := Tc9) (g' := (mkF mI 34 #[.val (.int k), .val (.int ((k &&& (2147483647 : Int32)) % (5 : Int32))), .val (.ref aN), .unset, .unset] [(.ref aB)])) (fun t_ kt_ => stc9 _ kt_) ?_
      refine own_go (T' := Tc9) (g' := (mkF mI 35 #[.val (.int k), .val (.int ((k &&& (2147483647 : Int32)) % (5 : Int32))), .val (.ref aN), .val (.ref aB), .unset] [])) (fun t_ kt_ => XS.astoreN Xc9.here hx rfl (hb hby at_34) rfl rfl (l' := #[.val (.int k), .val (.int ((k &&& (2147483647 : Int32)) % (5 : Int32))), .val (.ref aN), .val (.ref aB), .unset]) rfl kt_) ?_
      refine own_go (T' := Tc9) (g' := (mkF mI 78 #[.val (.int k), .val (.int ((k &&& (2147483647 : Int32)) % (5 : Int32))), .val (.ref aN), .val (.ref aB), .unset] [])) (fun t_ kt_ => XS.goto Xc9.here hx rfl (pc0 := 35) (pc' := 78) rfl (hb hby at_35) (by decide) (by decide) kt_) ?_
      refine own_go (T' := Tc9) (g' := (mkF mI 79 #[.val (.int k), .val (.int ((k &&& (2147483647 : Int32)) % (5 : Int32))), .val (.ref aN), .val (.ref aB), .unset] [(.ref aN)])) (fun t_ kt_ => XS.aloadN Xc9.here hx rfl (hb hby at_78) rfl rfl kt_) ?_
      refine own_callV own_closed Xc9 hx hZ (y := (⟨"com/example/meaning_search/meaningsearch/Relation", "inverse", "()Lcom/example/meaning_search/meaningsearch/Relation;"⟩ : MethodName)) (z := (⟨"com/example/meaning_search/meaningsearch/Relation", "inverse", "()Lcom/example/meaning_search/meaningsearch/Relation;"⟩ : MethodName)) hown (hw _ (List.mem_of_getElem? (i := 6) rfl)) (hw _ (List.mem_of_getElem? (i := 7) rfl)) (hw _ (List.mem_of_getElem? (i := 9) rfl)) (hw _ (List.mem_of_getElem? (i := 8) rfl)) (hw _ (List.mem_of_getElem? (i := 9) rfl)) rfl (by decide) (rm1_1 l Z a0 hw [] h0 aN E_aN F_aN_ordinal aB S_aB) (hw _ (List.mem_of_getElem? (i := 10) rfl)) (hw _ (List.mem_of_getElem? (i := 2) rfl)) ec9 E_aN (pc := 79) (Ls := #[.val (.int k), .val (.int ((k &&& (2147483647 : Int32)) % (5 : Int32))), .val (.ref aN), .val (.ref aB), .unset]) (argsL := []) (rest := []) (by rw [hml]; rfl) (lenOf pd_1 rfl) (W := 0) (by decide) (by decide) (by decide) (by decide) (by decide) (hb hby at_79) rfl rfl ?_
      intro Tc10 Lc10 vc10 Xc10 hQc10
      obtain ⟨rfl, rfl, ec10⟩ := hQc10
      show own_Ends pP eE bB sS _ _ Tc10 (mkF mI 82 #[.val (.int k), .val (.int ((k &&& (2147483647 : Int32)) % (5 : Int32))), .val (.ref aN), .val (.ref aB), .unset] [(.ref aB)])
      refine own_go (T' := Tc10) (g' := (mkF mI 84 #[.val (.int k), .val (.int ((k &&& (2147483647 : Int32)) % (5 : Int32))), .val (.ref aN), .val (.ref aB), .val (.ref aB)] [])) (fun t_ kt_ => XS.astore Xc10.here hx rfl (hb hby at_82) rfl rfl (l' := #[.val (.int k), .val (.int ((k &&& (2147483647 : Int32)) % (5 : Int32))), .val (.ref aN), .val (.ref aB), .val (.ref aB)]) rfl kt_) ?_
      refine own_go (T' := Tc10) (g' := (mkF mI 86 #[.val (.int k), .val (.int ((k &&& (2147483647 : Int32)) % (5 : Int32))), .val (.ref aN), .val (.ref aB), .val (.ref aB)] [(.ref aB)])) (fun t_ kt_ => XS.aload Xc10.here hx rfl (hb hby at_84) rfl rfl kt_) ?_
      refine own_go (T' := Tc10) (g' := (mkF mI 87 #[.val (.int k), .val (.int ((k &&& (2147483647 : Int32)) % (5 : Int32))), .val (.ref aN), .val (.ref aB), .val (.ref aB)] [(.ref aB), (.ref aB)])) (fun t_ kt_ => XS.aloadN Xc10.here hx rfl (hb hby at_86) rfl rfl kt_) ?_
      refine own_go (T' := Tc10) (g' := (mkF mI 92 #[.val (.int k), .val (.int ((k &&& (2147483647 : Int32)) % (5 : Int32))), .val (.ref aN), .val (.ref aB), .val (.ref aB)] [])) (fun t_ kt_ => Jvm.RoadKit.acmp (g := (mkF mI 87 #[.val (.int k), .val (.int ((k &&& (2147483647 : Int32)) % (5 : Int32))), .val (.ref aN), .val (.ref aB), .val (.ref aB)] [(.ref aB), (.ref aB)])) Xc10 hx rfl rfl rfl (pc0 := 87) (pc' := 92) (same := true) rfl (hb hby at_87) rfl (decide_eq_true rfl) (by decide) (by decide) kt_) ?_
      refine own_go (T' := Tc10) (g' := (mkF mI 93 #[.val (.int k), .val (.int ((k &&& (2147483647 : Int32)) % (5 : Int32))), .val (.ref aN), .val (.ref aB), .val (.ref aB)] [(.ref aN)])) (fun t_ kt_ => XS.aloadN Xc10.here hx rfl (hb hby at_92) rfl rfl kt_) ?_
      obtain ⟨Tc11, Xc11, ec11, stc11⟩ := getS2 Xc10 hx hZ hown (host := "") (Or.inl (hw _ (List.mem_of_getElem? (i := 21) rfl))) Via.refl ec10 S_aI (g := (mkF mI 93 #[.val (.int k), .val (.int ((k &&& (2147483647 : Int32)) % (5 : Int32))), .val (.ref aN), .val (.ref aB), .val (.ref aB)] [(.ref aN)])) rfl (hb hby at_93)
      refine own_go (T' := Tc11) (g' := (mkF mI 96 #[.val (.int k), .val (.int ((k &&& (2147483647 : Int32)) % (5 : Int32))), .val (.ref aN), .val (.ref aB), .val (.ref aB)] [(.ref aI), (.ref aN)])) (fun t_ kt_ => stc11 _ kt_) ?_
      refine own_go (T' := Tc11) (g' := (mkF mI 99 #[.val (.int k), .val (.int ((k &&& (2147483647 : Int32)) % (5 : Int32))), .val (.ref aN), .val (.ref aB), .val (.ref aB)] [])) (fun t_ kt_ => Jvm.RoadKit.acmp (g := (mkF mI 96 #[.val (.int k), .val (.int ((k &&& (2147483647 : Int32)) % (5 : Int32))), .val (.ref aN), .val (.ref aB), .val (.ref aB)] [(.ref aI), (.ref aN)])) Xc11 hx rfl rfl rfl (pc0 := 96) (pc' := 99) (same := false) rfl (hb hby at_96) rfl (decide_eq_false (fun q => (Fld.ne F_aN_ordinal F_aI_ordinal (fun q => absurd (Value.int.inj q) (by decide))) (Value.ref.inj q))) (by decide) (by decide) kt_) ?_
      refine own_go (T' := Tc11) (g' := (mkF mI 101 #[.val (.int k), .val (.int ((k &&& (2147483647 : Int32)) % (5 : Int32))), .val (.ref aN), .val (.ref aB), .val (.ref aB)] [(.ref aB)])) (fun t_ kt_ => XS.aload Xc11.here hx rfl (hb hby at_99) rfl rfl kt_) ?_
      refine own_callV own_closed Xc11 hx hZ (y := (⟨"com/example/meaning_search/meaningsearch/Relation", "inverse", "()Lcom/example/meaning_search/meaningsearch/Relation;"⟩ : MethodName)) (z := (⟨"com/example/meaning_search/meaningsearch/Relation", "inverse", "()Lcom/example/meaning_search/meaningsearch/Relation;"⟩ : MethodName)) hown (hw _ (List.mem_of_getElem? (i := 6) rfl)) (hw _ (List.mem_of_getElem? (i := 7) rfl)) (hw _ (List.mem_of_getElem? (i := 9) rfl)) (hw _ (List.mem_of_getElem? (i := 8) rfl)) (hw _ (List.mem_of_getElem? (i := 9) rfl)) rfl (by decide) (rm1_0 l Z a0 hw [] h0 aB E_aB F_aB_ordinal aN S_aN) (hw _ (List.mem_of_getElem? (i := 10) rfl)) (hw _ (List.mem_of_getElem? (i := 2) rfl)) ec11 E_aB (pc := 101) (Ls := #[.val (.int k), .val (.int ((k &&& (2147483647 : Int32)) % (5 : Int32))), .val (.ref aN), .val (.ref aB), .val (.ref aB)]) (argsL := []) (rest := []) (by rw [hml]; rfl) (lenOf pd_1 rfl) (W := 0) (by decide) (by decide) (by decide) (by decide) (by decide) (hb hby at_101) rfl rfl ?_
      intro Tc12 Lc12 vc12 Xc12 hQc12
      obtain ⟨rfl, rfl, ec12⟩ := hQc12
      show own_Ends pP eE bB sS _ _ Tc12 (mkF mI 104 #[.val (.int k), .val (.int ((k &&& (2147483647 : Int32)) % (5 : Int32))), .val (.ref aN), .val (.ref aB), .val (.ref aB)] [(.ref aN)])
      refine own_go (T' := Tc12) (g' := (mkF mI 105 #[.val (.int k), .val (.int ((k &&& (2147483647 : Int32)) % (5 : Int32))), .val (.ref aN), .val (.ref aB), .val (.ref aB)] [(.ref aN), (.ref aN)])) (fun t_ kt_ => XS.aloadN Xc12.here hx rfl (hb hby at_104) rfl rfl kt_) ?_
      refine own_go (T' := Tc12) (g' := (mkF mI 108 #[.val (.int k), .val (.int ((k &&& (2147483647 : Int32)) % (5 : Int32))), .val (.ref aN), .val (.ref aB), .val (.ref aB)] [])) (fun t_ kt_ => Jvm.RoadKit.acmp (g := (mkF mI 105 #[.val (.int k), .val (.int ((k &&& (2147483647 : Int32)) % (5 : Int32))), .val (.ref aN), .val (.ref aB), .val (.ref aB)] [(.ref aN), (.ref aN)])) Xc12 hx rfl rfl rfl (pc0 := 105) (pc' := 108) (same := true) rfl (hb hby at_105) rfl (decide_eq_true rfl) (by decide) (by decide) kt_) ?_
      refine own_go (T' := Tc12) (g' := (mkF mI 109 #[.val (.int k), .val (.int ((k &&& (2147483647 : Int32)) % (5 : Int32))), .val (.ref aN), .val (.ref aB), .val (.ref aB)] [(.int (1 : Int32))])) (fun t_ kt_ => XS.iconst Xc12.here hx rfl (hb hby at_108) kt_) ?_
      refine own_go (T' := Tc12) (g' := (mkF mI 113 #[.val (.int k), .val (.int ((k &&& (2147483647 : Int32)) % (5 : Int32))), .val (.ref aN), .val (.ref aB), .val (.ref aB)] [(.int (1 : Int32))])) (fun t_ kt_ => XS.goto Xc12.here hx rfl (pc0 := 109) (pc' := 113) rfl (hb hby at_109) (by decide) (by decide) kt_) ?_
      refine own_retN Xc12 hx hlk (t := .boolean) hret (by simp) (hb hby at_113) rfl (by decide) (by decide) ?_
      exact ⟨rfl, rfl, ec12⟩
    · skip
      refine own_go (T' := s₁) (g' := (mkF mI 38 #[.val (.int k), .val (.int ((k &&& (2147483647 : Int32)) % (5 : Int32))), .unset, .unset, .unset] [])) (fun t_ kt_ => XS.icmpYes X0.here hx rfl (pc0 := 24) (pc' := 38) rfl (hb hby at_24) rfl (feq hc24_c7).2 (by decide) (by decide) kt_) ?_
      refine own_go (T' := s₁) (g' := (mkF mI 39 #[.val (.int k), .val (.int ((k &&& (2147483647 : Int32)) % (5 : Int32))), .unset, .unset, .unset] [(.int ((k &&& (2147483647 : Int32)) % (5 : Int32)))])) (fun t_ kt_ => XS.iloadN X0.here hx rfl (hb hby at_38) rfl kt_) ?_
      refine own_go (T' := s₁) (g' := (mkF mI 40 #[.val (.int k), .val (.int ((k &&& (2147483647 : Int32)) % (5 : Int32))), .unset, .unset, .unset] [(.int (2 : Int32)), (.int ((k &&& (2147483647 : Int32)) % (5 : Int32)))])) (fun t_ kt_ => XS.iconst X0.here hx rfl (hb hby at_39) kt_) ?_
      by_cases hc40_c13 : ((k &&& (2147483647 : Int32)) % (5 : Int32)) = (2 : Int32)
      · skip
        refine own_go (T' := s₁) (g' := (mkF mI 43 #[.val (.int k), .val (.int ((k &&& (2147483647 : Int32)) % (5 : Int32))), .unset, .unset, .unset] [])) (fun t_ kt_ => XS.icmpNo X0.here hx rfl (hb hby at_40) rfl (teq hc40_c13).2 kt_) ?_
        obtain ⟨Tc14, Xc14, ec14, stc14⟩ := getS2 X0 hx hZ hown (host := "") (Or.inl (hw _ (List.mem_of_getElem? (i := 21) rfl))) Via.refl e0 S_aI (g := (mkF mI 43 #[.val (.int k), .val (.int ((k &&& (2147483647 : Int32)) % (5 : Int32))), .unset, .unset, .unset] [])) rfl (hb hby at_43)
        refine own_go (T' := Tc14) (g' := (mkF mI 46 #[.val (.int k), .val (.int ((k &&& (2147483647 : Int32)) % (5 : Int32))), .unset, .unset, .unset] [(.ref aI)])) (fun t_ kt_ => stc14 _ kt_) ?_
        refine own_go (T' := Tc14) (g' := (mkF mI 47 #[.val (.int k), .val (.int ((k &&& (2147483647 : Int32)) % (5 : Int32))), .val (.ref aI), .unset, .unset] [])) (fun t_ kt_ => XS.astoreN Xc14.here hx rfl (hb hby at_46) rfl rfl (l' := #[.val (.int k), .val (.int ((k &&& (2147483647 : Int32)) % (5 : Int32))), .val (.ref aI), .unset, .unset]) rfl kt_) ?_
        obtain ⟨Tc15, Xc15, ec15, stc15⟩ := getS2 Xc14 hx hZ hown (host := "") (Or.inl (hw _ (List.mem_of_getElem? (i := 1) rfl))) Via.refl ec14 S_aB (g := (mkF mI 47 #[.val (.int k), .val (.int ((k &&& (2147483647 : Int32)) % (5 : Int32))), .val (.ref aI), .unset, .unset] [])) rfl (hb hby at_47)
        refine own_go (T' := Tc15) (g' := (mkF mI 50 #[.val (.int k), .val (.int ((k &&& (2147483647 : Int32)) % (5 : Int32))), .val (.ref aI), .unset, .unset] [(.ref aB)])) (fun t_ kt_ => stc15 _ kt_) ?_
        refine own_go (T' := Tc15) (g' := (mkF mI 51 #[.val (.int k), .val (.int ((k &&& (2147483647 : Int32)) % (5 : Int32))), .val (.ref aI), .val (.ref aB), .unset] [])) (fun t_ kt_ => XS.astoreN Xc15.here hx rfl (hb hby at_50) rfl rfl (l' := #[.val (.int k), .val (.int ((k &&& (2147483647 : Int32)) % (5 : Int32))), .val (.ref aI), .val (.ref aB), .unset]) rfl kt_) ?_
        refine own_go (T' := Tc15) (g' := (mkF mI 78 #[.val (.int k), .val (.int ((k &&& (2147483647 : Int32)) % (5 : Int32))), .val (.ref aI), .val (.ref aB), .unset] [])) (fun t_ kt_ => XS.goto Xc15.here hx rfl (pc0 := 51) (pc' := 78) rfl (hb hby at_51) (by decide) (by decide) kt_) ?_
        refine own_go (T' := Tc15) (g' := (mkF mI 79 #[.val (.int k), .val (.int ((k &&& (2147483647 : Int32)) % (5 : Int32))), .val (.ref aI), .val (.ref aB), .unset] [(.ref aI)])) (fun t_ kt_ => XS.aloadN Xc15.here hx rfl (hb hby at_78) rfl rfl kt_) ?_
        refine own_callV own_closed Xc15 hx hZ (y := (⟨"com/example/meaning_search/meaningsearch/Relation", "inverse", "()Lcom/example/meaning_search/meaningsearch/Relation;"⟩ : MethodName)) (z := (⟨"com/example/meaning_search/meaningsearch/Relation", "inverse", "()Lcom/example/meaning_search/meaningsearch/Relation;"⟩ : MethodName)) hown (hw _ (List.mem_of_getElem? (i := 6) rfl)) (hw _ (List.mem_of_getElem? (i := 7) rfl)) (hw _ (List.mem_of_getElem? (i := 9) rfl)) (hw _ (List.mem_of_getElem? (i := 8) rfl)) (hw _ (List.mem_of_getElem? (i := 9) rfl)) rfl (by decide) (rm1_2 l Z a0 hw [] h0 aI E_aI F_aI_ordinal aB S_aB) (hw _ (List.mem_of_getElem? (i := 10) rfl)) (hw _ (List.mem_of_getElem? (i := 2) rfl)) ec15 E_aI (pc := 79) (Ls := #[.val (.int k), .val (.int ((k &&& (2147483647 : Int32)) % (5 : Int32))), .val (.ref aI), .val (.ref aB), .unset]) (argsL := []) (rest := []) (by rw [hml]; rfl) (lenOf pd_1 rfl) (W := 0) (by decide) (by decide) (by decide) (by decide) (by decide) (hb hby at_79) rfl rfl ?_
        intro Tc16 Lc16 vc16 Xc16 hQc16
        obtain ⟨rfl, rfl, ec16⟩ := hQc16
        show own_Ends pP eE bB sS _ _ Tc16 (mkF mI 82 #[.val (.int k), .val (.int ((k &&& (2147483647 : Int32)) % (5 : Int32))), .val (.ref aI), .val (.ref aB), .unset] [(.ref aB)])
        refine own_go (T' := Tc16) (g' := (mkF mI 84 #[.val (.int k), .val (.int ((k &&& (2147483647 : Int32)) % (5 : Int32))), .val (.ref aI), .val (.ref aB), .val (.ref aB)] [])) (fun t_ kt_ => XS.astore Xc16.here hx rfl (hb hby at_82) rfl rfl (l' := #[.val (.int k), .val (.int ((k &&& (2147483647 : Int32)) % (5 : Int32))), .val (.ref aI), .val (.ref aB), .val (.ref aB)]) rfl kt_) ?_
        refine own_go (T' := Tc16) (g' := (mkF mI 86 #[.val (.int k), .val (.int ((k &&& (2147483647 : Int32)) % (5 : Int32))), .val (.ref aI), .val (.ref aB), .val (.ref aB)] [(.ref aB)])) (fun t_ kt_ => XS.aload Xc16.here hx rfl (hb hby at_84) rfl rfl kt_) ?_
        refine own_go (T' := Tc16) (g' := (mkF mI 87 #[.val (.int k), .val (.int ((k &&& (2147483647 : Int32)) % (5 : Int32))), .val (.ref aI), .val (.ref aB), .val (.ref aB)] [(.ref aB), (.ref aB)])) (fun t_ kt_ => XS.aloadN Xc16.here hx rfl (hb hby at_86) rfl rfl kt_) ?_
        refine own_go (T' := Tc16) (g' := (mkF mI 92 #[.val (.int k), .val (.int ((k &&& (2147483647 : Int32)) % (5 : Int32))), .val (.ref aI), .val (.ref aB), .val (.ref aB)] [])) (fun t_ kt_ => Jvm.RoadKit.acmp (g := (mkF mI 87 #[.val (.int k), .val (.int ((k &&& (2147483647 : Int32)) % (5 : Int32))), .val (.ref aI), .val (.ref aB), .val (.ref aB)] [(.ref aB), (.ref aB)])) Xc16 hx rfl rfl rfl (pc0 := 87) (pc' := 92) (same := true) rfl (hb hby at_87) rfl (decide_eq_true rfl) (by decide) (by decide) kt_) ?_
        refine own_go (T' := Tc16) (g' := (mkF mI 93 #[.val (.int k), .val (.int ((k &&& (2147483647 : Int32)) % (5 : Int32))), .val (.ref aI), .val (.ref aB), .val (.ref aB)] [(.ref aI)])) (fun t_ kt_ => XS.aloadN Xc16.here hx rfl (hb hby at_92) rfl rfl kt_) ?_
        obtain ⟨Tc17, Xc17, ec17, stc17⟩ := getS2 Xc16 hx hZ hown (host := "") (Or.inl (hw _ (List.mem_of_getElem? (i := 21) rfl))) Via.refl ec16 S_aI (g := (mkF mI 93 #[.val (.int k), .val (.int ((k &&& (2147483647 : Int32)) % (5 : Int32))), .val (.ref aI), .val (.ref aB), .val (.ref aB)] [(.ref aI)])) rfl (hb hby at_93)
        refine own_go (T' := Tc17) (g' := (mkF mI 96 #[.val (.int k), .val (.int ((k &&& (2147483647 : Int32)) % (5 : Int32))), .val (.ref aI), .val (.ref aB), .val (.ref aB)] [(.ref aI), (.ref aI)])) (fun t_ kt_ => stc17 _ kt_) ?_
        refine own_go (T' := Tc17) (g' := (mkF mI 114 #[.val (.int k), .val (.int ((k &&& (2147483647 : Int32)) % (5 : Int32))), .val (.ref aI), .val (.ref aB), .val (.ref aB)] [])) (fun t_ kt_ => Jvm.RoadKit.acmp (g := (mkF mI 96 #[.val (.int k), .val (.int ((k &&& (2147483647 : Int32)) % (5 : Int32))), .val (.ref aI), .val (.ref aB), .val (.ref aB)] [(.ref aI), (.ref aI)])) Xc17 hx rfl rfl rfl (pc0 := 96) (pc' := 114) (same := true) rfl (hb hby at_96) rfl (decide_eq_true rfl) (by decide) (by decide) kt_) ?_
        refine own_go (T' := Tc17) (g' := (mkF mI 115 #[.val (.int k), .val (.int ((k &&& (2147483647 : Int32)) % (5 : Int32))), .val (.ref aI), .val (.ref aB), .val (.ref aB)] [(.int (1 : Int32))])) (fun t_ kt_ => XS.iconst Xc17.here hx rfl (hb hby at_114) kt_) ?_
        refine own_retN Xc17 hx hlk (t := .boolean) hret (by simp) (hb hby at_115) rfl (by decide) (by decide) ?_
        exact ⟨rfl, rfl, ec17⟩
      · skip
        refine own_go (T' := s₁) (g' := (mkF mI 54 #[.val (.int k), .val (.int ((k &&& (2147483647 : Int32)) % (5 : Int32))), .unset, .unset, .unset] [])) (fun t_ kt_ => XS.icmpYes X0.here hx rfl (pc0 := 40) (pc' := 54) rfl (hb hby at_40) rfl (feq hc40_c13).2 (by decide) (by decide) kt_) ?_
        refine own_go (T' := s₁) (g' := (mkF mI 55 #[.val (.int k), .val (.int ((k &&& (2147483647 : Int32)) % (5 : Int32))), .unset, .unset, .unset] [(.int ((k &&& (2147483647 : Int32)) % (5 : Int32)))])) (fun t_ kt_ => XS.iloadN X0.here hx rfl (hb hby at_54) rfl kt_) ?_
        refine own_go (T' := s₁) (g' := (mkF mI 56 #[.val (.int k), .val (.int ((k &&& (2147483647 : Int32)) % (5 : Int32))), .unset, .unset, .unset] [(.int (3 : Int32)), (.int ((k &&& (2147483647 : Int32)) % (5 : Int32)))])) (fun t_ kt_ => XS.iconst X0.here hx rfl (hb hby at_55) kt_) ?_
        by_cases hc56_c18 : ((k &&& (2147483647 : Int32)) % (5 : Int32)) = (3 : Int32)
        · skip
          refine own_go (T' := s₁) (g' := (mkF mI 59 #[.val (.int k), .val (.int ((k &&& (2147483647 : Int32)) % (5 : Int32))), .unset, .unset, .unset] [])) (fun t_ kt_ => XS.icmpNo X0.here hx rfl (hb hby at_56) rfl (teq hc56_c18).2 kt_) ?_
          obtain ⟨Tc19, Xc19, ec19, stc19⟩ := getS2 X0 hx hZ hown (host := "") (Or.inl (hw _ (List.mem_of_getElem? (i := 24) rfl))) Via.refl e0 S_aS (g := (mkF mI 59 #[.val (.int k), .val (.int ((k &&& (2147483647 : Int32)) % (5 : Int32))), .unset, .unset, .unset] [])) rfl (hb hby at_59)
          refine own_go (T' := Tc19) (g' := (mkF mI 62 #[.val (.int k), .val (.int ((k &&& (2147483647 : Int32)) % (5 : Int32))), .unset, .unset, .unset] [(.ref aS)])) (fun t_ kt_ => stc19 _ kt_) ?_
          refine own_go (T' := Tc19) (g' := (mkF mI 63 #[.val (.int k), .val (.int ((k &&& (2147483647 : Int32)) % (5 : Int32))), .val (.ref aS), .unset, .unset] [])) (fun t_ kt_ => XS.astoreN Xc19.here hx rfl (hb hby at_62) rfl rfl (l' := #[.val (.int k), .val (.int ((k &&& (2147483647 : Int32)) % (5 : Int32))), .val (.ref aS), .unset, .unset]) rfl kt_) ?_
          obtain ⟨Tc20, Xc20, ec20, stc20⟩ := getS2 Xc19 hx hZ hown (host := "") (Or.inl (hw _ (List.mem_of_getElem? (i := 24) rfl))) Via.refl ec19 S_aS (g := (mkF mI 63 #[.val (.int k), .val (.int ((k &&& (2147483647 : Int32)) % (5 : Int32))), .val (.ref aS), .unset, .unset] [])) rfl (hb hby at_63)
          refine own_go (T' := Tc20) (g' := (mkF mI 66 #[.val (.int k), .val (.int ((k &&& (2147483647 : Int32)) % (5 : Int32))), .val (.ref aS), .unset, .unset] [(.ref aS)])) (fun t_ kt_ => stc20 _ kt_) ?_
          refine own_go (T' := Tc20) (g' := (mkF mI 67 #[.val (.int k), .val (.int ((k &&& (2147483647 : Int32)) % (5 : Int32))), .val (.ref aS), .val (.ref aS), .unset] [])) (fun t_ kt_ => XS.astoreN Xc20.here hx rfl (hb hby at_66) rfl rfl (l' := #[.val (.int k), .val (.int ((k &&& (2147483647 : Int32)) % (5 : Int32))), .val (.ref aS), .val (.ref aS), .unset]) rfl kt_) ?_
          refine own_go (T' := Tc20) (g' := (mkF mI 78 #[.val (.int k), .val (.int ((k &&& (2147483647 : Int32)) % (5 : Int32))), .val (.ref aS), .val (.ref aS), .unset] [])) (fun t_ kt_ => XS.goto Xc20.here hx rfl (pc0 := 67) (pc' := 78) rfl (hb hby at_67) (by decide) (by decide) kt_) ?_
          refine own_go (T' := Tc20) (g' := (mkF mI 79 #[.val (.int k), .val (.int ((k &&& (2147483647 : Int32)) % (5 : Int32))), .val (.ref aS), .val (.ref aS), .unset] [(.ref aS)])) (fun t_ kt_ => XS.aloadN Xc20.here hx rfl (hb hby at_78) rfl rfl kt_) ?_
          refine own_callV own_closed Xc20 hx hZ (y := (⟨"com/example/meaning_search/meaningsearch/Relation", "inverse", "()Lcom/example/meaning_search/meaningsearch/Relation;"⟩ : MethodName)) (z := (⟨"com/example/meaning_search/meaningsearch/Relation", "inverse", "()Lcom/example/meaning_search/meaningsearch/Relation;"⟩ : MethodName)) hown (hw _ (List.mem_of_getElem? (i := 6) rfl)) (hw _ (List.mem_of_getElem? (i := 7) rfl)) (hw _ (List.mem_of_getElem? (i := 9) rfl)) (hw _ (List.mem_of_getElem? (i := 8) rfl)) (hw _ (List.mem_of_getElem? (i := 9) rfl)) rfl (by decide) (rm1_3 l Z a0 hw [] h0 aS E_aS F_aS_ordinal) (hw _ (List.mem_of_getElem? (i := 10) rfl)) (hw _ (List.mem_of_getElem? (i := 2) rfl)) ec20 E_aS (pc := 79) (Ls := #[.val (.int k), .val (.int ((k &&& (2147483647 : Int32)) % (5 : Int32))), .val (.ref aS), .val (.ref aS), .unset]) (argsL := []) (rest := []) (by rw [hml]; rfl) (lenOf pd_1 rfl) (W := 0) (by decide) (by decide) (by decide) (by decide) (by decide) (hb hby at_79) rfl rfl ?_
          intro Tc21 Lc21 vc21 Xc21 hQc21
          obtain ⟨rfl, rfl, ec21⟩ := hQc21
          show own_Ends pP eE bB sS _ _ Tc21 (mkF mI 82 #[.val (.int k), .val (.int ((k &&& (2147483647 : Int32)) % (5 : Int32))), .val (.ref aS), .val (.ref aS), .unset] [(.ref aS)])
          refine own_go (T' := Tc21) (g' := (mkF mI 84 #[.val (.int k), .val (.int ((k &&& (2147483647 : Int32)) % (5 : Int32))), .val (.ref aS), .val (.ref aS), .val (.ref aS)] [])) (fun t_ kt_ => XS.astore Xc21.here hx rfl (hb hby at_82) rfl rfl (l' := #[.val (.int k), .val (.int ((k &&& (2147483647 : Int32)) % (5 : Int32))), .val (.ref aS), .val (.ref aS), .val (.ref aS)]) rfl kt_) ?_
          refine own_go (T' := Tc21) (g' := (mkF mI 86 #[.val (.int k), .val (.int ((k &&& (2147483647 : Int32)) % (5 : Int32))), .val (.ref aS), .val (.ref aS), .val (.ref aS)] [(.ref aS)])) (fun t_ kt_ => XS.aload Xc21.here hx rfl (hb hby at_84) rfl rfl kt_) ?_
          refine own_go (T' := Tc21) (g' := (mkF mI 87 #[.val (.int k), .val (.int ((k &&& (2147483647 : Int32)) % (5 : Int32))), .val (.ref aS), .val (.ref aS), .val (.ref aS)] [(.ref aS), (.ref aS)])) (fun t_ kt_ => XS.aloadN Xc21.here hx rfl (hb hby at_86) rfl rfl kt_) ?_
          refine own_go (T' := Tc21) (g' := (mkF mI 92 #[.val (.int k), .val (.int ((k &&& (2147483647 : Int32)) % (5 : Int32))), .val (.ref aS), .val (.ref aS), .val (.ref aS)] [])) (fun t_ kt_ => Jvm.RoadKit.acmp (g := (mkF mI 87 #[.val (.int k), .val (.int ((k &&& (2147483647 : Int32)) % (5 : Int32))), .val (.ref aS), .val (.ref aS), .val (.ref aS)] [(.ref aS), (.ref aS)])) Xc21 hx rfl rfl rfl (pc0 := 87) (pc' := 92) (same := true) rfl (hb hby at_87) rfl (decide_eq_true rfl) (by decide) (by decide) kt_) ?_
          refine own_go (T' := Tc21) (g' := (mkF mI 93 #[.val (.int k), .val (.int ((k &&& (2147483647 : Int32)) % (5 : Int32))), .val (.ref aS), .val (.ref aS), .val (.ref aS)] [(.ref aS)])) (fun t_ kt_ => XS.aloadN Xc21.here hx rfl (hb hby at_92) rfl rfl kt_) ?_
          obtain ⟨Tc22, Xc22, ec22, stc22⟩ := getS2 Xc21 hx hZ hown (host := "") (Or.inl (hw _ (List.mem_of_getElem? (i := 21) rfl))) Via.refl ec21 S_aI (g := (mkF mI 93 #[.val (.int k), .val (.int ((k &&& (2147483647 : Int32)) % (5 : Int32))), .val (.ref aS), .val (.ref aS), .val (.ref aS)] [(.ref aS)])) rfl (hb hby at_93)
          refine own_go (T' := Tc22) (g' := (mkF mI 96 #[.val (.int k), .val (.int ((k &&& (2147483647 : Int32)) % (5 : Int32))), .val (.ref aS), .val (.ref aS), .val (.ref aS)] [(.ref aI), (.ref aS)])) (fun t_ kt_ => stc22 _ kt_) ?_
          refine own_go (T' := Tc22) (g' := (mkF mI 99 #[.val (.int k), .val (.int ((k &&& (2147483647 : Int32)) % (5 : Int32))), .val (.ref aS), .val (.ref aS), .val (.ref aS)] [])) (fun t_ kt_ => Jvm.RoadKit.acmp (g := (mkF mI 96 #[.val (.int k), .val (.int ((k &&& (2147483647 : Int32)) % (5 : Int32))), .val (.ref aS), .val (.ref aS), .val (.ref aS)] [(.ref aI), (.ref aS)])) Xc22 hx rfl rfl rfl (pc0 := 96) (pc' := 99) (same := false) rfl (hb hby at_96) rfl (decide_eq_false (fun q => (Fld.ne F_aS_ordinal F_aI_ordinal (fun q => absurd (Value.int.inj q) (by decide))) (Value.ref.inj q))) (by decide) (by decide) kt_) ?_
          refine own_go (T' := Tc22) (g' := (mkF mI 101 #[.val (.int k), .val (.int ((k &&& (2147483647 : Int32)) % (5 : Int32))), .val (.ref aS), .val (.ref aS), .val (.ref aS)] [(.ref aS)])) (fun t_ kt_ => XS.aload Xc22.here hx rfl (hb hby at_99) rfl rfl kt_) ?_
          refine own_callV own_closed Xc22 hx hZ (y := (⟨"com/example/meaning_search/meaningsearch/Relation", "inverse", "()Lcom/example/meaning_search/meaningsearch/Relation;"⟩ : MethodName)) (z := (⟨"com/example/meaning_search/meaningsearch/Relation", "inverse", "()Lcom/example/meaning_search/meaningsearch/Relation;"⟩ : MethodName)) hown (hw _ (List.mem_of_getElem? (i := 6) rfl)) (hw _ (List.mem_of_getElem? (i := 7) rfl)) (hw _ (List.mem_of_getElem? (i := 9) rfl)) (hw _ (List.mem_of_getElem? (i := 8) rfl)) (hw _ (List.mem_of_getElem? (i := 9) rfl)) rfl (by decide) (rm1_3 l Z a0 hw [] h0 aS E_aS F_aS_ordinal) (hw _ (List.mem_of_getElem? (i := 10) rfl)) (hw _ (List.mem_of_getElem? (i := 2) rfl)) ec22 E_aS (pc := 101) (Ls := #[.val (.int k), .val (.int ((k &&& (2147483647 : Int32)) % (5 : Int32))), .val (.ref aS), .val (.ref aS), .val (.ref aS)]) (argsL := []) (rest := []) (by rw [hml]; rfl) (lenOf pd_1 rfl) (W := 0) (by decide) (by decide) (by decide) (by decide) (by decide) (hb hby at_101) rfl rfl ?_
          intro Tc23 Lc23 vc23 Xc23 hQc23
          obtain ⟨rfl, rfl, ec23⟩ := hQc23
          show own_Ends pP eE bB sS _ _ Tc23 (mkF mI 104 #[.val (.int k), .val (.int ((k &&& (2147483647 : Int32)) % (5 : Int32))), .val (.ref aS), .val (.ref aS), .val (.ref aS)] [(.ref aS)])
          refine own_go (T' := Tc23) (g' := (mkF mI 105 #[.val (.int k), .val (.int ((k &&& (2147483647 : Int32)) % (5 : Int32))), .val (.ref aS), .val (.ref aS), .val (.ref aS)] [(.ref aS), (.ref aS)])) (fun t_ kt_ => XS.aloadN Xc23.here hx rfl (hb hby at_104) rfl rfl kt_) ?_
          refine own_go (T' := Tc23) (g' := (mkF mI 108 #[.val (.int k), .val (.int ((k &&& (2147483647 : Int32)) % (5 : Int32))), .val (.ref aS), .val (.ref aS), .val (.ref aS)] [])) (fun t_ kt_ => Jvm.RoadKit.acmp (g := (mkF mI 105 #[.val (.int k), .val (.int ((k &&& (2147483647 : Int32)) % (5 : Int32))), .val (.ref aS), .val (.ref aS), .val (.ref aS)] [(.ref aS), (.ref aS)])) Xc23 hx rfl rfl rfl (pc0 := 105) (pc' := 108) (same := true) rfl (hb hby at_105) rfl (decide_eq_true rfl) (by decide) (by decide) kt_) ?_
          refine own_go (T' := Tc23) (g' := (mkF mI 109 #[.val (.int k), .val (.int ((k &&& (2147483647 : Int32)) % (5 : Int32))), .val (.ref aS), .val (.ref aS), .val (.ref aS)] [(.int (1 : Int32))])) (fun t_ kt_ => XS.iconst Xc23.here hx rfl (hb hby at_108) kt_) ?_
          refine own_go (T' := Tc23) (g' := (mkF mI 113 #[.val (.int k), .val (.int ((k &&& (2147483647 : Int32)) % (5 : Int32))), .val (.ref aS), .val (.ref aS), .val (.ref aS)] [(.int (1 : Int32))])) (fun t_ kt_ => XS.goto Xc23.here hx rfl (pc0 := 109) (pc' := 113) rfl (hb hby at_109) (by decide) (by decide) kt_) ?_
          refine own_retN Xc23 hx hlk (t := .boolean) hret (by simp) (hb hby at_113) rfl (by decide) (by decide) ?_
          exact ⟨rfl, rfl, ec23⟩
        · skip
          refine own_go (T' := s₁) (g' := (mkF mI 70 #[.val (.int k), .val (.int ((k &&& (2147483647 : Int32)) % (5 : Int32))), .unset, .unset, .unset] [])) (fun t_ kt_ => XS.icmpYes X0.here hx rfl (pc0 := 56) (pc' := 70) rfl (hb hby at_56) rfl (feq hc56_c18).2 (by decide) (by decide) kt_) ?_
          obtain ⟨Tc24, Xc24, ec24, stc24⟩ := getS2 X0 hx hZ hown (host := "") (Or.inl (hw _ (List.mem_of_getElem? (i := 26) rfl))) Via.refl e0 S_aR (g := (mkF mI 70 #[.val (.int k), .val (.int ((k &&& (2147483647 : Int32)) % (5 : Int32))), .unset, .unset, .unset] [])) rfl (hb hby at_70)
          refine own_go (T' := Tc24) (g' := (mkF mI 73 #[.val (.int k), .val (.int ((k &&& (2147483647 : Int32)) % (5 : Int32))), .unset, .unset, .unset] [(.ref aR)])) (fun t_ kt_ => stc24 _ kt_) ?_
          refine own_go (T' := Tc24) (g' := (mkF mI 74 #[.val (.int k), .val (.int ((k &&& (2147483647 : Int32)) % (5 : Int32))), .val (.ref aR), .unset, .unset] [])) (fun t_ kt_ => XS.astoreN Xc24.here hx rfl (hb hby at_73) rfl rfl (l' := #[.val (.int k), .val (.int ((k &&& (2147483647 : Int32)) % (5 : Int32))), .val (.ref aR), .unset, .unset]) rfl kt_) ?_
          obtain ⟨Tc25, Xc25, ec25, stc25⟩ := getS2 Xc24 hx hZ hown (host := "") (Or.inl (hw _ (List.mem_of_getElem? (i := 26) rfl))) Via.refl ec24 S_aR (g := (mkF mI 74 #[.val (.int k), .val (.int ((k &&& (2147483647 : Int32)) % (5 : Int32))), .val (.ref aR), .unset, .unset] [])) rfl (hb hby at_74)
          refine own_go (T' := Tc25) (g' := (mkF mI 77 #[.val (.int k), .val (.int ((k &&& (2147483647 : Int32)) % (5 : Int32))), .val (.ref aR), .unset, .unset] [(.ref aR)])) (fun t_ kt_ => stc25 _ kt_) ?_
          refine own_go (T' := Tc25) (g' := (mkF mI 78 #[.val (.int k), .val (.int ((k &&& (2147483647 : Int32)) % (5 : Int32))), .val (.ref aR), .val (.ref aR), .unset] [])) (fun t_ kt_ => XS.astoreN Xc25.here hx rfl (hb hby at_77) rfl rfl (l' := #[.val (.int k), .val (.int ((k &&& (2147483647 : Int32)) % (5 : Int32))), .val (.ref aR), .val (.ref aR), .unset]) rfl kt_) ?_
          refine own_go (T' := Tc25) (g' := (mkF mI 79 #[.val (.int k), .val (.int ((k &&& (2147483647 : Int32)) % (5 : Int32))), .val (.ref aR), .val (.ref aR), .unset] [(.ref aR)])) (fun t_ kt_ => XS.aloadN Xc25.here hx rfl (hb hby at_78) rfl rfl kt_) ?_
          refine own_callV own_closed Xc25 hx hZ (y := (⟨"com/example/meaning_search/meaningsearch/Relation", "inverse", "()Lcom/example/meaning_search/meaningsearch/Relation;"⟩ : MethodName)) (z := (⟨"com/example/meaning_search/meaningsearch/Relation", "inverse", "()Lcom/example/meaning_search/meaningsearch/Relation;"⟩ : MethodName)) hown (hw _ (List.mem_of_getElem? (i := 6) rfl)) (hw _ (List.mem_of_getElem? (i := 7) rfl)) (hw _ (List.mem_of_getElem? (i := 9) rfl)) (hw _ (List.mem_of_getElem? (i := 8) rfl)) (hw _ (List.mem_of_getElem? (i := 9) rfl)) rfl (by decide) (rm1_4 l Z a0 hw [] h0 aR E_aR F_aR_ordinal) (hw _ (List.mem_of_getElem? (i := 10) rfl)) (hw _ (List.mem_of_getElem? (i := 2) rfl)) ec25 E_aR (pc := 79) (Ls := #[.val (.int k), .val (.int ((k &&& (2147483647 : Int32)) % (5 : Int32))), .val (.ref aR), .val (.ref aR), .unset]) (argsL := []) (rest := []) (by rw [hml]; rfl) (lenOf pd_1 rfl) (W := 0) (by decide) (by decide) (by decide) (by decide) (by decide) (hb hby at_79) rfl rfl ?_
          intro Tc26 Lc26 vc26 Xc26 hQc26
          obtain ⟨rfl, rfl, ec26⟩ := hQc26
          show own_Ends pP eE bB sS _ _ Tc26 (mkF mI 82 #[.val (.int k), .val (.int ((k &&& (2147483647 : Int32)) % (5 : Int32))), .val (.ref aR), .val (.ref aR), .unset] [(.ref aR)])
          refine own_go (T' := Tc26) (g' := (mkF mI 84 #[.val (.int k), .val (.int ((k &&& (2147483647 : Int32)) % (5 : Int32))), .val (.ref aR), .val (.ref aR), .val (.ref aR)] [])) (fun t_ kt_ => XS.astore Xc26.here hx rfl (hb hby at_82) rfl rfl (l' := #[.val (.int k), .val (.int ((k &&& (2147483647 : Int32)) % (5 : Int32))), .val (.ref aR), .val (.ref aR), .val (.ref aR)]) rfl kt_) ?_
          refine own_go (T' := Tc26) (g' := (mkF mI 86 #[.val (.int k), .val (.int ((k &&& (2147483647 : Int32)) % (5 : Int32))), .val (.ref aR), .val (.ref aR), .val (.ref aR)] [(.ref aR)])) (fun t_ kt_ => XS.aload Xc26.here hx rfl (hb hby at_84) rfl rfl kt_) ?_
          refine own_go (T' := Tc26) (g' := (mkF mI 87 #[.val (.int k), .val (.int ((k &&& (2147483647 : Int32)) % (5 : Int32))), .val (.ref aR), .val (.ref aR), .val (.ref aR)] [(.ref aR), (.ref aR)])) (fun t_ kt_ => XS.aloadN Xc26.here hx rfl (hb hby at_86) rfl rfl kt_) ?_
          refine own_go (T' := Tc26) (g' := (mkF mI 92 #[.val (.int k), .val (.int ((k &&& (2147483647 : Int32)) % (5 : Int32))), .val (.ref aR), .val (.ref aR), .val (.ref aR)] [])) (fun t_ kt_ => Jvm.RoadKit.acmp (g := (mkF mI 87 #[.val (.int k), .val (.int ((k &&& (2147483647 : Int32)) % (5 : Int32))), .val (.ref aR), .val (.ref aR), .val (.ref aR)] [(.ref aR), (.ref aR)])) Xc26 hx rfl rfl rfl (pc0 := 87) (pc' := 92) (same := true) rfl (hb hby at_87) rfl (decide_eq_true rfl) (by decide) (by decide) kt_) ?_
          refine own_go (T' := Tc26) (g' := (mkF mI 93 #[.val (.int k), .val (.int ((k &&& (2147483647 : Int32)) % (5 : Int32))), .val (.ref aR), .val (.ref aR), .val (.ref aR)] [(.ref aR)])) (fun t_ kt_ => XS.aloadN Xc26.here hx rfl (hb hby at_92) rfl rfl kt_) ?_
          obtain ⟨Tc27, Xc27, ec27, stc27⟩ := getS2 Xc26 hx hZ hown (host := "") (Or.inl (hw _ (List.mem_of_getElem? (i := 21) rfl))) Via.refl ec26 S_aI (g := (mkF mI 93 #[.val (.int k), .val (.int ((k &&& (2147483647 : Int32)) % (5 : Int32))), .val (.ref aR), .val (.ref aR), .val (.ref aR)] [(.ref aR)])) rfl (hb hby at_93)
          refine own_go (T' := Tc27) (g' := (mkF mI 96 #[.val (.int k), .val (.int ((k &&& (2147483647 : Int32)) % (5 : Int32))), .val (.ref aR), .val (.ref aR), .val (.ref aR)] [(.ref aI), (.ref aR)])) (fun t_ kt_ => stc27 _ kt_) ?_
          refine own_go (T' := Tc27) (g' := (mkF mI 99 #[.val (.int k), .val (.int ((k &&& (2147483647 : Int32)) % (5 : Int32))), .val (.ref aR), .val (.ref aR), .val (.ref aR)] [])) (fun t_ kt_ => Jvm.RoadKit.acmp (g := (mkF mI 96 #[.val (.int k), .val (.int ((k &&& (2147483647 : Int32)) % (5 : Int32))), .val (.ref aR), .val (.ref aR), .val (.ref aR)] [(.ref aI), (.ref aR)])) Xc27 hx rfl rfl rfl (pc0 := 96) (pc' := 99) (same := false) rfl (hb hby at_96) rfl (decide_eq_false (fun q => (Fld.ne F_aR_ordinal F_aI_ordinal (fun q => absurd (Value.int.inj q) (by decide))) (Value.ref.inj q))) (by decide) (by decide) kt_) ?_
          refine own_go (T' := Tc27) (g' := (mkF mI 101 #[.val (.int k), .val (.int ((k &&& (2147483647 : Int32)) % (5 : Int32))), .val (.ref aR), .val (.ref aR), .val (.ref aR)] [(.ref aR)])) (fun t_ kt_ => XS.aload Xc27.here hx rfl (hb hby at_99) rfl rfl kt_) ?_
          refine own_callV own_closed Xc27 hx hZ (y := (⟨"com/example/meaning_search/meaningsearch/Relation", "inverse", "()Lcom/example/meaning_search/meaningsearch/Relation;"⟩ : MethodName)) (z := (⟨"com/example/meaning_search/meaningsearch/Relation", "inverse", "()Lcom/example/meaning_search/meaningsearch/Relation;"⟩ : MethodName)) hown (hw _ (List.mem_of_getElem? (i := 6) rfl)) (hw _ (List.mem_of_getElem? (i := 7) rfl)) (hw _ (List.mem_of_getElem? (i := 9) rfl)) (hw _ (List.mem_of_getElem? (i := 8) rfl)) (hw _ (List.mem_of_getElem? (i := 9) rfl)) rfl (by decide) (rm1_4 l Z a0 hw [] h0 aR E_aR F_aR_ordinal) (hw _ (List.mem_of_getElem? (i := 10) rfl)) (hw _ (List.mem_of_getElem? (i := 2) rfl)) ec27 E_aR (pc := 101) (Ls := #[.val (.int k), .val (.int ((k &&& (2147483647 : Int32)) % (5 : Int32))), .val (.ref aR), .val (.ref aR), .val (.ref aR)]) (argsL := []) (rest := []) (by rw [hml]; rfl) (lenOf pd_1 rfl) (W := 0) (by decide) (by decide) (by decide) (by decide) (by decide) (hb hby at_101) rfl rfl ?_
          intro Tc28 Lc28 vc28 Xc28 hQc28
          obtain ⟨rfl, rfl, ec28⟩ := hQc28
          show own_Ends pP eE bB sS _ _ Tc28 (mkF mI 104 #[.val (.int k), .val (.int ((k &&& (2147483647 : Int32)) % (5 : Int32))), .val (.ref aR), .val (.ref aR), .val (.ref aR)] [(.ref aR)])
          refine own_go (T' := Tc28) (g' := (mkF mI 105 #[.val (.int k), .val (.int ((k &&& (2147483647 : Int32)) % (5 : Int32))), .val (.ref aR), .val (.ref aR), .val (.ref aR)] [(.ref aR), (.ref aR)])) (fun t_ kt_ => XS.aloadN Xc28.here hx rfl (hb hby at_104) rfl rfl kt_) ?_
          refine own_go (T' := Tc28) (g' := (mkF mI 108 #[.val (.int k), .val (.int ((k &&& (2147483647 : Int32)) % (5 : Int32))), .val (.ref aR), .val (.ref aR), .val (.ref aR)] [])) (fun t_ kt_ => Jvm.RoadKit.acmp (g := (mkF mI 105 #[.val (.int k), .val (.int ((k &&& (2147483647 : Int32)) % (5 : Int32))), .val (.ref aR), .val (.ref aR), .val (.ref aR)] [(.ref aR), (.ref aR)])) Xc28 hx rfl rfl rfl (pc0 := 105) (pc' := 108) (same := true) rfl (hb hby at_105) rfl (decide_eq_true rfl) (by decide) (by decide) kt_) ?_
          refine own_go (T' := Tc28) (g' := (mkF mI 109 #[.val (.int k), .val (.int ((k &&& (2147483647 : Int32)) % (5 : Int32))), .val (.ref aR), .val (.ref aR), .val (.ref aR)] [(.int (1 : Int32))])) (fun t_ kt_ => XS.iconst Xc28.here hx rfl (hb hby at_108) kt_) ?_
          refine own_go (T' := Tc28) (g' := (mkF mI 113 #[.val (.int k), .val (.int ((k &&& (2147483647 : Int32)) % (5 : Int32))), .val (.ref aR), .val (.ref aR), .val (.ref aR)] [(.int (1 : Int32))])) (fun t_ kt_ => XS.goto Xc28.here hx rfl (pc0 := 109) (pc' := 113) rfl (hb hby at_109) (by decide) (by decide) kt_) ?_
          refine own_retN Xc28 hx hlk (t := .boolean) hret (by simp) (hb hby at_113) rfl (by decide) (by decide) ?_
          exact ⟨rfl, rfl, ec28⟩
set_option maxRecDepth 65536 in
set_option maxHeartbeats 40000000 in
theorem comes_1 {Post : Tables → Env → Array Value → State → Outcome → State → Prop} (hpost : ∀ tb e args s v u, (limb_1_1.after args s (.returned v) u = true ∧ limb_1_2.after args s (.returned v) u = true ∧ True) → FrameEnd s (.returned v) u (Jvm.fieldLocs frame_1_writes args s ++ Jvm.arrayLocs frame_1_arrays args s ++ Jvm.staticLocs frame_1_statics s) 0 0 → Post tb e args s (.returned v) u) :
    ArmFor flags0 classFile x code maxLocals ret World_1 tables_1 room_1 Calls_1 rest_1 Pre_1 Post := by
  intro l hfl _ _ p e ha hc hk s m args below hf hA hF happ hP
  obtain ⟨hcalls, hrest, hpre⟩ := hP
  obtain ⟨-, -, -, hnamed, -, -, -, hat⟩ := (Spec.applies_iff hf).mp happ
  obtain ⟨hg, hn⟩ := and_e (Cond.before_iff.mp (show (Jvm.Cond.and given_1 narrow_1).before args s = true from hpre))
  obtain ⟨hg0, hgr0⟩ := and_e hg
  obtain ⟨w0, rfl⟩ : ∃ w0 : Value, args = #[w0] := by
    have hs : args.size = 1 := by simpa [Cond.value, given_1] using hg0
    obtain ⟨L⟩ := args
    match L, hs with
    | [w0], _ => exact ⟨w0, rfl⟩
  have hw := fun d (hd : d ∈ tables_1) => atoms_spec (ws := Jvm.Cond.code x code maxLocals ret :: tables_1) hat d (List.mem_cons_of_mem _ hd)
  have hfit : Fit s := fun {y c} hc i hi => by
    obtain ⟨ha, rfl⟩ := Array.getElem?_eq_some_iff.mp hc
    have q := List.all_eq_true.mp ((Array.all_eq_true_iff_forall_mem.mp hF) _ (Array.getElem_mem ha)) i (List.mem_range.mpr hi)
    simpa [Array.getElem?_eq_getElem hi] using q
  obtain ⟨i0, ei0⟩ := is_v hgr0
  obtain rfl : w0 = (.int i0) := Option.some.inj ei0
  obtain ⟨n0, nr0⟩ := and_e hn
  obtain ⟨n1, nr1⟩ := and_e nr0
  obtain ⟨n2, nr2⟩ := and_e nr1
  obtain ⟨n3, nr3⟩ := and_e nr2
  obtain ⟨n4, nr4⟩ := and_e nr3
  obtain ⟨n5, nr5⟩ := and_e nr4
  obtain ⟨n6, nr6⟩ := and_e nr5
  obtain ⟨n7, nr7⟩ := and_e nr6
  obtain ⟨n8, nr8⟩ := and_e nr7
  have n9 := nr8
  obtain ⟨aB, ev_aB⟩ := exa_v n0
  have E_aB := Exa.start ev_aB n0
  have S_aB := Sta.start ev_aB (Or.inr ⟨(hw _ (List.mem_of_getElem? (i := 2) rfl)), (hw _ (List.mem_of_getElem? (i := 3) rfl))⟩)
  obtain ⟨aN, ev_aN⟩ := exa_v n1
  have E_aN := Exa.start ev_aN n1
  have S_aN := Sta.start ev_aN (Or.inr ⟨(hw _ (List.mem_of_getElem? (i := 2) rfl)), (hw _ (List.mem_of_getElem? (i := 5) rfl))⟩)
  obtain ⟨aI, ev_aI⟩ := exa_v n3
  have E_aI := Exa.start ev_aI n3
  have S_aI := Sta.start ev_aI (Or.inr ⟨(hw _ (List.mem_of_getElem? (i := 2) rfl)), (hw _ (List.mem_of_getElem? (i := 22) rfl))⟩)
  obtain ⟨aS, ev_aS⟩ := exa_v n6
  have E_aS := Exa.start ev_aS n6
  have S_aS := Sta.start ev_aS (Or.inr ⟨(hw _ (List.mem_of_getElem? (i := 2) rfl)), (hw _ (List.mem_of_getElem? (i := 25) rfl))⟩)
  obtain ⟨aR, ev_aR⟩ := exa_v n8
  have E_aR := Exa.start ev_aR n8
  have S_aR := Sta.start ev_aR (Or.inr ⟨(hw _ (List.mem_of_getElem? (i := 2) rfl)), (hw _ (List.mem_of_getElem? (i := 27) rfl))⟩)
  have F_aB_ordinal := own_fldI ev_aB n2
  have F_aI_ordinal := own_fldI ev_aI n4
  have F_aN_ordinal := own_fldI ev_aN n5
  have F_aS_ordinal := own_fldI ev_aS n7
  have F_aR_ordinal := own_fldI ev_aR n9
  obtain ⟨n, o, h1, h2, h3, _, L, rfl, ⟨rfl, rfl, -⟩, hq⟩ := rm0 l s _ hw tables_1 s.heap i0 aB S_aB E_aB F_aB_ordinal aN S_aN E_aN F_aN_ordinal aI S_aI E_aI F_aI_ordinal aS S_aS E_aS F_aS_ordinal aR S_aR E_aR F_aR_ordinal p e ha hc hk s m _ below hf ((Spec.applies_iff_loose hf).mp happ).1 ⟨rfl, State.Warmed39.refl s, rfl⟩ trivial
  exact ⟨n, _, h1, h2, h3, hpost _ _ _ _ _ _ ⟨Cond.after_iff.mpr rfl, Cond.after_iff.mpr (eq_i res_at (Term.int_eval (1)) rfl), trivial⟩ ⟨hq.1, hq.2.1, (hq.2.2.sift fun y hy => nomatch hy).mono (by decide) (by decide)⟩⟩
theorem main_1_1 : Claimed_1_1 := comes_1 fun _ _ _ _ _ _ h hF => ⟨h.1, hF⟩
theorem main_1_2 : Claimed_1_2 := comes_1 fun _ _ _ _ _ _ h hF => ⟨h.2.1, hF⟩
end Jvm.Pilot.@@N@@
namespace Jvm.Pilot.@@N@@
open Jvm Jvm.ClassFile Sem Op Lib Jvm.Free Jvm.Stand Jvm.Pilot.@@N@@.Jvm.D
/-! MADE BY PROGRAM (witnessworld.py) out of the Statement's table words and the real class files: 12 classes; the members and pool entries that the words name. The judged class is class 1, her method 1. -/
namespace start1
open Jvm.ClassFile
def u (s : String) : CpInfo := .utf8 (stringToUtf16 s)
/-- a pool by its gaps: so many unusable entries, then the entry; so many at the end -/
def gap : Nat → List CpInfo → List CpInfo
  | 0, r => r
  | n + 1, r => .unusable :: gap n r
def poolList (es : List (Nat × CpInfo)) (last : Nat) : List CpInfo := es.foldr (fun e r => gap e.1 (e.2 :: r)) (gap last [])
def pool (es : List (Nat × CpInfo)) (last : Nat) : Array CpInfo := ⟨poolList es last⟩
def fileOf (pool : Array CpInfo) (this : Nat) (attrs : Array Attribute := #[]) (ms : Array MethodInfo := #[]) (fl : Nat := 33) (sup : Nat := 0) (ifs : Array Nat := #[]) (fds : Array FieldInfo := #[]) : ClassFile where
  minorVersion := 0
  majorVersion := 65
  constantPool := pool
  accessFlags := fl
  thisClass := this
  superClass := sup
  interfaces := ifs
  fields := fds
  methods := ms
  attributes := attrs
def plain (name : String) (sup : Option ClassId) : Class where
  name := name
  kind := .ordinary
  loader := none
  accessFlags := 33
  super := sup
  interfaces := #[]
  cf := none
  fields := #[]
  methods := #[]
  instanceTypes := #[]
  staticTypes := #[]
  resolved := #[]
  callSites := []
  init := .initialized
  statics := none
  mirror := none

def pool0 : Array CpInfo := pool [(5, u "<init>"), (0, u "()V"), (1, .class_ 10), (1, u "java/lang/Object")] 113

def k0m0 : Method := { name := "<init>", desc := "()V", sig := { parameters := [], returnType := none }, accessFlags := 1, code := none }
/-- java/lang/Object -/
def k0 : Class := { plain "java/lang/Object" none with
  accessFlags := 33
  interfaces := #[]
  cf := some (fileOf pool0 8 #[] #[{ accessFlags := 1, nameIndex := 5, descriptorIndex := 6, attributes := #[] }] 33 0 #[] #[])
  fields := #[]
  methods := #[k0m0]
  instanceTypes := #[]
  staticTypes := #[]
  resolved := Array.replicate 124 none
  statics := none }

def pool1 : Array CpInfo := pool [(2, .class_ 4), (1, u "java/lang/Object"), (0, u "<init>"), (0, u "()V"), (0, .integer 2147483647), (0, .fieldref 9 10), (0, .class_ 11), (0, .nameAndType 12 13), (0, u "com/example/meaning_search/meaningsearch/Relation"), (0, u "BROADER"), (0, u "Lcom/example/meaning_search/meaningsearch/Relation;"), (0, .fieldref 9 15), (0, .nameAndType 16 13), (0, u "NARROWER"), (0, .fieldref 9 18), (0, .nameAndType 19 13), (0, u "INSTANCE"), (0, .fieldref 9 21), (0, .nameAndType 22 13), (0, u "SIBLING"), (0, .fieldref 9 24), (0, .nameAndType 25 13), (0, u "RELATED"), (0, .methodref 9 27), (0, .nameAndType 28 29), (0, u "inverse"), (0, u "()Lcom/example/meaning_search/meaningsearch/Relation;"), (0, .class_ 31), (0, u "com/example/meaning_search/meaningsearch/RelationInversePinLaw"), (2, u "law"), (0, u "(I)Z")] 3

def k1m0 : Method := { name := "<init>", desc := "()V", sig := { parameters := [], returnType := none }, accessFlags := 1, code := none }
def k1c1 : Code := { maxStack := 2, maxLocals := 5, code := code, exceptionTable := #[], attributes := #[] }
def k1m1 : Method := { name := "law", desc := "(I)Z", sig := { parameters := [.int], returnType := some .boolean }, accessFlags := 9, code := some k1c1 }
/-- com/example/meaning_search/meaningsearch/RelationInversePinLaw -/
def k1 : Class := { plain "com/example/meaning_search/meaningsearch/RelationInversePinLaw" (some 0) with
  accessFlags := 49
  interfaces := #[]
  cf := some (fileOf pool1 30 #[] #[{ accessFlags := 1, nameIndex := 5, descriptorIndex := 6, attributes := #[] }, { accessFlags := 9, nameIndex := 34, descriptorIndex := 35, attributes := #[] }] 49 2 #[] #[])
  fields := #[]
  methods := #[k1m0, k1m1]
  instanceTypes := #[]
  staticTypes := #[]
  resolved := Array.replicate 39 none
  statics := none }

def pool2 : Array CpInfo := pool [(1, .class_ 2), (0, u "java/lang/constant/Constable"), (0, .class_ 4), (0, u "java/lang/Object")] 6

/-- java/lang/constant/Constable -/
def k2 : Class := { plain "java/lang/constant/Constable" (some 0) with
  accessFlags := 1537
  interfaces := #[]
  cf := some (fileOf pool2 1 #[] #[] 1537 3 #[] #[])
  fields := #[]
  methods := #[]
  instanceTypes := #[]
  staticTypes := #[]
  resolved := Array.replicate 11 none
  statics := none }

def pool3 : Array CpInfo := pool [(1, .class_ 2), (0, u "java/lang/Comparable"), (0, .class_ 4), (0, u "java/lang/Object")] 7

/-- java/lang/Comparable -/
def k3 : Class := { plain "java/lang/Comparable" (some 0) with
  accessFlags := 1537
  interfaces := #[]
  cf := some (fileOf pool3 1 #[] #[] 1537 3 #[] #[])
  fields := #[]
  methods := #[]
  instanceTypes := #[]
  staticTypes := #[]
  resolved := Array.replicate 12 none
  statics := none }

def pool4 : Array CpInfo := pool [(1, .class_ 2), (0, u "java/io/Serializable"), (0, .class_ 4), (0, u "java/lang/Object")] 2

/-- java/io/Serializable -/
def k4 : Class := { plain "java/io/Serializable" (some 0) with
  accessFlags := 1537
  interfaces := #[]
  cf := some (fileOf pool4 1 #[] #[] 1537 3 #[] #[])
  fields := #[]
  methods := #[]
  instanceTypes := #[]
  staticTypes := #[]
  resolved := Array.replicate 7 none
  statics := none }

def pool5 : Array CpInfo := pool [(2, .class_ 4), (1, u "java/lang/Enum"), (0, u "name"), (0, u "Ljava/lang/String;"), (0, .fieldref 2 8), (0, .nameAndType 9 10), (0, u "ordinal"), (0, u "I"), (1, .class_ 14), (1, u "java/lang/Object"), (4, u "hash"), (86, .class_ 108), (1, u "java/lang/Enum$EnumDesc"), (2, .class_ 112), (0, u "java/lang/constant/Constable"), (0, .class_ 114), (0, u "java/lang/Comparable"), (0, .class_ 116), (0, u "java/io/Serializable"), (9, u "()I")] 77

def k5c0 : Code := { maxStack := 1, maxLocals := 1, code := jdk_37_method_2_code, exceptionTable := #[], attributes := #[] }
def k5m0 : Method := { name := "ordinal", desc := "()I", sig := { parameters := [], returnType := some .int }, accessFlags := 17, code := some k5c0 }
/-- java/lang/Enum -/
def k5 : Class := { plain "java/lang/Enum" (some 0) with
  accessFlags := 1057
  interfaces := #[2, 3, 4]
  cf := some (fileOf pool5 2 #[.nestMembers #[106]] #[{ accessFlags := 17, nameIndex := 9, descriptorIndex := 126, attributes := #[] }] 1057 12 #[111, 113, 115] #[{ accessFlags := 18, nameIndex := 5, descriptorIndex := 6, attributes := #[] }, { accessFlags := 18, nameIndex := 9, descriptorIndex := 10, attributes := #[] }, { accessFlags := 2, nameIndex := 19, descriptorIndex := 10, attributes := #[] }])
  fields := #[{ name := "name", type := (.object "java/lang/String"), accessFlags := 18, slot := 0, constantValue := 0 }, { name := "ordinal", type := .int, accessFlags := 18, slot := 1, constantValue := 0 }, { name := "hash", type := .int, accessFlags := 2, slot := 2, constantValue := 0 }]
  methods := #[k5m0]
  instanceTypes := #[(.object "java/lang/String"), .int, .int]
  staticTypes := #[]
  resolved := Array.replicate 204 none
  statics := none }

def pool6 : Array CpInfo := pool [(1, .class_ 2), (0, u "com/example/meaning_search/meaningsearch/Relation"), (0, .fieldref 1 4), (0, .nameAndType 5 6), (0, u "BROADER"), (0, u "Lcom/example/meaning_search/meaningsearch/Relation;"), (0, .fieldref 1 8), (0, .nameAndType 9 6), (0, u "NARROWER"), (2, u "INSTANCE"), (2, u "SIBLING"), (2, u "RELATED"), (2, u "$VALUES"), (0, u "[Lcom/example/meaning_search/meaningsearch/Relation;"), (6, .class_ 31), (1, u "java/lang/Enum"), (6, .methodref 1 39), (0, .nameAndType 40 41), (0, u "ordinal"), (0, u "()I"), (33, u "inverse"), (0, u "()Lcom/example/meaning_search/meaningsearch/Relation;")] 6

def k6c0 : Code := { maxStack := 1, maxLocals := 1, code := prog_15_method_4_code, exceptionTable := #[], attributes := #[] }
def k6m0 : Method := { name := "inverse", desc := "()Lcom/example/meaning_search/meaningsearch/Relation;", sig := { parameters := [], returnType := some (.object "com/example/meaning_search/meaningsearch/Relation") }, accessFlags := 0, code := some k6c0 }
/-- com/example/meaning_search/meaningsearch/Relation -/
def k6 : Class := { plain "com/example/meaning_search/meaningsearch/Relation" (some 5) with
  accessFlags := 16432
  interfaces := #[]
  cf := some (fileOf pool6 1 #[] #[{ accessFlags := 0, nameIndex := 75, descriptorIndex := 76, attributes := #[] }] 16432 29 #[] #[{ accessFlags := 16409, nameIndex := 5, descriptorIndex := 6, attributes := #[] }, { accessFlags := 16409, nameIndex := 9, descriptorIndex := 6, attributes := #[] }, { accessFlags := 16409, nameIndex := 12, descriptorIndex := 6, attributes := #[] }, { accessFlags := 16409, nameIndex := 15, descriptorIndex := 6, attributes := #[] }, { accessFlags := 16409, nameIndex := 18, descriptorIndex := 6, attributes := #[] }, { accessFlags := 4122, nameIndex := 21, descriptorIndex := 22, attributes := #[] }])
  fields := #[{ name := "BROADER", type := (.object "com/example/meaning_search/meaningsearch/Relation"), accessFlags := 16409, slot := 0, constantValue := 0 }, { name := "NARROWER", type := (.object "com/example/meaning_search/meaningsearch/Relation"), accessFlags := 16409, slot := 1, constantValue := 0 }, { name := "INSTANCE", type := (.object "com/example/meaning_search/meaningsearch/Relation"), accessFlags := 16409, slot := 2, constantValue := 0 }, { name := "SIBLING", type := (.object "com/example/meaning_search/meaningsearch/Relation"), accessFlags := 16409, slot := 3, constantValue := 0 }, { name := "RELATED", type := (.object "com/example/meaning_search/meaningsearch/Relation"), accessFlags := 16409, slot := 4, constantValue := 0 }, { name := "$VALUES", type := (.array (.object "com/example/meaning_search/meaningsearch/Relation")), accessFlags := 4122, slot := 5, constantValue := 0 }]
  methods := #[k6m0]
  instanceTypes := #[(.object "java/lang/String"), .int, .int]
  staticTypes := #[(.object "com/example/meaning_search/meaningsearch/Relation"), (.object "com/example/meaning_search/meaningsearch/Relation"), (.object "com/example/meaning_search/meaningsearch/Relation"), (.object "com/example/meaning_search/meaningsearch/Relation"), (.object "com/example/meaning_search/meaningsearch/Relation"), (.array (.object "com/example/meaning_search/meaningsearch/Relation"))]
  resolved := Array.replicate 83 none
  statics := some 0 }

def pool7 : Array CpInfo := pool [(1, u "java/lang/Cloneable"), (0, .class_ 1), (0, u "java/lang/Object"), (0, .class_ 3)] 3

/-- java/lang/Cloneable -/
def k7 : Class := { plain "java/lang/Cloneable" (some 0) with
  accessFlags := 1537
  interfaces := #[]
  cf := some (fileOf pool7 2 #[] #[] 1537 4 #[] #[])
  fields := #[]
  methods := #[]
  instanceTypes := #[]
  staticTypes := #[]
  resolved := Array.replicate 8 none
  statics := none }

/-- the primitive byte -/
def k8 : Class := { plain "byte" none with kind := .primitive 'B', accessFlags := 0x411 }
/-- [B -/
def k9 : Class := { plain "[B" (some 0) with kind := .array 8 .byte, interfaces := #[7, 4], accessFlags := 1041 }

/-- the primitive int -/
def k10 : Class := { plain "int" none with kind := .primitive 'I', accessFlags := 0x411 }
/-- [I -/
def k11 : Class := { plain "[I" (some 0) with kind := .array 10 .int, interfaces := #[7, 4], accessFlags := 1041 }

def heap : Heap := #[{ cls := 6, slots := #[.ref 1, .ref 2, .ref 3, .ref 4, .ref 5, .null], vm := .statics 6 },
  { cls := 6, slots := #[.null, .int 0, .int 0], vm := .none },
  { cls := 6, slots := #[.null, .int 1, .int 0], vm := .none },
  { cls := 6, slots := #[.null, .int 2, .int 0], vm := .none },
  { cls := 6, slots := #[.null, .int 3, .int 0], vm := .none },
  { cls := 6, slots := #[.null, .int 4, .int 0], vm := .none }]
def classes : Array Class := #[k0, k1, k2, k3, k4, k5, k6, k7, k8, k9, k10, k11]
def interned : List (Array UInt16 × Addr) := []
def slotsUsed : Nat := 21
def theMethod : MethodId := ⟨1, 1⟩
def args0 : Array Value := #[.int 7]
def aboutOver (below : List Frame) : State where
  vm := { classes := classes, interned := interned.toArray }
  heap := heap
  slotsUsed := slotsUsed
  threads := #[{ frames := .invoking theMethod args0 :: below }]
def below0 : List Frame := [.native { method := ⟨0, 0⟩, args := #[] }]
def about1 : State := aboutOver below0
def p0 : Program := .bare "" "" ""
def e0 : Env := launch0.env 0 0 0
theorem w_frames : about1.frames = Frame.invoking theMethod args0 :: below0 := rfl
set_option maxRecDepth 65536 in
theorem w_args : argsFit about1.vm theMethod args0 = true := by decide +kernel
set_option maxRecDepth 65536 in
theorem w_heap : heapFits about1 = true := by decide +kernel
set_option maxRecDepth 65536 in
theorem w_runnable : about1.curStatus? = some .runnable := by decide +kernel
set_option maxRecDepth 65536 in
theorem w_alone : about1.alone = true := by decide +kernel
set_option maxRecDepth 65536 in
theorem w_named : about1.methodNamed? x = some theMethod := by decide +kernel
set_option maxRecDepth 65536 in
theorem w_hears : about1.hears theMethod below0 = true := by decide +kernel
set_option maxRecDepth 65536 in
theorem w_ripe : about1.ripe theMethod args0 below0 = true := by decide +kernel
theorem w_running : about1.status = .running := rfl
set_option maxRecDepth 65536 in
theorem w_room : about1.hasRoom e0.platform room_1 = true :=
  launch0.hasRoom_least _ room_1 (by decide +kernel) (by decide +kernel) (by decide +kernel) (by decide +kernel) (by decide +kernel) (by decide +kernel)
theorem allAtoms_all (ts : List Jvm.Cond) (a : Array Jvm.Value) (st : Jvm.State) : (allAtoms ts).before a st = ts.all (fun c => c.before a st) := by
  induction ts with
  | nil => rfl
  | cons c t ih =>
    show (Jvm.Cond.and c (allAtoms t)).before a st = _
    rw [Jvm.Cond.before_and, ih, List.all_cons]
def words1 : List Jvm.Cond := Jvm.Cond.code x code maxLocals ret :: tables_1
/-- a 'code' word, met by the world's own term for the bytes: nothing is compared byte by byte -/
theorem code_word {y : MethodName} {bytes : ByteArray} {mx : Nat} {rt : Option FieldType} {a : Array Value} {s : State} {m : MethodId} {meth : Method} {c : Code} (h1 : s.methodNamed? y = some m) (h2 : s.vm.method? m = some meth) (h3 : meth.code = some c) (h4 : c.code = bytes)
    (h5 : (c.maxLocals == mx && c.exceptionTable.isEmpty && decide (c.maxStack ≤ mostOperands) && decide (meth.sig.returnType = rt) && !meth.locks && decide (parseMethodDescriptor y.desc = some meth.sig)) = true) : (Jvm.Cond.code y bytes mx rt).before a s = true := by
  simp only [Bool.and_eq_true, beq_iff_eq, Bool.not_eq_true', decide_eq_true_eq] at h5
  obtain ⟨⟨⟨⟨⟨g1, g2⟩, g3⟩, g4⟩, g5⟩, g6⟩ := h5
  simp [Cond.before, Cond.holds, Cond.value, h1, h2, h3, h4, g1, g2, g3, g4, g5, g6]
def isCode : Jvm.Cond → Bool
  | .code _ _ _ _ => true
  | _ => false
theorem all_split {L : List Jvm.Cond} {P : Jvm.Cond → Bool} (h1 : L.all (fun c => isCode c || P c) = true) (h2 : ∀ c ∈ L.filter isCode, P c = true) : L.all P = true := by
  refine List.all_eq_true.mpr fun c hc => ?_
  have h := List.all_eq_true.mp h1 c hc
  rcases Bool.eq_false_or_eq_true (isCode c) with hi | hi
  · exact h2 c (List.mem_filter.mpr ⟨hc, hi⟩)
  · simpa [hi] using h
set_option maxRecDepth 65536 in
theorem w_c0 : (Jvm.Cond.code x code maxLocals ret).before args0 about1 = true := code_word (m := ⟨1, 1⟩) (meth := k1m1) (c := k1c1) (by decide +kernel) rfl rfl rfl (by decide +kernel)
set_option maxRecDepth 65536 in
theorem w_c1 : (Jvm.Cond.code ({ cls := "com/example/meaning_search/meaningsearch/Relation", name := "inverse", desc := "()Lcom/example/meaning_search/meaningsearch/Relation;" } : Jvm.MethodName) prog_15_method_4_code (1 : Nat) (Option.some (Jvm.ClassFile.FieldType.object "com/example/meaning_search/meaningsearch/Relation"))).before args0 about1 = true := code_word (m := ⟨6, 0⟩) (meth := k6m0) (c := k6c0) (by decide +kernel) rfl rfl rfl (by decide +kernel)
set_option maxRecDepth 65536 in
theorem w_c2 : (Jvm.Cond.code ({ cls := "java/lang/Enum", name := "ordinal", desc := "()I" } : Jvm.MethodName) jdk_37_method_2_code (1 : Nat) (Option.some Jvm.ClassFile.FieldType.int)).before args0 about1 = true := code_word (m := ⟨5, 0⟩) (meth := k5m0) (c := k5c0) (by decide +kernel) rfl rfl rfl (by decide +kernel)
def codes1 : List Jvm.Cond := [Jvm.Cond.code x code maxLocals ret, Jvm.Cond.code ({ cls := "com/example/meaning_search/meaningsearch/Relation", name := "inverse", desc := "()Lcom/example/meaning_search/meaningsearch/Relation;" } : Jvm.MethodName) prog_15_method_4_code (1 : Nat) (Option.some (Jvm.ClassFile.FieldType.object "com/example/meaning_search/meaningsearch/Relation")), Jvm.Cond.code ({ cls := "java/lang/Enum", name := "ordinal", desc := "()I" } : Jvm.MethodName) jdk_37_method_2_code (1 : Nat) (Option.some Jvm.ClassFile.FieldType.int)]
set_option maxRecDepth 65536 in
theorem codes_eq : words1.filter isCode = codes1 := rfl
theorem w_codes : ∀ c ∈ words1.filter isCode, c.before args0 about1 = true := by
  rw [codes_eq]
  intro c hc
  simp only [codes1, List.mem_cons, List.not_mem_nil, or_false] at hc
  rcases hc with rfl | rfl | rfl
  · exact w_c0
  · exact w_c1
  · exact w_c2
set_option maxRecDepth 65536 in
theorem w_t1 : (words1.take 24).all (fun c => isCode c || c.before args0 about1) = true := by decide +kernel
set_option maxRecDepth 65536 in
theorem w_t2 : (words1.drop 24).all (fun c => isCode c || c.before args0 about1) = true := by decide +kernel
theorem w_tables : (allAtoms (Jvm.Cond.code x code maxLocals ret :: tables_1)).before args0 about1 = true := by
  rw [allAtoms_all]
  show words1.all (fun c => c.before args0 about1) = true
  refine all_split ?_ w_codes
  rw [← List.take_append_drop 24 words1, List.all_append, w_t1, w_t2]
  rfl
set_option maxRecDepth 65536 in
theorem w_case : (Jvm.Cond.and given_1 narrow_1).before args0 about1 = true := by decide +kernel
theorem w_applies : (headSpec (Jvm.Cond.code x code maxLocals ret :: tables_1) room_1).applies x e0.platform about1 = true :=
  (Spec.applies_iff w_frames).mpr ⟨w_running, w_runnable, w_alone, w_named, w_hears, w_ripe, w_room, w_tables⟩
theorem atStart : AtStart classFile x code maxLocals ret World_1 tables_1 room_1 Calls_1 rest_1 Pre_1 launch0 p0 e0 about1 theMethod args0 below0 :=
  ⟨lists_1, trivial, launch0.admits_env _ _ _, launch0.least_env, fairChoices_fair.cas, fairChoices_fair.clock, w_frames, w_args, w_heap, w_applies, trivial, trivial, w_case⟩
end start1
theorem witness_1 : WitnessClaimed_1 := ⟨start1.p0, start1.e0, start1.about1, start1.theMethod, start1.args0, start1.below0, start1.atStart⟩
end Jvm.Pilot.@@N@@
