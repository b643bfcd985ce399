import JvmDerived
import JvmDerived.Pilot.@@N@@Statement
import JvmDerived.Pilot.@@N@@Code
set_option linter.unusedVariables false
set_option linter.unusedSimpArgs false
namespace Jvm.RoadKit
open Sem ClassFile Op Lib Jvm.Stand Jvm.Free Jvm.LawKit
section Own
variable {p : Program} {l : Launch} {e : Env} {R : Room} {s : State} {m : MethodId} {args : Array Value} {below : List Frame} {meth : Method} {c : Code} {T T' : State} {locs : List Loc} {cells slots : Nat} {Z : State} {h0 h : Heap} {a0 : Array Value} {Q Q' : Option Value → Heap → List Loc → Prop} {rm rm0 : Room}
/-- from here on the walk returns, and what it leaves is Q -/
def own_Ends (p : Program) (e : Env) (below : List Frame) (s : State) (Q : Option Value → Heap → List Loc → Prop) (rm : Room) (T : State) (g : JFrame) : Prop :=
  ∃ s₂ o, Steps p.tables e below (T.setTop g) s₂ ∧ s₂.status = .running ∧ Ended s₂ below o ∧ ∃ v L, o = .returned v ∧ Q v s₂.heap L ∧ FrameEnd s o s₂ L rm.cells rm.slots
theorem own_go {g g' : JFrame} (h : ∀ t, Steps p.tables e below (T'.setTop g') t → Steps p.tables e below (T.setTop g) t) (H : own_Ends p e below s Q rm T' g') : own_Ends p e below s Q rm T g := by
  obtain ⟨s₂, o, h1, r⟩ := H
  exact ⟨s₂, o, h _ h1, r⟩
/-- a goal that may be stepped back -/
def own_Closed (p : Program) (e : Env) (below : List Frame) (G : State → JFrame → Prop) : Prop := ∀ (T T' : State) (g g' : JFrame), (∀ t, Steps p.tables e below (T'.setTop g') t → Steps p.tables e below (T.setTop g) t) → G T' g' → G T g
theorem own_closed : own_Closed p e below (own_Ends p e below s Q rm) := fun _ _ _ _ h H => own_go h H
theorem own_cast {g g' : JFrame} (q : g = g') (H : own_Ends p e below s Q rm T g') : own_Ends p e below s Q rm T g := q ▸ H
/-- it gives r back, and the heap as it was -/
def own_QP (h0 : Heap) (r : Option Value) (v : Option Value) (h : Heap) (L : List Loc) : Prop := v = r ∧ L = [] ∧ h = h0
theorem own_lrem (x y : Int64) : x - (x / y) * y = x % y := by
  apply Int64.toInt_inj.mp
  have h1 := Int64.le_toInt (x % y)
  have h2 := Int64.toInt_lt (x % y)
  rw [Int64.toInt_sub, Int64.toInt_mul, Int64.toInt_div, Int.bmod_mul_bmod, Int.sub_bmod_bmod, Int.mul_comm (x.toInt.tdiv y.toInt), ← Int.tmod_def, ← Int64.toInt_mod]
  exact Int.bmod_eq_of_le_mul_two (by omega) (by omega)
theorem own_lremM {g : JFrame} {target : State} (X : Stand p l e R s m args below meth c T locs cells slots) (hx : p.tables.exec = Jvm.exec) (hg : g.method = m) {x y : Int64} {rest : List Value} (hd : decode c.code g.pc = .ok (.lrem, 1)) (hs : g.stack = .long y :: .long x :: rest) (hy : y ≠ 0)
    (hr : Steps p.tables e below (T.setTop { g with pc := g.pc + 1, stack := .long (x % y) :: rest }) target) : Steps p.tables e below (T.setTop g) target := by
  have q : x - x / y * y = x % y := own_lrem x y
  exact XS.lrem X.here hx hg hd hs hy (by rw [q]; exact hr)
/-- a body's contract -/
def own_Met (l : Launch) (Z : State) (y : MethodName) (bytes : ByteArray) (maxL : Nat) (ret : Option FieldType) (ws : List Cond) (rm : Room) (as' : Array Value) (h0 : Heap) (Q : Option Value → Heap → List Loc → Prop) : Prop :=
  MetFree l y (head1 (Cond.code y bytes maxL ret :: ws) rm) (fun a U => a = as' ∧ Z.Warmed39 U.vm ∧ U.heap = h0) (fun _ _ _ _ _ => True) (fun _ U o U' => ∃ v L, o = .returned v ∧ Q v U'.heap L ∧ FrameEnd U o U' L rm.cells rm.slots)
theorem own_met {y : MethodName} {bytes : ByteArray} {maxL : Nat} {ret : Option FieldType} {ws : List Cond} {as' : Array Value} (hy : plainFor y = true)
    (H : ∀ (p : Program) (e : Env) (s : State) (m : MethodId) (below : List Frame) (meth : Method) (c : Code) (s₁ : State), p.tables.exec = Jvm.exec → c.code = bytes → c.maxLocals = maxL → s.vm.findClass y.cls = some m.cls → meth.name = y.name → meth.sig.returnType = ret → meth.locks = false → Z.Warmed39 s.vm →
      Stand p l e rm s m as' below meth c s₁ [] 0 0 → s₁.heap = h0 → own_Ends p e below s Q rm s₁ (entryFrame m as' maxL)) : own_Met l Z y bytes maxL ret ws rm as' h0 Q := by
  refine MetFree.of_bodySF hy hisR ?_
  intro p e s m args below meth c s₁ Bd hml0 hP hK
  obtain ⟨rfl, hZ, hh⟩ := hP
  exact H p e s m below meth c s₁ Bd.exec Bd.bytes hml0 (findClass_of_methodNamed Bd.named) (name_of_methodNamed Bd.named Bd.method).1 Bd.returns Bd.notSynchronized hZ (Stand.of_body Bd) (by rw [← hh, Bd.state]; rfl)
theorem own_retI (X : Stand p l e R s m args below meth c T locs cells slots) (hx : p.tables.exec = Jvm.exec) (hlk : meth.locks = false) {pc : Nat} {Ls : Array Slot} {z : Int32} {rest : List Value} (hret : meth.sig.returnType = some .int) (hd : decode c.code pc = .ok (.ireturn, 1))
    (hk : cells ≤ rm.cells) (hn : slots ≤ rm.slots) (hq : Q (some (.int z)) T.heap locs) : own_Ends p e below s Q rm T (mkF m pc Ls (.int z :: rest)) := by
  obtain ⟨fs, hr, hrun, hended, hW, hsame⟩ := X.leave (v := some (.int z)) (fun h => by rw [hret] at h; cases h) hlk
  exact ⟨_, _, retOut X hx hret rfl (Or.inl ⟨rfl, Or.inl rfl, z, rfl⟩) hd hr, hrun, hended, _, _, rfl, hq, ⟨_, rfl⟩, hW, hsame.mono hk hn⟩
theorem own_retN (X : Stand p l e R s m args below meth c T locs cells slots) (hx : p.tables.exec = Jvm.exec) (hlk : meth.locks = false) {pc : Nat} {Ls : Array Slot} {z z' : Int32} {t : FieldType} {rest : List Value} (hret : meth.sig.returnType = some t) (ht : t = .boolean ∨ t = .byte ∨ t = .char ∨ t = .short) (hd : decode c.code pc = .ok (.ireturn, 1)) (hz : nar t z = z')
    (hk : cells ≤ rm.cells) (hn : slots ≤ rm.slots) (hq : Q (some (.int z')) T.heap locs) : own_Ends p e below s Q rm T (mkF m pc Ls (.int z :: rest)) := by
  subst hz
  obtain ⟨fs, hr, hrun, hended, hW, hsame⟩ := X.leave (v := some (.int (nar t z))) (fun h => by rw [hret] at h; cases h) hlk
  exact ⟨_, _, retN X hx hret ht hd hr, hrun, hended, _, _, rfl, hq, ⟨_, rfl⟩, hW, hsame.mono hk hn⟩
theorem own_retA (X : Stand p l e R s m args below meth c T locs cells slots) (hx : p.tables.exec = Jvm.exec) (hlk : meth.locks = false) {pc : Nat} {Ls : Array Slot} {w : Value} {t : FieldType} {rest : List Value} (hret : meth.sig.returnType = some t) (ht : t.isReference = true) (hw : w.isRef = true) (hd : decode c.code pc = .ok (.areturn, 1))
    (hk : cells ≤ rm.cells) (hn : slots ≤ rm.slots) (hq : Q (some w) T.heap locs) : own_Ends p e below s Q rm T (mkF m pc Ls (w :: rest)) := by
  obtain ⟨fs, hr, hrun, hended, hW, hsame⟩ := X.leave (v := some w) (fun h => by rw [hret] at h; cases h) hlk
  have hnw : narrow t w = w := by cases w <;> cases t <;> first | rfl | cases ht | cases hw
  exact ⟨_, _, retOut X hx hret hnw (Or.inr (Or.inr (Or.inr (Or.inr ⟨rfl, ht, hw⟩)))) hd hr, hrun, hended, _, _, rfl, hq, ⟨_, rfl⟩, hW, hsame.mono hk hn⟩
theorem own_retJ (X : Stand p l e R s m args below meth c T locs cells slots) (hx : p.tables.exec = Jvm.exec) (hlk : meth.locks = false) {pc : Nat} {Ls : Array Slot} {z : Int64} {rest : List Value} (hret : meth.sig.returnType = some .long) (hd : decode c.code pc = .ok (.lreturn, 1))
    (hk : cells ≤ rm.cells) (hn : slots ≤ rm.slots) (hq : Q (some (.long z)) T.heap locs) : own_Ends p e below s Q rm T (mkF m pc Ls (.long z :: rest)) := by
  obtain ⟨fs, hr, hrun, hended, hW, hsame⟩ := X.leave (v := some (.long z)) (fun h => by rw [hret] at h; cases h) hlk
  exact ⟨_, _, retOut X hx hret rfl (Or.inr (Or.inl ⟨rfl, rfl, z, rfl⟩)) hd hr, hrun, hended, _, _, rfl, hq, ⟨_, rfl⟩, hW, hsame.mono hk hn⟩
theorem own_retV (X : Stand p l e R s m args below meth c T locs cells slots) (hx : p.tables.exec = Jvm.exec) (hlk : meth.locks = false) {pc : Nat} {Ls : Array Slot} (hret : meth.sig.returnType = none) (hd : decode c.code pc = .ok (.return_, 1))
    (hk : cells ≤ rm.cells) (hn : slots ≤ rm.slots) (hq : Q none T.heap locs) : own_Ends p e below s Q rm T (mkF m pc Ls []) := by
  obtain ⟨fs, hr, hrun, hended, hW, hsame⟩ := X.leave (v := none) (fun _ => rfl) hlk
  exact ⟨_, _, X.returnOut hx hret hd hr, hrun, hended, _, _, rfl, hq, ⟨_, rfl⟩, hW, hsame.mono hk hn⟩
/-- what an instance method's words say besides: its own class declares it; that class is no interface; the look-up from there finds it -/
theorem own_decl {y : MethodName} {bytes : ByteArray} {maxL : Nat} {ret : Option FieldType} (w : (Cond.instanceMethod y).before a0 Z = true) (wc : (Cond.code y bytes maxL ret).before a0 Z = true) : (Cond.declares y).before a0 Z = true := by
  obtain ⟨mk, methM, hn, hm, hs, -⟩ := Cond.instanceMethod_spec w
  obtain ⟨m2, c, h1, -, -, -, -, -, -, hsig⟩ := Cond.code_spec hn wc
  cases hm.symm.trans h1
  simp [Cond.before, Cond.holds, Cond.value, hn, hm, hs, hsig]
theorem own_nf {C6 : String} {y y6 : MethodName} (w6 : (Cond.selects C6 y6 y6).before a0 Z = true) (h6 : y6.cls = y.cls) : NotFace Z y := fun r0 h0 => by
  obtain ⟨c2, r2, m2, q1, q2, q3, q4, kP, hkP, hkPi⟩ := Cond.selects_spec w6
  have e1 := findClass_of_methodNamed q3
  have e2 := findClass_of_methodNamed h0
  rw [h6] at e1
  have q := Option.some.inj (e1.symm.trans e2)
  exact ⟨kP, by rw [← q]; exact hkP, hkPi⟩
theorem own_same {C6 : String} {y y6 : MethodName} (w : (Cond.instanceMethod y).before a0 Z = true) (w6 : (Cond.selects C6 y6 y6).before a0 Z = true) (h6 : y6.cls = y.cls) (hy : y.cls ≠ "java/lang/invoke/MethodHandle" ∧ y.cls ≠ "java/lang/invoke/VarHandle") : (Cond.sameMethod y.cls y.cls y.name y.desc).before a0 Z = true := by
  obtain ⟨mk, methM, hn, hm, hs, -⟩ := Cond.instanceMethod_spec w
  obtain ⟨kr, hk, hi⟩ := own_nf w6 h6 _ hn
  have e1 := findClass_of_methodNamed hn
  have e2 := State.methodFound?_of_named hn hy
  simp [Cond.before, Cond.holds, Cond.value, e1, e2, hn, hk, hi]
/-- invokevirtual by the contract of the body that the receiver's class selects -/
theorem own_callV {G : State → JFrame → Prop} (hG : own_Closed p e below G) (X : Stand p l e R s m args below meth c T locs cells slots) (hx : p.tables.exec = Jvm.exec) (hZ : Z.Warmed39 s.vm) {own C : String} {index : Nat} {y z : MethodName} (hown : s.vm.findClass own = some m.cls)
    (w1 : (Cond.methodLink own index y).before a0 Z = true) (w2 : (Cond.declares y).before a0 Z = true) (w3 : (Cond.selects C y z).before a0 Z = true) (w4 : (Cond.instanceMethod z).before a0 Z = true) {C6 : String} {y6 : MethodName} (w6 : (Cond.selects C6 y6 y6).before a0 Z = true) (h6 : y6.cls = y.cls) (hy : y.cls ≠ "java/lang/invoke/MethodHandle" ∧ y.cls ≠ "java/lang/invoke/VarHandle")
    {bytes : ByteArray} {maxL : Nat} {ret : Option FieldType} {as' : Array Value} (hM : own_Met l Z z bytes maxL ret [] rm as' h Q') (wc : (Cond.code z bytes maxL ret).before a0 Z = true) (wz : (Cond.initialized z.cls).before a0 Z = true)
    {b : Addr} (eT : T.heap = h) (E : Exa Z h b C) {pc W : Nat} {Ls : Array Slot} {argsL rest : List Value} (hsize : Ls.size = c.maxLocals) (hlen : ∀ sig, parseMethodDescriptor y.desc = some sig → argsL.length = sig.parameters.length)
    (hW : (rest.map fun v => v.category).sum ≤ W) (hf : rm.frames + 1 ≤ R.frames) (hl : W + (maxL + 11) + rm.locals ≤ R.locals) (hc : cells + rm.cells ≤ R.cells) (hn : slots + rm.slots ≤ R.slots)
    (hdg : decode c.code pc = .ok (.invokevirtual index, 3)) (has : (Value.ref b :: argsL).toArray = as') {st : List Value} (hst : st = argsL.reverse ++ .ref b :: rest)
    (k : ∀ (T' : State) (L : List Loc) (v : Option Value), Stand p l e R s m args below meth c T' (locs ++ L) (cells + rm.cells) (slots + rm.slots) → Q' v T'.heap L → G T' (mkF m (pc + 3) Ls (v.toList ++ rest))) :
    G T (mkF m pc Ls st) := by
  subst hst
  obtain ⟨cq, kq, qa, qb, qc⟩ := isOf hZ eT E
  obtain ⟨v, _, ⟨T4, L4, k4, n4⟩, -, X4, ⟨Lc, hQ, l4, y4, z4⟩, st4⟩ := X.virtualBack hx (y := y) (z := z) hown (mvT hZ w1) (mvT hZ w2) (own_nf (a0 := #[]) (mvT hZ w6) h6) (mvT hZ w3) (mvT hZ w4) hy (backOf (W := W) hM hZ wc wz hf hl) qa qc (g := mkF m pc Ls (argsL.reverse ++ .ref b :: rest)) rfl hsize (Steps.refl _) (argsL := argsL) (rest := rest) hlen rfl (by simpa [JFrame.monitorRoom] using hW) hdg (fun _ _ => ⟨has, eT, hc, hn⟩)
  dsimp only [Pt.U, Pt.locs, Pt.cells, Pt.slots] at X4 l4 y4 z4 st4 hQ
  subst l4 y4 z4
  exact hG _ _ _ _ (fun t kt => st4.trans kt) (k _ _ _ X4 hQ)
/-- the same through a class that inherits the method -/
theorem own_callU {G : State → JFrame → Prop} (hG : own_Closed p e below G) (X : Stand p l e R s m args below meth c T locs cells slots) (hx : p.tables.exec = Jvm.exec) (hZ : Z.Warmed39 s.vm) {own C owner : String} {index : Nat} {y z : MethodName} (hown : s.vm.findClass own = some m.cls)
    (w1 : (Cond.methodLink own index y).before a0 Z = true) (w0 : (Cond.sameMethod y.cls owner y.name y.desc).before a0 Z = true) (w2 : (Cond.declares ⟨owner, y.name, y.desc⟩).before a0 Z = true) (w3 : (Cond.selects C y z).before a0 Z = true) (w4 : (Cond.instanceMethod z).before a0 Z = true) (hy : owner ≠ "java/lang/invoke/MethodHandle" ∧ owner ≠ "java/lang/invoke/VarHandle")
    {bytes : ByteArray} {maxL : Nat} {ret : Option FieldType} {as' : Array Value} (hM : own_Met l Z z bytes maxL ret [] rm as' h Q') (wc : (Cond.code z bytes maxL ret).before a0 Z = true) (wz : (Cond.initialized z.cls).before a0 Z = true)
    {b : Addr} (eT : T.heap = h) (E : Exa Z h b C) {pc W : Nat} {Ls : Array Slot} {argsL rest : List Value} (hsize : Ls.size = c.maxLocals) (hlen : ∀ sig, parseMethodDescriptor y.desc = some sig → argsL.length = sig.parameters.length)
    (hW : (rest.map fun v => v.category).sum ≤ W) (hf : rm.frames + 1 ≤ R.frames) (hl : W + (maxL + 11) + rm.locals ≤ R.locals) (hc : cells + rm.cells ≤ R.cells) (hn : slots + rm.slots ≤ R.slots)
    (hdg : decode c.code pc = .ok (.invokevirtual index, 3)) (has : (Value.ref b :: argsL).toArray = as') {st : List Value} (hst : st = argsL.reverse ++ .ref b :: rest)
    (k : ∀ (T' : State) (L : List Loc) (v : Option Value), Stand p l e R s m args below meth c T' (locs ++ L) (cells + rm.cells) (slots + rm.slots) → Q' v T'.heap L → G T' (mkF m (pc + 3) Ls (v.toList ++ rest))) :
    G T (mkF m pc Ls st) := by
  subst hst
  obtain ⟨cq, kq, qa, qb, qc⟩ := isOf hZ eT E
  obtain ⟨v, _, ⟨T4, L4, k4, n4⟩, -, X4, ⟨Lc, hQ, l4, y4, z4⟩, st4⟩ := X.virtualBackUp hx (x := y) (y := z) hown (mvT hZ w1) (mvT hZ w0) (mvT hZ w2) hy (mvT hZ w3) (mvT hZ w4) (backOf (W := W) hM hZ wc wz hf hl) qa qc (g := mkF m pc Ls (argsL.reverse ++ .ref b :: rest)) rfl hsize (Steps.refl _) (argsL := argsL) (rest := rest) hlen rfl (by simpa [JFrame.monitorRoom] using hW) hdg (fun _ _ => ⟨has, eT, hc, hn⟩)
  dsimp only [Pt.U, Pt.locs, Pt.cells, Pt.slots] at X4 l4 y4 z4 st4 hQ
  subst l4 y4 z4
  exact hG _ _ _ _ (fun t kt => st4.trans kt) (k _ _ _ X4 hQ)
/-- a constructor by its contract -/
theorem own_callI {G : State → JFrame → Prop} (hG : own_Closed p e below G) (X : Stand p l e R s m args below meth c T locs cells slots) (hx : p.tables.exec = Jvm.exec) (hZ : Z.Warmed39 s.vm) {own : String} {index : Nat} {y : MethodName} (hy1 : y.name = "<init>") (hown : s.vm.findClass own = some m.cls)
    (w1 : (Cond.methodLink own index y).before a0 Z = true) (w4 : (Cond.instanceMethod y).before a0 Z = true) (hy : y.cls ≠ "java/lang/invoke/MethodHandle" ∧ y.cls ≠ "java/lang/invoke/VarHandle")
    {bytes : ByteArray} {maxL : Nat} {as' : Array Value} (hM : own_Met l Z y bytes maxL none [] rm as' h Q') (wc : (Cond.code y bytes maxL none).before a0 Z = true) (wz : (Cond.initialized y.cls).before a0 Z = true)
    {b : Addr} (eT : T.heap = h) {pc W : Nat} {Ls : Array Slot} {argsL rest : List Value} (hsize : Ls.size = c.maxLocals) (hlen : ∀ sig, parseMethodDescriptor y.desc = some sig → argsL.length = sig.parameters.length)
    (hW : (rest.map fun v => v.category).sum ≤ W) (hf : rm.frames + 1 ≤ R.frames) (hl : W + (maxL + 11) + rm.locals ≤ R.locals) (hc : cells + rm.cells ≤ R.cells) (hn : slots + rm.slots ≤ R.slots)
    (hdg : decode c.code pc = .ok (.invokespecial index, 3)) (has : (Value.ref b :: argsL).toArray = as') {st : List Value} (hst : st = argsL.reverse ++ .ref b :: rest)
    (k : ∀ (T' : State) (L : List Loc) (v : Option Value), Stand p l e R s m args below meth c T' (locs ++ L) (cells + rm.cells) (slots + rm.slots) → Q' v T'.heap L → G T' (mkF m (pc + 3) Ls (v.toList ++ rest))) :
    G T (mkF m pc Ls st) := by
  subst hst
  obtain ⟨v, _, ⟨T4, L4, k4, n4⟩, -, X4, ⟨Lc, hQ, l4, y4, z4⟩, st4⟩ := X.specialBack hx (y := y) hy1 hown (mvT hZ w1) (mvT hZ w4) (mvT hZ wc) hy (backOf (W := W) hM hZ wc wz hf hl) (g := mkF m pc Ls (argsL.reverse ++ .ref b :: rest)) rfl hsize (Steps.refl _) (a := b) (argsL := argsL) (rest := rest) hlen rfl (by simpa [JFrame.monitorRoom] using hW) hdg (fun _ _ => ⟨has, eT, hc, hn⟩)
  dsimp only [Pt.U, Pt.locs, Pt.cells, Pt.slots] at X4 l4 y4 z4 st4 hQ
  subst l4 y4 z4
  exact hG _ _ _ _ (fun t kt => st4.trans kt) (k _ _ _ X4 hQ)
/-- super.m(..) by its contract -/
theorem own_callX {G : State → JFrame → Prop} (hG : own_Closed p e below G) (X : Stand p l e R s m args below meth c T locs cells slots) (hx : p.tables.exec = Jvm.exec) (hZ : Z.Warmed39 s.vm) {own C : String} {index : Nat} {y : MethodName} (hown : s.vm.findClass own = some m.cls)
    (w1 : (Cond.methodLink own index y).before a0 Z = true) (w4 : (Cond.instanceMethod y).before a0 Z = true) (w5 : (Cond.superclass own y.cls).before a0 Z = true) {C6 : String} {y6 : MethodName} (w6 : (Cond.selects C6 y6 y6).before a0 Z = true) (h6 : y6.cls = y.cls) (hy : y.cls ≠ "java/lang/invoke/MethodHandle" ∧ y.cls ≠ "java/lang/invoke/VarHandle") (hni : y.name ≠ "<init>")
    {bytes : ByteArray} {maxL : Nat} {ret : Option FieldType} {as' : Array Value} (hM : own_Met l Z y bytes maxL ret [] rm as' h Q') (wc : (Cond.code y bytes maxL ret).before a0 Z = true) (wz : (Cond.initialized y.cls).before a0 Z = true)
    {b : Addr} (eT : T.heap = h) (E : Exa Z h b C) {pc W : Nat} {Ls : Array Slot} {argsL rest : List Value} (hsize : Ls.size = c.maxLocals) (hlen : ∀ sig, parseMethodDescriptor y.desc = some sig → argsL.length = sig.parameters.length)
    (hW : (rest.map fun v => v.category).sum ≤ W) (hf : rm.frames + 1 ≤ R.frames) (hl : W + (maxL + 11) + rm.locals ≤ R.locals) (hc : cells + rm.cells ≤ R.cells) (hn : slots + rm.slots ≤ R.slots)
    (hdg : decode c.code pc = .ok (.invokespecial index, 3)) (has : (Value.ref b :: argsL).toArray = as') {st : List Value} (hst : st = argsL.reverse ++ .ref b :: rest)
    (k : ∀ (T' : State) (L : List Loc) (v : Option Value), Stand p l e R s m args below meth c T' (locs ++ L) (cells + rm.cells) (slots + rm.slots) → Q' v T'.heap L → G T' (mkF m (pc + 3) Ls (v.toList ++ rest))) :
    G T (mkF m pc Ls st) := by
  subst hst
  obtain ⟨v, _, ⟨T4, L4, k4, n4⟩, -, X4, ⟨Lc, hQ, l4, y4, z4⟩, st4⟩ := superBack X hx hZ (y := y) hown w1 (own_same w4 w6 h6 hy) w4 w5 hni (backOf (W := W) hM hZ wc wz hf hl) eT (Ins.self E) (g := mkF m pc Ls (argsL.reverse ++ .ref b :: rest)) rfl hsize wc (argsL := argsL) (rest := rest) hlen rfl (by simpa [JFrame.monitorRoom] using hW) hdg (fun _ _ => ⟨has, eT, hc, hn⟩)
  dsimp only [Pt.U, Pt.locs, Pt.cells, Pt.slots] at X4 l4 y4 z4 st4 hQ
  subst l4 y4 z4
  exact hG _ _ _ _ (fun t kt => st4.trans kt) (k _ _ _ X4 hQ)
/-- invokestatic by the callee's contract -/
theorem own_callS {G : State → JFrame → Prop} (hG : own_Closed p e below G) (X : Stand p l e R s m args below meth c T locs cells slots) (hx : p.tables.exec = Jvm.exec) (hZ : Z.Warmed39 s.vm) {own : String} {index : Nat} {y : MethodName} (hown : s.vm.findClass own = some m.cls)
    (w1 : (Cond.methodLink own index y).before a0 Z = true) (w2 : (Cond.static y).before a0 Z = true) (hy : y.cls ≠ "java/lang/invoke/MethodHandle" ∧ y.cls ≠ "java/lang/invoke/VarHandle")
    {bytes : ByteArray} {maxL : Nat} {ret : Option FieldType} {as' : Array Value} (hM : own_Met l Z y bytes maxL ret [] rm as' h Q') (wc : (Cond.code y bytes maxL ret).before a0 Z = true) (wz : (Cond.initialized y.cls).before a0 Z = true)
    (eT : T.heap = h) {pc W : Nat} {Ls : Array Slot} {argsL rest : List Value} (hsize : Ls.size = c.maxLocals) (hlen : ∀ sig, parseMethodDescriptor y.desc = some sig → argsL.length = sig.parameters.length)
    (hW : (rest.map fun v => v.category).sum ≤ W) (hf : rm.frames + 1 ≤ R.frames) (hl : W + (maxL + 11) + rm.locals ≤ R.locals) (hc : cells + rm.cells ≤ R.cells) (hn : slots + rm.slots ≤ R.slots)
    (hdg : decode c.code pc = .ok (.invokestatic index, 3)) (has : argsL.toArray = as') {st : List Value} (hst : st = argsL.reverse ++ rest)
    (k : ∀ (T' : State) (L : List Loc) (v : Option Value), Stand p l e R s m args below meth c T' (locs ++ L) (cells + rm.cells) (slots + rm.slots) → Q' v T'.heap L → G T' (mkF m (pc + 3) Ls (v.toList ++ rest))) :
    G T (mkF m pc Ls st) := by
  subst hst
  obtain ⟨v, _, ⟨T4, L4, k4, n4⟩, -, X4, ⟨Lc, hQ, l4, y4, z4⟩, st4⟩ := Jvm.LawKit.callS X hx (y := y) hown (mvT hZ w1) (mvT hZ w2) (mvT hZ wz) (mvT hZ wc) hy (backOf (W := W) hM hZ wc wz hf hl) (g := mkF m pc Ls (argsL.reverse ++ rest)) rfl hsize (argsL := argsL) (rest := rest) hlen rfl (by simpa [JFrame.monitorRoom] using hW) hdg (fun _ _ => ⟨has, eT, hc, hn⟩)
  dsimp only [Pt.U, Pt.locs, Pt.cells, Pt.slots] at X4 l4 y4 z4 st4 hQ
  subst l4 y4 z4
  exact hG _ _ _ _ (fun t kt => st4 t kt) (k _ _ _ X4 hQ)
/-- it gives r back; the heap has grown at the most -/
def own_QE (h0 : Heap) (r : Option Value) (v : Option Value) (h : Heap) (L : List Loc) : Prop := v = r ∧ L = [] ∧ Ext h0 h
theorem own_ext0 {h : Heap} : Ext h h := ⟨Nat.le_refl _, fun _ _ q => q⟩
theorem own_extT {h1 h2 h3 : Heap} (A : Ext h1 h2) (B : Ext h2 h3) : Ext h1 h3 := ⟨Nat.le_trans A.1 B.1, fun a c q => B.2 a c (A.2 a c q)⟩
theorem own_len (X : Stand p l e R s m args below meth c T locs cells slots) (hx : p.tables.exec = Jvm.exec) (hZ : Z.Warmed39 s.vm) (eT : T.heap = h) {a : Addr} {cl : Cell} {ty : FieldType} (A : Arr Z h a cl ty) {z : Int32} (hz : cl.slots.size.toInt32 = z) {g : JFrame} (hg : g.method = m) {rest : List Value} (hs : g.stack = .ref a :: rest) (hd : decode c.code g.pc = .ok (.arraylength, 1)) (t : State)
    (hr : Steps p.tables e below (T.setTop { g with pc := g.pc + 1, stack := .int z :: rest }) t) : Steps p.tables e below (T.setTop g) t := by
  subst hz
  exact X.arraylength hx (by rw [eT]; exact A.1) (State.isArrayOf_alike hZ.alike A.2.1) hg hs hd t hr
theorem own_aald (X : Stand p l e R s m args below meth c T locs cells slots) (hx : p.tables.exec = Jvm.exec) (hZ : Z.Warmed39 s.vm) (eT : T.heap = h) {a : Addr} {cl : Cell} {ty : FieldType} (A : Arr Z h a cl ty) (ht : ty.isReference = true) {j : Int32} {v : Value} (hin : ¬ (j < 0 ∨ cl.slots.size ≤ j.toNatClampNeg)) (hv : cl.slots[j.toNatClampNeg]? = some v) {g : JFrame} (hg : g.method = m) {rest : List Value} (hs : g.stack = .int j :: .ref a :: rest) (hd : decode c.code g.pc = .ok (.aaload, 1)) (t : State)
    (hr : Steps p.tables e below (T.setTop { g with pc := g.pc + 1, stack := v :: rest }) t) : Steps p.tables e below (T.setTop g) t :=
  X.aaload hx (by rw [eT]; exact A.1) (State.isArrayOf_alike hZ.alike A.2.1) ht A.2.2 hin hv hg hs hd t hr
theorem own_lald (X : Stand p l e R s m args below meth c T locs cells slots) (hx : p.tables.exec = Jvm.exec) (hZ : Z.Warmed39 s.vm) (eT : T.heap = h) {a : Addr} {cl : Cell} (A : Arr Z h a cl .long) {j : Int32} {v : Value} (hin : ¬ (j < 0 ∨ cl.slots.size ≤ j.toNatClampNeg)) (hv : cl.slots[j.toNatClampNeg]? = some v) {g : JFrame} (hg : g.method = m) {rest : List Value} (hs : g.stack = .int j :: .ref a :: rest) (hd : decode c.code g.pc = .ok (.laload, 1)) (t : State)
    (hr : Steps p.tables e below (T.setTop { g with pc := g.pc + 1, stack := v :: rest }) t) : Steps p.tables e below (T.setTop g) t :=
  X.laload hx (by rw [eT]; exact A.1) (State.isArrayOf_alike hZ.alike A.2.1) A.2.2 hin hv hg hs hd t hr
theorem own_bald (X : Stand p l e R s m args below meth c T locs cells slots) (hx : p.tables.exec = Jvm.exec) (hZ : Z.Warmed39 s.vm) (eT : T.heap = h) {a : Addr} {cl : Cell} (A : Arr Z h a cl .byte) {j : Int32} {v : Value} (hin : ¬ (j < 0 ∨ cl.slots.size ≤ j.toNatClampNeg)) (hv : cl.slots[j.toNatClampNeg]? = some v) {g : JFrame} (hg : g.method = m) {rest : List Value} (hs : g.stack = .int j :: .ref a :: rest) (hd : decode c.code g.pc = .ok (.baload, 1)) (t : State)
    (hr : Steps p.tables e below (T.setTop { g with pc := g.pc + 1, stack := v :: rest }) t) : Steps p.tables e below (T.setTop g) t :=
  X.baloadBytes hx (by rw [eT]; exact A.1) (State.isArrayOf_alike hZ.alike A.2.1) A.2.2 hin hv hg hs hd t hr
/-- a field that the case says holds what the other term holds -/
theorem own_fldR {t u : Term} {C n d : String} {a b : Addr} (ev : t.eval args s none [] s = some (.ref a)) (ev2 : u.eval args s none [] s = some (.ref b)) (hq : (Cond.eq (Term.field t C n d) u).value args s none s [] = some true) : Fld s s.heap a C n d (.ref b) := by
  obtain ⟨x, y, h1, h2, k1, k2⟩ := cmp_v (Or.inl hq)
  cases ev2.symm.trans h2
  have hx : x = .ref b := by
    cases x <;> simp [Kin, Value.isRef] at k1 k2
    · simp [Cond.value, h1, h2] at hq
    · simpa [Cond.value, h1, h2] using hq
  subst hx
  exact Fld.start ((fld_at ev).symm.trans h1)
/-- an element that the case says is what the other term is -/
theorem own_elemR {t u : Term} {k : Int32} {a b : Addr} {cl : Cell} (ev : t.eval args s none [] s = some (.ref a)) (hc : s.heap[a]? = some cl) (ev2 : u.eval args s none [] s = some (.ref b)) (hq : (Cond.eq (Term.elem t (Term.int k)) u).value args s none s [] = some true) : cl.slots[k.toNatClampNeg]? = some (.ref b) := by
  obtain ⟨x, y, h1, h2, k1, k2⟩ := cmp_v (Or.inl hq)
  cases ev2.symm.trans h2
  have hx : x = .ref b := by
    cases x <;> simp [Kin, Value.isRef] at k1 k2
    · simp [Cond.value, h1, h2] at hq
    · simpa [Cond.value, h1, h2] using hq
  subst hx
  exact (elem_in h1 ev rfl hc).2
/-- an element that the case says is this int -/
theorem own_elemI {t : Term} {k w : Int32} {a : Addr} {cl : Cell} (ev : t.eval args s none [] s = some (.ref a)) (hc : s.heap[a]? = some cl) (hq : (Cond.eq (Term.elem t (Term.int k)) (Term.int w)).value args s none s [] = some true) : cl.slots[k.toNatClampNeg]? = some (.int w) := by
  obtain ⟨x, y, h1, h2, k1, k2⟩ := cmp_v (Or.inl hq)
  have e2 : y = .int w := (Option.some.inj h2).symm
  subst e2
  obtain ⟨z, rfl⟩ : ∃ z, x = .int z := k2
  have e3 : z = w := by simpa [Cond.value, h1, h2] using hq
  subst e3
  exact (elem_in h1 ev rfl hc).2
/-- a length that the case says -/
theorem own_lenI {t : Term} {k : Int32} {a : Addr} {cl : Cell} {ty : FieldType} (ev : t.eval args s none [] s = some (.ref a)) (A : Arr s s.heap a cl ty) (hq : (Cond.eq (Term.length t) (Term.int k)).value args s none s [] = some true) (hk : ¬ k < 0) : cl.slots.size = k.toNatClampNeg := by
  obtain ⟨x, y, h1, h2, k1, k2⟩ := cmp_v (Or.inl hq)
  have e2 : y = .int k := (Option.some.inj h2).symm
  subst e2
  obtain ⟨z, rfl⟩ : ∃ z, x = .int z := k2
  have e3 : z = k := by simpa [Cond.value, h1, h2] using hq
  subst e3
  have ha : s.arrayAt? a = some cl := A.fin (Vm.Alike.refl _)
  by_cases hlt : cl.slots.size < 2 ^ 31
  · have q : cl.slots.size.toInt32 = z := by
      have h3 := len_f ev ha hlt
      rw [h1] at h3
      exact (Value.int.inj (Option.some.inj h3)).symm
    rw [← q]; simp only [Int32.toNatClampNeg, len_toInt hlt]; rfl
  · simp [Term.eval, ev, ha, hlt] at h1
/-- a field that the case says holds this int -/
theorem own_fldI {t : Term} {C n d : String} {k : Int32} {a : Addr} (ev : t.eval args s none [] s = some (.ref a)) (hq : (Cond.eq (Term.field t C n d) (Term.int k)).value args s none s [] = some true) : Fld s s.heap a C n d (.int k) := by
  obtain ⟨x, y, h1, h2, k1, k2⟩ := cmp_v (Or.inl hq)
  have e2 : y = .int k := (Option.some.inj h2).symm
  subst e2
  obtain ⟨z, rfl⟩ : ∃ z, x = .int z := k2
  have e3 : z = k := by simpa [Cond.value, h1, h2] using hq
  subst e3
  exact Fld.start ((fld_at ev).symm.trans h1)
end Own
end Jvm.RoadKit
namespace Jvm.Pilot.@@N@@
open Jvm Jvm.ClassFile Sem Op Lib Jvm.Free Jvm.Stand Jvm.LawKit Jvm.RoadKit Bundle Jvm.Pilot.@@N@@.Jvm.D
theorem pd_0 : parseMethodDescriptor "()Z" = some ⟨[], some .boolean⟩ := by decide +kernel
theorem pd_1 : parseMethodDescriptor "(Z)V" = some ⟨[.boolean], none⟩ := by decide +kernel
theorem d1_0 : decode prog_75_method_5_code 0 = .ok (.aload_n 0, 1) := by decide +kernel
theorem d1_1 : decode prog_75_method_5_code 1 = .ok (.getfield 33, 3) := by decide +kernel
theorem d1_4 : decode prog_75_method_5_code 4 = .ok (.ireturn, 1) := by decide +kernel
theorem rm1_pn : plainFor (⟨"com/example/accu_settle/accusettle/invoice/DocumentType", "refersToAnother", "()Z"⟩ : MethodName) = true := plainFor_of_name (show plainName "com/example/accu_settle/accusettle/invoice/DocumentType" = true by first | (simp [plainName, overriddenIn]; done) | decide +kernel)
theorem rm1_ef (mI : MethodId) (a : Addr) : entryFrame mI #[(.ref a)] 1 = mkF mI 0 #[.val (.ref a)] [] := by first | (simp [entryFrame, mkF, argsToLocals, Value.category]; done) | rfl
set_option maxRecDepth 65536 in
set_option maxHeartbeats 40000000 in
theorem rm1 (l : Launch) (Z : State) (a0 : Array Value) (hw : ∀ d ∈ tables_1, d.before a0 Z = true) (ws : List Jvm.Cond) (h0 : Heap) (a : Addr) (w : Int32) (F : Fld Z h0 a "com/example/accu_settle/accusettle/invoice/DocumentType" "refersToAnother" "Z" (.int w)) (hz : nar .boolean w = w) :
    own_Met l Z (⟨"com/example/accu_settle/accusettle/invoice/DocumentType", "refersToAnother", "()Z"⟩ : MethodName) prog_75_method_5_code 1 (some .boolean) ws ({ frames := 0, cells := 0, slots := 0, locals := 0 } : Room) #[(.ref a)] h0 (own_QP h0 (some (.int w))) := by
  refine own_met rm1_pn ?_
  intro pP eE sS mI bB mT cC s₁ hx hby hml hown hnm hret hlk hZ X0 e0
  replace hown : sS.vm.findClass "com/example/accu_settle/accusettle/invoice/DocumentType" = some mI.cls := hown
  refine own_cast (rm1_ef mI a) ?_
  refine own_go (T' := s₁) (g' := (mkF mI 1 #[.val (.ref a)] [(.ref a)])) (fun t_ kt_ => XS.aloadN X0.here hx rfl (hb hby d1_0) rfl rfl kt_) ?_
  obtain ⟨Ta1, Xa1, ea1, sta1⟩ := getF X0 hx hZ hown (host := "") (Or.inl (hw _ (List.mem_of_getElem? (i := 8) rfl))) Via.refl e0 F (g := (mkF mI 1 #[.val (.ref a)] [(.ref a)])) rfl rfl (hb hby d1_1)
  refine own_go (T' := Ta1) (g' := (mkF mI 4 #[.val (.ref a)] [(.int w)])) (fun t_ kt_ => sta1 _ kt_) ?_
  refine own_retN Xa1 hx hlk (t := .boolean) hret (by simp) (hb hby d1_4) hz (by decide) (by decide) ?_
  exact ⟨rfl, rfl, ea1⟩
theorem d2_0 : decode prog_75_method_6_code 0 = .ok (.aload_n 0, 1) := by decide +kernel
theorem d2_1 : decode prog_75_method_6_code 1 = .ok (.getfield 33, 3) := by decide +kernel
theorem d2_4 : decode prog_75_method_6_code 4 = .ok (.iload_n 1, 1) := by decide +kernel
theorem d2_5 : decode prog_75_method_6_code 5 = .ok (.if_icmp .eq 36, 3) := by decide +kernel
theorem d2_41 : decode prog_75_method_6_code 41 = .ok (.return_, 1) := by decide +kernel
theorem rm2_pn : plainFor (⟨"com/example/accu_settle/accusettle/invoice/DocumentType", "checkReference", "(Z)V"⟩ : MethodName) = true := plainFor_of_name (show plainName "com/example/accu_settle/accusettle/invoice/DocumentType" = true by first | (simp [plainName, overriddenIn]; done) | decide +kernel)
theorem rm2_ef (mI : MethodId) (a : Addr) (w : Int32) : entryFrame mI #[(.ref a), (.int w)] 3 = mkF mI 0 #[.val (.ref a), .val (.int w), .unset] [] := by first | (simp [entryFrame, mkF, argsToLocals, Value.category]; done) | rfl
set_option maxRecDepth 65536 in
set_option maxHeartbeats 40000000 in
theorem rm2 (l : Launch) (Z : State) (a0 : Array Value) (hw : ∀ d ∈ tables_1, d.before a0 Z = true) (ws : List Jvm.Cond) (h0 : Heap) (a : Addr) (w : Int32) (F : Fld Z h0 a "com/example/accu_settle/accusettle/invoice/DocumentType" "refersToAnother" "Z" (.int w)) :
    own_Met l Z (⟨"com/example/accu_settle/accusettle/invoice/DocumentType", "checkReference", "(Z)V"⟩ : MethodName) prog_75_method_6_code 3 none ws ({ frames := 0, cells := 0, slots := 0, locals := 0 } : Room) #[(.ref a), (.int w)] h0 (own_QP h0 none) := by
  refine own_met rm2_pn ?_
  intro pP eE sS mI bB mT cC s₁ hx hby hml hown hnm hret hlk hZ X0 e0
  replace hown : sS.vm.findClass "com/example/accu_settle/accusettle/invoice/DocumentType" = some mI.cls := hown
  refine own_cast (rm2_ef mI a w) ?_
  refine own_go (T' := s₁) (g' := (mkF mI 1 #[.val (.ref a), .val (.int w), .unset] [(.ref a)])) (fun t_ kt_ => XS.aloadN X0.here hx rfl (hb hby d2_0) rfl rfl kt_) ?_
  obtain ⟨Tb1, Xb1, eb1, stb1⟩ := getF X0 hx hZ hown (host := "") (Or.inl (hw _ (List.mem_of_getElem? (i := 8) rfl))) Via.refl e0 F (g := (mkF mI 1 #[.val (.ref a), .val (.int w), .unset] [(.ref a)])) rfl rfl (hb hby d2_1)
  refine own_go (T' := Tb1) (g' := (mkF mI 4 #[.val (.ref a), .val (.int w), .unset] [(.int w)])) (fun t_ kt_ => stb1 _ kt_) ?_
  refine own_go (T' := Tb1) (g' := (mkF mI 5 #[.val (.ref a), .val (.int w), .unset] [(.int w), (.int w)])) (fun t_ kt_ => XS.iloadN Xb1.here hx rfl (hb hby d2_4) rfl kt_) ?_
  refine own_go (T' := Tb1) (g' := (mkF mI 41 #[.val (.ref a), .val (.int w), .unset] [])) (fun t_ kt_ => XS.icmpYes Xb1.here hx rfl (pc0 := 5) (pc' := 41) rfl (hb hby d2_5) rfl (teq (rfl : w = w)).1 (by decide) (by decide) kt_) ?_
  refine own_retV Xb1 hx hlk hret (hb hby d2_41) (by decide) (by decide) ?_
  exact ⟨rfl, rfl, eb1⟩
theorem rm0_pn : plainFor x = true := plainFor_of_name (show plainName "com/example/accu_settle/accusettle/invoice/DocumentTypeCheckReferencePinLaw" = true by first | (simp [plainName, overriddenIn]; done) | decide +kernel)
theorem rm0_ef (mI : MethodId) (k : Int32) : entryFrame mI #[(.int k)] maxLocals = mkF mI 0 #[.val (.int k), .unset, .unset, .unset] [] := by first | (simp [entryFrame, mkF, argsToLocals, Value.category, maxLocals]; done) | rfl
set_option maxRecDepth 65536 in
set_option maxHeartbeats 40000000 in
theorem rm0 (l : Launch) (Z : State) (a0 : Array Value) (hw : ∀ d ∈ tables_1, d.before a0 Z = true) (ws : List Jvm.Cond) (h0 : Heap) (k : Int32) (ai : Addr) (S_ai : Sta Z h0 "com/example/accu_settle/accusettle/invoice/DocumentType" "INVOICE" "Lcom/example/accu_settle/accusettle/invoice/DocumentType;" (.ref ai)) (E_ai : Exa Z h0 ai "com/example/accu_settle/accusettle/invoice/DocumentType") (F_ai_refersToAnother : Fld Z h0 ai "com/example/accu_settle/accusettle/invoice/DocumentType" "refersToAnother" "Z" (.int 0)) (ac : Addr) (S_ac : Sta Z h0 "com/example/accu_settle/accusettle/invoice/DocumentType" "CANCELLATION" "Lcom/example/accu_settle/accusettle/invoice/DocumentType;" (.ref ac)) (E_ac : Exa Z h0 ac "com/example/accu_settle/accusettle/invoice/DocumentType") (F_ac_refersToAnother : Fld Z h0 ac "com/example/accu_settle/accusettle/invoice/DocumentType" "refersToAnother" "Z" (.int 1)) :
    own_Met l Z x code maxLocals ret ws room_1 #[(.int k)] h0 (own_QP h0 (some (.int 1))) := by
  refine own_met rm0_pn ?_
  intro pP eE sS mI bB mT cC s₁ hx hby hml hown hnm hret hlk hZ X0 e0
  replace hown : sS.vm.findClass "com/example/accu_settle/accusettle/invoice/DocumentTypeCheckReferencePinLaw" = some mI.cls := hown
  replace hml : cC.maxLocals = 4 := hml
  replace hret : mT.sig.returnType = (some .boolean) := hret
  refine own_cast (rm0_ef mI k) ?_
  refine own_go (T' := s₁) (g' := (mkF mI 1 #[.val (.int k), .unset, .unset, .unset] [(.int k)])) (fun t_ kt_ => XS.iloadN X0.here hx rfl (hb hby at_0) rfl kt_) ?_
  refine own_go (T' := s₁) (g' := (mkF mI 2 #[.val (.int k), .unset, .unset, .unset] [(.int (1 : Int32)), (.int k)])) (fun t_ kt_ => XS.iconst X0.here hx rfl (hb hby at_1) kt_) ?_
  refine own_go (T' := s₁) (g' := (mkF mI 3 #[.val (.int k), .unset, .unset, .unset] [(.int (k &&& (1 : Int32)))])) (fun t_ kt_ => XS.iand X0.here hx rfl (hb hby at_2) rfl kt_) ?_
  by_cases hc3_c1 : (k &&& (1 : Int32)) = (0 : Int32)
  · skip
    refine own_go (T' := s₁) (g' := (mkF mI 10 #[.val (.int k), .unset, .unset, .unset] [])) (fun t_ kt_ => XS.ifYes X0.here hx rfl (pc0 := 3) (pc' := 10) rfl (hb hby at_3) rfl ((if0 _ _).trans (teq hc3_c1).1) (by decide) (by decide) kt_) ?_
    refine own_go (T' := s₁) (g' := (mkF mI 11 #[.val (.int k), .unset, .unset, .unset] [(.int (0 : Int32))])) (fun t_ kt_ => XS.iconst X0.here hx rfl (hb hby at_10) kt_) ?_
    refine own_go (T' := s₁) (g' := (mkF mI 12 #[.val (.int k), .val (.int (0 : Int32)), .unset, .unset] [])) (fun t_ kt_ => XS.istoreN X0.here hx rfl (hb hby at_11) rfl (l' := #[.val (.int k), .val (.int (0 : Int32)), .unset, .unset]) rfl kt_) ?_
    refine own_go (T' := s₁) (g' := (mkF mI 13 #[.val (.int k), .val (.int (0 : Int32)), .unset, .unset] [(.int (0 : Int32))])) (fun t_ kt_ => XS.iloadN X0.here hx rfl (hb hby at_12) rfl kt_) ?_
    refine own_go (T' := s₁) (g' := (mkF mI 22 #[.val (.int k), .val (.int (0 : Int32)), .unset, .unset] [])) (fun t_ kt_ => XS.ifYes X0.here hx rfl (pc0 := 13) (pc' := 22) rfl (hb hby at_13) rfl ((if0 _ _).trans (teq (by decide : (0 : Int32) = (0 : Int32))).1) (by decide) (by decide) kt_) ?_
    obtain ⟨Tc2, Xc2, ec2, stc2⟩ := getS2 X0 hx hZ hown (host := "") (Or.inl (hw _ (List.mem_of_getElem? (i := 0) rfl))) Via.refl e0 S_ai (g := (mkF mI 22 #[.val (.int k), .val (.int (0 : Int32)), .unset, .unset] [])) rfl (hb hby at_22)
    refine own_go (T' := Tc2) (g' := (mkF mI 25 #[.val (.int k), .val (.int (0 : Int32)), .unset, .unset] [(.ref ai)])) (fun t_ kt_ => stc2 _ kt_) ?_
    refine own_go (T' := Tc2) (g' := (mkF mI 26 #[.val (.int k), .val (.int (0 : Int32)), .val (.ref ai), .unset] [])) (fun t_ kt_ => XS.astoreN Xc2.here hx rfl (hb hby at_25) rfl rfl (l' := #[.val (.int k), .val (.int (0 : Int32)), .val (.ref ai), .unset]) rfl kt_) ?_
    refine own_go (T' := Tc2) (g' := (mkF mI 27 #[.val (.int k), .val (.int (0 : Int32)), .val (.ref ai), .unset] [(.int (0 : Int32))])) (fun t_ kt_ => XS.iloadN Xc2.here hx rfl (hb hby at_26) rfl kt_) ?_
    refine own_go (T' := Tc2) (g' := (mkF mI 28 #[.val (.int k), .val (.int (0 : Int32)), .val (.ref ai), .val (.int (0 : Int32))] [])) (fun t_ kt_ => XS.istoreN Xc2.here hx rfl (hb hby at_27) rfl (l' := #[.val (.int k), .val (.int (0 : Int32)), .val (.ref ai), .val (.int (0 : Int32))]) rfl kt_) ?_
    refine own_go (T' := Tc2) (g' := (mkF mI 29 #[.val (.int k), .val (.int (0 : Int32)), .val (.ref ai), .val (.int (0 : Int32))] [(.ref ai)])) (fun t_ kt_ => XS.aloadN Xc2.here hx rfl (hb hby at_28) rfl rfl kt_) ?_
    refine own_callV own_closed Xc2 hx hZ (y := (⟨"com/example/accu_settle/accusettle/invoice/DocumentType", "refersToAnother", "()Z"⟩ : MethodName)) (z := (⟨"com/example/accu_settle/accusettle/invoice/DocumentType", "refersToAnother", "()Z"⟩ : MethodName)) hown (hw _ (List.mem_of_getElem? (i := 3) rfl)) (hw _ (List.mem_of_getElem? (i := 4) rfl)) (hw _ (List.mem_of_getElem? (i := 6) rfl)) (hw _ (List.mem_of_getElem? (i := 5) rfl)) (hw _ (List.mem_of_getElem? (i := 6) rfl)) rfl (by decide) (rm1 l Z a0 hw [] h0 ai (0 : Int32) F_ai_refersToAnother rfl) (hw _ (List.mem_of_getElem? (i := 7) rfl)) (hw _ (List.mem_of_getElem? (i := 1) rfl)) ec2 E_ai (pc := 29) (Ls := #[.val (.int k), .val (.int (0 : Int32)), .val (.ref ai), .val (.int (0 : Int32))]) (argsL := []) (rest := []) (by rw [hml]; rfl) (lenOf pd_0 rfl) (W := 0) (by decide) (by decide) (by decide) (by decide) (by decide) (hb hby at_29) rfl rfl ?_
    intro Tc3 Lc3 vc3 Xc3 hQc3
    obtain ⟨rfl, rfl, ec3⟩ := hQc3
    show own_Ends pP eE bB sS _ _ Tc3 (mkF mI 32 #[.val (.int k), .val (.int (0 : Int32)), .val (.ref ai), .val (.int (0 : Int32))] [(.int (0 : Int32))])
    refine own_go (T' := Tc3) (g' := (mkF mI 33 #[.val (.int k), .val (.int (0 : Int32)), .val (.ref ai), .val (.int (0 : Int32))] [(.int (0 : Int32)), (.int (0 : Int32))])) (fun t_ kt_ => XS.iloadN Xc3.here hx rfl (hb hby at_32) rfl kt_) ?_
    refine own_go (T' := Tc3) (g' := (mkF mI 38 #[.val (.int k), .val (.int (0 : Int32)), .val (.ref ai), .val (.int (0 : Int32))] [])) (fun t_ kt_ => XS.icmpYes Xc3.here hx rfl (pc0 := 33) (pc' := 38) rfl (hb hby at_33) rfl (teq (by decide : (0 : Int32) = (0 : Int32))).1 (by decide) (by decide) kt_) ?_
    refine own_go (T' := Tc3) (g' := (mkF mI 39 #[.val (.int k), .val (.int (0 : Int32)), .val (.ref ai), .val (.int (0 : Int32))] [(.ref ai)])) (fun t_ kt_ => XS.aloadN Xc3.here hx rfl (hb hby at_38) rfl rfl kt_) ?_
    refine own_go (T' := Tc3) (g' := (mkF mI 40 #[.val (.int k), .val (.int (0 : Int32)), .val (.ref ai), .val (.int (0 : Int32))] [(.int (0 : Int32)), (.ref ai)])) (fun t_ kt_ => XS.iloadN Xc3.here hx rfl (hb hby at_39) rfl kt_) ?_
    refine own_callV own_closed Xc3 hx hZ (y := (⟨"com/example/accu_settle/accusettle/invoice/DocumentType", "checkReference", "(Z)V"⟩ : MethodName)) (z := (⟨"com/example/accu_settle/accusettle/invoice/DocumentType", "checkReference", "(Z)V"⟩ : MethodName)) hown (hw _ (List.mem_of_getElem? (i := 10) rfl)) (hw _ (List.mem_of_getElem? (i := 11) rfl)) (hw _ (List.mem_of_getElem? (i := 13) rfl)) (hw _ (List.mem_of_getElem? (i := 12) rfl)) (hw _ (List.mem_of_getElem? (i := 13) rfl)) rfl (by decide) (rm2 l Z a0 hw [] h0 ai (0 : Int32) F_ai_refersToAnother) (hw _ (List.mem_of_getElem? (i := 14) rfl)) (hw _ (List.mem_of_getElem? (i := 1) rfl)) ec3 E_ai (pc := 40) (Ls := #[.val (.int k), .val (.int (0 : Int32)), .val (.ref ai), .val (.int (0 : Int32))]) (argsL := [(.int (0 : Int32))]) (rest := []) (by rw [hml]; rfl) (lenOf pd_1 rfl) (W := 0) (by decide) (by decide) (by decide) (by decide) (by decide) (hb hby at_40) rfl rfl ?_
    intro Tc4 Lc4 vc4 Xc4 hQc4
    obtain ⟨rfl, rfl, ec4⟩ := hQc4
    show own_Ends pP eE bB sS _ _ Tc4 (mkF mI 43 #[.val (.int k), .val (.int (0 : Int32)), .val (.ref ai), .val (.int (0 : Int32))] [])
    refine own_go (T' := Tc4) (g' := (mkF mI 44 #[.val (.int k), .val (.int (0 : Int32)), .val (.ref ai), .val (.int (0 : Int32))] [(.int (1 : Int32))])) (fun t_ kt_ => XS.iconst Xc4.here hx rfl (hb hby at_43) kt_) ?_
    refine own_retN Xc4 hx hlk (t := .boolean) hret (by simp) (hb hby at_44) rfl (by decide) (by decide) ?_
    exact ⟨rfl, rfl, ec4⟩
  · skip
    refine own_go (T' := s₁) (g' := (mkF mI 6 #[.val (.int k), .unset, .unset, .unset] [])) (fun t_ kt_ => XS.ifNo X0.here hx rfl (hb hby at_3) rfl ((if0 _ _).trans (feq hc3_c1).1) kt_) ?_
    refine own_go (T' := s₁) (g' := (mkF mI 7 #[.val (.int k), .unset, .unset, .unset] [(.int (1 : Int32))])) (fun t_ kt_ => XS.iconst X0.here hx rfl (hb hby at_6) kt_) ?_
    refine own_go (T' := s₁) (g' := (mkF mI 11 #[.val (.int k), .unset, .unset, .unset] [(.int (1 : Int32))])) (fun t_ kt_ => XS.goto X0.here hx rfl (pc0 := 7) (pc' := 11) rfl (hb hby at_7) (by decide) (by decide) kt_) ?_
    refine own_go (T' := s₁) (g' := (mkF mI 12 #[.val (.int k), .val (.int (1 : Int32)), .unset, .unset] [])) (fun t_ kt_ => XS.istoreN X0.here hx rfl (hb hby at_11) rfl (l' := #[.val (.int k), .val (.int (1 : Int32)), .unset, .unset]) rfl kt_) ?_
    refine own_go (T' := s₁) (g' := (mkF mI 13 #[.val (.int k), .val (.int (1 : Int32)), .unset, .unset] [(.int (1 : Int32))])) (fun t_ kt_ => XS.iloadN X0.here hx rfl (hb hby at_12) rfl kt_) ?_
    refine own_go (T' := s₁) (g' := (mkF mI 16 #[.val (.int k), .val (.int (1 : Int32)), .unset, .unset] [])) (fun t_ kt_ => XS.ifNo X0.here hx rfl (hb hby at_13) rfl ((if0 _ _).trans (feq (by decide : ¬ ((1 : Int32) = (0 : Int32)))).1) kt_) ?_
    obtain ⟨Tc5, Xc5, ec5, stc5⟩ := getS2 X0 hx hZ hown (host := "") (Or.inl (hw _ (List.mem_of_getElem? (i := 15) rfl))) Via.refl e0 S_ac (g := (mkF mI 16 #[.val (.int k), .val (.int (1 : Int32)), .unset, .unset] [])) rfl (hb hby at_16)
    refine own_go (T' := Tc5) (g' := (mkF mI 19 #[.val (.int k), .val (.int (1 : Int32)), .unset, .unset] [(.ref ac)])) (fun t_ kt_ => stc5 _ kt_) ?_
    refine own_go (T' := Tc5) (g' := (mkF mI 25 #[.val (.int k), .val (.int (1 : Int32)), .unset, .unset] [(.ref ac)])) (fun t_ kt_ => XS.goto Xc5.here hx rfl (pc0 := 19) (pc' := 25) rfl (hb hby at_19) (by decide) (by decide) kt_) ?_
    refine own_go (T' := Tc5) (g' := (mkF mI 26 #[.val (.int k), .val (.int (1 : Int32)), .val (.ref ac), .unset] [])) (fun t_ kt_ => XS.astoreN Xc5.here hx rfl (hb hby at_25) rfl rfl (l' := #[.val (.int k), .val (.int (1 : Int32)), .val (.ref ac), .unset]) rfl kt_) ?_
    refine own_go (T' := Tc5) (g' := (mkF mI 27 #[.val (.int k), .val (.int (1 : Int32)), .val (.ref ac), .unset] [(.int (1 : Int32))])) (fun t_ kt_ => XS.iloadN Xc5.here hx rfl (hb hby at_26) rfl kt_) ?_
    refine own_go (T' := Tc5) (g' := (mkF mI 28 #[.val (.int k), .val (.int (1 : Int32)), .val (.ref ac), .val (.int (1 : Int32))] [])) (fun t_ kt_ => XS.istoreN Xc5.here hx rfl (hb hby at_27) rfl (l' := #[.val (.int k), .val (.int (1 : Int32)), .val (.ref ac), .val (.int (1 : Int32))]) rfl kt_) ?_
    refine own_go (T' := Tc5) (g' := (mkF mI 29 #[.val (.int k), .val (.int (1 : Int32)), .val (.ref ac), .val (.int (1 : Int32))] [(.ref ac)])) (fun t_ kt_ => XS.aloadN Xc5.here hx rfl (hb hby at_28) rfl rfl kt_) ?_
    refine own_callV own_closed Xc5 hx hZ (y := (⟨"com/example/accu_settle/accusettle/invoice/DocumentType", "refersToAnother", "()Z"⟩ : MethodName)) (z := (⟨"com/example/accu_settle/accusettle/invoice/DocumentType", "refersToAnother", "()Z"⟩ : MethodName)) hown (hw _ (List.mem_of_getElem? (i := 3) rfl)) (hw _ (List.mem_of_getElem? (i := 4) rfl)) (hw _ (List.mem_of_getElem? (i := 6) rfl)) (hw _ (List.mem_of_getElem? (i := 5) rfl)) (hw _ (List.mem_of_getElem? (i := 6) rfl)) rfl (by decide) (rm1 l Z a0 hw [] h0 ac (1 : Int32) F_ac_refersToAnother rfl) (hw _ (List.mem_of_getElem? (i := 7) rfl)) (hw _ (List.mem_of_getElem? (i := 1) rfl)) ec5 E_ac (pc := 29) (Ls := #[.val (.int k), .val (.int (1 : Int32)), .val (.ref ac), .val (.int (1 : Int32))]) (argsL := []) (rest := []) (by rw [hml]; rfl) (lenOf pd_0 rfl) (W := 0) (by decide) (by decide) (by decide) (by decide) (by decide) (hb hby at_29) rfl rfl ?_
    intro Tc6 Lc6 vc6 Xc6 hQc6
    obtain ⟨rfl, rfl, ec6⟩ := hQc6
    show own_Ends pP eE bB sS _ _ Tc6 (mkF mI 32 #[.val (.int k), .val (.int (1 : Int32)), .val (.ref ac), .val (.int (1 : Int32))] [(.int (1 : Int32))])
    refine own_go (T' := Tc6) (g' := (mkF mI 33 #[.val (.int k), .val (.int (1 : Int32)), .val (.ref ac), .val (.int (1 : Int32))] [(.int (1 : Int32)), (.int (1 : Int32))])) (fun t_ kt_ => XS.iloadN Xc6.here hx rfl (hb hby at_32) rfl kt_) ?_
    refine own_go (T' := Tc6) (g' := (mkF mI 38 #[.val (.int k), .val (.int (1 : Int32)), .val (.ref ac), .val (.int (1 : Int32))] [])) (fun t_ kt_ => XS.icmpYes Xc6.here hx rfl (pc0 := 33) (pc' := 38) rfl (hb hby at_33) rfl (teq (by decide : (1 : Int32) = (1 : Int32))).1 (by decide) (by decide) kt_) ?_
    refine own_go (T' := Tc6) (g' := (mkF mI 39 #[.val (.int k), .val (.int (1 : Int32)), .val (.ref ac), .val (.int (1 : Int32))] [(.ref ac)])) (fun t_ kt_ => XS.aloadN Xc6.here hx rfl (hb hby at_38) rfl rfl kt_) ?_
    refine own_go (T' := Tc6) (g' := (mkF mI 40 #[.val (.int k), .val (.int (1 : Int32)), .val (.ref ac), .val (.int (1 : Int32))] [(.int (1 : Int32)), (.ref ac)])) (fun t_ kt_ => XS.iloadN Xc6.here hx rfl (hb hby at_39) rfl kt_) ?_
    refine own_callV own_closed Xc6 hx hZ (y := (⟨"com/example/accu_settle/accusettle/invoice/DocumentType", "checkReference", "(Z)V"⟩ : MethodName)) (z := (⟨"com/example/accu_settle/accusettle/invoice/DocumentType", "checkReference", "(Z)V"⟩ : MethodName)) hown (hw _ (List.mem_of_getElem? (i := 10) rfl)) (hw _ (List.mem_of_getElem? (i := 11) rfl)) (hw _ (List.mem_of_getElem? (i := 13) rfl)) (hw _ (List.mem_of_getElem? (i := 12) rfl)) (hw _ (List.mem_of_getElem? (i := 13) rfl)) rfl (by decide) (rm2 l Z a0 hw [] h0 ac (1 : Int32) F_ac_refersToAnother) (hw _ (List.mem_of_getElem? (i := 14) rfl)) (hw _ (List.mem_of_getElem? (i := 1) rfl)) ec6 E_ac (pc := 40) (Ls := #[.val (.int k), .val (.int (1 : Int32)), .val (.ref ac), .val (.int (1 : Int32))]) (argsL := [(.int (1 : Int32))]) (rest := []) (by rw [hml]; rfl) (lenOf pd_1 rfl) (W := 0) (by decide) (by decide) (by decide) (by decide) (by decide) (hb hby at_40) rfl rfl ?_
    intro Tc7 Lc7 vc7 Xc7 hQc7
    obtain ⟨rfl, rfl, ec7⟩ := hQc7
    show own_Ends pP eE bB sS _ _ Tc7 (mkF mI 43 #[.val (.int k), .val (.int (1 : Int32)), .val (.ref ac), .val (.int (1 : Int32))] [])
    refine own_go (T' := Tc7) (g' := (mkF mI 44 #[.val (.int k), .val (.int (1 : Int32)), .val (.ref ac), .val (.int (1 : Int32))] [(.int (1 : Int32))])) (fun t_ kt_ => XS.iconst Xc7.here hx rfl (hb hby at_43) kt_) ?_
    refine own_retN Xc7 hx hlk (t := .boolean) hret (by simp) (hb hby at_44) rfl (by decide) (by decide) ?_
    exact ⟨rfl, rfl, ec7⟩
set_option maxRecDepth 65536 in
set_option maxHeartbeats 40000000 in
theorem comes_1 {Post : Tables → Env → Array Value → State → Outcome → State → Prop} (hpost : ∀ tb e args s v u, (limb_1_1.after args s (.returned v) u = true ∧ limb_1_2.after args s (.returned v) u = true ∧ True) → FrameEnd s (.returned v) u (Jvm.fieldLocs frame_1_writes args s ++ Jvm.arrayLocs frame_1_arrays args s ++ Jvm.staticLocs frame_1_statics s) 0 0 → Post tb e args s (.returned v) u) :
    ArmFor flags0 classFile x code maxLocals ret World_1 tables_1 room_1 Calls_1 rest_1 Pre_1 Post := by
  intro l hfl _ _ p e ha hc hk s m args below hf hA hF happ hP
  obtain ⟨hcalls, hrest, hpre⟩ := hP
  obtain ⟨-, -, -, hnamed, -, -, -, hat⟩ := (Spec.applies_iff hf).mp happ
  obtain ⟨hg, hn⟩ := and_e (Cond.before_iff.mp (show (Jvm.Cond.and given_1 narrow_1).before args s = true from hpre))
  obtain ⟨hg0, hgr0⟩ := and_e hg
  obtain ⟨w0, rfl⟩ : ∃ w0 : Value, args = #[w0] := by
    have hs : args.size = 1 := by simpa [Cond.value, given_1] using hg0
    obtain ⟨L⟩ := args
    match L, hs with
    | [w0], _ => exact ⟨w0, rfl⟩
  have hw := fun d (hd : d ∈ tables_1) => atoms_spec (ws := Jvm.Cond.code x code maxLocals ret :: tables_1) hat d (List.mem_cons_of_mem _ hd)
  have hfit : Fit s := fun {y c} hc i hi => by
    obtain ⟨ha, rfl⟩ := Array.getElem?_eq_some_iff.mp hc
    have q := List.all_eq_true.mp ((Array.all_eq_true_iff_forall_mem.mp hF) _ (Array.getElem_mem ha)) i (List.mem_range.mpr hi)
    simpa [Array.getElem?_eq_getElem hi] using q
  obtain ⟨i0, ei0⟩ := is_v hgr0
  obtain rfl : w0 = (.int i0) := Option.some.inj ei0
  obtain ⟨n0, nr0⟩ := and_e hn
  obtain ⟨n1, nr1⟩ := and_e nr0
  obtain ⟨n2, nr2⟩ := and_e nr1
  have n3 := nr2
  obtain ⟨ai, ev_ai⟩ := exa_v n0
  have E_ai := Exa.start ev_ai n0
  have S_ai := Sta.start ev_ai (Or.inr ⟨(hw _ (List.mem_of_getElem? (i := 1) rfl)), (hw _ (List.mem_of_getElem? (i := 2) rfl))⟩)
  obtain ⟨ac, ev_ac⟩ := exa_v n2
  have E_ac := Exa.start ev_ac n2
  have S_ac := Sta.start ev_ac (Or.inr ⟨(hw _ (List.mem_of_getElem? (i := 1) rfl)), (hw _ (List.mem_of_getElem? (i := 16) rfl))⟩)
  have F_ai_refersToAnother := own_fldI ev_ai n1
  have F_ac_refersToAnother := own_fldI ev_ac n3
  obtain ⟨n, o, h1, h2, h3, _, L, rfl, ⟨rfl, rfl, -⟩, hq⟩ := rm0 l s _ hw tables_1 s.heap i0 ai S_ai E_ai F_ai_refersToAnother ac S_ac E_ac F_ac_refersToAnother p e ha hc hk s m _ below hf ((Spec.applies_iff_loose hf).mp happ).1 ⟨rfl, State.Warmed39.refl s, rfl⟩ trivial
  exact ⟨n, _, h1, h2, h3, hpost _ _ _ _ _ _ ⟨Cond.after_iff.mpr rfl, Cond.after_iff.mpr (eq_i res_at (Term.int_eval (1)) rfl), trivial⟩ ⟨hq.1, hq.2.1, (hq.2.2.sift fun y hy => nomatch hy).mono (by decide) (by decide)⟩⟩
theorem main_1_1 : Claimed_1_1 := comes_1 fun _ _ _ _ _ _ h hF => ⟨h.1, hF⟩
theorem main_1_2 : Claimed_1_2 := comes_1 fun _ _ _ _ _ _ h hF => ⟨h.2.1, hF⟩
end Jvm.Pilot.@@N@@
namespace Jvm.Pilot.@@N@@
open Jvm Jvm.ClassFile Sem Op Lib Jvm.Free Jvm.Stand Jvm.Pilot.@@N@@.Jvm.D
/-! MADE BY PROGRAM (witnessworld.py) out of the Statement's table words and the real class files: 13 classes; the members and pool entries that the words name. The judged class is class 1, her method 1. -/
namespace start1
open Jvm.ClassFile
def u (s : String) : CpInfo := .utf8 (stringToUtf16 s)
/-- a pool by its gaps: so many unusable entries, then the entry; so many at the end -/
def gap : Nat → List CpInfo → List CpInfo
  | 0, r => r
  | n + 1, r => .unusable :: gap n r
def poolList (es : List (Nat × CpInfo)) (last : Nat) : List CpInfo := es.foldr (fun e r => gap e.1 (e.2 :: r)) (gap last [])
def pool (es : List (Nat × CpInfo)) (last : Nat) : Array CpInfo := ⟨poolList es last⟩
def fileOf (pool : Array CpInfo) (this : Nat) (attrs : Array Attribute := #[]) (ms : Array MethodInfo := #[]) (fl : Nat := 33) (sup : Nat := 0) (ifs : Array Nat := #[]) (fds : Array FieldInfo := #[]) : ClassFile where
  minorVersion := 0
  majorVersion := 65
  constantPool := pool
  accessFlags := fl
  thisClass := this
  superClass := sup
  interfaces := ifs
  fields := fds
  methods := ms
  attributes := attrs
def plain (name : String) (sup : Option ClassId) : Class where
  name := name
  kind := .ordinary
  loader := none
  accessFlags := 33
  super := sup
  interfaces := #[]
  cf := none
  fields := #[]
  methods := #[]
  instanceTypes := #[]
  staticTypes := #[]
  resolved := #[]
  callSites := []
  init := .initialized
  statics := none
  mirror := none

def pool0 : Array CpInfo := pool [(5, u "<init>"), (0, u "()V"), (1, .class_ 10), (1, u "java/lang/Object")] 113

def k0m0 : Method := { name := "<init>", desc := "()V", sig := { parameters := [], returnType := none }, accessFlags := 1, code := none }
/-- java/lang/Object -/
def k0 : Class := { plain "java/lang/Object" none with
  accessFlags := 33
  interfaces := #[]
  cf := some (fileOf pool0 8 #[] #[{ accessFlags := 1, nameIndex := 5, descriptorIndex := 6, attributes := #[] }] 33 0 #[] #[])
  fields := #[]
  methods := #[k0m0]
  instanceTypes := #[]
  staticTypes := #[]
  resolved := Array.replicate 124 none
  statics := none }

def pool1 : Array CpInfo := pool [(2, .class_ 4), (1, u "java/lang/Object"), (0, u "<init>"), (0, u "()V"), (0, .fieldref 8 9), (0, .class_ 10), (0, .nameAndType 11 12), (0, u "com/example/accu_settle/accusettle/invoice/DocumentType"), (0, u "CANCELLATION"), (0, u "Lcom/example/accu_settle/accusettle/invoice/DocumentType;"), (0, .fieldref 8 14), (0, .nameAndType 15 12), (0, u "INVOICE"), (0, .methodref 8 17), (0, .nameAndType 18 19), (0, u "refersToAnother"), (0, u "()Z"), (0, .methodref 8 21), (0, .nameAndType 22 23), (0, u "checkReference"), (0, u "(Z)V"), (0, .class_ 25), (0, u "com/example/accu_settle/accusettle/invoice/DocumentTypeCheckReferencePinLaw"), (2, u "law"), (0, u "(I)Z")] 3

def k1m0 : Method := { name := "<init>", desc := "()V", sig := { parameters := [], returnType := none }, accessFlags := 1, code := none }
def k1c1 : Code := { maxStack := 2, maxLocals := 4, code := code, exceptionTable := #[], attributes := #[] }
def k1m1 : Method := { name := "law", desc := "(I)Z", sig := { parameters := [.int], returnType := some .boolean }, accessFlags := 9, code := some k1c1 }
/-- com/example/accu_settle/accusettle/invoice/DocumentTypeCheckReferencePinLaw -/
def k1 : Class := { plain "com/example/accu_settle/accusettle/invoice/DocumentTypeCheckReferencePinLaw" (some 0) with
  accessFlags := 49
  interfaces := #[]
  cf := some (fileOf pool1 24 #[] #[{ accessFlags := 1, nameIndex := 5, descriptorIndex := 6, attributes := #[] }, { accessFlags := 9, nameIndex := 28, descriptorIndex := 29, attributes := #[] }] 49 2 #[] #[])
  fields := #[]
  methods := #[k1m0, k1m1]
  instanceTypes := #[]
  staticTypes := #[]
  resolved := Array.replicate 33 none
  statics := none }

def pool2 : Array CpInfo := pool [(1, .class_ 2), (0, u "java/lang/constant/Constable"), (0, .class_ 4), (0, u "java/lang/Object")] 6

/-- java/lang/constant/Constable -/
def k2 : Class := { plain "java/lang/constant/Constable" (some 0) with
  accessFlags := 1537
  interfaces := #[]
  cf := some (fileOf pool2 1 #[] #[] 1537 3 #[] #[])
  fields := #[]
  methods := #[]
  instanceTypes := #[]
  staticTypes := #[]
  resolved := Array.replicate 11 none
  statics := none }

def pool3 : Array CpInfo := pool [(1, .class_ 2), (0, u "java/lang/Comparable"), (0, .class_ 4), (0, u "java/lang/Object")] 7

/-- java/lang/Comparable -/
def k3 : Class := { plain "java/lang/Comparable" (some 0) with
  accessFlags := 1537
  interfaces := #[]
  cf := some (fileOf pool3 1 #[] #[] 1537 3 #[] #[])
  fields := #[]
  methods := #[]
  instanceTypes := #[]
  staticTypes := #[]
  resolved := Array.replicate 12 none
  statics := none }

def pool4 : Array CpInfo := pool [(1, .class_ 2), (0, u "java/io/Serializable"), (0, .class_ 4), (0, u "java/lang/Object")] 2

/-- java/io/Serializable -/
def k4 : Class := { plain "java/io/Serializable" (some 0) with
  accessFlags := 1537
  interfaces := #[]
  cf := some (fileOf pool4 1 #[] #[] 1537 3 #[] #[])
  fields := #[]
  methods := #[]
  instanceTypes := #[]
  staticTypes := #[]
  resolved := Array.replicate 7 none
  statics := none }

def pool5 : Array CpInfo := pool [(2, .class_ 4), (1, u "java/lang/Enum"), (0, u "name"), (0, u "Ljava/lang/String;"), (2, u "ordinal"), (0, u "I"), (1, .class_ 14), (1, u "java/lang/Object"), (4, u "hash"), (86, .class_ 108), (1, u "java/lang/Enum$EnumDesc"), (2, .class_ 112), (0, u "java/lang/constant/Constable"), (0, .class_ 114), (0, u "java/lang/Comparable"), (0, .class_ 116), (0, u "java/io/Serializable")] 87

/-- java/lang/Enum -/
def k5 : Class := { plain "java/lang/Enum" (some 0) with
  accessFlags := 1057
  interfaces := #[2, 3, 4]
  cf := some (fileOf pool5 2 #[.nestMembers #[106]] #[] 1057 12 #[111, 113, 115] #[{ accessFlags := 18, nameIndex := 5, descriptorIndex := 6, attributes := #[] }, { accessFlags := 18, nameIndex := 9, descriptorIndex := 10, attributes := #[] }, { accessFlags := 2, nameIndex := 19, descriptorIndex := 10, attributes := #[] }])
  fields := #[{ name := "name", type := (.object "java/lang/String"), accessFlags := 18, slot := 0, constantValue := 0 }, { name := "ordinal", type := .int, accessFlags := 18, slot := 1, constantValue := 0 }, { name := "hash", type := .int, accessFlags := 2, slot := 2, constantValue := 0 }]
  methods := #[]
  instanceTypes := #[(.object "java/lang/String"), .int, .int]
  staticTypes := #[]
  resolved := Array.replicate 204 none
  statics := none }

def pool6 : Array CpInfo := pool [(9, .class_ 10), (0, u "com/example/accu_settle/accusettle/Coded"), (10, .class_ 22), (0, u "java/lang/Object")] 9

/-- com/example/accu_settle/accusettle/Coded -/
def k6 : Class := { plain "com/example/accu_settle/accusettle/Coded" (some 0) with
  accessFlags := 1537
  interfaces := #[]
  cf := some (fileOf pool6 9 #[] #[] 1537 21 #[] #[])
  fields := #[]
  methods := #[]
  instanceTypes := #[]
  staticTypes := #[]
  resolved := Array.replicate 32 none
  statics := none }

def pool7 : Array CpInfo := pool [(1, .class_ 2), (0, u "com/example/accu_settle/accusettle/invoice/DocumentType"), (2, u "INVOICE"), (0, u "Lcom/example/accu_settle/accusettle/invoice/DocumentType;"), (2, u "CANCELLATION"), (2, u "$VALUES"), (0, u "[Lcom/example/accu_settle/accusettle/invoice/DocumentType;"), (6, .class_ 22), (1, u "java/lang/Enum"), (8, u "code"), (0, u "Ljava/lang/String;"), (0, .fieldref 1 34), (0, .nameAndType 35 36), (0, u "refersToAnother"), (0, u "Z"), (26, .class_ 64), (0, u "com/example/accu_settle/accusettle/Coded"), (8, u "()Z"), (0, u "checkReference"), (0, u "(Z)V")] 23

def k7c0 : Code := { maxStack := 1, maxLocals := 1, code := prog_75_method_5_code, exceptionTable := #[], attributes := #[] }
def k7m0 : Method := { name := "refersToAnother", desc := "()Z", sig := { parameters := [], returnType := some .boolean }, accessFlags := 1, code := some k7c0 }
def k7c1 : Code := { maxStack := 4, maxLocals := 3, code := prog_75_method_6_code, exceptionTable := #[], attributes := #[] }
def k7m1 : Method := { name := "checkReference", desc := "(Z)V", sig := { parameters := [.boolean], returnType := none }, accessFlags := 1, code := some k7c1 }
/-- com/example/accu_settle/accusettle/invoice/DocumentType -/
def k7 : Class := { plain "com/example/accu_settle/accusettle/invoice/DocumentType" (some 5) with
  accessFlags := 16433
  interfaces := #[6]
  cf := some (fileOf pool7 1 #[] #[{ accessFlags := 1, nameIndex := 35, descriptorIndex := 73, attributes := #[] }, { accessFlags := 1, nameIndex := 74, descriptorIndex := 75, attributes := #[] }] 16433 20 #[63] #[{ accessFlags := 16409, nameIndex := 5, descriptorIndex := 6, attributes := #[] }, { accessFlags := 16409, nameIndex := 9, descriptorIndex := 6, attributes := #[] }, { accessFlags := 18, nameIndex := 31, descriptorIndex := 32, attributes := #[] }, { accessFlags := 18, nameIndex := 35, descriptorIndex := 36, attributes := #[] }, { accessFlags := 4122, nameIndex := 12, descriptorIndex := 13, attributes := #[] }])
  fields := #[{ name := "INVOICE", type := (.object "com/example/accu_settle/accusettle/invoice/DocumentType"), accessFlags := 16409, slot := 0, constantValue := 0 }, { name := "CANCELLATION", type := (.object "com/example/accu_settle/accusettle/invoice/DocumentType"), accessFlags := 16409, slot := 1, constantValue := 0 }, { name := "code", type := (.object "java/lang/String"), accessFlags := 18, slot := 3, constantValue := 0 }, { name := "refersToAnother", type := .boolean, accessFlags := 18, slot := 4, constantValue := 0 }, { name := "$VALUES", type := (.array (.object "com/example/accu_settle/accusettle/invoice/DocumentType")), accessFlags := 4122, slot := 2, constantValue := 0 }]
  methods := #[k7m0, k7m1]
  instanceTypes := #[(.object "java/lang/String"), .int, .int, (.object "java/lang/String"), .boolean]
  staticTypes := #[(.object "com/example/accu_settle/accusettle/invoice/DocumentType"), (.object "com/example/accu_settle/accusettle/invoice/DocumentType"), (.array (.object "com/example/accu_settle/accusettle/invoice/DocumentType"))]
  resolved := Array.replicate 99 none
  statics := some 0 }

def pool8 : Array CpInfo := pool [(1, u "java/lang/Cloneable"), (0, .class_ 1), (0, u "java/lang/Object"), (0, .class_ 3)] 3

/-- java/lang/Cloneable -/
def k8 : Class := { plain "java/lang/Cloneable" (some 0) with
  accessFlags := 1537
  interfaces := #[]
  cf := some (fileOf pool8 2 #[] #[] 1537 4 #[] #[])
  fields := #[]
  methods := #[]
  instanceTypes := #[]
  staticTypes := #[]
  resolved := Array.replicate 8 none
  statics := none }

/-- the primitive byte -/
def k9 : Class := { plain "byte" none with kind := .primitive 'B', accessFlags := 0x411 }
/-- [B -/
def k10 : Class := { plain "[B" (some 0) with kind := .array 9 .byte, interfaces := #[8, 4], accessFlags := 1041 }

/-- the primitive int -/
def k11 : Class := { plain "int" none with kind := .primitive 'I', accessFlags := 0x411 }
/-- [I -/
def k12 : Class := { plain "[I" (some 0) with kind := .array 11 .int, interfaces := #[8, 4], accessFlags := 1041 }

def heap : Heap := #[{ cls := 7, slots := #[.ref 1, .ref 2, .null], vm := .statics 7 },
  { cls := 7, slots := #[.null, .int 0, .int 0, .null, .int 0], vm := .none },
  { cls := 7, slots := #[.null, .int 1, .int 0, .null, .int 1], vm := .none }]
def classes : Array Class := #[k0, k1, k2, k3, k4, k5, k6, k7, k8, k9, k10, k11, k12]
def interned : List (Array UInt16 × Addr) := []
def slotsUsed : Nat := 13
def theMethod : MethodId := ⟨1, 1⟩
def args0 : Array Value := #[.int 5]
def aboutOver (below : List Frame) : State where
  vm := { classes := classes, interned := interned.toArray }
  heap := heap
  slotsUsed := slotsUsed
  threads := #[{ frames := .invoking theMethod args0 :: below }]
def below0 : List Frame := [.native { method := ⟨0, 0⟩, args := #[] }]
def about1 : State := aboutOver below0
def p0 : Program := .bare "" "" ""
def e0 : Env := launch0.env 0 0 0
theorem w_frames : about1.frames = Frame.invoking theMethod args0 :: below0 := rfl
set_option maxRecDepth 65536 in
theorem w_args : argsFit about1.vm theMethod args0 = true := by decide +kernel
set_option maxRecDepth 65536 in
theorem w_heap : heapFits about1 = true := by decide +kernel
set_option maxRecDepth 65536 in
theorem w_runnable : about1.curStatus? = some .runnable := by decide +kernel
set_option maxRecDepth 65536 in
theorem w_alone : about1.alone = true := by decide +kernel
set_option maxRecDepth 65536 in
theorem w_named : about1.methodNamed? x = some theMethod := by decide +kernel
set_option maxRecDepth 65536 in
theorem w_hears : about1.hears theMethod below0 = true := by decide +kernel
set_option maxRecDepth 65536 in
theorem w_ripe : about1.ripe theMethod args0 below0 = true := by decide +kernel
theorem w_running : about1.status = .running := rfl
set_option maxRecDepth 65536 in
theorem w_room : about1.hasRoom e0.platform room_1 = true :=
  launch0.hasRoom_least _ room_1 (by decide +kernel) (by decide +kernel) (by decide +kernel) (by decide +kernel) (by decide +kernel) (by decide +kernel)
theorem allAtoms_all (ts : List Jvm.Cond) (a : Array Jvm.Value) (st : Jvm.State) : (allAtoms ts).before a st = ts.all (fun c => c.before a st) := by
  induction ts with
  | nil => rfl
  | cons c t ih =>
    show (Jvm.Cond.and c (allAtoms t)).before a st = _
    rw [Jvm.Cond.before_and, ih, List.all_cons]
def words1 : List Jvm.Cond := Jvm.Cond.code x code maxLocals ret :: tables_1
/-- a 'code' word, met by the world's own term for the bytes: nothing is compared byte by byte -/
theorem code_word {y : MethodName} {bytes : ByteArray} {mx : Nat} {rt : Option FieldType} {a : Array Value} {s : State} {m : MethodId} {meth : Method} {c : Code} (h1 : s.methodNamed? y = some m) (h2 : s.vm.method? m = some meth) (h3 : meth.code = some c) (h4 : c.code = bytes)
    (h5 : (c.maxLocals == mx && c.exceptionTable.isEmpty && decide (c.maxStack ≤ mostOperands) && decide (meth.sig.returnType = rt) && !meth.locks && decide (parseMethodDescriptor y.desc = some meth.sig)) = true) : (Jvm.Cond.code y bytes mx rt).before a s = true := by
  simp only [Bool.and_eq_true, beq_iff_eq, Bool.not_eq_true', decide_eq_true_eq] at h5
  obtain ⟨⟨⟨⟨⟨g1, g2⟩, g3⟩, g4⟩, g5⟩, g6⟩ := h5
  simp [Cond.before, Cond.holds, Cond.value, h1, h2, h3, h4, g1, g2, g3, g4, g5, g6]
def isCode : Jvm.Cond → Bool
  | .code _ _ _ _ => true
  | _ => false
theorem all_split {L : List Jvm.Cond} {P : Jvm.Cond → Bool} (h1 : L.all (fun c => isCode c || P c) = true) (h2 : ∀ c ∈ L.filter isCode, P c = true) : L.all P = true := by
  refine List.all_eq_true.mpr fun c hc => ?_
  have h := List.all_eq_true.mp h1 c hc
  rcases Bool.eq_false_or_eq_true (isCode c) with hi | hi
  · exact h2 c (List.mem_filter.mpr ⟨hc, hi⟩)
  · simpa [hi] using h
set_option maxRecDepth 65536 in
theorem w_c0 : (Jvm.Cond.code x code maxLocals ret).before args0 about1 = true := code_word (m := ⟨1, 1⟩) (meth := k1m1) (c := k1c1) (by decide +kernel) rfl rfl rfl (by decide +kernel)
set_option maxRecDepth 65536 in
theorem w_c1 : (Jvm.Cond.code ({ cls := "com/example/accu_settle/accusettle/invoice/DocumentType", name := "refersToAnother", desc := "()Z" } : Jvm.MethodName) prog_75_method_5_code (1 : Nat) (Option.some Jvm.ClassFile.FieldType.boolean)).before args0 about1 = true := code_word (m := ⟨7, 0⟩) (meth := k7m0) (c := k7c0) (by decide +kernel) rfl rfl rfl (by decide +kernel)
set_option maxRecDepth 65536 in
theorem w_c2 : (Jvm.Cond.code ({ cls := "com/example/accu_settle/accusettle/invoice/DocumentType", name := "checkReference", desc := "(Z)V" } : Jvm.MethodName) prog_75_method_6_code (3 : Nat) (Option.none : Option Jvm.ClassFile.FieldType)).before args0 about1 = true := code_word (m := ⟨7, 1⟩) (meth := k7m1) (c := k7c1) (by decide +kernel) rfl rfl rfl (by decide +kernel)
def codes1 : List Jvm.Cond := [Jvm.Cond.code x code maxLocals ret, Jvm.Cond.code ({ cls := "com/example/accu_settle/accusettle/invoice/DocumentType", name := "refersToAnother", desc := "()Z" } : Jvm.MethodName) prog_75_method_5_code (1 : Nat) (Option.some Jvm.ClassFile.FieldType.boolean), Jvm.Cond.code ({ cls := "com/example/accu_settle/accusettle/invoice/DocumentType", name := "checkReference", desc := "(Z)V" } : Jvm.MethodName) prog_75_method_6_code (3 : Nat) (Option.none : Option Jvm.ClassFile.FieldType)]
set_option maxRecDepth 65536 in
theorem codes_eq : words1.filter isCode = codes1 := rfl
theorem w_codes : ∀ c ∈ words1.filter isCode, c.before args0 about1 = true := by
  rw [codes_eq]
  intro c hc
  simp only [codes1, List.mem_cons, List.not_mem_nil, or_false] at hc
  rcases hc with rfl | rfl | rfl
  · exact w_c0
  · exact w_c1
  · exact w_c2
set_option maxRecDepth 65536 in
theorem w_t1 : words1.all (fun c => isCode c || c.before args0 about1) = true := by decide +kernel
theorem w_tables : (allAtoms (Jvm.Cond.code x code maxLocals ret :: tables_1)).before args0 about1 = true := by
  rw [allAtoms_all]
  show words1.all (fun c => c.before args0 about1) = true
  refine all_split ?_ w_codes
  rw [w_t1]
set_option maxRecDepth 65536 in
theorem w_case : (Jvm.Cond.and given_1 narrow_1).before args0 about1 = true := by decide +kernel
theorem w_applies : (headSpec (Jvm.Cond.code x code maxLocals ret :: tables_1) room_1).applies x e0.platform about1 = true :=
  (Spec.applies_iff w_frames).mpr ⟨w_running, w_runnable, w_alone, w_named, w_hears, w_ripe, w_room, w_tables⟩
theorem atStart : AtStart classFile x code maxLocals ret World_1 tables_1 room_1 Calls_1 rest_1 Pre_1 launch0 p0 e0 about1 theMethod args0 below0 :=
  ⟨lists_1, trivial, launch0.admits_env _ _ _, launch0.least_env, fairChoices_fair.cas, fairChoices_fair.clock, w_frames, w_args, w_heap, w_applies, trivial, trivial, w_case⟩
end start1
theorem witness_1 : WitnessClaimed_1 := ⟨start1.p0, start1.e0, start1.about1, start1.theMethod, start1.args0, start1.below0, start1.atStart⟩
end Jvm.Pilot.@@N@@
