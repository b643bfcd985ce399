import JvmDerived
import JvmDerived.Pilot.@@N@@Statement
import JvmDerived.Pilot.@@N@@Code
set_option linter.unusedVariables false
set_option linter.unusedSimpArgs false
namespace Jvm.RoadKit
open Sem ClassFile Op Lib Jvm.Stand Jvm.Free Jvm.LawKit
section Own
variable {p : Program} {l : Launch} {e : Env} {R : Room} {s : State} {m : MethodId} {args : Array Value} {below : List Frame} {meth : Method} {c : Code} {T T' : State} {locs : List Loc} {cells slots : Nat} {Z : State} {h0 h : Heap} {a0 : Array Value} {Q Q' : Option Value → Heap → List Loc → Prop} {rm rm0 : Room}
/-- from here on the walk returns, and what it leaves is Q -/
def own_Ends (p : Program) (e : Env) (below : List Frame) (s : State) (Q : Option Value → Heap → List Loc → Prop) (rm : Room) (T : State) (g : JFrame) : Prop :=
  ∃ s₂ o, Steps p.tables e below (T.setTop g) s₂ ∧ s₂.status = .running ∧ Ended s₂ below o ∧ ∃ v L, o = .returned v ∧ Q v s₂.heap L ∧ FrameEnd s o s₂ L rm.cells rm.slots
theorem own_go {g g' : JFrame} (h : ∀ t, Steps p.tables e below (T'.setTop g') t → Steps p.tables e below (T.setTop g) t) (H : own_Ends p e below s Q rm T' g') : own_Ends p e below s Q rm T g := by
  obtain ⟨s₂, o, h1, r⟩ := H
  exact ⟨s₂, o, h _ h1, r⟩
/-- a goal that may be stepped back -/
def own_Closed (p : Program) (e : Env) (below : List Frame) (G : State → JFrame → Prop) : Prop := ∀ (T T' : State) (g g' : JFrame), (∀ t, Steps p.tables e below (T'.setTop g') t → Steps p.tables e below (T.setTop g) t) → G T' g' → G T g
theorem own_closed : own_Closed p e below (own_Ends p e below s Q rm) := fun _ _ _ _ h H => own_go h H
theorem own_cast {g g' : JFrame} (q : g = g') (H : own_Ends p e below s Q rm T g') : own_Ends p e below s Q rm T g := q ▸ H
/-- it gives r back, and the heap as it was -/
def own_QP (h0 : Heap) (r : Option Value) (v : Option Value) (h : Heap) (L : List Loc) : Prop := v = r ∧ L = [] ∧ h = h0
theorem own_lrem (x y : Int64) : x - (x / y) * y = x % y := by
  apply Int64.toInt_inj.mp
  have h1 := Int64.le_toInt (x % y)
  have h2 := Int64.toInt_lt (x % y)
  rw [Int64.toInt_sub, Int64.toInt_mul, Int64.toInt_div, Int.bmod_mul_bmod, Int.sub_bmod_bmod, Int.mul_comm (x.toInt.tdiv y.toInt), ← Int.tmod_def, ← Int64.toInt_mod]
  exact Int.bmod_eq_of_le_mul_two (by omega) (by omega)
theorem own_lremM {g : JFrame} {target : State} (X : Stand p l e R s m args below meth c T locs cells slots) (hx : p.tables.exec = Jvm.exec) (hg : g.method = m) {x y : Int64} {rest : List Value} (hd : decode c.code g.pc = .ok (.lrem, 1)) (hs : g.stack = .long y :: .long x :: rest) (hy : y ≠ 0)
    (hr : Steps p.tables e below (T.setTop { g with pc := g.pc + 1, stack := .long (x % y) :: rest }) target) : Steps p.tables e below (T.setTop g) target := by
  have q : x - x / y * y = x % y := own_lrem x y
  exact XS.lrem X.here hx hg hd hs hy (by rw [q]; exact hr)
/-- a body's contract -/
def own_Met (l : Launch) (Z : State) (y : MethodName) (bytes : ByteArray) (maxL : Nat) (ret : Option FieldType) (ws : List Cond) (rm : Room) (as' : Array Value) (h0 : Heap) (Q : Option Value → Heap → List Loc → Prop) : Prop :=
  MetFree l y (head1 (Cond.code y bytes maxL ret :: ws) rm) (fun a U => a = as' ∧ Z.Warmed39 U.vm ∧ U.heap = h0) (fun _ _ _ _ _ => True) (fun _ U o U' => ∃ v L, o = .returned v ∧ Q v U'.heap L ∧ FrameEnd U o U' L rm.cells rm.slots)
theorem own_met {y : MethodName} {bytes : ByteArray} {maxL : Nat} {ret : Option FieldType} {ws : List Cond} {as' : Array Value} (hy : plainFor y = true)
    (H : ∀ (p : Program) (e : Env) (s : State) (m : MethodId) (below : List Frame) (meth : Method) (c : Code) (s₁ : State), p.tables.exec = Jvm.exec → c.code = bytes → c.maxLocals = maxL → s.vm.findClass y.cls = some m.cls → meth.name = y.name → meth.sig.returnType = ret → meth.locks = false → Z.Warmed39 s.vm →
      Stand p l e rm s m as' below meth c s₁ [] 0 0 → s₁.heap = h0 → own_Ends p e below s Q rm s₁ (entryFrame m as' maxL)) : own_Met l Z y bytes maxL ret ws rm as' h0 Q := by
  refine MetFree.of_bodySF hy hisR ?_
  intro p e s m args below meth c s₁ Bd hml0 hP hK
  obtain ⟨rfl, hZ, hh⟩ := hP
  exact H p e s m below meth c s₁ Bd.exec Bd.bytes hml0 (findClass_of_methodNamed Bd.named) (name_of_methodNamed Bd.named Bd.method).1 Bd.returns Bd.notSynchronized hZ (Stand.of_body Bd) (by rw [← hh, Bd.state]; rfl)
theorem own_retI (X : Stand p l e R s m args below meth c T locs cells slots) (hx : p.tables.exec = Jvm.exec) (hlk : meth.locks = false) {pc : Nat} {Ls : Array Slot} {z : Int32} {rest : List Value} (hret : meth.sig.returnType = some .int) (hd : decode c.code pc = .ok (.ireturn, 1))
    (hk : cells ≤ rm.cells) (hn : slots ≤ rm.slots) (hq : Q (some (.int z)) T.heap locs) : own_Ends p e below s Q rm T (mkF m pc Ls (.int z :: rest)) := by
  obtain ⟨fs, hr, hrun, hended, hW, hsame⟩ := X.leave (v := some (.int z)) (fun h => by rw [hret] at h; cases h) hlk
  exact ⟨_, _, retOut X hx hret rfl (Or.inl ⟨rfl, Or.inl rfl, z, rfl⟩) hd hr, hrun, hended, _, _, rfl, hq, ⟨_, rfl⟩, hW, hsame.mono hk hn⟩
theorem own_retN (X : Stand p l e R s m args below meth c T locs cells slots) (hx : p.tables.exec = Jvm.exec) (hlk : meth.locks = false) {pc : Nat} {Ls : Array Slot} {z z' : Int32} {t : FieldType} {rest : List Value} (hret : meth.sig.returnType = some t) (ht : t = .boolean ∨ t = .byte ∨ t = .char ∨ t = .short) (hd : decode c.code pc = .ok (.ireturn, 1)) (hz : nar t z = z')
    (hk : cells ≤ rm.cells) (hn : slots ≤ rm.slots) (hq : Q (some (.int z')) T.heap locs) : own_Ends p e below s Q rm T (mkF m pc Ls (.int z :: rest)) := by
  subst hz
  obtain ⟨fs, hr, hrun, hended, hW, hsame⟩ := X.leave (v := some (.int (nar t z))) (fun h => by rw [hret] at h; cases h) hlk
  exact ⟨_, _, retN X hx hret ht hd hr, hrun, hended, _, _, rfl, hq, ⟨_, rfl⟩, hW, hsame.mono hk hn⟩
theorem own_retA (X : Stand p l e R s m args below meth c T locs cells slots) (hx : p.tables.exec = Jvm.exec) (hlk : meth.locks = false) {pc : Nat} {Ls : Array Slot} {w : Value} {t : FieldType} {rest : List Value} (hret : meth.sig.returnType = some t) (ht : t.isReference = true) (hw : w.isRef = true) (hd : decode c.code pc = .ok (.areturn, 1))
    (hk : cells ≤ rm.cells) (hn : slots ≤ rm.slots) (hq : Q (some w) T.heap locs) : own_Ends p e below s Q rm T (mkF m pc Ls (w :: rest)) := by
  obtain ⟨fs, hr, hrun, hended, hW, hsame⟩ := X.leave (v := some w) (fun h => by rw [hret] at h; cases h) hlk
  have hnw : narrow t w = w := by cases w <;> cases t <;> first | rfl | cases ht | cases hw
  exact ⟨_, _, retOut X hx hret hnw (Or.inr (Or.inr (Or.inr (Or.inr ⟨rfl, ht, hw⟩)))) hd hr, hrun, hended, _, _, rfl, hq, ⟨_, rfl⟩, hW, hsame.mono hk hn⟩
theorem own_retJ (X : Stand p l e R s m args below meth c T locs cells slots) (hx : p.tables.exec = Jvm.exec) (hlk : meth.locks = false) {pc : Nat} {Ls : Array Slot} {z : Int64} {rest : List Value} (hret : meth.sig.returnType = some .long) (hd : decode c.code pc = .ok (.lreturn, 1))
    (hk : cells ≤ rm.cells) (hn : slots ≤ rm.slots) (hq : Q (some (.long z)) T.heap locs) : own_Ends p e below s Q rm T (mkF m pc Ls (.long z :: rest)) := by
  obtain ⟨fs, hr, hrun, hended, hW, hsame⟩ := X.leave (v := some (.long z)) (fun h => by rw [hret] at h; cases h) hlk
  exact ⟨_, _, retOut X hx hret rfl (Or.inr (Or.inl ⟨rfl, rfl, z, rfl⟩)) hd hr, hrun, hended, _, _, rfl, hq, ⟨_, rfl⟩, hW, hsame.mono hk hn⟩
theorem own_retV (X : Stand p l e R s m args below meth c T locs cells slots) (hx : p.tables.exec = Jvm.exec) (hlk : meth.locks = false) {pc : Nat} {Ls : Array Slot} (hret : meth.sig.returnType = none) (hd : decode c.code pc = .ok (.return_, 1))
    (hk : cells ≤ rm.cells) (hn : slots ≤ rm.slots) (hq : Q none T.heap locs) : own_Ends p e below s Q rm T (mkF m pc Ls []) := by
  obtain ⟨fs, hr, hrun, hended, hW, hsame⟩ := X.leave (v := none) (fun _ => rfl) hlk
  exact ⟨_, _, X.returnOut hx hret hd hr, hrun, hended, _, _, rfl, hq, ⟨_, rfl⟩, hW, hsame.mono hk hn⟩
/-- what an instance method's words say besides: its own class declares it; that class is no interface; the look-up from there finds it -/
theorem own_decl {y : MethodName} {bytes : ByteArray} {maxL : Nat} {ret : Option FieldType} (w : (Cond.instanceMethod y).before a0 Z = true) (wc : (Cond.code y bytes maxL ret).before a0 Z = true) : (Cond.declares y).before a0 Z = true := by
  obtain ⟨mk, methM, hn, hm, hs, -⟩ := Cond.instanceMethod_spec w
  obtain ⟨m2, c, h1, -, -, -, -, -, -, hsig⟩ := Cond.code_spec hn wc
  cases hm.symm.trans h1
  simp [Cond.before, Cond.holds, Cond.value, hn, hm, hs, hsig]
theorem own_nf {C6 : String} {y y6 : MethodName} (w6 : (Cond.selects C6 y6 y6).before a0 Z = true) (h6 : y6.cls = y.cls) : NotFace Z y := fun r0 h0 => by
  obtain ⟨c2, r2, m2, q1, q2, q3, q4, kP, hkP, hkPi⟩ := Cond.selects_spec w6
  have e1 := findClass_of_methodNamed q3
  have e2 := findClass_of_methodNamed h0
  rw [h6] at e1
  have q := Option.some.inj (e1.symm.trans e2)
  exact ⟨kP, by rw [← q]; exact hkP, hkPi⟩
theorem own_same {C6 : String} {y y6 : MethodName} (w : (Cond.instanceMethod y).before a0 Z = true) (w6 : (Cond.selects C6 y6 y6).before a0 Z = true) (h6 : y6.cls = y.cls) (hy : y.cls ≠ "java/lang/invoke/MethodHandle" ∧ y.cls ≠ "java/lang/invoke/VarHandle") : (Cond.sameMethod y.cls y.cls y.name y.desc).before a0 Z = true := by
  obtain ⟨mk, methM, hn, hm, hs, -⟩ := Cond.instanceMethod_spec w
  obtain ⟨kr, hk, hi⟩ := own_nf w6 h6 _ hn
  have e1 := findClass_of_methodNamed hn
  have e2 := State.methodFound?_of_named hn hy
  simp [Cond.before, Cond.holds, Cond.value, e1, e2, hn, hk, hi]
/-- invokevirtual by the contract of the body that the receiver's class selects -/
theorem own_callV {G : State → JFrame → Prop} (hG : own_Closed p e below G) (X : Stand p l e R s m args below meth c T locs cells slots) (hx : p.tables.exec = Jvm.exec) (hZ : Z.Warmed39 s.vm) {own C : String} {index : Nat} {y z : MethodName} (hown : s.vm.findClass own = some m.cls)
    (w1 : (Cond.methodLink own index y).before a0 Z = true) (w2 : (Cond.declares y).before a0 Z = true) (w3 : (Cond.selects C y z).before a0 Z = true) (w4 : (Cond.instanceMethod z).before a0 Z = true) {C6 : String} {y6 : MethodName} (w6 : (Cond.selects C6 y6 y6).before a0 Z = true) (h6 : y6.cls = y.cls) (hy : y.cls ≠ "java/lang/invoke/MethodHandle" ∧ y.cls ≠ "java/lang/invoke/VarHandle")
    {bytes : ByteArray} {maxL : Nat} {ret : Option FieldType} {as' : Array Value} (hM : own_Met l Z z bytes maxL ret [] rm as' h Q') (wc : (Cond.code z bytes maxL ret).before a0 Z = true) (wz : (Cond.initialized z.cls).before a0 Z = true)
    {b : Addr} (eT : T.heap = h) (E : Exa Z h b C) {pc W : Nat} {Ls : Array Slot} {argsL rest : List Value} (hsize : Ls.size = c.maxLocals) (hlen : ∀ sig, parseMethodDescriptor y.desc = some sig → argsL.length = sig.parameters.length)
    (hW : (rest.map fun v => v.category).sum ≤ W) (hf : rm.frames + 1 ≤ R.frames) (hl : W + (maxL + 11) + rm.locals ≤ R.locals) (hc : cells + rm.cells ≤ R.cells) (hn : slots + rm.slots ≤ R.slots)
    (hdg : decode c.code pc = .ok (.invokevirtual index, 3)) (has : (Value.ref b :: argsL).toArray = as') {st : List Value} (hst : st = argsL.reverse ++ .ref b :: rest)
    (k : ∀ (T' : State) (L : List Loc) (v : Option Value), Stand p l e R s m args below meth c T' (locs ++ L) (cells + rm.cells) (slots + rm.slots) → Q' v T'.heap L → G T' (mkF m (pc + 3) Ls (v.toList ++ rest))) :
    G T (mkF m pc Ls st) := by
  subst hst
  obtain ⟨cq, kq, qa, qb, qc⟩ := isOf hZ eT E
  obtain ⟨v, _, ⟨T4, L4, k4, n4⟩, -, X4, ⟨Lc, hQ, l4, y4, z4⟩, st4⟩ := X.virtualBack hx (y := y) (z := z) hown (mvT hZ w1) (mvT hZ w2) (own_nf (a0 := #[]) (mvT hZ w6) h6) (mvT hZ w3) (mvT hZ w4) hy (backOf (W := W) hM hZ wc wz hf hl) qa qc (g := mkF m pc Ls (argsL.reverse ++ .ref b :: rest)) rfl hsize (Steps.refl _) (argsL := argsL) (rest := rest) hlen rfl (by simpa [JFrame.monitorRoom] using hW) hdg (fun _ _ => ⟨has, eT, hc, hn⟩)
  dsimp only [Pt.U, Pt.locs, Pt.cells, Pt.slots] at X4 l4 y4 z4 st4 hQ
  subst l4 y4 z4
  exact hG _ _ _ _ (fun t kt => st4.trans kt) (k _ _ _ X4 hQ)
/-- the same through a class that inherits the method -/
theorem own_callU {G : State → JFrame → Prop} (hG : own_Closed p e below G) (X : Stand p l e R s m args below meth c T locs cells slots) (hx : p.tables.exec = Jvm.exec) (hZ : Z.Warmed39 s.vm) {own C owner : String} {index : Nat} {y z : MethodName} (hown : s.vm.findClass own = some m.cls)
    (w1 : (Cond.methodLink own index y).before a0 Z = true) (w0 : (Cond.sameMethod y.cls owner y.name y.desc).before a0 Z = true) (w2 : (Cond.declares ⟨owner, y.name, y.desc⟩).before a0 Z = true) (w3 : (Cond.selects C y z).before a0 Z = true) (w4 : (Cond.instanceMethod z).before a0 Z = true) (hy : owner ≠ "java/lang/invoke/MethodHandle" ∧ owner ≠ "java/lang/invoke/VarHandle")
    {bytes : ByteArray} {maxL : Nat} {ret : Option FieldType} {as' : Array Value} (hM : own_Met l Z z bytes maxL ret [] rm as' h Q') (wc : (Cond.code z bytes maxL ret).before a0 Z = true) (wz : (Cond.initialized z.cls).before a0 Z = true)
    {b : Addr} (eT : T.heap = h) (E : Exa Z h b C) {pc W : Nat} {Ls : Array Slot} {argsL rest : List Value} (hsize : Ls.size = c.maxLocals) (hlen : ∀ sig, parseMethodDescriptor y.desc = some sig → argsL.length = sig.parameters.length)
    (hW : (rest.map fun v => v.category).sum ≤ W) (hf : rm.frames + 1 ≤ R.frames) (hl : W + (maxL + 11) + rm.locals ≤ R.locals) (hc : cells + rm.cells ≤ R.cells) (hn : slots + rm.slots ≤ R.slots)
    (hdg : decode c.code pc = .ok (.invokevirtual index, 3)) (has : (Value.ref b :: argsL).toArray = as') {st : List Value} (hst : st = argsL.reverse ++ .ref b :: rest)
    (k : ∀ (T' : State) (L : List Loc) (v : Option Value), Stand p l e R s m args below meth c T' (locs ++ L) (cells + rm.cells) (slots + rm.slots) → Q' v T'.heap L → G T' (mkF m (pc + 3) Ls (v.toList ++ rest))) :
    G T (mkF m pc Ls st) := by
  subst hst
  obtain ⟨cq, kq, qa, qb, qc⟩ := isOf hZ eT E
  obtain ⟨v, _, ⟨T4, L4, k4, n4⟩, -, X4, ⟨Lc, hQ, l4, y4, z4⟩, st4⟩ := X.virtualBackUp hx (x := y) (y := z) hown (mvT hZ w1) (mvT hZ w0) (mvT hZ w2) hy (mvT hZ w3) (mvT hZ w4) (backOf (W := W) hM hZ wc wz hf hl) qa qc (g := mkF m pc Ls (argsL.reverse ++ .ref b :: rest)) rfl hsize (Steps.refl _) (argsL := argsL) (rest := rest) hlen rfl (by simpa [JFrame.monitorRoom] using hW) hdg (fun _ _ => ⟨has, eT, hc, hn⟩)
  dsimp only [Pt.U, Pt.locs, Pt.cells, Pt.slots] at X4 l4 y4 z4 st4 hQ
  subst l4 y4 z4
  exact hG _ _ _ _ (fun t kt => st4.trans kt) (k _ _ _ X4 hQ)
/-- a constructor by its contract -/
theorem own_callI {G : State → JFrame → Prop} (hG : own_Closed p e below G) (X : Stand p l e R s m args below meth c T locs cells slots) (hx : p.tables.exec = Jvm.exec) (hZ : Z.Warmed39 s.vm) {own : String} {index : Nat} {y : MethodName} (hy1 : y.name = "<init>") (hown : s.vm.findClass own = some m.cls)
    (w1 : (Cond.methodLink own index y).before a0 Z = true) (w4 : (Cond.instanceMethod y).before a0 Z = true) (hy : y.cls ≠ "java/lang/invoke/MethodHandle" ∧ y.cls ≠ "java/lang/invoke/VarHandle")
    {bytes : ByteArray} {maxL : Nat} {as' : Array Value} (hM : own_Met l Z y bytes maxL none [] rm as' h Q') (wc : (Cond.code y bytes maxL none).before a0 Z = true) (wz : (Cond.initialized y.cls).before a0 Z = true)
    {b : Addr} (eT : T.heap = h) {pc W : Nat} {Ls : Array Slot} {argsL rest : List Value} (hsize : Ls.size = c.maxLocals) (hlen : ∀ sig, parseMethodDescriptor y.desc = some sig → argsL.length = sig.parameters.length)
    (hW : (rest.map fun v => v.category).sum ≤ W) (hf : rm.frames + 1 ≤ R.frames) (hl : W + (maxL + 11) + rm.locals ≤ R.locals) (hc : cells + rm.cells ≤ R.cells) (hn : slots + rm.slots ≤ R.slots)
    (hdg : decode c.code pc = .ok (.invokespecial index, 3)) (has : (Value.ref b :: argsL).toArray = as') {st : List Value} (hst : st = argsL.reverse ++ .ref b :: rest)
    (k : ∀ (T' : State) (L : List Loc) (v : Option Value), Stand p l e R s m args below meth c T' (locs ++ L) (cells + rm.cells) (slots + rm.slots) → Q' v T'.heap L → G T' (mkF m (pc + 3) Ls (v.toList ++ rest))) :
    G T (mkF m pc Ls st) := by
  subst hst
  obtain ⟨v, _, ⟨T4, L4, k4, n4⟩, -, X4, ⟨Lc, hQ, l4, y4, z4⟩, st4⟩ := X.specialBack hx (y := y) hy1 hown (mvT hZ w1) (mvT hZ w4) (mvT hZ wc) hy (backOf (W := W) hM hZ wc wz hf hl) (g := mkF m pc Ls (argsL.reverse ++ .ref b :: rest)) rfl hsize (Steps.refl _) (a := b) (argsL := argsL) (rest := rest) hlen rfl (by simpa [JFrame.monitorRoom] using hW) hdg (fun _ _ => ⟨has, eT, hc, hn⟩)
  dsimp only [Pt.U, Pt.locs, Pt.cells, Pt.slots] at X4 l4 y4 z4 st4 hQ
  subst l4 y4 z4
  exact hG _ _ _ _ (fun t kt => st4.trans kt) (k _ _ _ X4 hQ)
/-- super.m(..) by its contract -/
theorem own_callX {G : State → JFrame → Prop} (hG : own_Closed p e below G) (X : Stand p l e R s m args below meth c T locs cells slots) (hx : p.tables.exec = Jvm.exec) (hZ : Z.Warmed39 s.vm) {own C : String} {index : Nat} {y : MethodName} (hown : s.vm.findClass own = some m.cls)
    (w1 : (Cond.methodLink own index y).before a0 Z = true) (w4 : (Cond.instanceMethod y).before a0 Z = true) (w5 : (Cond.superclass own y.cls).before a0 Z = true) {C6 : String} {y6 : MethodName} (w6 : (Cond.selects C6 y6 y6).before a0 Z = true) (h6 : y6.cls = y.cls) (hy : y.cls ≠ "java/lang/invoke/MethodHandle" ∧ y.cls ≠ "java/lang/invoke/VarHandle") (hni : y.name ≠ "<init>")
    {bytes : ByteArray} {maxL : Nat} {ret : Option FieldType} {as' : Array Value} (hM : own_Met l Z y bytes maxL ret [] rm as' h Q') (wc : (Cond.code y bytes maxL ret).before a0 Z = true) (wz : (Cond.initialized y.cls).before a0 Z = true)
    {b : Addr} (eT : T.heap = h) (E : Exa Z h b C) {pc W : Nat} {Ls : Array Slot} {argsL rest : List Value} (hsize : Ls.size = c.maxLocals) (hlen : ∀ sig, parseMethodDescriptor y.desc = some sig → argsL.length = sig.parameters.length)
    (hW : (rest.map fun v => v.category).sum ≤ W) (hf : rm.frames + 1 ≤ R.frames) (hl : W + (maxL + 11) + rm.locals ≤ R.locals) (hc : cells + rm.cells ≤ R.cells) (hn : slots + rm.slots ≤ R.slots)
    (hdg : decode c.code pc = .ok (.invokespecial index, 3)) (has : (Value.ref b :: argsL).toArray = as') {st : List Value} (hst : st = argsL.reverse ++ .ref b :: rest)
    (k : ∀ (T' : State) (L : List Loc) (v : Option Value), Stand p l e R s m args below meth c T' (locs ++ L) (cells + rm.cells) (slots + rm.slots) → Q' v T'.heap L → G T' (mkF m (pc + 3) Ls (v.toList ++ rest))) :
    G T (mkF m pc Ls st) := by
  subst hst
  obtain ⟨v, _, ⟨T4, L4, k4, n4⟩, -, X4, ⟨Lc, hQ, l4, y4, z4⟩, st4⟩ := superBack X hx hZ (y := y) hown w1 (own_same w4 w6 h6 hy) w4 w5 hni (backOf (W := W) hM hZ wc wz hf hl) eT (Ins.self E) (g := mkF m pc Ls (argsL.reverse ++ .ref b :: rest)) rfl hsize wc (argsL := argsL) (rest := rest) hlen rfl (by simpa [JFrame.monitorRoom] using hW) hdg (fun _ _ => ⟨has, eT, hc, hn⟩)
  dsimp only [Pt.U, Pt.locs, Pt.cells, Pt.slots] at X4 l4 y4 z4 st4 hQ
  subst l4 y4 z4
  exact hG _ _ _ _ (fun t kt => st4.trans kt) (k _ _ _ X4 hQ)
/-- invokestatic by the callee's contract -/
theorem own_callS {G : State → JFrame → Prop} (hG : own_Closed p e below G) (X : Stand p l e R s m args below meth c T locs cells slots) (hx : p.tables.exec = Jvm.exec) (hZ : Z.Warmed39 s.vm) {own : String} {index : Nat} {y : MethodName} (hown : s.vm.findClass own = some m.cls)
    (w1 : (Cond.methodLink own index y).before a0 Z = true) (w2 : (Cond.static y).before a0 Z = true) (hy : y.cls ≠ "java/lang/invoke/MethodHandle" ∧ y.cls ≠ "java/lang/invoke/VarHandle")
    {bytes : ByteArray} {maxL : Nat} {ret : Option FieldType} {as' : Array Value} (hM : own_Met l Z y bytes maxL ret [] rm as' h Q') (wc : (Cond.code y bytes maxL ret).before a0 Z = true) (wz : (Cond.initialized y.cls).before a0 Z = true)
    (eT : T.heap = h) {pc W : Nat} {Ls : Array Slot} {argsL rest : List Value} (hsize : Ls.size = c.maxLocals) (hlen : ∀ sig, parseMethodDescriptor y.desc = some sig → argsL.length = sig.parameters.length)
    (hW : (rest.map fun v => v.category).sum ≤ W) (hf : rm.frames + 1 ≤ R.frames) (hl : W + (maxL + 11) + rm.locals ≤ R.locals) (hc : cells + rm.cells ≤ R.cells) (hn : slots + rm.slots ≤ R.slots)
    (hdg : decode c.code pc = .ok (.invokestatic index, 3)) (has : argsL.toArray = as') {st : List Value} (hst : st = argsL.reverse ++ rest)
    (k : ∀ (T' : State) (L : List Loc) (v : Option Value), Stand p l e R s m args below meth c T' (locs ++ L) (cells + rm.cells) (slots + rm.slots) → Q' v T'.heap L → G T' (mkF m (pc + 3) Ls (v.toList ++ rest))) :
    G T (mkF m pc Ls st) := by
  subst hst
  obtain ⟨v, _, ⟨T4, L4, k4, n4⟩, -, X4, ⟨Lc, hQ, l4, y4, z4⟩, st4⟩ := Jvm.LawKit.callS X hx (y := y) hown (mvT hZ w1) (mvT hZ w2) (mvT hZ wz) (mvT hZ wc) hy (backOf (W := W) hM hZ wc wz hf hl) (g := mkF m pc Ls (argsL.reverse ++ rest)) rfl hsize (argsL := argsL) (rest := rest) hlen rfl (by simpa [JFrame.monitorRoom] using hW) hdg (fun _ _ => ⟨has, eT, hc, hn⟩)
  dsimp only [Pt.U, Pt.locs, Pt.cells, Pt.slots] at X4 l4 y4 z4 st4 hQ
  subst l4 y4 z4
  exact hG _ _ _ _ (fun t kt => st4 t kt) (k _ _ _ X4 hQ)
/-- it gives r back; the heap has grown at the most -/
def own_QE (h0 : Heap) (r : Option Value) (v : Option Value) (h : Heap) (L : List Loc) : Prop := v = r ∧ L = [] ∧ Ext h0 h
theorem own_ext0 {h : Heap} : Ext h h := ⟨Nat.le_refl _, fun _ _ q => q⟩
theorem own_extT {h1 h2 h3 : Heap} (A : Ext h1 h2) (B : Ext h2 h3) : Ext h1 h3 := ⟨Nat.le_trans A.1 B.1, fun a c q => B.2 a c (A.2 a c q)⟩
theorem own_len (X : Stand p l e R s m args below meth c T locs cells slots) (hx : p.tables.exec = Jvm.exec) (hZ : Z.Warmed39 s.vm) (eT : T.heap = h) {a : Addr} {cl : Cell} {ty : FieldType} (A : Arr Z h a cl ty) {z : Int32} (hz : cl.slots.size.toInt32 = z) {g : JFrame} (hg : g.method = m) {rest : List Value} (hs : g.stack = .ref a :: rest) (hd : decode c.code g.pc = .ok (.arraylength, 1)) (t : State)
    (hr : Steps p.tables e below (T.setTop { g with pc := g.pc + 1, stack := .int z :: rest }) t) : Steps p.tables e below (T.setTop g) t := by
  subst hz
  exact X.arraylength hx (by rw [eT]; exact A.1) (State.isArrayOf_alike hZ.alike A.2.1) hg hs hd t hr
theorem own_aald (X : Stand p l e R s m args below meth c T locs cells slots) (hx : p.tables.exec = Jvm.exec) (hZ : Z.Warmed39 s.vm) (eT : T.heap = h) {a : Addr} {cl : Cell} {ty : FieldType} (A : Arr Z h a cl ty) (ht : ty.isReference = true) {j : Int32} {v : Value} (hin : ¬ (j < 0 ∨ cl.slots.size ≤ j.toNatClampNeg)) (hv : cl.slots[j.toNatClampNeg]? = some v) {g : JFrame} (hg : g.method = m) {rest : List Value} (hs : g.stack = .int j :: .ref a :: rest) (hd : decode c.code g.pc = .ok (.aaload, 1)) (t : State)
    (hr : Steps p.tables e below (T.setTop { g with pc := g.pc + 1, stack := v :: rest }) t) : Steps p.tables e below (T.setTop g) t :=
  X.aaload hx (by rw [eT]; exact A.1) (State.isArrayOf_alike hZ.alike A.2.1) ht A.2.2 hin hv hg hs hd t hr
theorem own_lald (X : Stand p l e R s m args below meth c T locs cells slots) (hx : p.tables.exec = Jvm.exec) (hZ : Z.Warmed39 s.vm) (eT : T.heap = h) {a : Addr} {cl : Cell} (A : Arr Z h a cl .long) {j : Int32} {v : Value} (hin : ¬ (j < 0 ∨ cl.slots.size ≤ j.toNatClampNeg)) (hv : cl.slots[j.toNatClampNeg]? = some v) {g : JFrame} (hg : g.method = m) {rest : List Value} (hs : g.stack = .int j :: .ref a :: rest) (hd : decode c.code g.pc = .ok (.laload, 1)) (t : State)
    (hr : Steps p.tables e below (T.setTop { g with pc := g.pc + 1, stack := v :: rest }) t) : Steps p.tables e below (T.setTop g) t :=
  X.laload hx (by rw [eT]; exact A.1) (State.isArrayOf_alike hZ.alike A.2.1) A.2.2 hin hv hg hs hd t hr
theorem own_bald (X : Stand p l e R s m args below meth c T locs cells slots) (hx : p.tables.exec = Jvm.exec) (hZ : Z.Warmed39 s.vm) (eT : T.heap = h) {a : Addr} {cl : Cell} (A : Arr Z h a cl .byte) {j : Int32} {v : Value} (hin : ¬ (j < 0 ∨ cl.slots.size ≤ j.toNatClampNeg)) (hv : cl.slots[j.toNatClampNeg]? = some v) {g : JFrame} (hg : g.method = m) {rest : List Value} (hs : g.stack = .int j :: .ref a :: rest) (hd : decode c.code g.pc = .ok (.baload, 1)) (t : State)
    (hr : Steps p.tables e below (T.setTop { g with pc := g.pc + 1, stack := v :: rest }) t) : Steps p.tables e below (T.setTop g) t :=
  X.baloadBytes hx (by rw [eT]; exact A.1) (State.isArrayOf_alike hZ.alike A.2.1) A.2.2 hin hv hg hs hd t hr
/-- a field that the case says holds what the other term holds -/
theorem own_fldR {t u : Term} {C n d : String} {a b : Addr} (ev : t.eval args s none [] s = some (.ref a)) (ev2 : u.eval args s none [] s = some (.ref b)) (hq : (Cond.eq (Term.field t C n d) u).value args s none s [] = some true) : Fld s s.heap a C n d (.ref b) := by
  obtain ⟨x, y, h1, h2, k1, k2⟩ := cmp_v (Or.inl hq)
  cases ev2.symm.trans h2
  have hx : x = .ref b := by
    cases x <;> simp [Kin, Value.isRef] at k1 k2
    · simp [Cond.value, h1, h2] at hq
    · simpa [Cond.value, h1, h2] using hq
  subst hx
  exact Fld.start ((fld_at ev).symm.trans h1)
/-- an element that the case says is what the other term is -/
theorem own_elemR {t u : Term} {k : Int32} {a b : Addr} {cl : Cell} (ev : t.eval args s none [] s = some (.ref a)) (hc : s.heap[a]? = some cl) (ev2 : u.eval args s none [] s = some (.ref b)) (hq : (Cond.eq (Term.elem t (Term.int k)) u).value args s none s [] = some true) : cl.slots[k.toNatClampNeg]? = some (.ref b) := by
  obtain ⟨x, y, h1, h2, k1, k2⟩ := cmp_v (Or.inl hq)
  cases ev2.symm.trans h2
  have hx : x = .ref b := by
    cases x <;> simp [Kin, Value.isRef] at k1 k2
    · simp [Cond.value, h1, h2] at hq
    · simpa [Cond.value, h1, h2] using hq
  subst hx
  exact (elem_in h1 ev rfl hc).2
/-- an element that the case says is this int -/
theorem own_elemI {t : Term} {k w : Int32} {a : Addr} {cl : Cell} (ev : t.eval args s none [] s = some (.ref a)) (hc : s.heap[a]? = some cl) (hq : (Cond.eq (Term.elem t (Term.int k)) (Term.int w)).value args s none s [] = some true) : cl.slots[k.toNatClampNeg]? = some (.int w) := by
  obtain ⟨x, y, h1, h2, k1, k2⟩ := cmp_v (Or.inl hq)
  have e2 : y = .int w := (Option.some.inj h2).symm
  subst e2
  obtain ⟨z, rfl⟩ : ∃ z, x = .int z := k2
  have e3 : z = w := by simpa [Cond.value, h1, h2] using hq
  subst e3
  exact (elem_in h1 ev rfl hc).2
/-- a length that the case says -/
theorem own_lenI {t : Term} {k : Int32} {a : Addr} {cl : Cell} {ty : FieldType} (ev : t.eval args s none [] s = some (.ref a)) (A : Arr s s.heap a cl ty) (hq : (Cond.eq (Term.length t) (Term.int k)).value args s none s [] = some true) (hk : ¬ k < 0) : cl.slots.size = k.toNatClampNeg := by
  obtain ⟨x, y, h1, h2, k1, k2⟩ := cmp_v (Or.inl hq)
  have e2 : y = .int k := (Option.some.inj h2).symm
  subst e2
  obtain ⟨z, rfl⟩ : ∃ z, x = .int z := k2
  have e3 : z = k := by simpa [Cond.value, h1, h2] using hq
  subst e3
  have ha : s.arrayAt? a = some cl := A.fin (Vm.Alike.refl _)
  by_cases hlt : cl.slots.size < 2 ^ 31
  · have q : cl.slots.size.toInt32 = z := by
      have h3 := len_f ev ha hlt
      rw [h1] at h3
      exact (Value.int.inj (Option.some.inj h3)).symm
    rw [← q]; simp only [Int32.toNatClampNeg, len_toInt hlt]; rfl
  · simp [Term.eval, ev, ha, hlt] at h1
/-- a field that the case says holds this int -/
theorem own_fldI {t : Term} {C n d : String} {k : Int32} {a : Addr} (ev : t.eval args s none [] s = some (.ref a)) (hq : (Cond.eq (Term.field t C n d) (Term.int k)).value args s none s [] = some true) : Fld s s.heap a C n d (.int k) := by
  obtain ⟨x, y, h1, h2, k1, k2⟩ := cmp_v (Or.inl hq)
  have e2 : y = .int k := (Option.some.inj h2).symm
  subst e2
  obtain ⟨z, rfl⟩ : ∃ z, x = .int z := k2
  have e3 : z = k := by simpa [Cond.value, h1, h2] using hq
  subst e3
  exact Fld.start ((fld_at ev).symm.trans h1)
end Own
end Jvm.RoadKit
namespace Jvm.RoadKit
open Sem ClassFile Op Lib Bundle Jvm.Stand Jvm.Free Jvm.LawKit
section OwnS
variable {p : Program} {l : Launch} {e : Env} {R : Room} {s : State} {m : MethodId} {args : Array Value} {below : List Frame} {meth : Method} {c : Code} {T T' : State} {locs : List Loc} {cells slots : Nat} {Z : State} {h0 h : Heap} {a0 : Array Value} {Q Q' : Option Value → Heap → List Loc → Prop} {rm rm0 : Room} {vm0 : Vm} {EL : List (String × Nat)}
/-- as own_Ends, where String constants may have been loaded on the way -/
def own_EndsS (Z : State) (EL : List (String × Nat)) (p : Program) (e : Env) (below : List Frame) (s : State) (Q : Option Value → Heap → List Loc → Prop) (rm : Room) (T : State) (g : JFrame) : Prop :=
  ∃ s₂ o, Steps p.tables e below (T.setTop g) s₂ ∧ s₂.status = .running ∧ Ended s₂ below o ∧ ∃ v L, o = .returned v ∧ Q v s₂.heap L ∧ CHr Z EL s.vm s.heap s₂.vm s₂.heap ∧ ReturnedEndW s o s₂ L rm.cells rm.slots
theorem own_goS {g g' : JFrame} (h : ∀ t, Steps p.tables e below (T'.setTop g') t → Steps p.tables e below (T.setTop g) t) (H : own_EndsS Z EL p e below s Q rm T' g') : own_EndsS Z EL p e below s Q rm T g := by
  obtain ⟨s₂, o, h1, r⟩ := H
  exact ⟨s₂, o, h _ h1, r⟩
theorem own_closedS : own_Closed p e below (own_EndsS Z EL p e below s Q rm) := fun _ _ _ _ h H => own_goS h H
theorem own_castS {g g' : JFrame} (q : g = g') (H : own_EndsS Z EL p e below s Q rm T g') : own_EndsS Z EL p e below s Q rm T g := q ▸ H
def own_MetS (l : Launch) (Z : State) (EL : List (String × Nat)) (y : MethodName) (bytes : ByteArray) (maxL : Nat) (ret : Option FieldType) (ws : List Cond) (rm : Room) (as' : Array Value) (h0 : Heap) (Q : Option Value → Heap → List Loc → Prop) : Prop :=
  MetFree l y (head1 (Cond.code y bytes maxL ret :: ws) rm) (fun a U => a = as' ∧ Z.Warmed39 U.vm ∧ U.heap = h0 ∧ CHv Z EL U.vm h0) (fun _ _ _ _ _ => True) (fun _ U o U' => ∃ v L, o = .returned v ∧ Q v U'.heap L ∧ CHr Z EL U.vm U.heap U'.vm U'.heap ∧ ReturnedEndW U o U' L rm.cells rm.slots)
theorem own_metS {y : MethodName} {bytes : ByteArray} {maxL : Nat} {ret : Option FieldType} {ws : List Cond} {as' : Array Value} (hy : plainFor y = true)
    (H : ∀ (p : Program) (e : Env) (s : State) (m : MethodId) (below : List Frame) (meth : Method) (c : Code) (s₁ : State), p.tables.exec = Jvm.exec → c.code = bytes → c.maxLocals = maxL → (s.setVm s.vm).vm.findClass y.cls = some m.cls → meth.name = y.name → meth.sig.returnType = ret → meth.locks = false → Z.Warmed39 (s.setVm s.vm).vm →
      Stand p l e rm (s.setVm s.vm) m as' below meth c s₁ [] 0 0 → s₁.heap = h0 → s.Since s.vm 0 → 0 ≤ h0.size → CHr Z EL s.vm s.heap s.vm h0 → s.heap = h0 → own_EndsS Z EL p e below s Q rm s₁ (entryFrame m as' maxL)) : own_MetS l Z EL y bytes maxL ret ws rm as' h0 Q := by
  refine MetFree.of_bodySF hy hisR ?_
  intro p e s m args below meth c s₁ Bd hml0 hP hK
  obtain ⟨rfl, hZ, hh, hC⟩ := hP
  have X : Stand p l e rm s m args below meth c s₁ [] 0 0 := Stand.of_body Bd
  have hC' : CHr Z EL s.vm s.heap s.vm h0 := by rw [hh]; exact CHr.refl hC
  exact H p e s m below meth c s₁ Bd.exec Bd.bytes hml0 (findClass_of_methodNamed Bd.named) (name_of_methodNamed Bd.named Bd.method).1 Bd.returns Bd.notSynchronized hZ X (by rw [← hh, Bd.state]; rfl) ((State.WarmedH.refl s).since 0) (Nat.zero_le _) hC' hh
theorem own_leaveS (X : Stand p l e R (s.setVm vm0) m args below meth c T locs cells slots) (hlk : meth.locks = false) (v : Option Value) (hv : meth.sig.returnType = none → v = none) {k0 : Nat} (hS : s.Since vm0 k0) (eT : T.heap = h) (hk : k0 ≤ h.size) (hZ : Z.Warmed39 (s.setVm vm0).vm) (hEL : EW Z a0 EL) (C : CHr Z EL s.vm s.heap vm0 h)
    (hkk : cells ≤ rm.cells) (hn : slots ≤ rm.slots) (hq : Q v h locs) {g : JFrame} (hst : ∀ fs, (∀ (f : JFrame) (acts : List Action), f.method = m → f.locked = none → f.entered = [] → (doReturn e (T.setTop f) acts v).1 = T.setFrames fs) → Steps p.tables e below (T.setTop g) (T.setFrames fs)) : own_EndsS Z EL p e below s Q rm T g := by
  subst eT
  obtain ⟨fs, hr, hrun, hended, h1, h2, h3, h4⟩ := X.leaveW hS hk hv hlk
  have hC := CHv.at X hZ hEL C.1
  exact ⟨_, _, hst fs hr, hrun, hended, _, _, rfl, hq, C.trans hC, h1, h2, h3, h4.mono hkk hn⟩
/-- a callee that loads no constant, in a walk that may have: Stand is over the re-based start; nothing else to say -/
theorem own_ldc (X : Stand p l e R (s.setVm vm0) m args below meth c T locs cells slots) (hx : p.tables.exec = Jvm.exec) (hZ : Z.Warmed39 (s.setVm vm0).vm) {own text : String} {index : Nat} (hown : (s.setVm vm0).vm.findClass own = some m.cls) (w : (Cond.stringLink own index text).before a0 Z = true) (wS : ∀ a ∈ Bundle.stringAtoms, a.before a0 Z = true)
    (eT : T.heap = h) {k0 : Nat} (hS : s.Since vm0 k0) (hk : k0 ≤ h.size) (hEL : EW Z a0 EL) (hmem : (own, index) ∈ EL) (C : CHr Z EL s.vm s.heap vm0 h)
    {vs : List Value} {z : Int32} (ht : (∀ c ∈ text.toList, c.toNat < 256) ∧ text.toList.map (fun c => Value.int (Jvm.Lit.byteI c.toNat.toUInt16)) = vs) (hz : ¬ z < 0) (hl : z.toNatClampNeg = vs.length)
    {g : JFrame} (hg : g.method = m) (hd : decode c.code g.pc = .ok (.ldc index, 2)) {n : Nat} (hn : 4 * text.toList.length ≤ n) (hbig : n ≤ 536870912) (hc : cells + 2 ≤ R.cells) (hl' : slots + (n + 4) ≤ R.slots) :
    ∃ (a : Addr) (T' : State) (h' : Heap) (vm1 : Vm) (k1 : Nat) (b : Addr) (k : ClassId), Stand p l e R (s.setVm vm1) m args below meth c T' locs (cells + 2) (slots + (n + 4)) ∧ T'.heap = h' ∧ Ext h h' ∧ s.Since vm1 k1 ∧ k1 ≤ h'.size ∧ Z.Warmed39 (s.setVm vm1).vm ∧ (s.setVm vm1).vm.findClass own = some m.cls ∧
      Exa Z h' a "java/lang/String" ∧ Fld Z h' a "java/lang/String" "coder" "B" (.int 0) ∧ Fld Z h' a "java/lang/String" "value" "[B" (.ref b) ∧ Arv Z h' b k .byte z vs (.int 0) ∧ CHr Z EL s.vm s.heap vm1 h' ∧ CHr Z EL vm0 h vm1 h' ∧ (∀ x, Safe Z EL vm1 h' x → x ≠ a ∧ x ≠ b) ∧
      ∀ target, Steps p.tables e below (T'.setTop { g with pc := g.pc + 2, stack := .ref a :: g.stack }) target → Steps p.tables e below (T.setTop g) target := by
  obtain ⟨a, T', h', k1, b, k, r1, r2, r3, r4, r5, r6, r7, r8, r9, r10, r11, -, -, r14, -, r16, r17⟩ := ldcCH X hx hZ hown w wS eT hS hk hEL hmem C.1 ht hz hl hg hd hn hbig hc hl'
  exact ⟨a, T', h', T'.vm, k1, b, k, r1, r2, r3, r4, r5, r6, r7, r8, r9, r10, r11, C.trans r14, r14, r16, r17⟩
/-- invokestatic of a callee that may load constants -/
theorem own_callSS (X : Stand p l e R (s.setVm vm0) m args below meth c T locs cells slots) (hx : p.tables.exec = Jvm.exec) (hZ : Z.Warmed39 (s.setVm vm0).vm) {own : String} {index : Nat} {y : MethodName} (hown : (s.setVm vm0).vm.findClass own = some m.cls)
    (w1 : (Cond.methodLink own index y).before a0 Z = true) (w2 : (Cond.static y).before a0 Z = true) (hy : y.cls ≠ "java/lang/invoke/MethodHandle" ∧ y.cls ≠ "java/lang/invoke/VarHandle")
    {bytes : ByteArray} {maxL : Nat} {ret : Option FieldType} {as' : Array Value} (hM : own_MetS l Z EL y bytes maxL ret [] rm0 as' h Q') (wc : (Cond.code y bytes maxL ret).before a0 Z = true) (wz : (Cond.initialized y.cls).before a0 Z = true)
    (eT : T.heap = h) {k0 : Nat} (hS : s.Since vm0 k0) (hk : k0 ≤ h.size) (hEL : EW Z a0 EL) (C : CHr Z EL s.vm s.heap vm0 h) {pc W : Nat} {Ls : Array Slot} {argsL rest : List Value} (hsize : Ls.size = c.maxLocals) (hlen : ∀ sig, parseMethodDescriptor y.desc = some sig → argsL.length = sig.parameters.length)
    (hW : (rest.map fun v => v.category).sum ≤ W) (hf : rm0.frames + 1 ≤ R.frames) (hl : W + (maxL + 11) + rm0.locals ≤ R.locals) (hc : cells + rm0.cells ≤ R.cells) (hn : slots + rm0.slots ≤ R.slots)
    (hdg : decode c.code pc = .ok (.invokestatic index, 3)) (has : argsL.toArray = as') {st : List Value} (hst : st = argsL.reverse ++ rest)
    (k : ∀ (T' : State) (L : List Loc) (v : Option Value) (vm1 : Vm) (k1 : Nat), Stand p l e R (s.setVm vm1) m args below meth c T' (locs ++ L) (cells + rm0.cells) (slots + rm0.slots) → Q' v T'.heap L → s.Since vm1 k1 → k1 ≤ T'.heap.size → Z.Warmed39 (s.setVm vm1).vm → (s.setVm vm1).vm.findClass own = some m.cls → CHr Z EL s.vm s.heap vm1 T'.heap → own_EndsS Z EL p e below s Q rm T' (mkF m (pc + 3) Ls (v.toList ++ rest))) :
    own_EndsS Z EL p e below s Q rm T (mkF m pc Ls st) := by
  subst hst
  obtain ⟨v, vm₁, ⟨T4, L4, k4, n4⟩, -, X4, hS4, hsz, ⟨Lc, hQ, l4, y4, z4, hC⟩, st4⟩ := callSS X hx (y := y) hown (mvT hZ w1) (mvT hZ w2) (mvT hZ wz) (mvT hZ wc) hy (backOfSH (W := W) hM hZ wc wz hf hl hEL C.1) (g := mkF m pc Ls (argsL.reverse ++ rest)) rfl hsize (argsL := argsL) (rest := rest) hlen rfl (by simpa [JFrame.monitorRoom] using hW) hdg (fun _ _ => ⟨has, eT, hc, hn⟩)
  dsimp only [Pt.U, Pt.locs, Pt.cells, Pt.slots] at X4 hS4 hsz l4 y4 z4 st4 hQ hC
  subst l4 y4 z4
  obtain ⟨X5, S5, Z5, o5⟩ := rebS hS hk X4 hS4 (by rw [← eT]; exact hsz) hZ hown
  exact own_goS (fun t kt => st4.trans kt) (k _ _ _ _ _ X5 hQ S5 (Nat.le_refl _) Z5 o5 (C.trans hC))
end OwnS
end Jvm.RoadKit
namespace Jvm.Pilot.@@N@@
open Jvm Jvm.ClassFile Sem Op Lib Jvm.Free Jvm.Stand Jvm.LawKit Jvm.RoadKit Bundle Jvm.Pilot.@@N@@.Jvm.D
theorem pd_0 : parseMethodDescriptor "([B[B)Z" = some ⟨[(.array .byte), (.array .byte)], some .boolean⟩ := by decide +kernel
theorem pd_1 : parseMethodDescriptor "(I)Lcom/example/inchworm/inchworm/core/Step;" = some ⟨[.int], some (.object "com/example/inchworm/inchworm/core/Step")⟩ := by decide +kernel
theorem pd_2 : parseMethodDescriptor "()Ljava/lang/String;" = some ⟨[], some (.object "java/lang/String")⟩ := by decide +kernel
theorem pd_3 : parseMethodDescriptor "(Ljava/lang/Object;)Z" = some ⟨[(.object "java/lang/Object")], some .boolean⟩ := by decide +kernel
theorem pd_4 : parseMethodDescriptor "(I)Lcom/example/inchworm/inchworm/core/VersionState;" = some ⟨[.int], some (.object "com/example/inchworm/inchworm/core/VersionState")⟩ := by decide +kernel
theorem pd_5 : parseMethodDescriptor "()Z" = some ⟨[], some .boolean⟩ := by decide +kernel
theorem pd_6 : parseMethodDescriptor "(Lcom/example/inchworm/inchworm/core/VersionState;)Lcom/example/inchworm/inchworm/core/Step;" = some ⟨[(.object "com/example/inchworm/inchworm/core/VersionState")], some (.object "com/example/inchworm/inchworm/core/Step")⟩ := by decide +kernel
theorem d1_0 : decode method_2_code 0 = .ok (.iload_n 0, 1) := by decide +kernel
theorem d1_1 : decode method_2_code 1 = .ok (.iconst 3, 1) := by decide +kernel
theorem d1_2 : decode method_2_code 2 = .ok (.iand, 1) := by decide +kernel
theorem d1_3 : decode method_2_code 3 = .ok (.istore_n 1, 1) := by decide +kernel
theorem d1_4 : decode method_2_code 4 = .ok (.iload_n 1, 1) := by decide +kernel
theorem d1_5 : decode method_2_code 5 = .ok (.ifCond .ne 7, 3) := by decide +kernel
theorem d1_8 : decode method_2_code 8 = .ok (.getstatic 7, 3) := by decide +kernel
theorem d1_11 : decode method_2_code 11 = .ok (.areturn, 1) := by decide +kernel
theorem rmS_0_pn : plainFor (⟨"com/example/inchworm/inchworm/core/StepUndoesPinLaw", "step", "(I)Lcom/example/inchworm/inchworm/core/Step;"⟩ : MethodName) = true := plainFor_of_name (show plainName "com/example/inchworm/inchworm/core/StepUndoesPinLaw" = true by first | (simp [plainName, overriddenIn]; done) | decide +kernel)
theorem rmS_0_ef (mI : MethodId) (k : Int32) : entryFrame mI #[(.int k)] 2 = mkF mI 0 #[.val (.int k), .unset] [] := by first | (simp [entryFrame, mkF, argsToLocals, Value.category]; done) | rfl
set_option maxRecDepth 65536 in
set_option maxHeartbeats 40000000 in
theorem rmS_0 (l : Launch) (Z : State) (a0 : Array Value) (hw : ∀ d ∈ tables_1, d.before a0 Z = true) (ws : List Jvm.Cond) (h0 : Heap) (k : Int32) (hk0 : (k &&& (3 : Int32)) = (0 : Int32)) (t0 : Addr) (S_t0 : Sta Z h0 "com/example/inchworm/inchworm/core/Step" "APPLY" "Lcom/example/inchworm/inchworm/core/Step;" (.ref t0)) (t1 : Addr) (S_t1 : Sta Z h0 "com/example/inchworm/inchworm/core/Step" "RETIRE" "Lcom/example/inchworm/inchworm/core/Step;" (.ref t1)) (t2 : Addr) (S_t2 : Sta Z h0 "com/example/inchworm/inchworm/core/Step" "UNDO_TRANSITION" "Lcom/example/inchworm/inchworm/core/Step;" (.ref t2)) (t3 : Addr) (S_t3 : Sta Z h0 "com/example/inchworm/inchworm/core/Step" "UNDO_APPLIED" "Lcom/example/inchworm/inchworm/core/Step;" (.ref t3)) :
    own_Met l Z (⟨"com/example/inchworm/inchworm/core/StepUndoesPinLaw", "step", "(I)Lcom/example/inchworm/inchworm/core/Step;"⟩ : MethodName) method_2_code 2 (some (.object "com/example/inchworm/inchworm/core/Step")) ws ({ frames := 0, cells := 0, slots := 0, locals := 0 } : Room) #[(.int k)] h0 (own_QP h0 (some (.ref t0))) := by
  refine own_met rmS_0_pn ?_
  intro pP eE sS mI bB mT cC s₁ hx hby hml hown hnm hret hlk hZ X0 e0
  replace hown : sS.vm.findClass "com/example/inchworm/inchworm/core/StepUndoesPinLaw" = some mI.cls := hown
  refine own_cast (rmS_0_ef mI k) ?_
  refine own_go (T' := s₁) (g' := (mkF mI 1 #[.val (.int k), .unset] [(.int k)])) (fun t_ kt_ => XS.iloadN X0.here hx rfl (hb hby d1_0) rfl kt_) ?_
  refine own_go (T' := s₁) (g' := (mkF mI 2 #[.val (.int k), .unset] [(.int (3 : Int32)), (.int k)])) (fun t_ kt_ => XS.iconst X0.here hx rfl (hb hby d1_1) kt_) ?_
  refine own_go (T' := s₁) (g' := (mkF mI 3 #[.val (.int k), .unset] [(.int (k &&& (3 : Int32)))])) (fun t_ kt_ => XS.iand X0.here hx rfl (hb hby d1_2) rfl kt_) ?_
  refine own_go (T' := s₁) (g' := (mkF mI 4 #[.val (.int k), .val (.int (k &&& (3 : Int32)))] [])) (fun t_ kt_ => XS.istoreN X0.here hx rfl (hb hby d1_3) rfl (l' := #[.val (.int k), .val (.int (k &&& (3 : Int32)))]) rfl kt_) ?_
  refine own_go (T' := s₁) (g' := (mkF mI 5 #[.val (.int k), .val (.int (k &&& (3 : Int32)))] [(.int (k &&& (3 : Int32)))])) (fun t_ kt_ => XS.iloadN X0.here hx rfl (hb hby d1_4) rfl kt_) ?_
  refine own_go (T' := s₁) (g' := (mkF mI 8 #[.val (.int k), .val (.int (k &&& (3 : Int32)))] [])) (fun t_ kt_ => XS.ifNo X0.here hx rfl (hb hby d1_5) rfl ((if0 _ _).trans (teq (hk0 : (k &&& (3 : Int32)) = (0 : Int32))).2) kt_) ?_
  obtain ⟨Ta1, Xa1, ea1, sta1⟩ := getS2 X0 hx hZ hown (host := "") (Or.inl (hw _ (List.mem_of_getElem? (i := 4) rfl))) Via.refl e0 S_t0 (g := (mkF mI 8 #[.val (.int k), .val (.int (k &&& (3 : Int32)))] [])) rfl (hb hby d1_8)
  refine own_go (T' := Ta1) (g' := (mkF mI 11 #[.val (.int k), .val (.int (k &&& (3 : Int32)))] [(.ref t0)])) (fun t_ kt_ => sta1 _ kt_) ?_
  refine own_retA Xa1 hx hlk hret rfl rfl (hb hby d1_11) (by decide) (by decide) ?_
  exact ⟨rfl, rfl, ea1⟩
theorem d1_12 : decode method_2_code 12 = .ok (.iload_n 1, 1) := by decide +kernel
theorem d1_13 : decode method_2_code 13 = .ok (.iconst 1, 1) := by decide +kernel
theorem d1_14 : decode method_2_code 14 = .ok (.if_icmp .ne 7, 3) := by decide +kernel
theorem d1_17 : decode method_2_code 17 = .ok (.getstatic 13, 3) := by decide +kernel
theorem d1_20 : decode method_2_code 20 = .ok (.areturn, 1) := by decide +kernel
theorem rmS_1_pn : plainFor (⟨"com/example/inchworm/inchworm/core/StepUndoesPinLaw", "step", "(I)Lcom/example/inchworm/inchworm/core/Step;"⟩ : MethodName) = true := plainFor_of_name (show plainName "com/example/inchworm/inchworm/core/StepUndoesPinLaw" = true by first | (simp [plainName, overriddenIn]; done) | decide +kernel)
theorem rmS_1_ef (mI : MethodId) (k : Int32) : entryFrame mI #[(.int k)] 2 = mkF mI 0 #[.val (.int k), .unset] [] := by first | (simp [entryFrame, mkF, argsToLocals, Value.category]; done) | rfl
set_option maxRecDepth 65536 in
set_option maxHeartbeats 40000000 in
theorem rmS_1 (l : Launch) (Z : State) (a0 : Array Value) (hw : ∀ d ∈ tables_1, d.before a0 Z = true) (ws : List Jvm.Cond) (h0 : Heap) (k : Int32) (hk0 : ¬ ((k &&& (3 : Int32)) = (0 : Int32))) (hk1 : (k &&& (3 : Int32)) = (1 : Int32)) (t0 : Addr) (S_t0 : Sta Z h0 "com/example/inchworm/inchworm/core/Step" "APPLY" "Lcom/example/inchworm/inchworm/core/Step;" (.ref t0)) (t1 : Addr) (S_t1 : Sta Z h0 "com/example/inchworm/inchworm/core/Step" "RETIRE" "Lcom/example/inchworm/inchworm/core/Step;" (.ref t1)) (t2 : Addr) (S_t2 : Sta Z h0 "com/example/inchworm/inchworm/core/Step" "UNDO_TRANSITION" "Lcom/example/inchworm/inchworm/core/Step;" (.ref t2)) (t3 : Addr) (S_t3 : Sta Z h0 "com/example/inchworm/inchworm/core/Step" "UNDO_APPLIED" "Lcom/example/inchworm/inchworm/core/Step;" (.ref t3)) :
    own_Met l Z (⟨"com/example/inchworm/inchworm/core/StepUndoesPinLaw", "step", "(I)Lcom/example/inchworm/inchworm/core/Step;"⟩ : MethodName) method_2_code 2 (some (.object "com/example/inchworm/inchworm/core/Step")) ws ({ frames := 0, cells := 0, slots := 0, locals := 0 } : Room) #[(.int k)] h0 (own_QP h0 (some (.ref t1))) := by
  refine own_met rmS_1_pn ?_
  intro pP eE sS mI bB mT cC s₁ hx hby hml hown hnm hret hlk hZ X0 e0
  replace hown : sS.vm.findClass "com/example/inchworm/inchworm/core/StepUndoesPinLaw" = some mI.cls := hown
  refine own_cast (rmS_1_ef mI k) ?_
  refine own_go (T' := s₁) (g' := (mkF mI 1 #[.val (.int k), .unset] [(.int k)])) (fun t_ kt_ => XS.iloadN X0.here hx rfl (hb hby d1_0) rfl kt_) ?_
  refine own_go (T' := s₁) (g' := (mkF mI 2 #[.val (.int k), .unset] [(.int (3 : Int32)), (.int k)])) (fun t_ kt_ => XS.iconst X0.here hx rfl (hb hby d1_1) kt_) ?_
  refine own_go (T' := s₁) (g' := (mkF mI 3 #[.val (.int k), .unset] [(.int (k &&& (3 : Int32)))])) (fun t_ kt_ => XS.iand X0.here hx rfl (hb hby d1_2) rfl kt_) ?_
  refine own_go (T' := s₁) (g' := (mkF mI 4 #[.val (.int k), .val (.int (k &&& (3 : Int32)))] [])) (fun t_ kt_ => XS.istoreN X0.here hx rfl (hb hby d1_3) rfl (l' := #[.val (.int k), .val (.int (k &&& (3 : Int32)))]) rfl kt_) ?_
  refine own_go (T' := s₁) (g' := (mkF mI 5 #[.val (.int k), .val (.int (k &&& (3 : Int32)))] [(.int (k &&& (3 : Int32)))])) (fun t_ kt_ => XS.iloadN X0.here hx rfl (hb hby d1_4) rfl kt_) ?_
  refine own_go (T' := s₁) (g' := (mkF mI 12 #[.val (.int k), .val (.int (k &&& (3 : Int32)))] [])) (fun t_ kt_ => XS.ifYes X0.here hx rfl (pc0 := 5) (pc' := 12) rfl (hb hby d1_5) rfl ((if0 _ _).trans (feq (hk0 : ¬ ((k &&& (3 : Int32)) = (0 : Int32)))).2) (by decide) (by decide) kt_) ?_
  refine own_go (T' := s₁) (g' := (mkF mI 13 #[.val (.int k), .val (.int (k &&& (3 : Int32)))] [(.int (k &&& (3 : Int32)))])) (fun t_ kt_ => XS.iloadN X0.here hx rfl (hb hby d1_12) rfl kt_) ?_
  refine own_go (T' := s₁) (g' := (mkF mI 14 #[.val (.int k), .val (.int (k &&& (3 : Int32)))] [(.int (1 : Int32)), (.int (k &&& (3 : Int32)))])) (fun t_ kt_ => XS.iconst X0.here hx rfl (hb hby d1_13) kt_) ?_
  refine own_go (T' := s₁) (g' := (mkF mI 17 #[.val (.int k), .val (.int (k &&& (3 : Int32)))] [])) (fun t_ kt_ => XS.icmpNo X0.here hx rfl (hb hby d1_14) rfl (teq (hk1 : (k &&& (3 : Int32)) = (1 : Int32))).2 kt_) ?_
  obtain ⟨Ta1, Xa1, ea1, sta1⟩ := getS2 X0 hx hZ hown (host := "") (Or.inl (hw _ (List.mem_of_getElem? (i := 61) rfl))) Via.refl e0 S_t1 (g := (mkF mI 17 #[.val (.int k), .val (.int (k &&& (3 : Int32)))] [])) rfl (hb hby d1_17)
  refine own_go (T' := Ta1) (g' := (mkF mI 20 #[.val (.int k), .val (.int (k &&& (3 : Int32)))] [(.ref t1)])) (fun t_ kt_ => sta1 _ kt_) ?_
  refine own_retA Xa1 hx hlk hret rfl rfl (hb hby d1_20) (by decide) (by decide) ?_
  exact ⟨rfl, rfl, ea1⟩
theorem d1_21 : decode method_2_code 21 = .ok (.iload_n 1, 1) := by decide +kernel
theorem d1_22 : decode method_2_code 22 = .ok (.iconst 2, 1) := by decide +kernel
theorem d1_23 : decode method_2_code 23 = .ok (.if_icmp .ne 7, 3) := by decide +kernel
theorem d1_26 : decode method_2_code 26 = .ok (.getstatic 16, 3) := by decide +kernel
theorem d1_29 : decode method_2_code 29 = .ok (.areturn, 1) := by decide +kernel
theorem rmS_2_pn : plainFor (⟨"com/example/inchworm/inchworm/core/StepUndoesPinLaw", "step", "(I)Lcom/example/inchworm/inchworm/core/Step;"⟩ : MethodName) = true := plainFor_of_name (show plainName "com/example/inchworm/inchworm/core/StepUndoesPinLaw" = true by first | (simp [plainName, overriddenIn]; done) | decide +kernel)
theorem rmS_2_ef (mI : MethodId) (k : Int32) : entryFrame mI #[(.int k)] 2 = mkF mI 0 #[.val (.int k), .unset] [] := by first | (simp [entryFrame, mkF, argsToLocals, Value.category]; done) | rfl
set_option maxRecDepth 65536 in
set_option maxHeartbeats 40000000 in
theorem rmS_2 (l : Launch) (Z : State) (a0 : Array Value) (hw : ∀ d ∈ tables_1, d.before a0 Z = true) (ws : List Jvm.Cond) (h0 : Heap) (k : Int32) (hk0 : ¬ ((k &&& (3 : Int32)) = (0 : Int32))) (hk1 : ¬ ((k &&& (3 : Int32)) = (1 : Int32))) (hk2 : (k &&& (3 : Int32)) = (2 : Int32)) (t0 : Addr) (S_t0 : Sta Z h0 "com/example/inchworm/inchworm/core/Step" "APPLY" "Lcom/example/inchworm/inchworm/core/Step;" (.ref t0)) (t1 : Addr) (S_t1 : Sta Z h0 "com/example/inchworm/inchworm/core/Step" "RETIRE" "Lcom/example/inchworm/inchworm/core/Step;" (.ref t1)) (t2 : Addr) (S_t2 : Sta Z h0 "com/example/inchworm/inchworm/core/Step" "UNDO_TRANSITION" "Lcom/example/inchworm/inchworm/core/Step;" (.ref t2)) (t3 : Addr) (S_t3 : Sta Z h0 "com/example/inchworm/inchworm/core/Step" "UNDO_APPLIED" "Lcom/example/inchworm/inchworm/core/Step;" (.ref t3)) :
    own_Met l Z (⟨"com/example/inchworm/inchworm/core/StepUndoesPinLaw", "step", "(I)Lcom/example/inchworm/inchworm/core/Step;"⟩ : MethodName) method_2_code 2 (some (.object "com/example/inchworm/inchworm/core/Step")) ws ({ frames := 0, cells := 0, slots := 0, locals := 0 } : Room) #[(.int k)] h0 (own_QP h0 (some (.ref t2))) := by
  refine own_met rmS_2_pn ?_
  intro pP eE sS mI bB mT cC s₁ hx hby hml hown hnm hret hlk hZ X0 e0
  replace hown : sS.vm.findClass "com/example/inchworm/inchworm/core/StepUndoesPinLaw" = some mI.cls := hown
  refine own_cast (rmS_2_ef mI k) ?_
  refine own_go (T' := s₁) (g' := (mkF mI 1 #[.val (.int k), .unset] [(.int k)])) (fun t_ kt_ => XS.iloadN X0.here hx rfl (hb hby d1_0) rfl kt_) ?_
  refine own_go (T' := s₁) (g' := (mkF mI 2 #[.val (.int k), .unset] [(.int (3 : Int32)), (.int k)])) (fun t_ kt_ => XS.iconst X0.here hx rfl (hb hby d1_1) kt_) ?_
  refine own_go (T' := s₁) (g' := (mkF mI 3 #[.val (.int k), .unset] [(.int (k &&& (3 : Int32)))])) (fun t_ kt_ => XS.iand X0.here hx rfl (hb hby d1_2) rfl kt_) ?_
  refine own_go (T' := s₁) (g' := (mkF mI 4 #[.val (.int k), .val (.int (k &&& (3 : Int32)))] [])) (fun t_ kt_ => XS.istoreN X0.here hx rfl (hb hby d1_3) rfl (l' := #[.val (.int k), .val (.int (k &&& (3 : Int32)))]) rfl kt_) ?_
  refine own_go (T' := s₁) (g' := (mkF mI 5 #[.val (.int k), .val (.int (k &&& (3 : Int32)))] [(.int (k &&& (3 : Int32)))])) (fun t_ kt_ => XS.iloadN X0.here hx rfl (hb hby d1_4) rfl kt_) ?_
  refine own_go (T' := s₁) (g' := (mkF mI 12 #[.val (.int k), .val (.int (k &&& (3 : Int32)))] [])) (fun t_ kt_ => XS.ifYes X0.here hx rfl (pc0 := 5) (pc' := 12) rfl (hb hby d1_5) rfl ((if0 _ _).trans (feq (hk0 : ¬ ((k &&& (3 : Int32)) = (0 : Int32)))).2) (by decide) (by decide) kt_) ?_
  refine own_go (T' := s₁) (g' := (mkF mI 13 #[.val (.int k), .val (.int (k &&& (3 : Int32)))] [(.int (k &&& (3 : Int32)))])) (fun t_ kt_ => XS.iloadN X0.here hx rfl (hb hby d1_12) rfl kt_) ?_
  refine own_go (T' := s₁) (g' := (mkF mI 14 #[.val (.int k), .val (.int (k &&& (3 : Int32)))] [(.int (1 : Int32)), (.int (k &&& (3 : Int32)))])) (fun t_ kt_ => XS.iconst X0.here hx rfl (hb hby d1_13) kt_) ?_
  refine own_go (T' := s₁) (g' := (mkF mI 21 #[.val (.int k), .val (.int (k &&& (3 : Int32)))] [])) (fun t_ kt_ => XS.icmpYes X0.here hx rfl (pc0 := 14) (pc' := 21) rfl (hb hby d1_14) rfl (feq (hk1 : ¬ ((k &&& (3 : Int32)) = (1 : Int32)))).2 (by decide) (by decide) kt_) ?_
  refine own_go (T' := s₁) (g' := (mkF mI 22 #[.val (.int k), .val (.int (k &&& (3 : Int32)))] [(.int (k &&& (3 : Int32)))])) (fun t_ kt_ => XS.iloadN X0.here hx rfl (hb hby d1_21) rfl kt_) ?_
  refine own_go (T' := s₁) (g' := (mkF mI 23 #[.val (.int k), .val (.int (k &&& (3 : Int32)))] [(.int (2 : Int32)), (.int (k &&& (3 : Int32)))])) (fun t_ kt_ => XS.iconst X0.here hx rfl (hb hby d1_22) kt_) ?_
  refine own_go (T' := s₁) (g' := (mkF mI 26 #[.val (.int k), .val (.int (k &&& (3 : Int32)))] [])) (fun t_ kt_ => XS.icmpNo X0.here hx rfl (hb hby d1_23) rfl (teq (hk2 : (k &&& (3 : Int32)) = (2 : Int32))).2 kt_) ?_
  obtain ⟨Ta1, Xa1, ea1, sta1⟩ := getS2 X0 hx hZ hown (host := "") (Or.inl (hw _ (List.mem_of_getElem? (i := 57) rfl))) Via.refl e0 S_t2 (g := (mkF mI 26 #[.val (.int k), .val (.int (k &&& (3 : Int32)))] [])) rfl (hb hby d1_26)
  refine own_go (T' := Ta1) (g' := (mkF mI 29 #[.val (.int k), .val (.int (k &&& (3 : Int32)))] [(.ref t2)])) (fun t_ kt_ => sta1 _ kt_) ?_
  refine own_retA Xa1 hx hlk hret rfl rfl (hb hby d1_29) (by decide) (by decide) ?_
  exact ⟨rfl, rfl, ea1⟩
theorem d1_30 : decode method_2_code 30 = .ok (.getstatic 19, 3) := by decide +kernel
theorem d1_33 : decode method_2_code 33 = .ok (.areturn, 1) := by decide +kernel
theorem rmS_3_pn : plainFor (⟨"com/example/inchworm/inchworm/core/StepUndoesPinLaw", "step", "(I)Lcom/example/inchworm/inchworm/core/Step;"⟩ : MethodName) = true := plainFor_of_name (show plainName "com/example/inchworm/inchworm/core/StepUndoesPinLaw" = true by first | (simp [plainName, overriddenIn]; done) | decide +kernel)
theorem rmS_3_ef (mI : MethodId) (k : Int32) : entryFrame mI #[(.int k)] 2 = mkF mI 0 #[.val (.int k), .unset] [] := by first | (simp [entryFrame, mkF, argsToLocals, Value.category]; done) | rfl
set_option maxRecDepth 65536 in
set_option maxHeartbeats 40000000 in
theorem rmS_3 (l : Launch) (Z : State) (a0 : Array Value) (hw : ∀ d ∈ tables_1, d.before a0 Z = true) (ws : List Jvm.Cond) (h0 : Heap) (k : Int32) (hk0 : ¬ ((k &&& (3 : Int32)) = (0 : Int32))) (hk1 : ¬ ((k &&& (3 : Int32)) = (1 : Int32))) (hk2 : ¬ ((k &&& (3 : Int32)) = (2 : Int32))) (t0 : Addr) (S_t0 : Sta Z h0 "com/example/inchworm/inchworm/core/Step" "APPLY" "Lcom/example/inchworm/inchworm/core/Step;" (.ref t0)) (t1 : Addr) (S_t1 : Sta Z h0 "com/example/inchworm/inchworm/core/Step" "RETIRE" "Lcom/example/inchworm/inchworm/core/Step;" (.ref t1)) (t2 : Addr) (S_t2 : Sta Z h0 "com/example/inchworm/inchworm/core/Step" "UNDO_TRANSITION" "Lcom/example/inchworm/inchworm/core/Step;" (.ref t2)) (t3 : Addr) (S_t3 : Sta Z h0 "com/example/inchworm/inchworm/core/Step" "UNDO_APPLIED" "Lcom/example/inchworm/inchworm/core/Step;" (.ref t3)) :
    own_Met l Z (⟨"com/example/inchworm/inchworm/core/StepUndoesPinLaw", "step", "(I)Lcom/example/inchworm/inchworm/core/Step;"⟩ : MethodName) method_2_code 2 (some (.object "com/example/inchworm/inchworm/core/Step")) ws ({ frames := 0, cells := 0, slots := 0, locals := 0 } : Room) #[(.int k)] h0 (own_QP h0 (some (.ref t3))) := by
  refine own_met rmS_3_pn ?_
  intro pP eE sS mI bB mT cC s₁ hx hby hml hown hnm hret hlk hZ X0 e0
  replace hown : sS.vm.findClass "com/example/inchworm/inchworm/core/StepUndoesPinLaw" = some mI.cls := hown
  refine own_cast (rmS_3_ef mI k) ?_
  refine own_go (T' := s₁) (g' := (mkF mI 1 #[.val (.int k), .unset] [(.int k)])) (fun t_ kt_ => XS.iloadN X0.here hx rfl (hb hby d1_0) rfl kt_) ?_
  refine own_go (T' := s₁) (g' := (mkF mI 2 #[.val (.int k), .unset] [(.int (3 : Int32)), (.int k)])) (fun t_ kt_ => XS.iconst X0.here hx rfl (hb hby d1_1) kt_) ?_
  refine own_go (T' := s₁) (g' := (mkF mI 3 #[.val (.int k), .unset] [(.int (k &&& (3 : Int32)))])) (fun t_ kt_ => XS.iand X0.here hx rfl (hb hby d1_2) rfl kt_) ?_
  refine own_go (T' := s₁) (g' := (mkF mI 4 #[.val (.int k), .val (.int (k &&& (3 : Int32)))] [])) (fun t_ kt_ => XS.istoreN X0.here hx rfl (hb hby d1_3) rfl (l' := #[.val (.int k), .val (.int (k &&& (3 : Int32)))]) rfl kt_) ?_
  refine own_go (T' := s₁) (g' := (mkF mI 5 #[.val (.int k), .val (.int (k &&& (3 : Int32)))] [(.int (k &&& (3 : Int32)))])) (fun t_ kt_ => XS.iloadN X0.here hx rfl (hb hby d1_4) rfl kt_) ?_
  refine own_go (T' := s₁) (g' := (mkF mI 12 #[.val (.int k), .val (.int (k &&& (3 : Int32)))] [])) (fun t_ kt_ => XS.ifYes X0.here hx rfl (pc0 := 5) (pc' := 12) rfl (hb hby d1_5) rfl ((if0 _ _).trans (feq (hk0 : ¬ ((k &&& (3 : Int32)) = (0 : Int32)))).2) (by decide) (by decide) kt_) ?_
  refine own_go (T' := s₁) (g' := (mkF mI 13 #[.val (.int k), .val (.int (k &&& (3 : Int32)))] [(.int (k &&& (3 : Int32)))])) (fun t_ kt_ => XS.iloadN X0.here hx rfl (hb hby d1_12) rfl kt_) ?_
  refine own_go (T' := s₁) (g' := (mkF mI 14 #[.val (.int k), .val (.int (k &&& (3 : Int32)))] [(.int (1 : Int32)), (.int (k &&& (3 : Int32)))])) (fun t_ kt_ => XS.iconst X0.here hx rfl (hb hby d1_13) kt_) ?_
  refine own_go (T' := s₁) (g' := (mkF mI 21 #[.val (.int k), .val (.int (k &&& (3 : Int32)))] [])) (fun t_ kt_ => XS.icmpYes X0.here hx rfl (pc0 := 14) (pc' := 21) rfl (hb hby d1_14) rfl (feq (hk1 : ¬ ((k &&& (3 : Int32)) = (1 : Int32)))).2 (by decide) (by decide) kt_) ?_
  refine own_go (T' := s₁) (g' := (mkF mI 22 #[.val (.int k), .val (.int (k &&& (3 : Int32)))] [(.int (k &&& (3 : Int32)))])) (fun t_ kt_ => XS.iloadN X0.here hx rfl (hb hby d1_21) rfl kt_) ?_
  refine own_go (T' := s₁) (g' := (mkF mI 23 #[.val (.int k), .val (.int (k &&& (3 : Int32)))] [(.int (2 : Int32)), (.int (k &&& (3 : Int32)))])) (fun t_ kt_ => XS.iconst X0.here hx rfl (hb hby d1_22) kt_) ?_
  refine own_go (T' := s₁) (g' := (mkF mI 30 #[.val (.int k), .val (.int (k &&& (3 : Int32)))] [])) (fun t_ kt_ => XS.icmpYes X0.here hx rfl (pc0 := 23) (pc' := 30) rfl (hb hby d1_23) rfl (feq (hk2 : ¬ ((k &&& (3 : Int32)) = (2 : Int32)))).2 (by decide) (by decide) kt_) ?_
  obtain ⟨Ta1, Xa1, ea1, sta1⟩ := getS2 X0 hx hZ hown (host := "") (Or.inl (hw _ (List.mem_of_getElem? (i := 63) rfl))) Via.refl e0 S_t3 (g := (mkF mI 30 #[.val (.int k), .val (.int (k &&& (3 : Int32)))] [])) rfl (hb hby d1_30)
  refine own_go (T' := Ta1) (g' := (mkF mI 33 #[.val (.int k), .val (.int (k &&& (3 : Int32)))] [(.ref t3)])) (fun t_ kt_ => sta1 _ kt_) ?_
  refine own_retA Xa1 hx hlk hret rfl rfl (hb hby d1_33) (by decide) (by decide) ?_
  exact ⟨rfl, rfl, ea1⟩
theorem d5_0 : decode method_3_code 0 = .ok (.iload_n 0, 1) := by decide +kernel
theorem d5_1 : decode method_3_code 1 = .ok (.ldc 22, 2) := by decide +kernel
theorem d5_3 : decode method_3_code 3 = .ok (.iand, 1) := by decide +kernel
theorem d5_4 : decode method_3_code 4 = .ok (.iconst 3, 1) := by decide +kernel
theorem d5_5 : decode method_3_code 5 = .ok (.irem, 1) := by decide +kernel
theorem d5_6 : decode method_3_code 6 = .ok (.istore_n 1, 1) := by decide +kernel
theorem d5_7 : decode method_3_code 7 = .ok (.iload_n 1, 1) := by decide +kernel
theorem d5_8 : decode method_3_code 8 = .ok (.ifCond .ne 7, 3) := by decide +kernel
theorem d5_11 : decode method_3_code 11 = .ok (.getstatic 23, 3) := by decide +kernel
theorem d5_14 : decode method_3_code 14 = .ok (.areturn, 1) := by decide +kernel
theorem rmV_0_pn : plainFor (⟨"com/example/inchworm/inchworm/core/StepUndoesPinLaw", "state", "(I)Lcom/example/inchworm/inchworm/core/VersionState;"⟩ : MethodName) = true := plainFor_of_name (show plainName "com/example/inchworm/inchworm/core/StepUndoesPinLaw" = true by first | (simp [plainName, overriddenIn]; done) | decide +kernel)
theorem rmV_0_ef (mI : MethodId) (k : Int32) : entryFrame mI #[(.int k)] 2 = mkF mI 0 #[.val (.int k), .unset] [] := by first | (simp [entryFrame, mkF, argsToLocals, Value.category]; done) | rfl
set_option maxRecDepth 65536 in
set_option maxHeartbeats 40000000 in
theorem rmV_0 (l : Launch) (Z : State) (a0 : Array Value) (hw : ∀ d ∈ tables_1, d.before a0 Z = true) (ws : List Jvm.Cond) (h0 : Heap) (k : Int32) (hk0 : ((k &&& (2147483647 : Int32)) % (3 : Int32)) = (0 : Int32)) (u0 : Addr) (S_u0 : Sta Z h0 "com/example/inchworm/inchworm/core/VersionState" "PENDING" "Lcom/example/inchworm/inchworm/core/VersionState;" (.ref u0)) (u1 : Addr) (S_u1 : Sta Z h0 "com/example/inchworm/inchworm/core/VersionState" "TRANSITION" "Lcom/example/inchworm/inchworm/core/VersionState;" (.ref u1)) (u2 : Addr) (S_u2 : Sta Z h0 "com/example/inchworm/inchworm/core/VersionState" "APPLIED" "Lcom/example/inchworm/inchworm/core/VersionState;" (.ref u2)) :
    own_Met l Z (⟨"com/example/inchworm/inchworm/core/StepUndoesPinLaw", "state", "(I)Lcom/example/inchworm/inchworm/core/VersionState;"⟩ : MethodName) method_3_code 2 (some (.object "com/example/inchworm/inchworm/core/VersionState")) ws ({ frames := 0, cells := 0, slots := 0, locals := 0 } : Room) #[(.int k)] h0 (own_QP h0 (some (.ref u0))) := by
  refine own_met rmV_0_pn ?_
  intro pP eE sS mI bB mT cC s₁ hx hby hml hown hnm hret hlk hZ X0 e0
  replace hown : sS.vm.findClass "com/example/inchworm/inchworm/core/StepUndoesPinLaw" = some mI.cls := hown
  refine own_cast (rmV_0_ef mI k) ?_
  refine own_go (T' := s₁) (g' := (mkF mI 1 #[.val (.int k), .unset] [(.int k)])) (fun t_ kt_ => XS.iloadN X0.here hx rfl (hb hby d5_0) rfl kt_) ?_
  refine own_go (T' := s₁) (g' := (mkF mI 3 #[.val (.int k), .unset] [(.int (2147483647 : Int32)), (.int k)])) (fun t_ kt_ => ldcI X0 hx hown (mvT hZ (hw _ (List.mem_of_getElem? (i := 39) rfl))) rfl (hb hby d5_1) kt_) ?_
  refine own_go (T' := s₁) (g' := (mkF mI 4 #[.val (.int k), .unset] [(.int (k &&& (2147483647 : Int32)))])) (fun t_ kt_ => XS.iand X0.here hx rfl (hb hby d5_3) rfl kt_) ?_
  refine own_go (T' := s₁) (g' := (mkF mI 5 #[.val (.int k), .unset] [(.int (3 : Int32)), (.int (k &&& (2147483647 : Int32)))])) (fun t_ kt_ => XS.iconst X0.here hx rfl (hb hby d5_4) kt_) ?_
  refine own_go (T' := s₁) (g' := (mkF mI 6 #[.val (.int k), .unset] [(.int ((k &&& (2147483647 : Int32)) % (3 : Int32)))])) (fun t_ kt_ => iremM X0 hx rfl (hb hby d5_5) rfl (by decide) kt_) ?_
  refine own_go (T' := s₁) (g' := (mkF mI 7 #[.val (.int k), .val (.int ((k &&& (2147483647 : Int32)) % (3 : Int32)))] [])) (fun t_ kt_ => XS.istoreN X0.here hx rfl (hb hby d5_6) rfl (l' := #[.val (.int k), .val (.int ((k &&& (2147483647 : Int32)) % (3 : Int32)))]) rfl kt_) ?_
  refine own_go (T' := s₁) (g' := (mkF mI 8 #[.val (.int k), .val (.int ((k &&& (2147483647 : Int32)) % (3 : Int32)))] [(.int ((k &&& (2147483647 : Int32)) % (3 : Int32)))])) (fun t_ kt_ => XS.iloadN X0.here hx rfl (hb hby d5_7) rfl kt_) ?_
  refine own_go (T' := s₁) (g' := (mkF mI 11 #[.val (.int k), .val (.int ((k &&& (2147483647 : Int32)) % (3 : Int32)))] [])) (fun t_ kt_ => XS.ifNo X0.here hx rfl (hb hby d5_8) rfl ((if0 _ _).trans (teq (hk0 : ((k &&& (2147483647 : Int32)) % (3 : Int32)) = (0 : Int32))).2) kt_) ?_
  obtain ⟨Tb1, Xb1, eb1, stb1⟩ := getS2 X0 hx hZ hown (host := "") (Or.inl (hw _ (List.mem_of_getElem? (i := 40) rfl))) Via.refl e0 S_u0 (g := (mkF mI 11 #[.val (.int k), .val (.int ((k &&& (2147483647 : Int32)) % (3 : Int32)))] [])) rfl (hb hby d5_11)
  refine own_go (T' := Tb1) (g' := (mkF mI 14 #[.val (.int k), .val (.int ((k &&& (2147483647 : Int32)) % (3 : Int32)))] [(.ref u0)])) (fun t_ kt_ => stb1 _ kt_) ?_
  refine own_retA Xb1 hx hlk hret rfl rfl (hb hby d5_14) (by decide) (by decide) ?_
  exact ⟨rfl, rfl, eb1⟩
theorem d5_15 : decode method_3_code 15 = .ok (.iload_n 1, 1) := by decide +kernel
theorem d5_16 : decode method_3_code 16 = .ok (.iconst 1, 1) := by decide +kernel
theorem d5_17 : decode method_3_code 17 = .ok (.if_icmp .ne 7, 3) := by decide +kernel
theorem d5_20 : decode method_3_code 20 = .ok (.getstatic 29, 3) := by decide +kernel
theorem d5_23 : decode method_3_code 23 = .ok (.areturn, 1) := by decide +kernel
theorem rmV_1_pn : plainFor (⟨"com/example/inchworm/inchworm/core/StepUndoesPinLaw", "state", "(I)Lcom/example/inchworm/inchworm/core/VersionState;"⟩ : MethodName) = true := plainFor_of_name (show plainName "com/example/inchworm/inchworm/core/StepUndoesPinLaw" = true by first | (simp [plainName, overriddenIn]; done) | decide +kernel)
theorem rmV_1_ef (mI : MethodId) (k : Int32) : entryFrame mI #[(.int k)] 2 = mkF mI 0 #[.val (.int k), .unset] [] := by first | (simp [entryFrame, mkF, argsToLocals, Value.category]; done) | rfl
set_option maxRecDepth 65536 in
set_option maxHeartbeats 40000000 in
theorem rmV_1 (l : Launch) (Z : State) (a0 : Array Value) (hw : ∀ d ∈ tables_1, d.before a0 Z = true) (ws : List Jvm.Cond) (h0 : Heap) (k : Int32) (hk0 : ¬ (((k &&& (2147483647 : Int32)) % (3 : Int32)) = (0 : Int32))) (hk1 : ((k &&& (2147483647 : Int32)) % (3 : Int32)) = (1 : Int32)) (u0 : Addr) (S_u0 : Sta Z h0 "com/example/inchworm/inchworm/core/VersionState" "PENDING" "Lcom/example/inchworm/inchworm/core/VersionState;" (.ref u0)) (u1 : Addr) (S_u1 : Sta Z h0 "com/example/inchworm/inchworm/core/VersionState" "TRANSITION" "Lcom/example/inchworm/inchworm/core/VersionState;" (.ref u1)) (u2 : Addr) (S_u2 : Sta Z h0 "com/example/inchworm/inchworm/core/VersionState" "APPLIED" "Lcom/example/inchworm/inchworm/core/VersionState;" (.ref u2)) :
    own_Met l Z (⟨"com/example/inchworm/inchworm/core/StepUndoesPinLaw", "state", "(I)Lcom/example/inchworm/inchworm/core/VersionState;"⟩ : MethodName) method_3_code 2 (some (.object "com/example/inchworm/inchworm/core/VersionState")) ws ({ frames := 0, cells := 0, slots := 0, locals := 0 } : Room) #[(.int k)] h0 (own_QP h0 (some (.ref u1))) := by
  refine own_met rmV_1_pn ?_
  intro pP eE sS mI bB mT cC s₁ hx hby hml hown hnm hret hlk hZ X0 e0
  replace hown : sS.vm.findClass "com/example/inchworm/inchworm/core/StepUndoesPinLaw" = some mI.cls := hown
  refine own_cast (rmV_1_ef mI k) ?_
  refine own_go (T' := s₁) (g' := (mkF mI 1 #[.val (.int k), .unset] [(.int k)])) (fun t_ kt_ => XS.iloadN X0.here hx rfl (hb hby d5_0) rfl kt_) ?_
  refine own_go (T' := s₁) (g' := (mkF mI 3 #[.val (.int k), .unset] [(.int (2147483647 : Int32)), (.int k)])) (fun t_ kt_ => ldcI X0 hx hown (mvT hZ (hw _ (List.mem_of_getElem? (i := 39) rfl))) rfl (hb hby d5_1) kt_) ?_
  refine own_go (T' := s₁) (g' := (mkF mI 4 #[.val (.int k), .unset] [(.int (k &&& (2147483647 : Int32)))])) (fun t_ kt_ => XS.iand X0.here hx rfl (hb hby d5_3) rfl kt_) ?_
  refine own_go (T' := s₁) (g' := (mkF mI 5 #[.val (.int k), .unset] [(.int (3 : Int32)), (.int (k &&& (2147483647 : Int32)))])) (fun t_ kt_ => XS.iconst X0.here hx rfl (hb hby d5_4) kt_) ?_
  refine own_go (T' := s₁) (g' := (mkF mI 6 #[.val (.int k), .unset] [(.int ((k &&& (2147483647 : Int32)) % (3 : Int32)))])) (fun t_ kt_ => iremM X0 hx rfl (hb hby d5_5) rfl (by decide) kt_) ?_
  refine own_go (T' := s₁) (g' := (mkF mI 7 #[.val (.int k), .val (.int ((k &&& (2147483647 : Int32)) % (3 : Int32)))] [])) (fun t_ kt_ => XS.istoreN X0.here hx rfl (hb hby d5_6) rfl (l' := #[.val (.int k), .val (.int ((k &&& (2147483647 : Int32)) % (3 : Int32)))]) rfl kt_) ?_
  refine own_go (T' := s₁) (g' := (mkF mI 8 #[.val (.int k), .val (.int ((k &&& (2147483647 : Int32)) % (3 : Int32)))] [(.int ((k &&& (2147483647 : Int32)) % (3 : Int32)))])) (fun t_ kt_ => XS.iloadN X0.here hx rfl (hb hby d5_7) rfl kt_) ?_
  refine own_go (T' := s₁) (g' := (mkF mI 15 #[.val (.int k), .val (.int ((k &&& (2147483647 : Int32)) % (3 : Int32)))] [])) (fun t_ kt_ => XS.ifYes X0.here hx rfl (pc0 := 8) (pc' := 15) rfl (hb hby d5_8) rfl ((if0 _ _).trans (feq (hk0 : ¬ (((k &&& (2147483647 : Int32)) % (3 : Int32)) = (0 : Int32)))).2) (by decide) (by decide) kt_) ?_
  refine own_go (T' := s₁) (g' := (mkF mI 16 #[.val (.int k), .val (.int ((k &&& (2147483647 : Int32)) % (3 : Int32)))] [(.int ((k &&& (2147483647 : Int32)) % (3 : Int32)))])) (fun t_ kt_ => XS.iloadN X0.here hx rfl (hb hby d5_15) rfl kt_) ?_
  refine own_go (T' := s₁) (g' := (mkF mI 17 #[.val (.int k), .val (.int ((k &&& (2147483647 : Int32)) % (3 : Int32)))] [(.int (1 : Int32)), (.int ((k &&& (2147483647 : Int32)) % (3 : Int32)))])) (fun t_ kt_ => XS.iconst X0.here hx rfl (hb hby d5_16) kt_) ?_
  refine own_go (T' := s₁) (g' := (mkF mI 20 #[.val (.int k), .val (.int ((k &&& (2147483647 : Int32)) % (3 : Int32)))] [])) (fun t_ kt_ => XS.icmpNo X0.here hx rfl (hb hby d5_17) rfl (teq (hk1 : ((k &&& (2147483647 : Int32)) % (3 : Int32)) = (1 : Int32))).2 kt_) ?_
  obtain ⟨Tb1, Xb1, eb1, stb1⟩ := getS2 X0 hx hZ hown (host := "") (Or.inl (hw _ (List.mem_of_getElem? (i := 58) rfl))) Via.refl e0 S_u1 (g := (mkF mI 20 #[.val (.int k), .val (.int ((k &&& (2147483647 : Int32)) % (3 : Int32)))] [])) rfl (hb hby d5_20)
  refine own_go (T' := Tb1) (g' := (mkF mI 23 #[.val (.int k), .val (.int ((k &&& (2147483647 : Int32)) % (3 : Int32)))] [(.ref u1)])) (fun t_ kt_ => stb1 _ kt_) ?_
  refine own_retA Xb1 hx hlk hret rfl rfl (hb hby d5_23) (by decide) (by decide) ?_
  exact ⟨rfl, rfl, eb1⟩
theorem d5_24 : decode method_3_code 24 = .ok (.getstatic 32, 3) := by decide +kernel
theorem d5_27 : decode method_3_code 27 = .ok (.areturn, 1) := by decide +kernel
theorem rmV_2_pn : plainFor (⟨"com/example/inchworm/inchworm/core/StepUndoesPinLaw", "state", "(I)Lcom/example/inchworm/inchworm/core/VersionState;"⟩ : MethodName) = true := plainFor_of_name (show plainName "com/example/inchworm/inchworm/core/StepUndoesPinLaw" = true by first | (simp [plainName, overriddenIn]; done) | decide +kernel)
theorem rmV_2_ef (mI : MethodId) (k : Int32) : entryFrame mI #[(.int k)] 2 = mkF mI 0 #[.val (.int k), .unset] [] := by first | (simp [entryFrame, mkF, argsToLocals, Value.category]; done) | rfl
set_option maxRecDepth 65536 in
set_option maxHeartbeats 40000000 in
theorem rmV_2 (l : Launch) (Z : State) (a0 : Array Value) (hw : ∀ d ∈ tables_1, d.before a0 Z = true) (ws : List Jvm.Cond) (h0 : Heap) (k : Int32) (hk0 : ¬ (((k &&& (2147483647 : Int32)) % (3 : Int32)) = (0 : Int32))) (hk1 : ¬ (((k &&& (2147483647 : Int32)) % (3 : Int32)) = (1 : Int32))) (u0 : Addr) (S_u0 : Sta Z h0 "com/example/inchworm/inchworm/core/VersionState" "PENDING" "Lcom/example/inchworm/inchworm/core/VersionState;" (.ref u0)) (u1 : Addr) (S_u1 : Sta Z h0 "com/example/inchworm/inchworm/core/VersionState" "TRANSITION" "Lcom/example/inchworm/inchworm/core/VersionState;" (.ref u1)) (u2 : Addr) (S_u2 : Sta Z h0 "com/example/inchworm/inchworm/core/VersionState" "APPLIED" "Lcom/example/inchworm/inchworm/core/VersionState;" (.ref u2)) :
    own_Met l Z (⟨"com/example/inchworm/inchworm/core/StepUndoesPinLaw", "state", "(I)Lcom/example/inchworm/inchworm/core/VersionState;"⟩ : MethodName) method_3_code 2 (some (.object "com/example/inchworm/inchworm/core/VersionState")) ws ({ frames := 0, cells := 0, slots := 0, locals := 0 } : Room) #[(.int k)] h0 (own_QP h0 (some (.ref u2))) := by
  refine own_met rmV_2_pn ?_
  intro pP eE sS mI bB mT cC s₁ hx hby hml hown hnm hret hlk hZ X0 e0
  replace hown : sS.vm.findClass "com/example/inchworm/inchworm/core/StepUndoesPinLaw" = some mI.cls := hown
  refine own_cast (rmV_2_ef mI k) ?_
  refine own_go (T' := s₁) (g' := (mkF mI 1 #[.val (.int k), .unset] [(.int k)])) (fun t_ kt_ => XS.iloadN X0.here hx rfl (hb hby d5_0) rfl kt_) ?_
  refine own_go (T' := s₁) (g' := (mkF mI 3 #[.val (.int k), .unset] [(.int (2147483647 : Int32)), (.int k)])) (fun t_ kt_ => ldcI X0 hx hown (mvT hZ (hw _ (List.mem_of_getElem? (i := 39) rfl))) rfl (hb hby d5_1) kt_) ?_
  refine own_go (T' := s₁) (g' := (mkF mI 4 #[.val (.int k), .unset] [(.int (k &&& (2147483647 : Int32)))])) (fun t_ kt_ => XS.iand X0.here hx rfl (hb hby d5_3) rfl kt_) ?_
  refine own_go (T' := s₁) (g' := (mkF mI 5 #[.val (.int k), .unset] [(.int (3 : Int32)), (.int (k &&& (2147483647 : Int32)))])) (fun t_ kt_ => XS.iconst X0.here hx rfl (hb hby d5_4) kt_) ?_
  refine own_go (T' := s₁) (g' := (mkF mI 6 #[.val (.int k), .unset] [(.int ((k &&& (2147483647 : Int32)) % (3 : Int32)))])) (fun t_ kt_ => iremM X0 hx rfl (hb hby d5_5) rfl (by decide) kt_) ?_
  refine own_go (T' := s₁) (g' := (mkF mI 7 #[.val (.int k), .val (.int ((k &&& (2147483647 : Int32)) % (3 : Int32)))] [])) (fun t_ kt_ => XS.istoreN X0.here hx rfl (hb hby d5_6) rfl (l' := #[.val (.int k), .val (.int ((k &&& (2147483647 : Int32)) % (3 : Int32)))]) rfl kt_) ?_
  refine own_go (T' := s₁) (g' := (mkF mI 8 #[.val (.int k), .val (.int ((k &&& (2147483647 : Int32)) % (3 : Int32)))] [(.int ((k &&& (2147483647 : Int32)) % (3 : Int32)))])) (fun t_ kt_ => XS.iloadN X0.here hx rfl (hb hby d5_7) rfl kt_) ?_
  refine own_go (T' := s₁) (g' := (mkF mI 15 #[.val (.int k), .val (.int ((k &&& (2147483647 : Int32)) % (3 : Int32)))] [])) (fun t_ kt_ => XS.ifYes X0.here hx rfl (pc0 := 8) (pc' := 15) rfl (hb hby d5_8) rfl ((if0 _ _).trans (feq (hk0 : ¬ (((k &&& (2147483647 : Int32)) % (3 : Int32)) = (0 : Int32)))).2) (by decide) (by decide) kt_) ?_
  refine own_go (T' := s₁) (g' := (mkF mI 16 #[.val (.int k), .val (.int ((k &&& (2147483647 : Int32)) % (3 : Int32)))] [(.int ((k &&& (2147483647 : Int32)) % (3 : Int32)))])) (fun t_ kt_ => XS.iloadN X0.here hx rfl (hb hby d5_15) rfl kt_) ?_
  refine own_go (T' := s₁) (g' := (mkF mI 17 #[.val (.int k), .val (.int ((k &&& (2147483647 : Int32)) % (3 : Int32)))] [(.int (1 : Int32)), (.int ((k &&& (2147483647 : Int32)) % (3 : Int32)))])) (fun t_ kt_ => XS.iconst X0.here hx rfl (hb hby d5_16) kt_) ?_
  refine own_go (T' := s₁) (g' := (mkF mI 24 #[.val (.int k), .val (.int ((k &&& (2147483647 : Int32)) % (3 : Int32)))] [])) (fun t_ kt_ => XS.icmpYes X0.here hx rfl (pc0 := 17) (pc' := 24) rfl (hb hby d5_17) rfl (feq (hk1 : ¬ (((k &&& (2147483647 : Int32)) % (3 : Int32)) = (1 : Int32)))).2 (by decide) (by decide) kt_) ?_
  obtain ⟨Tb1, Xb1, eb1, stb1⟩ := getS2 X0 hx hZ hown (host := "") (Or.inl (hw _ (List.mem_of_getElem? (i := 59) rfl))) Via.refl e0 S_u2 (g := (mkF mI 24 #[.val (.int k), .val (.int ((k &&& (2147483647 : Int32)) % (3 : Int32)))] [])) rfl (hb hby d5_24)
  refine own_go (T' := Tb1) (g' := (mkF mI 27 #[.val (.int k), .val (.int ((k &&& (2147483647 : Int32)) % (3 : Int32)))] [(.ref u2)])) (fun t_ kt_ => stb1 _ kt_) ?_
  refine own_retA Xb1 hx hlk hret rfl rfl (hb hby d5_27) (by decide) (by decide) ?_
  exact ⟨rfl, rfl, eb1⟩
theorem d2_0 : decode prog_40_method_6_code 0 = .ok (.aload_n 0, 1) := by decide +kernel
theorem d2_1 : decode prog_40_method_6_code 1 = .ok (.getfield 35, 3) := by decide +kernel
theorem d2_4 : decode prog_40_method_6_code 4 = .ok (.areturn, 1) := by decide +kernel
theorem rmD_pn : plainFor (⟨"com/example/inchworm/inchworm/core/Step", "done", "()Ljava/lang/String;"⟩ : MethodName) = true := plainFor_of_name (show plainName "com/example/inchworm/inchworm/core/Step" = true by first | (simp [plainName, overriddenIn]; done) | decide +kernel)
theorem rmD_ef (mI : MethodId) (a : Addr) : entryFrame mI #[(.ref a)] 1 = mkF mI 0 #[.val (.ref a)] [] := by first | (simp [entryFrame, mkF, argsToLocals, Value.category]; done) | rfl
set_option maxRecDepth 65536 in
set_option maxHeartbeats 40000000 in
theorem rmD (l : Launch) (Z : State) (a0 : Array Value) (hw : ∀ d ∈ tables_1, d.before a0 Z = true) (ws : List Jvm.Cond) (h0 : Heap) (a d : Addr) (F : Fld Z h0 a "com/example/inchworm/inchworm/core/Step" "done" "Ljava/lang/String;" (.ref d)) :
    own_Met l Z (⟨"com/example/inchworm/inchworm/core/Step", "done", "()Ljava/lang/String;"⟩ : MethodName) prog_40_method_6_code 1 (some (.object "java/lang/String")) ws ({ frames := 0, cells := 0, slots := 0, locals := 0 } : Room) #[(.ref a)] h0 (own_QP h0 (some (.ref d))) := by
  refine own_met rmD_pn ?_
  intro pP eE sS mI bB mT cC s₁ hx hby hml hown hnm hret hlk hZ X0 e0
  replace hown : sS.vm.findClass "com/example/inchworm/inchworm/core/Step" = some mI.cls := hown
  refine own_cast (rmD_ef mI a) ?_
  refine own_go (T' := s₁) (g' := (mkF mI 1 #[.val (.ref a)] [(.ref a)])) (fun t_ kt_ => XS.aloadN X0.here hx rfl (hb hby d2_0) rfl rfl kt_) ?_
  obtain ⟨Tc1, Xc1, ec1, stc1⟩ := getF X0 hx hZ hown (host := "") (Or.inl (hw _ (List.mem_of_getElem? (i := 12) rfl))) Via.refl e0 F (g := (mkF mI 1 #[.val (.ref a)] [(.ref a)])) rfl rfl (hb hby d2_1)
  refine own_go (T' := Tc1) (g' := (mkF mI 4 #[.val (.ref a)] [(.ref d)])) (fun t_ kt_ => stc1 _ kt_) ?_
  refine own_retA Xc1 hx hlk hret rfl rfl (hb hby d2_4) (by decide) (by decide) ?_
  exact ⟨rfl, rfl, ec1⟩
theorem d4_0 : decode jdk_43_method_13_code 0 = .ok (.aload_n 0, 1) := by decide +kernel
theorem d4_1 : decode jdk_43_method_13_code 1 = .ok (.arraylength, 1) := by decide +kernel
theorem d4_2 : decode jdk_43_method_13_code 2 = .ok (.aload_n 1, 1) := by decide +kernel
theorem d4_3 : decode jdk_43_method_13_code 3 = .ok (.arraylength, 1) := by decide +kernel
theorem d4_4 : decode jdk_43_method_13_code 4 = .ok (.if_icmp .ne 30, 3) := by decide +kernel
theorem d4_34 : decode jdk_43_method_13_code 34 = .ok (.iconst 0, 1) := by decide +kernel
theorem d4_35 : decode jdk_43_method_13_code 35 = .ok (.ireturn, 1) := by decide +kernel
theorem rmL7_pn : plainFor (⟨"java/lang/StringLatin1", "equals", "([B[B)Z"⟩ : MethodName) = true := plainFor_of_name (show plainName "java/lang/StringLatin1" = true by first | (simp [plainName, overriddenIn]; done) | decide +kernel)
theorem rmL7_ef (mI : MethodId) (va : Addr) (vb : Addr) : entryFrame mI #[(.ref va), (.ref vb)] 3 = mkF mI 0 #[.val (.ref va), .val (.ref vb), .unset] [] := by first | (simp [entryFrame, mkF, argsToLocals, Value.category]; done) | rfl
set_option maxRecDepth 65536 in
set_option maxHeartbeats 40000000 in
theorem rmL7 (l : Launch) (Z : State) (a0 : Array Value) (hw : ∀ d ∈ tables_1, d.before a0 Z = true) (ws : List Jvm.Cond) (h0 : Heap) (va vb : Addr) (ka kb : ClassId) (ws1 : List Value) (Va : Arv Z h0 va ka .byte 7 ws1 (.int 0)) (Vb : Arv Z h0 vb kb .byte 6 [(.int (117 : Int32)), (.int (110 : Int32)), (.int (100 : Int32)), (.int (111 : Int32)), (.int (110 : Int32)), (.int (101 : Int32))] (.int 0)) :
    own_Met l Z (⟨"java/lang/StringLatin1", "equals", "([B[B)Z"⟩ : MethodName) jdk_43_method_13_code 3 (some .boolean) ws ({ frames := 0, cells := 0, slots := 0, locals := 0 } : Room) #[(.ref va), (.ref vb)] h0 (own_QP h0 (some (.int 0))) := by
  refine own_met rmL7_pn ?_
  intro pP eE sS mI bB mT cC s₁ hx hby hml hown hnm hret hlk hZ X0 e0
  replace hown : sS.vm.findClass "java/lang/StringLatin1" = some mI.cls := hown
  refine own_cast (rmL7_ef mI va vb) ?_
  obtain ⟨cld1, Ad1, qd1, Sd1, Nd1, Hd1, Gd1⟩ := id Va
  obtain ⟨cld2, Ad2, qd2, Sd2, Nd2, Hd2, Gd2⟩ := id Vb
  refine own_go (T' := s₁) (g' := (mkF mI 1 #[.val (.ref va), .val (.ref vb), .unset] [(.ref va)])) (fun t_ kt_ => XS.aloadN X0.here hx rfl (hb hby d4_0) rfl rfl kt_) ?_
  refine own_go (T' := s₁) (g' := (mkF mI 2 #[.val (.ref va), .val (.ref vb), .unset] [(.int (7 : Int32))])) (fun t_ kt_ => own_len X0 hx hZ e0 Ad1 (len_of Sd1 Nd1) (g := (mkF mI 1 #[.val (.ref va), .val (.ref vb), .unset] [(.ref va)])) rfl rfl (hb hby d4_1) _ kt_) ?_
  refine own_go (T' := s₁) (g' := (mkF mI 3 #[.val (.ref va), .val (.ref vb), .unset] [(.ref vb), (.int (7 : Int32))])) (fun t_ kt_ => XS.aloadN X0.here hx rfl (hb hby d4_2) rfl rfl kt_) ?_
  refine own_go (T' := s₁) (g' := (mkF mI 4 #[.val (.ref va), .val (.ref vb), .unset] [(.int (6 : Int32)), (.int (7 : Int32))])) (fun t_ kt_ => own_len X0 hx hZ e0 Ad2 (len_of Sd2 Nd2) (g := (mkF mI 3 #[.val (.ref va), .val (.ref vb), .unset] [(.ref vb), (.int (7 : Int32))])) rfl rfl (hb hby d4_3) _ kt_) ?_
  refine own_go (T' := s₁) (g' := (mkF mI 34 #[.val (.ref va), .val (.ref vb), .unset] [])) (fun t_ kt_ => XS.icmpYes X0.here hx rfl (pc0 := 4) (pc' := 34) rfl (hb hby d4_4) rfl (feq (by decide : ¬ ((7 : Int32) = (6 : Int32)))).2 (by decide) (by decide) kt_) ?_
  refine own_go (T' := s₁) (g' := (mkF mI 35 #[.val (.ref va), .val (.ref vb), .unset] [(.int (0 : Int32))])) (fun t_ kt_ => XS.iconst X0.here hx rfl (hb hby d4_34) kt_) ?_
  refine own_retN X0 hx hlk (t := .boolean) hret (by simp) (hb hby d4_35) (show nar .boolean (0 : Int32) = (0 : Int32) from by decide) (by decide) (by decide) ?_
  exact ⟨rfl, rfl, e0⟩
theorem d4_7 : decode jdk_43_method_13_code 7 = .ok (.iconst 0, 1) := by decide +kernel
theorem d4_8 : decode jdk_43_method_13_code 8 = .ok (.istore_n 2, 1) := by decide +kernel
theorem d4_9 : decode jdk_43_method_13_code 9 = .ok (.iload_n 2, 1) := by decide +kernel
theorem d4_10 : decode jdk_43_method_13_code 10 = .ok (.aload_n 0, 1) := by decide +kernel
theorem d4_11 : decode jdk_43_method_13_code 11 = .ok (.arraylength, 1) := by decide +kernel
theorem d4_12 : decode jdk_43_method_13_code 12 = .ok (.if_icmp .ge 20, 3) := by decide +kernel
theorem d4_15 : decode jdk_43_method_13_code 15 = .ok (.aload_n 0, 1) := by decide +kernel
theorem d4_16 : decode jdk_43_method_13_code 16 = .ok (.iload_n 2, 1) := by decide +kernel
theorem d4_17 : decode jdk_43_method_13_code 17 = .ok (.baload, 1) := by decide +kernel
theorem d4_18 : decode jdk_43_method_13_code 18 = .ok (.aload_n 1, 1) := by decide +kernel
theorem d4_19 : decode jdk_43_method_13_code 19 = .ok (.iload_n 2, 1) := by decide +kernel
theorem d4_20 : decode jdk_43_method_13_code 20 = .ok (.baload, 1) := by decide +kernel
theorem d4_21 : decode jdk_43_method_13_code 21 = .ok (.if_icmp .eq 5, 3) := by decide +kernel
theorem d4_26 : decode jdk_43_method_13_code 26 = .ok (.iinc 2 1, 3) := by decide +kernel
theorem d4_29 : decode jdk_43_method_13_code 29 = .ok (.goto (-20), 3) := by decide +kernel
theorem d4_32 : decode jdk_43_method_13_code 32 = .ok (.iconst 1, 1) := by decide +kernel
theorem d4_33 : decode jdk_43_method_13_code 33 = .ok (.ireturn, 1) := by decide +kernel
theorem rmL6_pn : plainFor (⟨"java/lang/StringLatin1", "equals", "([B[B)Z"⟩ : MethodName) = true := plainFor_of_name (show plainName "java/lang/StringLatin1" = true by first | (simp [plainName, overriddenIn]; done) | decide +kernel)
theorem rmL6_ef (mI : MethodId) (va : Addr) (vb : Addr) : entryFrame mI #[(.ref va), (.ref vb)] 3 = mkF mI 0 #[.val (.ref va), .val (.ref vb), .unset] [] := by first | (simp [entryFrame, mkF, argsToLocals, Value.category]; done) | rfl
set_option maxRecDepth 65536 in
set_option maxHeartbeats 40000000 in
theorem rmL6 (l : Launch) (Z : State) (a0 : Array Value) (hw : ∀ d ∈ tables_1, d.before a0 Z = true) (ws : List Jvm.Cond) (h0 : Heap) (va vb : Addr) (ka kb : ClassId) (Va : Arv Z h0 va ka .byte 6 [(.int (117 : Int32)), (.int (110 : Int32)), (.int (100 : Int32)), (.int (111 : Int32)), (.int (110 : Int32)), (.int (101 : Int32))] (.int 0)) (Vb : Arv Z h0 vb kb .byte 6 [(.int (117 : Int32)), (.int (110 : Int32)), (.int (100 : Int32)), (.int (111 : Int32)), (.int (110 : Int32)), (.int (101 : Int32))] (.int 0)) :
    own_Met l Z (⟨"java/lang/StringLatin1", "equals", "([B[B)Z"⟩ : MethodName) jdk_43_method_13_code 3 (some .boolean) ws ({ frames := 0, cells := 0, slots := 0, locals := 0 } : Room) #[(.ref va), (.ref vb)] h0 (own_QP h0 (some (.int 1))) := by
  refine own_met rmL6_pn ?_
  intro pP eE sS mI bB mT cC s₁ hx hby hml hown hnm hret hlk hZ X0 e0
  replace hown : sS.vm.findClass "java/lang/StringLatin1" = some mI.cls := hown
  refine own_cast (rmL6_ef mI va vb) ?_
  obtain ⟨cld1, Ad1, qd1, Sd1, Nd1, Hd1, Gd1⟩ := id Va
  obtain ⟨cld2, Ad2, qd2, Sd2, Nd2, Hd2, Gd2⟩ := id Vb
  refine own_go (T' := s₁) (g' := (mkF mI 1 #[.val (.ref va), .val (.ref vb), .unset] [(.ref va)])) (fun t_ kt_ => XS.aloadN X0.here hx rfl (hb hby d4_0) rfl rfl kt_) ?_
  refine own_go (T' := s₁) (g' := (mkF mI 2 #[.val (.ref va), .val (.ref vb), .unset] [(.int (6 : Int32))])) (fun t_ kt_ => own_len X0 hx hZ e0 Ad1 (len_of Sd1 Nd1) (g := (mkF mI 1 #[.val (.ref va), .val (.ref vb), .unset] [(.ref va)])) rfl rfl (hb hby d4_1) _ kt_) ?_
  refine own_go (T' := s₁) (g' := (mkF mI 3 #[.val (.ref va), .val (.ref vb), .unset] [(.ref vb), (.int (6 : Int32))])) (fun t_ kt_ => XS.aloadN X0.here hx rfl (hb hby d4_2) rfl rfl kt_) ?_
  refine own_go (T' := s₁) (g' := (mkF mI 4 #[.val (.ref va), .val (.ref vb), .unset] [(.int (6 : Int32)), (.int (6 : Int32))])) (fun t_ kt_ => own_len X0 hx hZ e0 Ad2 (len_of Sd2 Nd2) (g := (mkF mI 3 #[.val (.ref va), .val (.ref vb), .unset] [(.ref vb), (.int (6 : Int32))])) rfl rfl (hb hby d4_3) _ kt_) ?_
  refine own_go (T' := s₁) (g' := (mkF mI 7 #[.val (.ref va), .val (.ref vb), .unset] [])) (fun t_ kt_ => XS.icmpNo X0.here hx rfl (hb hby d4_4) rfl (teq (by decide : (6 : Int32) = (6 : Int32))).2 kt_) ?_
  refine own_go (T' := s₁) (g' := (mkF mI 8 #[.val (.ref va), .val (.ref vb), .unset] [(.int (0 : Int32))])) (fun t_ kt_ => XS.iconst X0.here hx rfl (hb hby d4_7) kt_) ?_
  refine own_go (T' := s₁) (g' := (mkF mI 9 #[.val (.ref va), .val (.ref vb), .val (.int (0 : Int32))] [])) (fun t_ kt_ => XS.istoreN X0.here hx rfl (hb hby d4_8) rfl (l' := #[.val (.ref va), .val (.ref vb), .val (.int (0 : Int32))]) rfl kt_) ?_
  refine own_go (T' := s₁) (g' := (mkF mI 10 #[.val (.ref va), .val (.ref vb), .val (.int (0 : Int32))] [(.int (0 : Int32))])) (fun t_ kt_ => XS.iloadN X0.here hx rfl (hb hby d4_9) rfl kt_) ?_
  refine own_go (T' := s₁) (g' := (mkF mI 11 #[.val (.ref va), .val (.ref vb), .val (.int (0 : Int32))] [(.ref va), (.int (0 : Int32))])) (fun t_ kt_ => XS.aloadN X0.here hx rfl (hb hby d4_10) rfl rfl kt_) ?_
  refine own_go (T' := s₁) (g' := (mkF mI 12 #[.val (.ref va), .val (.ref vb), .val (.int (0 : Int32))] [(.int (6 : Int32)), (.int (0 : Int32))])) (fun t_ kt_ => own_len X0 hx hZ e0 Ad1 (len_of Sd1 Nd1) (g := (mkF mI 11 #[.val (.ref va), .val (.ref vb), .val (.int (0 : Int32))] [(.ref va), (.int (0 : Int32))])) rfl rfl (hb hby d4_11) _ kt_) ?_
  refine own_go (T' := s₁) (g' := (mkF mI 15 #[.val (.ref va), .val (.ref vb), .val (.int (0 : Int32))] [])) (fun t_ kt_ => XS.icmpNo X0.here hx rfl (hb hby d4_12) rfl (tlt (by decide : (0 : Int32) < (6 : Int32))).2.1 kt_) ?_
  refine own_go (T' := s₁) (g' := (mkF mI 16 #[.val (.ref va), .val (.ref vb), .val (.int (0 : Int32))] [(.ref va)])) (fun t_ kt_ => XS.aloadN X0.here hx rfl (hb hby d4_15) rfl rfl kt_) ?_
  refine own_go (T' := s₁) (g' := (mkF mI 17 #[.val (.ref va), .val (.ref vb), .val (.int (0 : Int32))] [(.int (0 : Int32)), (.ref va)])) (fun t_ kt_ => XS.iloadN X0.here hx rfl (hb hby d4_16) rfl kt_) ?_
  refine own_go (T' := s₁) (g' := (mkF mI 18 #[.val (.ref va), .val (.ref vb), .val (.int (0 : Int32))] [(.int (117 : Int32))])) (fun t_ kt_ => own_bald X0 hx hZ e0 Ad1 (j := (0 : Int32)) (inb_of Sd1 ⟨by decide, by decide⟩) (Has.at Hd1 (inb_of Sd1 ⟨by decide, by decide⟩) rfl) (g := (mkF mI 17 #[.val (.ref va), .val (.ref vb), .val (.int (0 : Int32))] [(.int (0 : Int32)), (.ref va)])) rfl rfl (hb hby d4_17) _ kt_) ?_
  refine own_go (T' := s₁) (g' := (mkF mI 19 #[.val (.ref va), .val (.ref vb), .val (.int (0 : Int32))] [(.ref vb), (.int (117 : Int32))])) (fun t_ kt_ => XS.aloadN X0.here hx rfl (hb hby d4_18) rfl rfl kt_) ?_
  refine own_go (T' := s₁) (g' := (mkF mI 20 #[.val (.ref va), .val (.ref vb), .val (.int (0 : Int32))] [(.int (0 : Int32)), (.ref vb), (.int (117 : Int32))])) (fun t_ kt_ => XS.iloadN X0.here hx rfl (hb hby d4_19) rfl kt_) ?_
  refine own_go (T' := s₁) (g' := (mkF mI 21 #[.val (.ref va), .val (.ref vb), .val (.int (0 : Int32))] [(.int (117 : Int32)), (.int (117 : Int32))])) (fun t_ kt_ => own_bald X0 hx hZ e0 Ad2 (j := (0 : Int32)) (inb_of Sd2 ⟨by decide, by decide⟩) (Has.at Hd2 (inb_of Sd2 ⟨by decide, by decide⟩) rfl) (g := (mkF mI 20 #[.val (.ref va), .val (.ref vb), .val (.int (0 : Int32))] [(.int (0 : Int32)), (.ref vb), (.int (117 : Int32))])) rfl rfl (hb hby d4_20) _ kt_) ?_
  refine own_go (T' := s₁) (g' := (mkF mI 26 #[.val (.ref va), .val (.ref vb), .val (.int (0 : Int32))] [])) (fun t_ kt_ => XS.icmpYes X0.here hx rfl (pc0 := 21) (pc' := 26) rfl (hb hby d4_21) rfl (teq (by decide : (117 : Int32) = (117 : Int32))).1 (by decide) (by decide) kt_) ?_
  refine own_go (T' := s₁) (g' := (mkF mI 29 #[.val (.ref va), .val (.ref vb), .val (.int (1 : Int32))] [])) (fun t_ kt_ => XS.iinc X0.here hx rfl (hb hby d4_26) rfl (l' := #[.val (.ref va), .val (.ref vb), .val (.int (1 : Int32))]) rfl kt_) ?_
  refine own_go (T' := s₁) (g' := (mkF mI 9 #[.val (.ref va), .val (.ref vb), .val (.int (1 : Int32))] [])) (fun t_ kt_ => XS.goto X0.here hx rfl (pc0 := 29) (pc' := 9) rfl (hb hby d4_29) (by decide) (by decide) kt_) ?_
  refine own_go (T' := s₁) (g' := (mkF mI 10 #[.val (.ref va), .val (.ref vb), .val (.int (1 : Int32))] [(.int (1 : Int32))])) (fun t_ kt_ => XS.iloadN X0.here hx rfl (hb hby d4_9) rfl kt_) ?_
  refine own_go (T' := s₁) (g' := (mkF mI 11 #[.val (.ref va), .val (.ref vb), .val (.int (1 : Int32))] [(.ref va), (.int (1 : Int32))])) (fun t_ kt_ => XS.aloadN X0.here hx rfl (hb hby d4_10) rfl rfl kt_) ?_
  refine own_go (T' := s₁) (g' := (mkF mI 12 #[.val (.ref va), .val (.ref vb), .val (.int (1 : Int32))] [(.int (6 : Int32)), (.int (1 : Int32))])) (fun t_ kt_ => own_len X0 hx hZ e0 Ad1 (len_of Sd1 Nd1) (g := (mkF mI 11 #[.val (.ref va), .val (.ref vb), .val (.int (1 : Int32))] [(.ref va), (.int (1 : Int32))])) rfl rfl (hb hby d4_11) _ kt_) ?_
  refine own_go (T' := s₁) (g' := (mkF mI 15 #[.val (.ref va), .val (.ref vb), .val (.int (1 : Int32))] [])) (fun t_ kt_ => XS.icmpNo X0.here hx rfl (hb hby d4_12) rfl (tlt (by decide : (1 : Int32) < (6 : Int32))).2.1 kt_) ?_
  refine own_go (T' := s₁) (g' := (mkF mI 16 #[.val (.ref va), .val (.ref vb), .val (.int (1 : Int32))] [(.ref va)])) (fun t_ kt_ => XS.aloadN X0.here hx rfl (hb hby d4_15) rfl rfl kt_) ?_
  refine own_go (T' := s₁) (g' := (mkF mI 17 #[.val (.ref va), .val (.ref vb), .val (.int (1 : Int32))] [(.int (1 : Int32)), (.ref va)])) (fun t_ kt_ => XS.iloadN X0.here hx rfl (hb hby d4_16) rfl kt_) ?_
  refine own_go (T' := s₁) (g' := (mkF mI 18 #[.val (.ref va), .val (.ref vb), .val (.int (1 : Int32))] [(.int (110 : Int32))])) (fun t_ kt_ => own_bald X0 hx hZ e0 Ad1 (j := (1 : Int32)) (inb_of Sd1 ⟨by decide, by decide⟩) (Has.at Hd1 (inb_of Sd1 ⟨by decide, by decide⟩) rfl) (g := (mkF mI 17 #[.val (.ref va), .val (.ref vb), .val (.int (1 : Int32))] [(.int (1 : Int32)), (.ref va)])) rfl rfl (hb hby d4_17) _ kt_) ?_
  refine own_go (T' := s₁) (g' := (mkF mI 19 #[.val (.ref va), .val (.ref vb), .val (.int (1 : Int32))] [(.ref vb), (.int (110 : Int32))])) (fun t_ kt_ => XS.aloadN X0.here hx rfl (hb hby d4_18) rfl rfl kt_) ?_
  refine own_go (T' := s₁) (g' := (mkF mI 20 #[.val (.ref va), .val (.ref vb), .val (.int (1 : Int32))] [(.int (1 : Int32)), (.ref vb), (.int (110 : Int32))])) (fun t_ kt_ => XS.iloadN X0.here hx rfl (hb hby d4_19) rfl kt_) ?_
  refine own_go (T' := s₁) (g' := (mkF mI 21 #[.val (.ref va), .val (.ref vb), .val (.int (1 : Int32))] [(.int (110 : Int32)), (.int (110 : Int32))])) (fun t_ kt_ => own_bald X0 hx hZ e0 Ad2 (j := (1 : Int32)) (inb_of Sd2 ⟨by decide, by decide⟩) (Has.at Hd2 (inb_of Sd2 ⟨by decide, by decide⟩) rfl) (g := (mkF mI 20 #[.val (.ref va), .val (.ref vb), .val (.int (1 : Int32))] [(.int (1 : Int32)), (.ref vb), (.int (110 : Int32))])) rfl rfl (hb hby d4_20) _ kt_) ?_
  refine own_go (T' := s₁) (g' := (mkF mI 26 #[.val (.ref va), .val (.ref vb), .val (.int (1 : Int32))] [])) (fun t_ kt_ => XS.icmpYes X0.here hx rfl (pc0 := 21) (pc' := 26) rfl (hb hby d4_21) rfl (teq (by decide : (110 : Int32) = (110 : Int32))).1 (by decide) (by decide) kt_) ?_
  refine own_go (T' := s₁) (g' := (mkF mI 29 #[.val (.ref va), .val (.ref vb), .val (.int (2 : Int32))] [])) (fun t_ kt_ => XS.iinc X0.here hx rfl (hb hby d4_26) rfl (l' := #[.val (.ref va), .val (.ref vb), .val (.int (2 : Int32))]) rfl kt_) ?_
  refine own_go (T' := s₁) (g' := (mkF mI 9 #[.val (.ref va), .val (.ref vb), .val (.int (2 : Int32))] [])) (fun t_ kt_ => XS.goto X0.here hx rfl (pc0 := 29) (pc' := 9) rfl (hb hby d4_29) (by decide) (by decide) kt_) ?_
  refine own_go (T' := s₁) (g' := (mkF mI 10 #[.val (.ref va), .val (.ref vb), .val (.int (2 : Int32))] [(.int (2 : Int32))])) (fun t_ kt_ => XS.iloadN X0.here hx rfl (hb hby d4_9) rfl kt_) ?_
  refine own_go (T' := s₁) (g' := (mkF mI 11 #[.val (.ref va), .val (.ref vb), .val (.int (2 : Int32))] [(.ref va), (.int (2 : Int32))])) (fun t_ kt_ => XS.aloadN X0.here hx rfl (hb hby d4_10) rfl rfl kt_) ?_
  refine own_go (T' := s₁) (g' := (mkF mI 12 #[.val (.ref va), .val (.ref vb), .val (.int (2 : Int32))] [(.int (6 : Int32)), (.int (2 : Int32))])) (fun t_ kt_ => own_len X0 hx hZ e0 Ad1 (len_of Sd1 Nd1) (g := (mkF mI 11 #[.val (.ref va), .val (.ref vb), .val (.int (2 : Int32))] [(.ref va), (.int (2 : Int32))])) rfl rfl (hb hby d4_11) _ kt_) ?_
  refine own_go (T' := s₁) (g' := (mkF mI 15 #[.val (.ref va), .val (.ref vb), .val (.int (2 : Int32))] [])) (fun t_ kt_ => XS.icmpNo X0.here hx rfl (hb hby d4_12) rfl (tlt (by decide : (2 : Int32) < (6 : Int32))).2.1 kt_) ?_
  refine own_go (T' := s₁) (g' := (mkF mI 16 #[.val (.ref va), .val (.ref vb), .val (.int (2 : Int32))] [(.ref va)])) (fun t_ kt_ => XS.aloadN X0.here hx rfl (hb hby d4_15) rfl rfl kt_) ?_
  refine own_go (T' := s₁) (g' := (mkF mI 17 #[.val (.ref va), .val (.ref vb), .val (.int (2 : Int32))] [(.int (2 : Int32)), (.ref va)])) (fun t_ kt_ => XS.iloadN X0.here hx rfl (hb hby d4_16) rfl kt_) ?_
  refine own_go (T' := s₁) (g' := (mkF mI 18 #[.val (.ref va), .val (.ref vb), .val (.int (2 : Int32))] [(.int (100 : Int32))])) (fun t_ kt_ => own_bald X0 hx hZ e0 Ad1 (j := (2 : Int32)) (inb_of Sd1 ⟨by decide, by decide⟩) (Has.at Hd1 (inb_of Sd1 ⟨by decide, by decide⟩) rfl) (g := (mkF mI 17 #[.val (.ref va), .val (.ref vb), .val (.int (2 : Int32))] [(.int (2 : Int32)), (.ref va)])) rfl rfl (hb hby d4_17) _ kt_) ?_
  refine own_go (T' := s₁) (g' := (mkF mI 19 #[.val (.ref va), .val (.ref vb), .val (.int (2 : Int32))] [(.ref vb), (.int (100 : Int32))])) (fun t_ kt_ => XS.aloadN X0.here hx rfl (hb hby d4_18) rfl rfl kt_) ?_
  refine own_go (T' := s₁) (g' := (mkF mI 20 #[.val (.ref va), .val (.ref vb), .val (.int (2 : Int32))] [(.int (2 : Int32)), (.ref vb), (.int (100 : Int32))])) (fun t_ kt_ => XS.iloadN X0.here hx rfl (hb hby d4_19) rfl kt_) ?_
  refine own_go (T' := s₁) (g' := (mkF mI 21 #[.val (.ref va), .val (.ref vb), .val (.int (2 : Int32))] [(.int (100 : Int32)), (.int (100 : Int32))])) (fun t_ kt_ => own_bald X0 hx hZ e0 Ad2 (j := (2 : Int32)) (inb_of Sd2 ⟨by decide, by decide⟩) (Has.at Hd2 (inb_of Sd2 ⟨by decide, by decide⟩) rfl) (g := (mkF mI 20 #[.val (.ref va), .val (.ref vb), .val (.int (2 : Int32))] [(.int (2 : Int32)), (.ref vb), (.int (100 : Int32))])) rfl rfl (hb hby d4_20) _ kt_) ?_
  refine own_go (T' := s₁) (g' := (mkF mI 26 #[.val (.ref va), .val (.ref vb), .val (.int (2 : Int32))] [])) (fun t_ kt_ => XS.icmpYes X0.here hx rfl (pc0 := 21) (pc' := 26) rfl (hb hby d4_21) rfl (teq (by decide : (100 : Int32) = (100 : Int32))).1 (by decide) (by decide) kt_) ?_
  refine own_go (T' := s₁) (g' := (mkF mI 29 #[.val (.ref va), .val (.ref vb), .val (.int (3 : Int32))] [])) (fun t_ kt_ => XS.iinc X0.here hx rfl (hb hby d4_26) rfl (l' := #[.val (.ref va), .val (.ref vb), .val (.int (3 : Int32))]) rfl kt_) ?_
  refine own_go (T' := s₁) (g' := (mkF mI 9 #[.val (.ref va), .val (.ref vb), .val (.int (3 : Int32))] [])) (fun t_ kt_ => XS.goto X0.here hx rfl (pc0 := 29) (pc' := 9) rfl (hb hby d4_29) (by decide) (by decide) kt_) ?_
  refine own_go (T' := s₁) (g' := (mkF mI 10 #[.val (.ref va), .val (.ref vb), .val (.int (3 : Int32))] [(.int (3 : Int32))])) (fun t_ kt_ => XS.iloadN X0.here hx rfl (hb hby d4_9) rfl kt_) ?_
  refine own_go (T' := s₁) (g' := (mkF mI 11 #[.val (.ref va), .val (.ref vb), .val (.int (3 : Int32))] [(.ref va), (.int (3 : Int32))])) (fun t_ kt_ => XS.aloadN X0.here hx rfl (hb hby d4_10) rfl rfl kt_) ?_
  refine own_go (T' := s₁) (g' := (mkF mI 12 #[.val (.ref va), .val (.ref vb), .val (.int (3 : Int32))] [(.int (6 : Int32)), (.int (3 : Int32))])) (fun t_ kt_ => own_len X0 hx hZ e0 Ad1 (len_of Sd1 Nd1) (g := (mkF mI 11 #[.val (.ref va), .val (.ref vb), .val (.int (3 : Int32))] [(.ref va), (.int (3 : Int32))])) rfl rfl (hb hby d4_11) _ kt_) ?_
  refine own_go (T' := s₁) (g' := (mkF mI 15 #[.val (.ref va), .val (.ref vb), .val (.int (3 : Int32))] [])) (fun t_ kt_ => XS.icmpNo X0.here hx rfl (hb hby d4_12) rfl (tlt (by decide : (3 : Int32) < (6 : Int32))).2.1 kt_) ?_
  refine own_go (T' := s₁) (g' := (mkF mI 16 #[.val (.ref va), .val (.ref vb), .val (.int (3 : Int32))] [(.ref va)])) (fun t_ kt_ => XS.aloadN X0.here hx rfl (hb hby d4_15) rfl rfl kt_) ?_
  refine own_go (T' := s₁) (g' := (mkF mI 17 #[.val (.ref va), .val (.ref vb), .val (.int (3 : Int32))] [(.int (3 : Int32)), (.ref va)])) (fun t_ kt_ => XS.iloadN X0.here hx rfl (hb hby d4_16) rfl kt_) ?_
  refine own_go (T' := s₁) (g' := (mkF mI 18 #[.val (.ref va), .val (.ref vb), .val (.int (3 : Int32))] [(.int (111 : Int32))])) (fun t_ kt_ => own_bald X0 hx hZ e0 Ad1 (j := (3 : Int32)) (inb_of Sd1 ⟨by decide, by decide⟩) (Has.at Hd1 (inb_of Sd1 ⟨by decide, by decide⟩) rfl) (g := (mkF mI 17 #[.val (.ref va), .val (.ref vb), .val (.int (3 : Int32))] [(.int (3 : Int32)), (.ref va)])) rfl rfl (hb hby d4_17) _ kt_) ?_
  refine own_go (T' := s₁) (g' := (mkF mI 19 #[.val (.ref va), .val (.ref vb), .val (.int (3 : Int32))] [(.ref vb), (.int (111 : Int32))])) (fun t_ kt_ => XS.aloadN X0.here hx rfl (hb hby d4_18) rfl rfl kt_) ?_
  refine own_go (T' := s₁) (g' := (mkF mI 20 #[.val (.ref va), .val (.ref vb), .val (.int (3 : Int32))] [(.int (3 : Int32)), (.ref vb), (.int (111 : Int32))])) (fun t_ kt_ => XS.iloadN X0.here hx rfl (hb hby d4_19) rfl kt_) ?_
  refine own_go (T' := s₁) (g' := (mkF mI 21 #[.val (.ref va), .val (.ref vb), .val (.int (3 : Int32))] [(.int (111 : Int32)), (.int (111 : Int32))])) (fun t_ kt_ => own_bald X0 hx hZ e0 Ad2 (j := (3 : Int32)) (inb_of Sd2 ⟨by decide, by decide⟩) (Has.at Hd2 (inb_of Sd2 ⟨by decide, by decide⟩) rfl) (g := (mkF mI 20 #[.val (.ref va), .val (.ref vb), .val (.int (3 : Int32))] [(.int (3 : Int32)), (.ref vb), (.int (111 : Int32))])) rfl rfl (hb hby d4_20) _ kt_) ?_
  refine own_go (T' := s₁) (g' := (mkF mI 26 #[.val (.ref va), .val (.ref vb), .val (.int (3 : Int32))] [])) (fun t_ kt_ => XS.icmpYes X0.here hx rfl (pc0 := 21) (pc' := 26) rfl (hb hby d4_21) rfl (teq (by decide : (111 : Int32) = (111 : Int32))).1 (by decide) (by decide) kt_) ?_
  refine own_go (T' := s₁) (g' := (mkF mI 29 #[.val (.ref va), .val (.ref vb), .val (.int (4 : Int32))] [])) (fun t_ kt_ => XS.iinc X0.here hx rfl (hb hby d4_26) rfl (l' := #[.val (.ref va), .val (.ref vb), .val (.int (4 : Int32))]) rfl kt_) ?_
  refine own_go (T' := s₁) (g' := (mkF mI 9 #[.val (.ref va), .val (.ref vb), .val (.int (4 : Int32))] [])) (fun t_ kt_ => XS.goto X0.here hx rfl (pc0 := 29) (pc' := 9) rfl (hb hby d4_29) (by decide) (by decide) kt_) ?_
  refine own_go (T' := s₁) (g' := (mkF mI 10 #[.val (.ref va), .val (.ref vb), .val (.int (4 : Int32))] [(.int (4 : Int32))])) (fun t_ kt_ => XS.iloadN X0.here hx rfl (hb hby d4_9) rfl kt_) ?_
  refine own_go (T' := s₁) (g' := (mkF mI 11 #[.val (.ref va), .val (.ref vb), .val (.int (4 : Int32))] [(.ref va), (.int (4 : Int32))])) (fun t_ kt_ => XS.aloadN X0.here hx rfl (hb hby d4_10) rfl rfl kt_) ?_
  refine own_go (T' := s₁) (g' := (mkF mI 12 #[.val (.ref va), .val (.ref vb), .val (.int (4 : Int32))] [(.int (6 : Int32)), (.int (4 : Int32))])) (fun t_ kt_ => own_len X0 hx hZ e0 Ad1 (len_of Sd1 Nd1) (g := (mkF mI 11 #[.val (.ref va), .val (.ref vb), .val (.int (4 : Int32))] [(.ref va), (.int (4 : Int32))])) rfl rfl (hb hby d4_11) _ kt_) ?_
  refine own_go (T' := s₁) (g' := (mkF mI 15 #[.val (.ref va), .val (.ref vb), .val (.int (4 : Int32))] [])) (fun t_ kt_ => XS.icmpNo X0.here hx rfl (hb hby d4_12) rfl (tlt (by decide : (4 : Int32) < (6 : Int32))).2.1 kt_) ?_
  refine own_go (T' := s₁) (g' := (mkF mI 16 #[.val (.ref va), .val (.ref vb), .val (.int (4 : Int32))] [(.ref va)])) (fun t_ kt_ => XS.aloadN X0.here hx rfl (hb hby d4_15) rfl rfl kt_) ?_
  refine own_go (T' := s₁) (g' := (mkF mI 17 #[.val (.ref va), .val (.ref vb), .val (.int (4 : Int32))] [(.int (4 : Int32)), (.ref va)])) (fun t_ kt_ => XS.iloadN X0.here hx rfl (hb hby d4_16) rfl kt_) ?_
  refine own_go (T' := s₁) (g' := (mkF mI 18 #[.val (.ref va), .val (.ref vb), .val (.int (4 : Int32))] [(.int (110 : Int32))])) (fun t_ kt_ => own_bald X0 hx hZ e0 Ad1 (j := (4 : Int32)) (inb_of Sd1 ⟨by decide, by decide⟩) (Has.at Hd1 (inb_of Sd1 ⟨by decide, by decide⟩) rfl) (g := (mkF mI 17 #[.val (.ref va), .val (.ref vb), .val (.int (4 : Int32))] [(.int (4 : Int32)), (.ref va)])) rfl rfl (hb hby d4_17) _ kt_) ?_
  refine own_go (T' := s₁) (g' := (mkF mI 19 #[.val (.ref va), .val (.ref vb), .val (.int (4 : Int32))] [(.ref vb), (.int (110 : Int32))])) (fun t_ kt_ => XS.aloadN X0.here hx rfl (hb hby d4_18) rfl rfl kt_) ?_
  refine own_go (T' := s₁) (g' := (mkF mI 20 #[.val (.ref va), .val (.ref vb), .val (.int (4 : Int32))] [(.int (4 : Int32)), (.ref vb), (.int (110 : Int32))])) (fun t_ kt_ => XS.iloadN X0.here hx rfl (hb hby d4_19) rfl kt_) ?_
  refine own_go (T' := s₁) (g' := (mkF mI 21 #[.val (.ref va), .val (.ref vb), .val (.int (4 : Int32))] [(.int (110 : Int32)), (.int (110 : Int32))])) (fun t_ kt_ => own_bald X0 hx hZ e0 Ad2 (j := (4 : Int32)) (inb_of Sd2 ⟨by decide, by decide⟩) (Has.at Hd2 (inb_of Sd2 ⟨by decide, by decide⟩) rfl) (g := (mkF mI 20 #[.val (.ref va), .val (.ref vb), .val (.int (4 : Int32))] [(.int (4 : Int32)), (.ref vb), (.int (110 : Int32))])) rfl rfl (hb hby d4_20) _ kt_) ?_
  refine own_go (T' := s₁) (g' := (mkF mI 26 #[.val (.ref va), .val (.ref vb), .val (.int (4 : Int32))] [])) (fun t_ kt_ => XS.icmpYes X0.here hx rfl (pc0 := 21) (pc' := 26) rfl (hb hby d4_21) rfl (teq (by decide : (110 : Int32) = (110 : Int32))).1 (by decide) (by decide) kt_) ?_
  refine own_go (T' := s₁) (g' := (mkF mI 29 #[.val (.ref va), .val (.ref vb), .val (.int (5 : Int32))] [])) (fun t_ kt_ => XS.iinc X0.here hx rfl (hb hby d4_26) rfl (l' := #[.val (.ref va), .val (.ref vb), .val (.int (5 : Int32))]) rfl kt_) ?_
  refine own_go (T' := s₁) (g' := (mkF mI 9 #[.val (.ref va), .val (.ref vb), .val (.int (5 : Int32))] [])) (fun t_ kt_ => XS.goto X0.here hx rfl (pc0 := 29) (pc' := 9) rfl (hb hby d4_29) (by decide) (by decide) kt_) ?_
  refine own_go (T' := s₁) (g' := (mkF mI 10 #[.val (.ref va), .val (.ref vb), .val (.int (5 : Int32))] [(.int (5 : Int32))])) (fun t_ kt_ => XS.iloadN X0.here hx rfl (hb hby d4_9) rfl kt_) ?_
  refine own_go (T' := s₁) (g' := (mkF mI 11 #[.val (.ref va), .val (.ref vb), .val (.int (5 : Int32))] [(.ref va), (.int (5 : Int32))])) (fun t_ kt_ => XS.aloadN X0.here hx rfl (hb hby d4_10) rfl rfl kt_) ?_
  refine own_go (T' := s₁) (g' := (mkF mI 12 #[.val (.ref va), .val (.ref vb), .val (.int (5 : Int32))] [(.int (6 : Int32)), (.int (5 : Int32))])) (fun t_ kt_ => own_len X0 hx hZ e0 Ad1 (len_of Sd1 Nd1) (g := (mkF mI 11 #[.val (.ref va), .val (.ref vb), .val (.int (5 : Int32))] [(.ref va), (.int (5 : Int32))])) rfl rfl (hb hby d4_11) _ kt_) ?_
  refine own_go (T' := s₁) (g' := (mkF mI 15 #[.val (.ref va), .val (.ref vb), .val (.int (5 : Int32))] [])) (fun t_ kt_ => XS.icmpNo X0.here hx rfl (hb hby d4_12) rfl (tlt (by decide : (5 : Int32) < (6 : Int32))).2.1 kt_) ?_
  refine own_go (T' := s₁) (g' := (mkF mI 16 #[.val (.ref va), .val (.ref vb), .val (.int (5 : Int32))] [(.ref va)])) (fun t_ kt_ => XS.aloadN X0.here hx rfl (hb hby d4_15) rfl rfl kt_) ?_
  refine own_go (T' := s₁) (g' := (mkF mI 17 #[.val (.ref va), .val (.ref vb), .val (.int (5 : Int32))] [(.int (5 : Int32)), (.ref va)])) (fun t_ kt_ => XS.iloadN X0.here hx rfl (hb hby d4_16) rfl kt_) ?_
  refine own_go (T' := s₁) (g' := (mkF mI 18 #[.val (.ref va), .val (.ref vb), .val (.int (5 : Int32))] [(.int (101 : Int32))])) (fun t_ kt_ => own_bald X0 hx hZ e0 Ad1 (j := (5 : Int32)) (inb_of Sd1 ⟨by decide, by decide⟩) (Has.at Hd1 (inb_of Sd1 ⟨by decide, by decide⟩) rfl) (g := (mkF mI 17 #[.val (.ref va), .val (.ref vb), .val (.int (5 : Int32))] [(.int (5 : Int32)), (.ref va)])) rfl rfl (hb hby d4_17) _ kt_) ?_
  refine own_go (T' := s₁) (g' := (mkF mI 19 #[.val (.ref va), .val (.ref vb), .val (.int (5 : Int32))] [(.ref vb), (.int (101 : Int32))])) (fun t_ kt_ => XS.aloadN X0.here hx rfl (hb hby d4_18) rfl rfl kt_) ?_
  refine own_go (T' := s₁) (g' := (mkF mI 20 #[.val (.ref va), .val (.ref vb), .val (.int (5 : Int32))] [(.int (5 : Int32)), (.ref vb), (.int (101 : Int32))])) (fun t_ kt_ => XS.iloadN X0.here hx rfl (hb hby d4_19) rfl kt_) ?_
  refine own_go (T' := s₁) (g' := (mkF mI 21 #[.val (.ref va), .val (.ref vb), .val (.int (5 : Int32))] [(.int (101 : Int32)), (.int (101 : Int32))])) (fun t_ kt_ => own_bald X0 hx hZ e0 Ad2 (j := (5 : Int32)) (inb_of Sd2 ⟨by decide, by decide⟩) (Has.at Hd2 (inb_of Sd2 ⟨by decide, by decide⟩) rfl) (g := (mkF mI 20 #[.val (.ref va), .val (.ref vb), .val (.int (5 : Int32))] [(.int (5 : Int32)), (.ref vb), (.int (101 : Int32))])) rfl rfl (hb hby d4_20) _ kt_) ?_
  refine own_go (T' := s₁) (g' := (mkF mI 26 #[.val (.ref va), .val (.ref vb), .val (.int (5 : Int32))] [])) (fun t_ kt_ => XS.icmpYes X0.here hx rfl (pc0 := 21) (pc' := 26) rfl (hb hby d4_21) rfl (teq (by decide : (101 : Int32) = (101 : Int32))).1 (by decide) (by decide) kt_) ?_
  refine own_go (T' := s₁) (g' := (mkF mI 29 #[.val (.ref va), .val (.ref vb), .val (.int (6 : Int32))] [])) (fun t_ kt_ => XS.iinc X0.here hx rfl (hb hby d4_26) rfl (l' := #[.val (.ref va), .val (.ref vb), .val (.int (6 : Int32))]) rfl kt_) ?_
  refine own_go (T' := s₁) (g' := (mkF mI 9 #[.val (.ref va), .val (.ref vb), .val (.int (6 : Int32))] [])) (fun t_ kt_ => XS.goto X0.here hx rfl (pc0 := 29) (pc' := 9) rfl (hb hby d4_29) (by decide) (by decide) kt_) ?_
  refine own_go (T' := s₁) (g' := (mkF mI 10 #[.val (.ref va), .val (.ref vb), .val (.int (6 : Int32))] [(.int (6 : Int32))])) (fun t_ kt_ => XS.iloadN X0.here hx rfl (hb hby d4_9) rfl kt_) ?_
  refine own_go (T' := s₁) (g' := (mkF mI 11 #[.val (.ref va), .val (.ref vb), .val (.int (6 : Int32))] [(.ref va), (.int (6 : Int32))])) (fun t_ kt_ => XS.aloadN X0.here hx rfl (hb hby d4_10) rfl rfl kt_) ?_
  refine own_go (T' := s₁) (g' := (mkF mI 12 #[.val (.ref va), .val (.ref vb), .val (.int (6 : Int32))] [(.int (6 : Int32)), (.int (6 : Int32))])) (fun t_ kt_ => own_len X0 hx hZ e0 Ad1 (len_of Sd1 Nd1) (g := (mkF mI 11 #[.val (.ref va), .val (.ref vb), .val (.int (6 : Int32))] [(.ref va), (.int (6 : Int32))])) rfl rfl (hb hby d4_11) _ kt_) ?_
  refine own_go (T' := s₁) (g' := (mkF mI 32 #[.val (.ref va), .val (.ref vb), .val (.int (6 : Int32))] [])) (fun t_ kt_ => XS.icmpYes X0.here hx rfl (pc0 := 12) (pc' := 32) rfl (hb hby d4_12) rfl (flt (by decide : ¬ ((6 : Int32) < (6 : Int32)))).2.1 (by decide) (by decide) kt_) ?_
  refine own_go (T' := s₁) (g' := (mkF mI 33 #[.val (.ref va), .val (.ref vb), .val (.int (6 : Int32))] [(.int (1 : Int32))])) (fun t_ kt_ => XS.iconst X0.here hx rfl (hb hby d4_32) kt_) ?_
  refine own_retN X0 hx hlk (t := .boolean) hret (by simp) (hb hby d4_33) (show nar .boolean (1 : Int32) = (1 : Int32) from by decide) (by decide) (by decide) ?_
  exact ⟨rfl, rfl, e0⟩
theorem d3_0 : decode jdk_42_method_66_code 0 = .ok (.aload_n 0, 1) := by decide +kernel
theorem d3_1 : decode jdk_42_method_66_code 1 = .ok (.aload_n 1, 1) := by decide +kernel
theorem d3_2 : decode jdk_42_method_66_code 2 = .ok (.if_acmp .ne 5, 3) := by decide +kernel
theorem d3_7 : decode jdk_42_method_66_code 7 = .ok (.aload_n 1, 1) := by decide +kernel
theorem d3_8 : decode jdk_42_method_66_code 8 = .ok (.instanceof 10, 3) := by decide +kernel
theorem d3_11 : decode jdk_42_method_66_code 11 = .ok (.ifCond .eq 43, 3) := by decide +kernel
theorem d3_14 : decode jdk_42_method_66_code 14 = .ok (.aload_n 1, 1) := by decide +kernel
theorem d3_15 : decode jdk_42_method_66_code 15 = .ok (.checkcast 10, 3) := by decide +kernel
theorem d3_18 : decode jdk_42_method_66_code 18 = .ok (.astore_n 2, 1) := by decide +kernel
theorem d3_19 : decode jdk_42_method_66_code 19 = .ok (.getstatic 38, 3) := by decide +kernel
theorem d3_22 : decode jdk_42_method_66_code 22 = .ok (.ifCond .eq 14, 3) := by decide +kernel
theorem d3_25 : decode jdk_42_method_66_code 25 = .ok (.aload_n 0, 1) := by decide +kernel
theorem d3_26 : decode jdk_42_method_66_code 26 = .ok (.getfield 15, 3) := by decide +kernel
theorem d3_29 : decode jdk_42_method_66_code 29 = .ok (.aload_n 2, 1) := by decide +kernel
theorem d3_30 : decode jdk_42_method_66_code 30 = .ok (.getfield 15, 3) := by decide +kernel
theorem d3_33 : decode jdk_42_method_66_code 33 = .ok (.if_icmp .ne 21, 3) := by decide +kernel
theorem d3_36 : decode jdk_42_method_66_code 36 = .ok (.aload_n 0, 1) := by decide +kernel
theorem d3_37 : decode jdk_42_method_66_code 37 = .ok (.getfield 9, 3) := by decide +kernel
theorem d3_40 : decode jdk_42_method_66_code 40 = .ok (.aload_n 2, 1) := by decide +kernel
theorem d3_41 : decode jdk_42_method_66_code 41 = .ok (.getfield 9, 3) := by decide +kernel
theorem d3_44 : decode jdk_42_method_66_code 44 = .ok (.invokestatic 541, 3) := by decide +kernel
theorem d3_47 : decode jdk_42_method_66_code 47 = .ok (.ifCond .eq 7, 3) := by decide +kernel
theorem d3_54 : decode jdk_42_method_66_code 54 = .ok (.iconst 0, 1) := by decide +kernel
theorem d3_55 : decode jdk_42_method_66_code 55 = .ok (.ireturn, 1) := by decide +kernel
theorem rmE7_pn : plainFor (⟨"java/lang/String", "equals", "(Ljava/lang/Object;)Z"⟩ : MethodName) = true := plainFor_of_name (show plainName "java/lang/String" = true by first | (simp [plainName, overriddenIn]; done) | decide +kernel)
theorem rmE7_ef (mI : MethodId) (a : Addr) (b : Addr) : entryFrame mI #[(.ref a), (.ref b)] 3 = mkF mI 0 #[.val (.ref a), .val (.ref b), .unset] [] := by first | (simp [entryFrame, mkF, argsToLocals, Value.category]; done) | rfl
set_option maxRecDepth 65536 in
set_option maxHeartbeats 40000000 in
theorem rmE7 (l : Launch) (Z : State) (a0 : Array Value) (hw : ∀ d ∈ tables_1, d.before a0 Z = true) (ws : List Jvm.Cond) (h0 : Heap) (a b va vb : Addr) (ka kb : ClassId) (cs : Int32) (ws1 : List Value) (S_cs : Sta Z h0 "java/lang/String" "COMPACT_STRINGS" "Z" (.int cs)) (hcs : ¬ cs = 0) (E_b : Exa Z h0 b "java/lang/String") (F_a_coder : Fld Z h0 a "java/lang/String" "coder" "B" (.int 0)) (F_b_coder : Fld Z h0 b "java/lang/String" "coder" "B" (.int 0)) (F_a_value : Fld Z h0 a "java/lang/String" "value" "[B" (.ref va)) (F_b_value : Fld Z h0 b "java/lang/String" "value" "[B" (.ref vb)) (Va : Arv Z h0 va ka .byte 7 ws1 (.int 0)) (Vb : Arv Z h0 vb kb .byte 6 [(.int (117 : Int32)), (.int (110 : Int32)), (.int (100 : Int32)), (.int (111 : Int32)), (.int (110 : Int32)), (.int (101 : Int32))] (.int 0)) (hab : ¬ a = b) :
    own_Met l Z (⟨"java/lang/String", "equals", "(Ljava/lang/Object;)Z"⟩ : MethodName) jdk_42_method_66_code 3 (some .boolean) ws ({ frames := 1, cells := 0, slots := 0, locals := 14 } : Room) #[(.ref a), (.ref b)] h0 (own_QP h0 (some (.int 0))) := by
  refine own_met rmE7_pn ?_
  intro pP eE sS mI bB mT cC s₁ hx hby hml hown hnm hret hlk hZ X0 e0
  replace hown : sS.vm.findClass "java/lang/String" = some mI.cls := hown
  refine own_cast (rmE7_ef mI a b) ?_
  refine own_go (T' := s₁) (g' := (mkF mI 1 #[.val (.ref a), .val (.ref b), .unset] [(.ref a)])) (fun t_ kt_ => XS.aloadN X0.here hx rfl (hb hby d3_0) rfl rfl kt_) ?_
  refine own_go (T' := s₁) (g' := (mkF mI 2 #[.val (.ref a), .val (.ref b), .unset] [(.ref b), (.ref a)])) (fun t_ kt_ => XS.aloadN X0.here hx rfl (hb hby d3_1) rfl rfl kt_) ?_
  refine own_go (T' := s₁) (g' := (mkF mI 7 #[.val (.ref a), .val (.ref b), .unset] [])) (fun t_ kt_ => Jvm.RoadKit.acmp (g := (mkF mI 2 #[.val (.ref a), .val (.ref b), .unset] [(.ref b), (.ref a)])) X0 hx rfl rfl rfl (pc0 := 2) (pc' := 7) (same := false) rfl (hb hby d3_2) rfl (decide_eq_false (fun q => hab (Value.ref.inj q))) (by decide) (by decide) kt_) ?_
  refine own_go (T' := s₁) (g' := (mkF mI 8 #[.val (.ref a), .val (.ref b), .unset] [(.ref b)])) (fun t_ kt_ => XS.aloadN X0.here hx rfl (hb hby d3_7) rfl rfl kt_) ?_
  obtain ⟨Tf1, Xf1, ef1, stf1⟩ := instY X0 hx hZ hown (hw _ (List.mem_of_getElem? (i := 27) rfl)) e0 (Ins.self E_b) (g := (mkF mI 8 #[.val (.ref a), .val (.ref b), .unset] [(.ref b)])) rfl rfl (hb hby d3_8)
  refine own_go (T' := Tf1) (g' := (mkF mI 11 #[.val (.ref a), .val (.ref b), .unset] [(.int (1 : Int32))])) (fun t_ kt_ => stf1 _ kt_) ?_
  refine own_go (T' := Tf1) (g' := (mkF mI 14 #[.val (.ref a), .val (.ref b), .unset] [])) (fun t_ kt_ => XS.ifNo Xf1.here hx rfl (hb hby d3_11) rfl ((if0 _ _).trans (feq (by decide : ¬ ((1 : Int32) = (0 : Int32)))).1) kt_) ?_
  refine own_go (T' := Tf1) (g' := (mkF mI 15 #[.val (.ref a), .val (.ref b), .unset] [(.ref b)])) (fun t_ kt_ => XS.aloadN Xf1.here hx rfl (hb hby d3_14) rfl rfl kt_) ?_
  obtain ⟨Tf2, Xf2, ef2, stf2⟩ := castY Xf1 hx hZ hown (hw _ (List.mem_of_getElem? (i := 27) rfl)) ef1 (Ins.self E_b) (g := (mkF mI 15 #[.val (.ref a), .val (.ref b), .unset] [(.ref b)])) rfl rfl (hb hby d3_15)
  refine own_go (T' := Tf2) (g' := (mkF mI 18 #[.val (.ref a), .val (.ref b), .unset] [(.ref b)])) (fun t_ kt_ => stf2 _ kt_) ?_
  refine own_go (T' := Tf2) (g' := (mkF mI 19 #[.val (.ref a), .val (.ref b), .val (.ref b)] [])) (fun t_ kt_ => XS.astoreN Xf2.here hx rfl (hb hby d3_18) rfl rfl (l' := #[.val (.ref a), .val (.ref b), .val (.ref b)]) rfl kt_) ?_
  obtain ⟨Tf3, Xf3, ef3, stf3⟩ := getS2 Xf2 hx hZ hown (host := "") (Or.inl (hw _ (List.mem_of_getElem? (i := 29) rfl))) Via.refl ef2 S_cs (g := (mkF mI 19 #[.val (.ref a), .val (.ref b), .val (.ref b)] [])) rfl (hb hby d3_19)
  refine own_go (T' := Tf3) (g' := (mkF mI 22 #[.val (.ref a), .val (.ref b), .val (.ref b)] [(.int cs)])) (fun t_ kt_ => stf3 _ kt_) ?_
  refine own_go (T' := Tf3) (g' := (mkF mI 25 #[.val (.ref a), .val (.ref b), .val (.ref b)] [])) (fun t_ kt_ => XS.ifNo Xf3.here hx rfl (hb hby d3_22) rfl ((if0 _ _).trans (feq (hcs : ¬ (cs = (0 : Int32)))).1) kt_) ?_
  refine own_go (T' := Tf3) (g' := (mkF mI 26 #[.val (.ref a), .val (.ref b), .val (.ref b)] [(.ref a)])) (fun t_ kt_ => XS.aloadN Xf3.here hx rfl (hb hby d3_25) rfl rfl kt_) ?_
  obtain ⟨Tf4, Xf4, ef4, stf4⟩ := getF Xf3 hx hZ hown (host := "") (Or.inl (hw _ (List.mem_of_getElem? (i := 30) rfl))) Via.refl ef3 F_a_coder (g := (mkF mI 26 #[.val (.ref a), .val (.ref b), .val (.ref b)] [(.ref a)])) rfl rfl (hb hby d3_26)
  refine own_go (T' := Tf4) (g' := (mkF mI 29 #[.val (.ref a), .val (.ref b), .val (.ref b)] [(.int (0 : Int32))])) (fun t_ kt_ => stf4 _ kt_) ?_
  refine own_go (T' := Tf4) (g' := (mkF mI 30 #[.val (.ref a), .val (.ref b), .val (.ref b)] [(.ref b), (.int (0 : Int32))])) (fun t_ kt_ => XS.aloadN Xf4.here hx rfl (hb hby d3_29) rfl rfl kt_) ?_
  obtain ⟨Tf5, Xf5, ef5, stf5⟩ := getF Xf4 hx hZ hown (host := "") (Or.inl (hw _ (List.mem_of_getElem? (i := 30) rfl))) Via.refl ef4 F_b_coder (g := (mkF mI 30 #[.val (.ref a), .val (.ref b), .val (.ref b)] [(.ref b), (.int (0 : Int32))])) rfl rfl (hb hby d3_30)
  refine own_go (T' := Tf5) (g' := (mkF mI 33 #[.val (.ref a), .val (.ref b), .val (.ref b)] [(.int (0 : Int32)), (.int (0 : Int32))])) (fun t_ kt_ => stf5 _ kt_) ?_
  refine own_go (T' := Tf5) (g' := (mkF mI 36 #[.val (.ref a), .val (.ref b), .val (.ref b)] [])) (fun t_ kt_ => XS.icmpNo Xf5.here hx rfl (hb hby d3_33) rfl (teq (by decide : (0 : Int32) = (0 : Int32))).2 kt_) ?_
  refine own_go (T' := Tf5) (g' := (mkF mI 37 #[.val (.ref a), .val (.ref b), .val (.ref b)] [(.ref a)])) (fun t_ kt_ => XS.aloadN Xf5.here hx rfl (hb hby d3_36) rfl rfl kt_) ?_
  obtain ⟨Tf6, Xf6, ef6, stf6⟩ := getF Xf5 hx hZ hown (host := "") (Or.inl (hw _ (List.mem_of_getElem? (i := 31) rfl))) Via.refl ef5 F_a_value (g := (mkF mI 37 #[.val (.ref a), .val (.ref b), .val (.ref b)] [(.ref a)])) rfl rfl (hb hby d3_37)
  refine own_go (T' := Tf6) (g' := (mkF mI 40 #[.val (.ref a), .val (.ref b), .val (.ref b)] [(.ref va)])) (fun t_ kt_ => stf6 _ kt_) ?_
  refine own_go (T' := Tf6) (g' := (mkF mI 41 #[.val (.ref a), .val (.ref b), .val (.ref b)] [(.ref b), (.ref va)])) (fun t_ kt_ => XS.aloadN Xf6.here hx rfl (hb hby d3_40) rfl rfl kt_) ?_
  obtain ⟨Tf7, Xf7, ef7, stf7⟩ := getF Xf6 hx hZ hown (host := "") (Or.inl (hw _ (List.mem_of_getElem? (i := 31) rfl))) Via.refl ef6 F_b_value (g := (mkF mI 41 #[.val (.ref a), .val (.ref b), .val (.ref b)] [(.ref b), (.ref va)])) rfl rfl (hb hby d3_41)
  refine own_go (T' := Tf7) (g' := (mkF mI 44 #[.val (.ref a), .val (.ref b), .val (.ref b)] [(.ref vb), (.ref va)])) (fun t_ kt_ => stf7 _ kt_) ?_
  refine own_callS own_closed Xf7 hx hZ (y := (⟨"java/lang/StringLatin1", "equals", "([B[B)Z"⟩ : MethodName)) hown (hw _ (List.mem_of_getElem? (i := 32) rfl)) (hw _ (List.mem_of_getElem? (i := 33) rfl)) (by decide) (rmL7 l Z a0 hw [] h0 va vb ka kb ws1 Va Vb) (hw _ (List.mem_of_getElem? (i := 35) rfl)) (hw _ (List.mem_of_getElem? (i := 34) rfl)) ef7 (pc := 44) (Ls := #[.val (.ref a), .val (.ref b), .val (.ref b)]) (argsL := [(.ref va), (.ref vb)]) (rest := []) (by rw [hml]; rfl) (lenOf pd_0 rfl) (W := 0) (by decide) (by decide) (by decide) (by decide) (by decide) (hb hby d3_44) rfl rfl ?_
  intro Tf8 Lf8 vf8 Xf8 hQf8
  obtain ⟨rfl, rfl, ef8⟩ := hQf8
  show own_Ends pP eE bB sS _ _ Tf8 (mkF mI 47 #[.val (.ref a), .val (.ref b), .val (.ref b)] [(.int (0 : Int32))])
  refine own_go (T' := Tf8) (g' := (mkF mI 54 #[.val (.ref a), .val (.ref b), .val (.ref b)] [])) (fun t_ kt_ => XS.ifYes Xf8.here hx rfl (pc0 := 47) (pc' := 54) rfl (hb hby d3_47) rfl ((if0 _ _).trans (teq (by decide : (0 : Int32) = (0 : Int32))).1) (by decide) (by decide) kt_) ?_
  refine own_go (T' := Tf8) (g' := (mkF mI 55 #[.val (.ref a), .val (.ref b), .val (.ref b)] [(.int (0 : Int32))])) (fun t_ kt_ => XS.iconst Xf8.here hx rfl (hb hby d3_54) kt_) ?_
  refine own_retN Xf8 hx hlk (t := .boolean) hret (by simp) (hb hby d3_55) (show nar .boolean (0 : Int32) = (0 : Int32) from by decide) (by decide) (by decide) ?_
  exact ⟨rfl, rfl, ef8⟩
theorem d3_5 : decode jdk_42_method_66_code 5 = .ok (.iconst 1, 1) := by decide +kernel
theorem d3_6 : decode jdk_42_method_66_code 6 = .ok (.ireturn, 1) := by decide +kernel
theorem d3_50 : decode jdk_42_method_66_code 50 = .ok (.iconst 1, 1) := by decide +kernel
theorem d3_51 : decode jdk_42_method_66_code 51 = .ok (.goto 4, 3) := by decide +kernel
theorem rmE6_pn : plainFor (⟨"java/lang/String", "equals", "(Ljava/lang/Object;)Z"⟩ : MethodName) = true := plainFor_of_name (show plainName "java/lang/String" = true by first | (simp [plainName, overriddenIn]; done) | decide +kernel)
theorem rmE6_ef (mI : MethodId) (a : Addr) (b : Addr) : entryFrame mI #[(.ref a), (.ref b)] 3 = mkF mI 0 #[.val (.ref a), .val (.ref b), .unset] [] := by first | (simp [entryFrame, mkF, argsToLocals, Value.category]; done) | rfl
set_option maxRecDepth 65536 in
set_option maxHeartbeats 40000000 in
theorem rmE6 (l : Launch) (Z : State) (a0 : Array Value) (hw : ∀ d ∈ tables_1, d.before a0 Z = true) (ws : List Jvm.Cond) (h0 : Heap) (a b va vb : Addr) (ka kb : ClassId) (cs : Int32) (S_cs : Sta Z h0 "java/lang/String" "COMPACT_STRINGS" "Z" (.int cs)) (hcs : ¬ cs = 0) (E_b : Exa Z h0 b "java/lang/String") (F_a_coder : Fld Z h0 a "java/lang/String" "coder" "B" (.int 0)) (F_b_coder : Fld Z h0 b "java/lang/String" "coder" "B" (.int 0)) (F_a_value : Fld Z h0 a "java/lang/String" "value" "[B" (.ref va)) (F_b_value : Fld Z h0 b "java/lang/String" "value" "[B" (.ref vb)) (Va : Arv Z h0 va ka .byte 6 [(.int (117 : Int32)), (.int (110 : Int32)), (.int (100 : Int32)), (.int (111 : Int32)), (.int (110 : Int32)), (.int (101 : Int32))] (.int 0)) (Vb : Arv Z h0 vb kb .byte 6 [(.int (117 : Int32)), (.int (110 : Int32)), (.int (100 : Int32)), (.int (111 : Int32)), (.int (110 : Int32)), (.int (101 : Int32))] (.int 0)) :
    own_Met l Z (⟨"java/lang/String", "equals", "(Ljava/lang/Object;)Z"⟩ : MethodName) jdk_42_method_66_code 3 (some .boolean) ws ({ frames := 1, cells := 0, slots := 0, locals := 14 } : Room) #[(.ref a), (.ref b)] h0 (own_QP h0 (some (.int 1))) := by
  refine own_met rmE6_pn ?_
  intro pP eE sS mI bB mT cC s₁ hx hby hml hown hnm hret hlk hZ X0 e0
  replace hown : sS.vm.findClass "java/lang/String" = some mI.cls := hown
  refine own_cast (rmE6_ef mI a b) ?_
  refine own_go (T' := s₁) (g' := (mkF mI 1 #[.val (.ref a), .val (.ref b), .unset] [(.ref a)])) (fun t_ kt_ => XS.aloadN X0.here hx rfl (hb hby d3_0) rfl rfl kt_) ?_
  refine own_go (T' := s₁) (g' := (mkF mI 2 #[.val (.ref a), .val (.ref b), .unset] [(.ref b), (.ref a)])) (fun t_ kt_ => XS.aloadN X0.here hx rfl (hb hby d3_1) rfl rfl kt_) ?_
  by_cases hc2_f1 : ((.ref a) : Value) = (.ref b)
  · skip
    refine own_go (T' := s₁) (g' := (mkF mI 5 #[.val (.ref a), .val (.ref b), .unset] [])) (fun t_ kt_ => Jvm.RoadKit.acmp (g := (mkF mI 2 #[.val (.ref a), .val (.ref b), .unset] [(.ref b), (.ref a)])) X0 hx rfl rfl rfl (pc0 := 2) (pc' := 5) (same := true) rfl (hb hby d3_2) rfl (decide_eq_true hc2_f1) (by decide) (by decide) kt_) ?_
    refine own_go (T' := s₁) (g' := (mkF mI 6 #[.val (.ref a), .val (.ref b), .unset] [(.int (1 : Int32))])) (fun t_ kt_ => XS.iconst X0.here hx rfl (hb hby d3_5) kt_) ?_
    refine own_retN X0 hx hlk (t := .boolean) hret (by simp) (hb hby d3_6) (show nar .boolean (1 : Int32) = (1 : Int32) from by decide) (by decide) (by decide) ?_
    exact ⟨rfl, rfl, e0⟩
  · skip
    refine own_go (T' := s₁) (g' := (mkF mI 7 #[.val (.ref a), .val (.ref b), .unset] [])) (fun t_ kt_ => Jvm.RoadKit.acmp (g := (mkF mI 2 #[.val (.ref a), .val (.ref b), .unset] [(.ref b), (.ref a)])) X0 hx rfl rfl rfl (pc0 := 2) (pc' := 7) (same := false) rfl (hb hby d3_2) rfl (decide_eq_false hc2_f1) (by decide) (by decide) kt_) ?_
    refine own_go (T' := s₁) (g' := (mkF mI 8 #[.val (.ref a), .val (.ref b), .unset] [(.ref b)])) (fun t_ kt_ => XS.aloadN X0.here hx rfl (hb hby d3_7) rfl rfl kt_) ?_
    obtain ⟨Tf2, Xf2, ef2, stf2⟩ := instY X0 hx hZ hown (hw _ (List.mem_of_getElem? (i := 27) rfl)) e0 (Ins.self E_b) (g := (mkF mI 8 #[.val (.ref a), .val (.ref b), .unset] [(.ref b)])) rfl rfl (hb hby d3_8)
    refine own_go (T' := Tf2) (g' := (mkF mI 11 #[.val (.ref a), .val (.ref b), .unset] [(.int (1 : Int32))])) (fun t_ kt_ => stf2 _ kt_) ?_
    refine own_go (T' := Tf2) (g' := (mkF mI 14 #[.val (.ref a), .val (.ref b), .unset] [])) (fun t_ kt_ => XS.ifNo Xf2.here hx rfl (hb hby d3_11) rfl ((if0 _ _).trans (feq (by decide : ¬ ((1 : Int32) = (0 : Int32)))).1) kt_) ?_
    refine own_go (T' := Tf2) (g' := (mkF mI 15 #[.val (.ref a), .val (.ref b), .unset] [(.ref b)])) (fun t_ kt_ => XS.aloadN Xf2.here hx rfl (hb hby d3_14) rfl rfl kt_) ?_
    obtain ⟨Tf3, Xf3, ef3, stf3⟩ := castY Xf2 hx hZ hown (hw _ (List.mem_of_getElem? (i := 27) rfl)) ef2 (Ins.self E_b) (g := (mkF mI 15 #[.val (.ref a), .val (.ref b), .unset] [(.ref b)])) rfl rfl (hb hby d3_15)
    refine own_go (T' := Tf3) (g' := (mkF mI 18 #[.val (.ref a), .val (.ref b), .unset] [(.ref b)])) (fun t_ kt_ => stf3 _ kt_) ?_
    refine own_go (T' := Tf3) (g' := (mkF mI 19 #[.val (.ref a), .val (.ref b), .val (.ref b)] [])) (fun t_ kt_ => XS.astoreN Xf3.here hx rfl (hb hby d3_18) rfl rfl (l' := #[.val (.ref a), .val (.ref b), .val (.ref b)]) rfl kt_) ?_
    obtain ⟨Tf4, Xf4, ef4, stf4⟩ := getS2 Xf3 hx hZ hown (host := "") (Or.inl (hw _ (List.mem_of_getElem? (i := 29) rfl))) Via.refl ef3 S_cs (g := (mkF mI 19 #[.val (.ref a), .val (.ref b), .val (.ref b)] [])) rfl (hb hby d3_19)
    refine own_go (T' := Tf4) (g' := (mkF mI 22 #[.val (.ref a), .val (.ref b), .val (.ref b)] [(.int cs)])) (fun t_ kt_ => stf4 _ kt_) ?_
    refine own_go (T' := Tf4) (g' := (mkF mI 25 #[.val (.ref a), .val (.ref b), .val (.ref b)] [])) (fun t_ kt_ => XS.ifNo Xf4.here hx rfl (hb hby d3_22) rfl ((if0 _ _).trans (feq (hcs : ¬ (cs = (0 : Int32)))).1) kt_) ?_
    refine own_go (T' := Tf4) (g' := (mkF mI 26 #[.val (.ref a), .val (.ref b), .val (.ref b)] [(.ref a)])) (fun t_ kt_ => XS.aloadN Xf4.here hx rfl (hb hby d3_25) rfl rfl kt_) ?_
    obtain ⟨Tf5, Xf5, ef5, stf5⟩ := getF Xf4 hx hZ hown (host := "") (Or.inl (hw _ (List.mem_of_getElem? (i := 30) rfl))) Via.refl ef4 F_a_coder (g := (mkF mI 26 #[.val (.ref a), .val (.ref b), .val (.ref b)] [(.ref a)])) rfl rfl (hb hby d3_26)
    refine own_go (T' := Tf5) (g' := (mkF mI 29 #[.val (.ref a), .val (.ref b), .val (.ref b)] [(.int (0 : Int32))])) (fun t_ kt_ => stf5 _ kt_) ?_
    refine own_go (T' := Tf5) (g' := (mkF mI 30 #[.val (.ref a), .val (.ref b), .val (.ref b)] [(.ref b), (.int (0 : Int32))])) (fun t_ kt_ => XS.aloadN Xf5.here hx rfl (hb hby d3_29) rfl rfl kt_) ?_
    obtain ⟨Tf6, Xf6, ef6, stf6⟩ := getF Xf5 hx hZ hown (host := "") (Or.inl (hw _ (List.mem_of_getElem? (i := 30) rfl))) Via.refl ef5 F_b_coder (g := (mkF mI 30 #[.val (.ref a), .val (.ref b), .val (.ref b)] [(.ref b), (.int (0 : Int32))])) rfl rfl (hb hby d3_30)
    refine own_go (T' := Tf6) (g' := (mkF mI 33 #[.val (.ref a), .val (.ref b), .val (.ref b)] [(.int (0 : Int32)), (.int (0 : Int32))])) (fun t_ kt_ => stf6 _ kt_) ?_
    refine own_go (T' := Tf6) (g' := (mkF mI 36 #[.val (.ref a), .val (.ref b), .val (.ref b)] [])) (fun t_ kt_ => XS.icmpNo Xf6.here hx rfl (hb hby d3_33) rfl (teq (by decide : (0 : Int32) = (0 : Int32))).2 kt_) ?_
    refine own_go (T' := Tf6) (g' := (mkF mI 37 #[.val (.ref a), .val (.ref b), .val (.ref b)] [(.ref a)])) (fun t_ kt_ => XS.aloadN Xf6.here hx rfl (hb hby d3_36) rfl rfl kt_) ?_
    obtain ⟨Tf7, Xf7, ef7, stf7⟩ := getF Xf6 hx hZ hown (host := "") (Or.inl (hw _ (List.mem_of_getElem? (i := 31) rfl))) Via.refl ef6 F_a_value (g := (mkF mI 37 #[.val (.ref a), .val (.ref b), .val (.ref b)] [(.ref a)])) rfl rfl (hb hby d3_37)
    refine own_go (T' := Tf7) (g' := (mkF mI 40 #[.val (.ref a), .val (.ref b), .val (.ref b)] [(.ref va)])) (fun t_ kt_ => stf7 _ kt_) ?_
    refine own_go (T' := Tf7) (g' := (mkF mI 41 #[.val (.ref a), .val (.ref b), .val (.ref b)] [(.ref b), (.ref va)])) (fun t_ kt_ => XS.aloadN Xf7.here hx rfl (hb hby d3_40) rfl rfl kt_) ?_
    obtain ⟨Tf8, Xf8, ef8, stf8⟩ := getF Xf7 hx hZ hown (host := "") (Or.inl (hw _ (List.mem_of_getElem? (i := 31) rfl))) Via.refl ef7 F_b_value (g := (mkF mI 41 #[.val (.ref a), .val (.ref b), .val (.ref b)] [(.ref b), (.ref va)])) rfl rfl (hb hby d3_41)
    refine own_go (T' := Tf8) (g' := (mkF mI 44 #[.val (.ref a), .val (.ref b), .val (.ref b)] [(.ref vb), (.ref va)])) (fun t_ kt_ => stf8 _ kt_) ?_
    refine own_callS own_closed Xf8 hx hZ (y := (⟨"java/lang/StringLatin1", "equals", "([B[B)Z"⟩ : MethodName)) hown (hw _ (List.mem_of_getElem? (i := 32) rfl)) (hw _ (List.mem_of_getElem? (i := 33) rfl)) (by decide) (rmL6 l Z a0 hw [] h0 va vb ka kb Va Vb) (hw _ (List.mem_of_getElem? (i := 35) rfl)) (hw _ (List.mem_of_getElem? (i := 34) rfl)) ef8 (pc := 44) (Ls := #[.val (.ref a), .val (.ref b), .val (.ref b)]) (argsL := [(.ref va), (.ref vb)]) (rest := []) (by rw [hml]; rfl) (lenOf pd_0 rfl) (W := 0) (by decide) (by decide) (by decide) (by decide) (by decide) (hb hby d3_44) rfl rfl ?_
    intro Tf9 Lf9 vf9 Xf9 hQf9
    obtain ⟨rfl, rfl, ef9⟩ := hQf9
    show own_Ends pP eE bB sS _ _ Tf9 (mkF mI 47 #[.val (.ref a), .val (.ref b), .val (.ref b)] [(.int (1 : Int32))])
    refine own_go (T' := Tf9) (g' := (mkF mI 50 #[.val (.ref a), .val (.ref b), .val (.ref b)] [])) (fun t_ kt_ => XS.ifNo Xf9.here hx rfl (hb hby d3_47) rfl ((if0 _ _).trans (feq (by decide : ¬ ((1 : Int32) = (0 : Int32)))).1) kt_) ?_
    refine own_go (T' := Tf9) (g' := (mkF mI 51 #[.val (.ref a), .val (.ref b), .val (.ref b)] [(.int (1 : Int32))])) (fun t_ kt_ => XS.iconst Xf9.here hx rfl (hb hby d3_50) kt_) ?_
    refine own_go (T' := Tf9) (g' := (mkF mI 55 #[.val (.ref a), .val (.ref b), .val (.ref b)] [(.int (1 : Int32))])) (fun t_ kt_ => XS.goto Xf9.here hx rfl (pc0 := 51) (pc' := 55) rfl (hb hby d3_51) (by decide) (by decide) kt_) ?_
    refine own_retN Xf9 hx hlk (t := .boolean) hret (by simp) (hb hby d3_55) (show nar .boolean (1 : Int32) = (1 : Int32) from by decide) (by decide) (by decide) ?_
    exact ⟨rfl, rfl, ef9⟩
theorem d6_0 : decode prog_40_method_7_code 0 = .ok (.aload_n 0, 1) := by decide +kernel
theorem d6_1 : decode prog_40_method_7_code 1 = .ok (.getstatic 10, 3) := by decide +kernel
theorem d6_4 : decode prog_40_method_7_code 4 = .ok (.if_acmp .eq 10, 3) := by decide +kernel
theorem d6_7 : decode prog_40_method_7_code 7 = .ok (.aload_n 0, 1) := by decide +kernel
theorem d6_8 : decode prog_40_method_7_code 8 = .ok (.getstatic 13, 3) := by decide +kernel
theorem d6_11 : decode prog_40_method_7_code 11 = .ok (.if_acmp .ne 7, 3) := by decide +kernel
theorem d6_18 : decode prog_40_method_7_code 18 = .ok (.iconst 0, 1) := by decide +kernel
theorem d6_19 : decode prog_40_method_7_code 19 = .ok (.ireturn, 1) := by decide +kernel
theorem rmU_0_pn : plainFor (⟨"com/example/inchworm/inchworm/core/Step", "undoes", "()Z"⟩ : MethodName) = true := plainFor_of_name (show plainName "com/example/inchworm/inchworm/core/Step" = true by first | (simp [plainName, overriddenIn]; done) | decide +kernel)
theorem rmU_0_ef (mI : MethodId) (t0 : Addr) : entryFrame mI #[(.ref t0)] 1 = mkF mI 0 #[.val (.ref t0)] [] := by first | (simp [entryFrame, mkF, argsToLocals, Value.category]; done) | rfl
set_option maxRecDepth 65536 in
set_option maxHeartbeats 40000000 in
theorem rmU_0 (l : Launch) (Z : State) (a0 : Array Value) (hw : ∀ d ∈ tables_1, d.before a0 Z = true) (ws : List Jvm.Cond) (h0 : Heap) (t0 : Addr) (S_t0 : Sta Z h0 "com/example/inchworm/inchworm/core/Step" "APPLY" "Lcom/example/inchworm/inchworm/core/Step;" (.ref t0)) (t1 : Addr) (S_t1 : Sta Z h0 "com/example/inchworm/inchworm/core/Step" "RETIRE" "Lcom/example/inchworm/inchworm/core/Step;" (.ref t1)) (t2 : Addr) (S_t2 : Sta Z h0 "com/example/inchworm/inchworm/core/Step" "UNDO_TRANSITION" "Lcom/example/inchworm/inchworm/core/Step;" (.ref t2)) (t3 : Addr) (S_t3 : Sta Z h0 "com/example/inchworm/inchworm/core/Step" "UNDO_APPLIED" "Lcom/example/inchworm/inchworm/core/Step;" (.ref t3)) (ne_t0_t1 : t0 ≠ t1) (ne_t0_t2 : t0 ≠ t2) (ne_t0_t3 : t0 ≠ t3) (ne_t1_t2 : t1 ≠ t2) (ne_t1_t3 : t1 ≠ t3) (ne_t2_t3 : t2 ≠ t3) :
    own_Met l Z (⟨"com/example/inchworm/inchworm/core/Step", "undoes", "()Z"⟩ : MethodName) prog_40_method_7_code 1 (some .boolean) ws ({ frames := 0, cells := 0, slots := 0, locals := 0 } : Room) #[(.ref t0)] h0 (own_QP h0 (some (.int 0))) := by
  refine own_met rmU_0_pn ?_
  intro pP eE sS mI bB mT cC s₁ hx hby hml hown hnm hret hlk hZ X0 e0
  replace hown : sS.vm.findClass "com/example/inchworm/inchworm/core/Step" = some mI.cls := hown
  refine own_cast (rmU_0_ef mI t0) ?_
  refine own_go (T' := s₁) (g' := (mkF mI 1 #[.val (.ref t0)] [(.ref t0)])) (fun t_ kt_ => XS.aloadN X0.here hx rfl (hb hby d6_0) rfl rfl kt_) ?_
  obtain ⟨Th1, Xh1, eh1, sth1⟩ := getS2 X0 hx hZ hown (host := "") (Or.inl (hw _ (List.mem_of_getElem? (i := 48) rfl))) Via.refl e0 S_t2 (g := (mkF mI 1 #[.val (.ref t0)] [(.ref t0)])) rfl (hb hby d6_1)
  refine own_go (T' := Th1) (g' := (mkF mI 4 #[.val (.ref t0)] [(.ref t2), (.ref t0)])) (fun t_ kt_ => sth1 _ kt_) ?_
  refine own_go (T' := Th1) (g' := (mkF mI 7 #[.val (.ref t0)] [])) (fun t_ kt_ => Jvm.RoadKit.acmp (g := (mkF mI 4 #[.val (.ref t0)] [(.ref t2), (.ref t0)])) Xh1 hx rfl rfl rfl (pc0 := 4) (pc' := 7) (same := false) rfl (hb hby d6_4) rfl (decide_eq_false (fun q => ne_t0_t2 (Value.ref.inj q))) (by decide) (by decide) kt_) ?_
  refine own_go (T' := Th1) (g' := (mkF mI 8 #[.val (.ref t0)] [(.ref t0)])) (fun t_ kt_ => XS.aloadN Xh1.here hx rfl (hb hby d6_7) rfl rfl kt_) ?_
  obtain ⟨Th2, Xh2, eh2, sth2⟩ := getS2 Xh1 hx hZ hown (host := "") (Or.inl (hw _ (List.mem_of_getElem? (i := 50) rfl))) Via.refl eh1 S_t3 (g := (mkF mI 8 #[.val (.ref t0)] [(.ref t0)])) rfl (hb hby d6_8)
  refine own_go (T' := Th2) (g' := (mkF mI 11 #[.val (.ref t0)] [(.ref t3), (.ref t0)])) (fun t_ kt_ => sth2 _ kt_) ?_
  refine own_go (T' := Th2) (g' := (mkF mI 18 #[.val (.ref t0)] [])) (fun t_ kt_ => Jvm.RoadKit.acmp (g := (mkF mI 11 #[.val (.ref t0)] [(.ref t3), (.ref t0)])) Xh2 hx rfl rfl rfl (pc0 := 11) (pc' := 18) (same := false) rfl (hb hby d6_11) rfl (decide_eq_false (fun q => ne_t0_t3 (Value.ref.inj q))) (by decide) (by decide) kt_) ?_
  refine own_go (T' := Th2) (g' := (mkF mI 19 #[.val (.ref t0)] [(.int (0 : Int32))])) (fun t_ kt_ => XS.iconst Xh2.here hx rfl (hb hby d6_18) kt_) ?_
  refine own_retN Xh2 hx hlk (t := .boolean) hret (by simp) (hb hby d6_19) (show nar .boolean (0 : Int32) = (0 : Int32) from by decide) (by decide) (by decide) ?_
  exact ⟨rfl, rfl, eh2⟩
theorem rmU_1_pn : plainFor (⟨"com/example/inchworm/inchworm/core/Step", "undoes", "()Z"⟩ : MethodName) = true := plainFor_of_name (show plainName "com/example/inchworm/inchworm/core/Step" = true by first | (simp [plainName, overriddenIn]; done) | decide +kernel)
theorem rmU_1_ef (mI : MethodId) (t1 : Addr) : entryFrame mI #[(.ref t1)] 1 = mkF mI 0 #[.val (.ref t1)] [] := by first | (simp [entryFrame, mkF, argsToLocals, Value.category]; done) | rfl
set_option maxRecDepth 65536 in
set_option maxHeartbeats 40000000 in
theorem rmU_1 (l : Launch) (Z : State) (a0 : Array Value) (hw : ∀ d ∈ tables_1, d.before a0 Z = true) (ws : List Jvm.Cond) (h0 : Heap) (t0 : Addr) (S_t0 : Sta Z h0 "com/example/inchworm/inchworm/core/Step" "APPLY" "Lcom/example/inchworm/inchworm/core/Step;" (.ref t0)) (t1 : Addr) (S_t1 : Sta Z h0 "com/example/inchworm/inchworm/core/Step" "RETIRE" "Lcom/example/inchworm/inchworm/core/Step;" (.ref t1)) (t2 : Addr) (S_t2 : Sta Z h0 "com/example/inchworm/inchworm/core/Step" "UNDO_TRANSITION" "Lcom/example/inchworm/inchworm/core/Step;" (.ref t2)) (t3 : Addr) (S_t3 : Sta Z h0 "com/example/inchworm/inchworm/core/Step" "UNDO_APPLIED" "Lcom/example/inchworm/inchworm/core/Step;" (.ref t3)) (ne_t0_t1 : t0 ≠ t1) (ne_t0_t2 : t0 ≠ t2) (ne_t0_t3 : t0 ≠ t3) (ne_t1_t2 : t1 ≠ t2) (ne_t1_t3 : t1 ≠ t3) (ne_t2_t3 : t2 ≠ t3) :
    own_Met l Z (⟨"com/example/inchworm/inchworm/core/Step", "undoes", "()Z"⟩ : MethodName) prog_40_method_7_code 1 (some .boolean) ws ({ frames := 0, cells := 0, slots := 0, locals := 0 } : Room) #[(.ref t1)] h0 (own_QP h0 (some (.int 0))) := by
  refine own_met rmU_1_pn ?_
  intro pP eE sS mI bB mT cC s₁ hx hby hml hown hnm hret hlk hZ X0 e0
  replace hown : sS.vm.findClass "com/example/inchworm/inchworm/core/Step" = some mI.cls := hown
  refine own_cast (rmU_1_ef mI t1) ?_
  refine own_go (T' := s₁) (g' := (mkF mI 1 #[.val (.ref t1)] [(.ref t1)])) (fun t_ kt_ => XS.aloadN X0.here hx rfl (hb hby d6_0) rfl rfl kt_) ?_
  obtain ⟨Th1, Xh1, eh1, sth1⟩ := getS2 X0 hx hZ hown (host := "") (Or.inl (hw _ (List.mem_of_getElem? (i := 48) rfl))) Via.refl e0 S_t2 (g := (mkF mI 1 #[.val (.ref t1)] [(.ref t1)])) rfl (hb hby d6_1)
  refine own_go (T' := Th1) (g' := (mkF mI 4 #[.val (.ref t1)] [(.ref t2), (.ref t1)])) (fun t_ kt_ => sth1 _ kt_) ?_
  refine own_go (T' := Th1) (g' := (mkF mI 7 #[.val (.ref t1)] [])) (fun t_ kt_ => Jvm.RoadKit.acmp (g := (mkF mI 4 #[.val (.ref t1)] [(.ref t2), (.ref t1)])) Xh1 hx rfl rfl rfl (pc0 := 4) (pc' := 7) (same := false) rfl (hb hby d6_4) rfl (decide_eq_false (fun q => ne_t1_t2 (Value.ref.inj q))) (by decide) (by decide) kt_) ?_
  refine own_go (T' := Th1) (g' := (mkF mI 8 #[.val (.ref t1)] [(.ref t1)])) (fun t_ kt_ => XS.aloadN Xh1.here hx rfl (hb hby d6_7) rfl rfl kt_) ?_
  obtain ⟨Th2, Xh2, eh2, sth2⟩ := getS2 Xh1 hx hZ hown (host := "") (Or.inl (hw _ (List.mem_of_getElem? (i := 50) rfl))) Via.refl eh1 S_t3 (g := (mkF mI 8 #[.val (.ref t1)] [(.ref t1)])) rfl (hb hby d6_8)
  refine own_go (T' := Th2) (g' := (mkF mI 11 #[.val (.ref t1)] [(.ref t3), (.ref t1)])) (fun t_ kt_ => sth2 _ kt_) ?_
  refine own_go (T' := Th2) (g' := (mkF mI 18 #[.val (.ref t1)] [])) (fun t_ kt_ => Jvm.RoadKit.acmp (g := (mkF mI 11 #[.val (.ref t1)] [(.ref t3), (.ref t1)])) Xh2 hx rfl rfl rfl (pc0 := 11) (pc' := 18) (same := false) rfl (hb hby d6_11) rfl (decide_eq_false (fun q => ne_t1_t3 (Value.ref.inj q))) (by decide) (by decide) kt_) ?_
  refine own_go (T' := Th2) (g' := (mkF mI 19 #[.val (.ref t1)] [(.int (0 : Int32))])) (fun t_ kt_ => XS.iconst Xh2.here hx rfl (hb hby d6_18) kt_) ?_
  refine own_retN Xh2 hx hlk (t := .boolean) hret (by simp) (hb hby d6_19) (show nar .boolean (0 : Int32) = (0 : Int32) from by decide) (by decide) (by decide) ?_
  exact ⟨rfl, rfl, eh2⟩
theorem d6_14 : decode prog_40_method_7_code 14 = .ok (.iconst 1, 1) := by decide +kernel
theorem d6_15 : decode prog_40_method_7_code 15 = .ok (.goto 4, 3) := by decide +kernel
theorem rmU_2_pn : plainFor (⟨"com/example/inchworm/inchworm/core/Step", "undoes", "()Z"⟩ : MethodName) = true := plainFor_of_name (show plainName "com/example/inchworm/inchworm/core/Step" = true by first | (simp [plainName, overriddenIn]; done) | decide +kernel)
theorem rmU_2_ef (mI : MethodId) (t2 : Addr) : entryFrame mI #[(.ref t2)] 1 = mkF mI 0 #[.val (.ref t2)] [] := by first | (simp [entryFrame, mkF, argsToLocals, Value.category]; done) | rfl
set_option maxRecDepth 65536 in
set_option maxHeartbeats 40000000 in
theorem rmU_2 (l : Launch) (Z : State) (a0 : Array Value) (hw : ∀ d ∈ tables_1, d.before a0 Z = true) (ws : List Jvm.Cond) (h0 : Heap) (t0 : Addr) (S_t0 : Sta Z h0 "com/example/inchworm/inchworm/core/Step" "APPLY" "Lcom/example/inchworm/inchworm/core/Step;" (.ref t0)) (t1 : Addr) (S_t1 : Sta Z h0 "com/example/inchworm/inchworm/core/Step" "RETIRE" "Lcom/example/inchworm/inchworm/core/Step;" (.ref t1)) (t2 : Addr) (S_t2 : Sta Z h0 "com/example/inchworm/inchworm/core/Step" "UNDO_TRANSITION" "Lcom/example/inchworm/inchworm/core/Step;" (.ref t2)) (t3 : Addr) (S_t3 : Sta Z h0 "com/example/inchworm/inchworm/core/Step" "UNDO_APPLIED" "Lcom/example/inchworm/inchworm/core/Step;" (.ref t3)) (ne_t0_t1 : t0 ≠ t1) (ne_t0_t2 : t0 ≠ t2) (ne_t0_t3 : t0 ≠ t3) (ne_t1_t2 : t1 ≠ t2) (ne_t1_t3 : t1 ≠ t3) (ne_t2_t3 : t2 ≠ t3) :
    own_Met l Z (⟨"com/example/inchworm/inchworm/core/Step", "undoes", "()Z"⟩ : MethodName) prog_40_method_7_code 1 (some .boolean) ws ({ frames := 0, cells := 0, slots := 0, locals := 0 } : Room) #[(.ref t2)] h0 (own_QP h0 (some (.int 1))) := by
  refine own_met rmU_2_pn ?_
  intro pP eE sS mI bB mT cC s₁ hx hby hml hown hnm hret hlk hZ X0 e0
  replace hown : sS.vm.findClass "com/example/inchworm/inchworm/core/Step" = some mI.cls := hown
  refine own_cast (rmU_2_ef mI t2) ?_
  refine own_go (T' := s₁) (g' := (mkF mI 1 #[.val (.ref t2)] [(.ref t2)])) (fun t_ kt_ => XS.aloadN X0.here hx rfl (hb hby d6_0) rfl rfl kt_) ?_
  obtain ⟨Th1, Xh1, eh1, sth1⟩ := getS2 X0 hx hZ hown (host := "") (Or.inl (hw _ (List.mem_of_getElem? (i := 48) rfl))) Via.refl e0 S_t2 (g := (mkF mI 1 #[.val (.ref t2)] [(.ref t2)])) rfl (hb hby d6_1)
  refine own_go (T' := Th1) (g' := (mkF mI 4 #[.val (.ref t2)] [(.ref t2), (.ref t2)])) (fun t_ kt_ => sth1 _ kt_) ?_
  refine own_go (T' := Th1) (g' := (mkF mI 14 #[.val (.ref t2)] [])) (fun t_ kt_ => Jvm.RoadKit.acmp (g := (mkF mI 4 #[.val (.ref t2)] [(.ref t2), (.ref t2)])) Xh1 hx rfl rfl rfl (pc0 := 4) (pc' := 14) (same := true) rfl (hb hby d6_4) rfl (decide_eq_true rfl) (by decide) (by decide) kt_) ?_
  refine own_go (T' := Th1) (g' := (mkF mI 15 #[.val (.ref t2)] [(.int (1 : Int32))])) (fun t_ kt_ => XS.iconst Xh1.here hx rfl (hb hby d6_14) kt_) ?_
  refine own_go (T' := Th1) (g' := (mkF mI 19 #[.val (.ref t2)] [(.int (1 : Int32))])) (fun t_ kt_ => XS.goto Xh1.here hx rfl (pc0 := 15) (pc' := 19) rfl (hb hby d6_15) (by decide) (by decide) kt_) ?_
  refine own_retN Xh1 hx hlk (t := .boolean) hret (by simp) (hb hby d6_19) (show nar .boolean (1 : Int32) = (1 : Int32) from by decide) (by decide) (by decide) ?_
  exact ⟨rfl, rfl, eh1⟩
theorem rmU_3_pn : plainFor (⟨"com/example/inchworm/inchworm/core/Step", "undoes", "()Z"⟩ : MethodName) = true := plainFor_of_name (show plainName "com/example/inchworm/inchworm/core/Step" = true by first | (simp [plainName, overriddenIn]; done) | decide +kernel)
theorem rmU_3_ef (mI : MethodId) (t3 : Addr) : entryFrame mI #[(.ref t3)] 1 = mkF mI 0 #[.val (.ref t3)] [] := by first | (simp [entryFrame, mkF, argsToLocals, Value.category]; done) | rfl
set_option maxRecDepth 65536 in
set_option maxHeartbeats 40000000 in
theorem rmU_3 (l : Launch) (Z : State) (a0 : Array Value) (hw : ∀ d ∈ tables_1, d.before a0 Z = true) (ws : List Jvm.Cond) (h0 : Heap) (t0 : Addr) (S_t0 : Sta Z h0 "com/example/inchworm/inchworm/core/Step" "APPLY" "Lcom/example/inchworm/inchworm/core/Step;" (.ref t0)) (t1 : Addr) (S_t1 : Sta Z h0 "com/example/inchworm/inchworm/core/Step" "RETIRE" "Lcom/example/inchworm/inchworm/core/Step;" (.ref t1)) (t2 : Addr) (S_t2 : Sta Z h0 "com/example/inchworm/inchworm/core/Step" "UNDO_TRANSITION" "Lcom/example/inchworm/inchworm/core/Step;" (.ref t2)) (t3 : Addr) (S_t3 : Sta Z h0 "com/example/inchworm/inchworm/core/Step" "UNDO_APPLIED" "Lcom/example/inchworm/inchworm/core/Step;" (.ref t3)) (ne_t0_t1 : t0 ≠ t1) (ne_t0_t2 : t0 ≠ t2) (ne_t0_t3 : t0 ≠ t3) (ne_t1_t2 : t1 ≠ t2) (ne_t1_t3 : t1 ≠ t3) (ne_t2_t3 : t2 ≠ t3) :
    own_Met l Z (⟨"com/example/inchworm/inchworm/core/Step", "undoes", "()Z"⟩ : MethodName) prog_40_method_7_code 1 (some .boolean) ws ({ frames := 0, cells := 0, slots := 0, locals := 0 } : Room) #[(.ref t3)] h0 (own_QP h0 (some (.int 1))) := by
  refine own_met rmU_3_pn ?_
  intro pP eE sS mI bB mT cC s₁ hx hby hml hown hnm hret hlk hZ X0 e0
  replace hown : sS.vm.findClass "com/example/inchworm/inchworm/core/Step" = some mI.cls := hown
  refine own_cast (rmU_3_ef mI t3) ?_
  refine own_go (T' := s₁) (g' := (mkF mI 1 #[.val (.ref t3)] [(.ref t3)])) (fun t_ kt_ => XS.aloadN X0.here hx rfl (hb hby d6_0) rfl rfl kt_) ?_
  obtain ⟨Th1, Xh1, eh1, sth1⟩ := getS2 X0 hx hZ hown (host := "") (Or.inl (hw _ (List.mem_of_getElem? (i := 48) rfl))) Via.refl e0 S_t2 (g := (mkF mI 1 #[.val (.ref t3)] [(.ref t3)])) rfl (hb hby d6_1)
  refine own_go (T' := Th1) (g' := (mkF mI 4 #[.val (.ref t3)] [(.ref t2), (.ref t3)])) (fun t_ kt_ => sth1 _ kt_) ?_
  refine own_go (T' := Th1) (g' := (mkF mI 7 #[.val (.ref t3)] [])) (fun t_ kt_ => Jvm.RoadKit.acmp (g := (mkF mI 4 #[.val (.ref t3)] [(.ref t2), (.ref t3)])) Xh1 hx rfl rfl rfl (pc0 := 4) (pc' := 7) (same := false) rfl (hb hby d6_4) rfl (decide_eq_false (fun q => (Ne.symm ne_t2_t3) (Value.ref.inj q))) (by decide) (by decide) kt_) ?_
  refine own_go (T' := Th1) (g' := (mkF mI 8 #[.val (.ref t3)] [(.ref t3)])) (fun t_ kt_ => XS.aloadN Xh1.here hx rfl (hb hby d6_7) rfl rfl kt_) ?_
  obtain ⟨Th2, Xh2, eh2, sth2⟩ := getS2 Xh1 hx hZ hown (host := "") (Or.inl (hw _ (List.mem_of_getElem? (i := 50) rfl))) Via.refl eh1 S_t3 (g := (mkF mI 8 #[.val (.ref t3)] [(.ref t3)])) rfl (hb hby d6_8)
  refine own_go (T' := Th2) (g' := (mkF mI 11 #[.val (.ref t3)] [(.ref t3), (.ref t3)])) (fun t_ kt_ => sth2 _ kt_) ?_
  refine own_go (T' := Th2) (g' := (mkF mI 14 #[.val (.ref t3)] [])) (fun t_ kt_ => Jvm.RoadKit.acmp (g := (mkF mI 11 #[.val (.ref t3)] [(.ref t3), (.ref t3)])) Xh2 hx rfl rfl rfl (pc0 := 11) (pc' := 14) (same := true) rfl (hb hby d6_11) rfl (decide_eq_true rfl) (by decide) (by decide) kt_) ?_
  refine own_go (T' := Th2) (g' := (mkF mI 15 #[.val (.ref t3)] [(.int (1 : Int32))])) (fun t_ kt_ => XS.iconst Xh2.here hx rfl (hb hby d6_14) kt_) ?_
  refine own_go (T' := Th2) (g' := (mkF mI 19 #[.val (.ref t3)] [(.int (1 : Int32))])) (fun t_ kt_ => XS.goto Xh2.here hx rfl (pc0 := 15) (pc' := 19) rfl (hb hby d6_15) (by decide) (by decide) kt_) ?_
  refine own_retN Xh2 hx hlk (t := .boolean) hret (by simp) (hb hby d6_19) (show nar .boolean (1 : Int32) = (1 : Int32) from by decide) (by decide) (by decide) ?_
  exact ⟨rfl, rfl, eh2⟩
theorem d7_0 : decode prog_40_method_4_code 0 = .ok (.aload_n 0, 1) := by decide +kernel
theorem d7_1 : decode prog_40_method_4_code 1 = .ok (.getstatic 39, 3) := by decide +kernel
theorem d7_4 : decode prog_40_method_4_code 4 = .ok (.if_acmp .ne 9, 3) := by decide +kernel
theorem d7_13 : decode prog_40_method_4_code 13 = .ok (.getstatic 13, 3) := by decide +kernel
theorem d7_16 : decode prog_40_method_4_code 16 = .ok (.areturn, 1) := by decide +kernel
theorem rmO_0_pn : plainFor (⟨"com/example/inchworm/inchworm/core/Step", "undo", "(Lcom/example/inchworm/inchworm/core/VersionState;)Lcom/example/inchworm/inchworm/core/Step;"⟩ : MethodName) = true := plainFor_of_name (show plainName "com/example/inchworm/inchworm/core/Step" = true by first | (simp [plainName, overriddenIn]; done) | decide +kernel)
theorem rmO_0_ef (mI : MethodId) (u0 : Addr) : entryFrame mI #[(.ref u0)] 1 = mkF mI 0 #[.val (.ref u0)] [] := by first | (simp [entryFrame, mkF, argsToLocals, Value.category]; done) | rfl
set_option maxRecDepth 65536 in
set_option maxHeartbeats 40000000 in
theorem rmO_0 (l : Launch) (Z : State) (a0 : Array Value) (hw : ∀ d ∈ tables_1, d.before a0 Z = true) (ws : List Jvm.Cond) (h0 : Heap) (t0 : Addr) (S_t0 : Sta Z h0 "com/example/inchworm/inchworm/core/Step" "APPLY" "Lcom/example/inchworm/inchworm/core/Step;" (.ref t0)) (t1 : Addr) (S_t1 : Sta Z h0 "com/example/inchworm/inchworm/core/Step" "RETIRE" "Lcom/example/inchworm/inchworm/core/Step;" (.ref t1)) (t2 : Addr) (S_t2 : Sta Z h0 "com/example/inchworm/inchworm/core/Step" "UNDO_TRANSITION" "Lcom/example/inchworm/inchworm/core/Step;" (.ref t2)) (t3 : Addr) (S_t3 : Sta Z h0 "com/example/inchworm/inchworm/core/Step" "UNDO_APPLIED" "Lcom/example/inchworm/inchworm/core/Step;" (.ref t3)) (u0 : Addr) (S_u0 : Sta Z h0 "com/example/inchworm/inchworm/core/VersionState" "PENDING" "Lcom/example/inchworm/inchworm/core/VersionState;" (.ref u0)) (u1 : Addr) (S_u1 : Sta Z h0 "com/example/inchworm/inchworm/core/VersionState" "TRANSITION" "Lcom/example/inchworm/inchworm/core/VersionState;" (.ref u1)) (u2 : Addr) (S_u2 : Sta Z h0 "com/example/inchworm/inchworm/core/VersionState" "APPLIED" "Lcom/example/inchworm/inchworm/core/VersionState;" (.ref u2)) (ne_u0_u1 : u0 ≠ u1) (ne_u0_u2 : u0 ≠ u2) (ne_u1_u2 : u1 ≠ u2) :
    own_Met l Z (⟨"com/example/inchworm/inchworm/core/Step", "undo", "(Lcom/example/inchworm/inchworm/core/VersionState;)Lcom/example/inchworm/inchworm/core/Step;"⟩ : MethodName) prog_40_method_4_code 1 (some (.object "com/example/inchworm/inchworm/core/Step")) ws ({ frames := 0, cells := 0, slots := 0, locals := 0 } : Room) #[(.ref u0)] h0 (own_QP h0 (some (.ref t3))) := by
  refine own_met rmO_0_pn ?_
  intro pP eE sS mI bB mT cC s₁ hx hby hml hown hnm hret hlk hZ X0 e0
  replace hown : sS.vm.findClass "com/example/inchworm/inchworm/core/Step" = some mI.cls := hown
  refine own_cast (rmO_0_ef mI u0) ?_
  refine own_go (T' := s₁) (g' := (mkF mI 1 #[.val (.ref u0)] [(.ref u0)])) (fun t_ kt_ => XS.aloadN X0.here hx rfl (hb hby d7_0) rfl rfl kt_) ?_
  obtain ⟨Ti1, Xi1, ei1, sti1⟩ := getS2 X0 hx hZ hown (host := "") (Or.inl (hw _ (List.mem_of_getElem? (i := 55) rfl))) Via.refl e0 S_u1 (g := (mkF mI 1 #[.val (.ref u0)] [(.ref u0)])) rfl (hb hby d7_1)
  refine own_go (T' := Ti1) (g' := (mkF mI 4 #[.val (.ref u0)] [(.ref u1), (.ref u0)])) (fun t_ kt_ => sti1 _ kt_) ?_
  refine own_go (T' := Ti1) (g' := (mkF mI 13 #[.val (.ref u0)] [])) (fun t_ kt_ => Jvm.RoadKit.acmp (g := (mkF mI 4 #[.val (.ref u0)] [(.ref u1), (.ref u0)])) Xi1 hx rfl rfl rfl (pc0 := 4) (pc' := 13) (same := false) rfl (hb hby d7_4) rfl (decide_eq_false (fun q => ne_u0_u1 (Value.ref.inj q))) (by decide) (by decide) kt_) ?_
  obtain ⟨Ti2, Xi2, ei2, sti2⟩ := getS2 Xi1 hx hZ hown (host := "") (Or.inl (hw _ (List.mem_of_getElem? (i := 50) rfl))) Via.refl ei1 S_t3 (g := (mkF mI 13 #[.val (.ref u0)] [])) rfl (hb hby d7_13)
  refine own_go (T' := Ti2) (g' := (mkF mI 16 #[.val (.ref u0)] [(.ref t3)])) (fun t_ kt_ => sti2 _ kt_) ?_
  refine own_retA Xi2 hx hlk hret rfl rfl (hb hby d7_16) (by decide) (by decide) ?_
  exact ⟨rfl, rfl, ei2⟩
theorem d7_7 : decode prog_40_method_4_code 7 = .ok (.getstatic 10, 3) := by decide +kernel
theorem d7_10 : decode prog_40_method_4_code 10 = .ok (.goto 6, 3) := by decide +kernel
theorem rmO_1_pn : plainFor (⟨"com/example/inchworm/inchworm/core/Step", "undo", "(Lcom/example/inchworm/inchworm/core/VersionState;)Lcom/example/inchworm/inchworm/core/Step;"⟩ : MethodName) = true := plainFor_of_name (show plainName "com/example/inchworm/inchworm/core/Step" = true by first | (simp [plainName, overriddenIn]; done) | decide +kernel)
theorem rmO_1_ef (mI : MethodId) (u1 : Addr) : entryFrame mI #[(.ref u1)] 1 = mkF mI 0 #[.val (.ref u1)] [] := by first | (simp [entryFrame, mkF, argsToLocals, Value.category]; done) | rfl
set_option maxRecDepth 65536 in
set_option maxHeartbeats 40000000 in
theorem rmO_1 (l : Launch) (Z : State) (a0 : Array Value) (hw : ∀ d ∈ tables_1, d.before a0 Z = true) (ws : List Jvm.Cond) (h0 : Heap) (t0 : Addr) (S_t0 : Sta Z h0 "com/example/inchworm/inchworm/core/Step" "APPLY" "Lcom/example/inchworm/inchworm/core/Step;" (.ref t0)) (t1 : Addr) (S_t1 : Sta Z h0 "com/example/inchworm/inchworm/core/Step" "RETIRE" "Lcom/example/inchworm/inchworm/core/Step;" (.ref t1)) (t2 : Addr) (S_t2 : Sta Z h0 "com/example/inchworm/inchworm/core/Step" "UNDO_TRANSITION" "Lcom/example/inchworm/inchworm/core/Step;" (.ref t2)) (t3 : Addr) (S_t3 : Sta Z h0 "com/example/inchworm/inchworm/core/Step" "UNDO_APPLIED" "Lcom/example/inchworm/inchworm/core/Step;" (.ref t3)) (u0 : Addr) (S_u0 : Sta Z h0 "com/example/inchworm/inchworm/core/VersionState" "PENDING" "Lcom/example/inchworm/inchworm/core/VersionState;" (.ref u0)) (u1 : Addr) (S_u1 : Sta Z h0 "com/example/inchworm/inchworm/core/VersionState" "TRANSITION" "Lcom/example/inchworm/inchworm/core/VersionState;" (.ref u1)) (u2 : Addr) (S_u2 : Sta Z h0 "com/example/inchworm/inchworm/core/VersionState" "APPLIED" "Lcom/example/inchworm/inchworm/core/VersionState;" (.ref u2)) (ne_u0_u1 : u0 ≠ u1) (ne_u0_u2 : u0 ≠ u2) (ne_u1_u2 : u1 ≠ u2) :
    own_Met l Z (⟨"com/example/inchworm/inchworm/core/Step", "undo", "(Lcom/example/inchworm/inchworm/core/VersionState;)Lcom/example/inchworm/inchworm/core/Step;"⟩ : MethodName) prog_40_method_4_code 1 (some (.object "com/example/inchworm/inchworm/core/Step")) ws ({ frames := 0, cells := 0, slots := 0, locals := 0 } : Room) #[(.ref u1)] h0 (own_QP h0 (some (.ref t2))) := by
  refine own_met rmO_1_pn ?_
  intro pP eE sS mI bB mT cC s₁ hx hby hml hown hnm hret hlk hZ X0 e0
  replace hown : sS.vm.findClass "com/example/inchworm/inchworm/core/Step" = some mI.cls := hown
  refine own_cast (rmO_1_ef mI u1) ?_
  refine own_go (T' := s₁) (g' := (mkF mI 1 #[.val (.ref u1)] [(.ref u1)])) (fun t_ kt_ => XS.aloadN X0.here hx rfl (hb hby d7_0) rfl rfl kt_) ?_
  obtain ⟨Ti1, Xi1, ei1, sti1⟩ := getS2 X0 hx hZ hown (host := "") (Or.inl (hw _ (List.mem_of_getElem? (i := 55) rfl))) Via.refl e0 S_u1 (g := (mkF mI 1 #[.val (.ref u1)] [(.ref u1)])) rfl (hb hby d7_1)
  refine own_go (T' := Ti1) (g' := (mkF mI 4 #[.val (.ref u1)] [(.ref u1), (.ref u1)])) (fun t_ kt_ => sti1 _ kt_) ?_
  refine own_go (T' := Ti1) (g' := (mkF mI 7 #[.val (.ref u1)] [])) (fun t_ kt_ => Jvm.RoadKit.acmp (g := (mkF mI 4 #[.val (.ref u1)] [(.ref u1), (.ref u1)])) Xi1 hx rfl rfl rfl (pc0 := 4) (pc' := 7) (same := true) rfl (hb hby d7_4) rfl (decide_eq_true rfl) (by decide) (by decide) kt_) ?_
  obtain ⟨Ti2, Xi2, ei2, sti2⟩ := getS2 Xi1 hx hZ hown (host := "") (Or.inl (hw _ (List.mem_of_getElem? (i := 48) rfl))) Via.refl ei1 S_t2 (g := (mkF mI 7 #[.val (.ref u1)] [])) rfl (hb hby d7_7)
  refine own_go (T' := Ti2) (g' := (mkF mI 10 #[.val (.ref u1)] [(.ref t2)])) (fun t_ kt_ => sti2 _ kt_) ?_
  refine own_go (T' := Ti2) (g' := (mkF mI 16 #[.val (.ref u1)] [(.ref t2)])) (fun t_ kt_ => XS.goto Xi2.here hx rfl (pc0 := 10) (pc' := 16) rfl (hb hby d7_10) (by decide) (by decide) kt_) ?_
  refine own_retA Xi2 hx hlk hret rfl rfl (hb hby d7_16) (by decide) (by decide) ?_
  exact ⟨rfl, rfl, ei2⟩
theorem rmO_2_pn : plainFor (⟨"com/example/inchworm/inchworm/core/Step", "undo", "(Lcom/example/inchworm/inchworm/core/VersionState;)Lcom/example/inchworm/inchworm/core/Step;"⟩ : MethodName) = true := plainFor_of_name (show plainName "com/example/inchworm/inchworm/core/Step" = true by first | (simp [plainName, overriddenIn]; done) | decide +kernel)
theorem rmO_2_ef (mI : MethodId) (u2 : Addr) : entryFrame mI #[(.ref u2)] 1 = mkF mI 0 #[.val (.ref u2)] [] := by first | (simp [entryFrame, mkF, argsToLocals, Value.category]; done) | rfl
set_option maxRecDepth 65536 in
set_option maxHeartbeats 40000000 in
theorem rmO_2 (l : Launch) (Z : State) (a0 : Array Value) (hw : ∀ d ∈ tables_1, d.before a0 Z = true) (ws : List Jvm.Cond) (h0 : Heap) (t0 : Addr) (S_t0 : Sta Z h0 "com/example/inchworm/inchworm/core/Step" "APPLY" "Lcom/example/inchworm/inchworm/core/Step;" (.ref t0)) (t1 : Addr) (S_t1 : Sta Z h0 "com/example/inchworm/inchworm/core/Step" "RETIRE" "Lcom/example/inchworm/inchworm/core/Step;" (.ref t1)) (t2 : Addr) (S_t2 : Sta Z h0 "com/example/inchworm/inchworm/core/Step" "UNDO_TRANSITION" "Lcom/example/inchworm/inchworm/core/Step;" (.ref t2)) (t3 : Addr) (S_t3 : Sta Z h0 "com/example/inchworm/inchworm/core/Step" "UNDO_APPLIED" "Lcom/example/inchworm/inchworm/core/Step;" (.ref t3)) (u0 : Addr) (S_u0 : Sta Z h0 "com/example/inchworm/inchworm/core/VersionState" "PENDING" "Lcom/example/inchworm/inchworm/core/VersionState;" (.ref u0)) (u1 : Addr) (S_u1 : Sta Z h0 "com/example/inchworm/inchworm/core/VersionState" "TRANSITION" "Lcom/example/inchworm/inchworm/core/VersionState;" (.ref u1)) (u2 : Addr) (S_u2 : Sta Z h0 "com/example/inchworm/inchworm/core/VersionState" "APPLIED" "Lcom/example/inchworm/inchworm/core/VersionState;" (.ref u2)) (ne_u0_u1 : u0 ≠ u1) (ne_u0_u2 : u0 ≠ u2) (ne_u1_u2 : u1 ≠ u2) :
    own_Met l Z (⟨"com/example/inchworm/inchworm/core/Step", "undo", "(Lcom/example/inchworm/inchworm/core/VersionState;)Lcom/example/inchworm/inchworm/core/Step;"⟩ : MethodName) prog_40_method_4_code 1 (some (.object "com/example/inchworm/inchworm/core/Step")) ws ({ frames := 0, cells := 0, slots := 0, locals := 0 } : Room) #[(.ref u2)] h0 (own_QP h0 (some (.ref t3))) := by
  refine own_met rmO_2_pn ?_
  intro pP eE sS mI bB mT cC s₁ hx hby hml hown hnm hret hlk hZ X0 e0
  replace hown : sS.vm.findClass "com/example/inchworm/inchworm/core/Step" = some mI.cls := hown
  refine own_cast (rmO_2_ef mI u2) ?_
  refine own_go (T' := s₁) (g' := (mkF mI 1 #[.val (.ref u2)] [(.ref u2)])) (fun t_ kt_ => XS.aloadN X0.here hx rfl (hb hby d7_0) rfl rfl kt_) ?_
  obtain ⟨Ti1, Xi1, ei1, sti1⟩ := getS2 X0 hx hZ hown (host := "") (Or.inl (hw _ (List.mem_of_getElem? (i := 55) rfl))) Via.refl e0 S_u1 (g := (mkF mI 1 #[.val (.ref u2)] [(.ref u2)])) rfl (hb hby d7_1)
  refine own_go (T' := Ti1) (g' := (mkF mI 4 #[.val (.ref u2)] [(.ref u1), (.ref u2)])) (fun t_ kt_ => sti1 _ kt_) ?_
  refine own_go (T' := Ti1) (g' := (mkF mI 13 #[.val (.ref u2)] [])) (fun t_ kt_ => Jvm.RoadKit.acmp (g := (mkF mI 4 #[.val (.ref u2)] [(.ref u1), (.ref u2)])) Xi1 hx rfl rfl rfl (pc0 := 4) (pc' := 13) (same := false) rfl (hb hby d7_4) rfl (decide_eq_false (fun q => (Ne.symm ne_u1_u2) (Value.ref.inj q))) (by decide) (by decide) kt_) ?_
  obtain ⟨Ti2, Xi2, ei2, sti2⟩ := getS2 Xi1 hx hZ hown (host := "") (Or.inl (hw _ (List.mem_of_getElem? (i := 50) rfl))) Via.refl ei1 S_t3 (g := (mkF mI 13 #[.val (.ref u2)] [])) rfl (hb hby d7_13)
  refine own_go (T' := Ti2) (g' := (mkF mI 16 #[.val (.ref u2)] [(.ref t3)])) (fun t_ kt_ => sti2 _ kt_) ?_
  refine own_retA Xi2 hx hlk hret rfl rfl (hb hby d7_16) (by decide) (by decide) ?_
  exact ⟨rfl, rfl, ei2⟩
def own_Q1 (v : Option Value) (h : Heap) (L : List Loc) : Prop := v = some (.int 1) ∧ L = []
theorem rm0_pn : plainFor x = true := plainFor_of_name (show plainName "com/example/inchworm/inchworm/core/StepUndoesPinLaw" = true by first | (simp [plainName, overriddenIn]; done) | decide +kernel)
theorem rm0_ef (mI : MethodId) (k : Int32) (z : Int32) : entryFrame mI #[(.int k), (.int z)] maxLocals = mkF mI 0 #[.val (.int k), .val (.int z), .unset, .unset, .unset] [] := by first | (simp [entryFrame, mkF, argsToLocals, Value.category, maxLocals]; done) | rfl
set_option maxRecDepth 65536 in
set_option maxHeartbeats 40000000 in
theorem rm0 (l : Launch) (Z : State) (a0 : Array Value) (hw : ∀ d ∈ tables_1, d.before a0 Z = true) (ws : List Jvm.Cond) (h0 : Heap) (hEL : EW Z a0 [("com/example/inchworm/inchworm/core/StepUndoesPinLaw", 45)]) (hStr : ∀ a ∈ Bundle.stringAtoms, a.before a0 Z = true) (k z cs : Int32) (S_cs : Sta Z h0 "java/lang/String" "COMPACT_STRINGS" "Z" (.int cs)) (hcs : ¬ cs = 0) (t0 : Addr) (S_t0 : Sta Z h0 "com/example/inchworm/inchworm/core/Step" "APPLY" "Lcom/example/inchworm/inchworm/core/Step;" (.ref t0)) (t1 : Addr) (S_t1 : Sta Z h0 "com/example/inchworm/inchworm/core/Step" "RETIRE" "Lcom/example/inchworm/inchworm/core/Step;" (.ref t1)) (t2 : Addr) (S_t2 : Sta Z h0 "com/example/inchworm/inchworm/core/Step" "UNDO_TRANSITION" "Lcom/example/inchworm/inchworm/core/Step;" (.ref t2)) (t3 : Addr) (S_t3 : Sta Z h0 "com/example/inchworm/inchworm/core/Step" "UNDO_APPLIED" "Lcom/example/inchworm/inchworm/core/Step;" (.ref t3)) (u0 : Addr) (S_u0 : Sta Z h0 "com/example/inchworm/inchworm/core/VersionState" "PENDING" "Lcom/example/inchworm/inchworm/core/VersionState;" (.ref u0)) (u1 : Addr) (S_u1 : Sta Z h0 "com/example/inchworm/inchworm/core/VersionState" "TRANSITION" "Lcom/example/inchworm/inchworm/core/VersionState;" (.ref u1)) (u2 : Addr) (S_u2 : Sta Z h0 "com/example/inchworm/inchworm/core/VersionState" "APPLIED" "Lcom/example/inchworm/inchworm/core/VersionState;" (.ref u2)) (d0 v0 : Addr) (k0 : ClassId) (E_d0 : Exa Z h0 d0 "java/lang/String") (F_d0_coder : Fld Z h0 d0 "java/lang/String" "coder" "B" (.int 0)) (F_d0_value : Fld Z h0 d0 "java/lang/String" "value" "[B" (.ref v0)) (V_v0 : Arv Z h0 v0 k0 .byte 7 [(.int (97 : Int32)), (.int (112 : Int32)), (.int (112 : Int32)), (.int (108 : Int32)), (.int (105 : Int32)), (.int (101 : Int32)), (.int (100 : Int32))] (.int 0)) (d1 v1 : Addr) (k1 : ClassId) (E_d1 : Exa Z h0 d1 "java/lang/String") (F_d1_coder : Fld Z h0 d1 "java/lang/String" "coder" "B" (.int 0)) (F_d1_value : Fld Z h0 d1 "java/lang/String" "value" "[B" (.ref v1)) (V_v1 : Arv Z h0 v1 k1 .byte 7 [(.int (114 : Int32)), (.int (101 : Int32)), (.int (116 : Int32)), (.int (105 : Int32)), (.int (114 : Int32)), (.int (101 : Int32)), (.int (100 : Int32))] (.int 0)) (d2 v2 : Addr) (k2 : ClassId) (E_d2 : Exa Z h0 d2 "java/lang/String") (F_d2_coder : Fld Z h0 d2 "java/lang/String" "coder" "B" (.int 0)) (F_d2_value : Fld Z h0 d2 "java/lang/String" "value" "[B" (.ref v2)) (V_v2 : Arv Z h0 v2 k2 .byte 6 [(.int (117 : Int32)), (.int (110 : Int32)), (.int (100 : Int32)), (.int (111 : Int32)), (.int (110 : Int32)), (.int (101 : Int32))] (.int 0)) (E_t0 : Exa Z h0 t0 "com/example/inchworm/inchworm/core/Step") (F_t0_done : Fld Z h0 t0 "com/example/inchworm/inchworm/core/Step" "done" "Ljava/lang/String;" (.ref d0)) (E_t1 : Exa Z h0 t1 "com/example/inchworm/inchworm/core/Step") (F_t1_done : Fld Z h0 t1 "com/example/inchworm/inchworm/core/Step" "done" "Ljava/lang/String;" (.ref d1)) (E_t2 : Exa Z h0 t2 "com/example/inchworm/inchworm/core/Step") (F_t2_done : Fld Z h0 t2 "com/example/inchworm/inchworm/core/Step" "done" "Ljava/lang/String;" (.ref d2)) (E_t3 : Exa Z h0 t3 "com/example/inchworm/inchworm/core/Step") (F_t3_done : Fld Z h0 t3 "com/example/inchworm/inchworm/core/Step" "done" "Ljava/lang/String;" (.ref d2)) (ne_t0_t1 : t0 ≠ t1) (ne_t0_t2 : t0 ≠ t2) (ne_t0_t3 : t0 ≠ t3) (ne_t1_t2 : t1 ≠ t2) (ne_t1_t3 : t1 ≠ t3) (ne_t2_t3 : t2 ≠ t3) (ne_u0_u1 : u0 ≠ u1) (ne_u0_u2 : u0 ≠ u2) (ne_u1_u2 : u1 ≠ u2) :
    own_MetS l Z [("com/example/inchworm/inchworm/core/StepUndoesPinLaw", 45)] x code maxLocals ret ws room_1 #[(.int k), (.int z)] h0 own_Q1 := by
  refine own_metS rm0_pn ?_
  intro pP eE sS mI bB mT cC s₁ hx hby hml hown hnm hret hlk hZ X0 e0 hS hk C0 hh0
  replace hown : (sS.setVm sS.vm).vm.findClass "com/example/inchworm/inchworm/core/StepUndoesPinLaw" = some mI.cls := hown
  replace hml : cC.maxLocals = 5 := hml
  replace hret : mT.sig.returnType = (some .boolean) := hret
  refine own_castS (rm0_ef mI k z) ?_
  by_cases hk0 : (k &&& (3 : Int32)) = (0 : Int32)
  · skip
    refine own_goS (T' := s₁) (g' := (mkF mI 1 #[.val (.int k), .val (.int z), .unset, .unset, .unset] [(.int k)])) (fun t_ kt_ => XS.iloadN X0.here hx rfl (hb hby at_0) rfl kt_) ?_
    refine own_callS own_closedS X0 hx hZ (y := (⟨"com/example/inchworm/inchworm/core/StepUndoesPinLaw", "step", "(I)Lcom/example/inchworm/inchworm/core/Step;"⟩ : MethodName)) hown (hw _ (List.mem_of_getElem? (i := 0) rfl)) (hw _ (List.mem_of_getElem? (i := 1) rfl)) (by decide) (rmS_0 l Z a0 hw [] h0 k hk0 t0 S_t0 t1 S_t1 t2 S_t2 t3 S_t3) (hw _ (List.mem_of_getElem? (i := 3) rfl)) (hw _ (List.mem_of_getElem? (i := 2) rfl)) e0 (pc := 1) (Ls := #[.val (.int k), .val (.int z), .unset, .unset, .unset]) (argsL := [(.int k)]) (rest := []) (by rw [hml]; rfl) (lenOf pd_1 rfl) (W := 0) (by decide) (by decide) (by decide) (by decide) (by decide) (hb hby at_1) rfl rfl ?_
    intro Tj1 Lj1 vj1 Xj1 hQj1
    obtain ⟨rfl, rfl, ej1⟩ := hQj1
    show own_EndsS _ _ pP eE bB sS _ _ Tj1 (mkF mI 4 #[.val (.int k), .val (.int z), .unset, .unset, .unset] [(.ref t0)])
    refine own_goS (T' := Tj1) (g' := (mkF mI 5 #[.val (.int k), .val (.int z), .val (.ref t0), .unset, .unset] [])) (fun t_ kt_ => XS.astoreN Xj1.here hx rfl (hb hby at_4) rfl rfl (l' := #[.val (.int k), .val (.int z), .val (.ref t0), .unset, .unset]) rfl kt_) ?_
    refine own_goS (T' := Tj1) (g' := (mkF mI 6 #[.val (.int k), .val (.int z), .val (.ref t0), .unset, .unset] [(.ref t0)])) (fun t_ kt_ => XS.aloadN Xj1.here hx rfl (hb hby at_5) rfl rfl kt_) ?_
    refine own_callV own_closedS Xj1 hx hZ (y := (⟨"com/example/inchworm/inchworm/core/Step", "done", "()Ljava/lang/String;"⟩ : MethodName)) (z := (⟨"com/example/inchworm/inchworm/core/Step", "done", "()Ljava/lang/String;"⟩ : MethodName)) hown (hw _ (List.mem_of_getElem? (i := 7) rfl)) (hw _ (List.mem_of_getElem? (i := 8) rfl)) (hw _ (List.mem_of_getElem? (i := 10) rfl)) (hw _ (List.mem_of_getElem? (i := 9) rfl)) (hw _ (List.mem_of_getElem? (i := 10) rfl)) rfl (by decide) (rmD l Z a0 hw [] h0 t0 d0 F_t0_done) (hw _ (List.mem_of_getElem? (i := 11) rfl)) (hw _ (List.mem_of_getElem? (i := 5) rfl)) ej1 E_t0 (pc := 6) (Ls := #[.val (.int k), .val (.int z), .val (.ref t0), .unset, .unset]) (argsL := []) (rest := []) (by rw [hml]; rfl) (lenOf pd_2 rfl) (W := 0) (by decide) (by decide) (by decide) (by decide) (by decide) (hb hby at_6) rfl rfl ?_
    intro Tj2 Lj2 vj2 Xj2 hQj2
    obtain ⟨rfl, rfl, ej2⟩ := hQj2
    show own_EndsS _ _ pP eE bB sS _ _ Tj2 (mkF mI 9 #[.val (.int k), .val (.int z), .val (.ref t0), .unset, .unset] [(.ref d0)])
    obtain ⟨aj3, Tj3, hj3, vmj3, kj3, bj3, kkj3, Xj3, ej3, Exj3, hS, hk, hZ, hown, Ej3, Fcj3, Fvj3, Vj3, Cj3, -, -, stj3⟩ := own_ldc Xj2 hx hZ hown (hw _ (List.mem_of_getElem? (i := 14) rfl)) hStr ej2 hS hk hEL (List.mem_of_getElem? (i := 0) rfl) C0 (vs := [(.int (117 : Int32)), (.int (110 : Int32)), (.int (100 : Int32)), (.int (111 : Int32)), (.int (110 : Int32)), (.int (101 : Int32))]) (z := 6) ⟨by decide, by decide⟩ (by decide) rfl (g := (mkF mI 9 #[.val (.int k), .val (.int z), .val (.ref t0), .unset, .unset] [(.ref d0)])) rfl (hb hby at_9) (n := 24) (by decide) (by decide) (by decide) (by decide)
    refine own_goS (T' := Tj3) (g' := (mkF mI 11 #[.val (.int k), .val (.int z), .val (.ref t0), .unset, .unset] [(.ref aj3), (.ref d0)])) (fun t_ kt_ => stj3 _ kt_) ?_
    refine own_callV own_closedS Xj3 hx hZ (y := (⟨"java/lang/String", "equals", "(Ljava/lang/Object;)Z"⟩ : MethodName)) (z := (⟨"java/lang/String", "equals", "(Ljava/lang/Object;)Z"⟩ : MethodName)) hown (hw _ (List.mem_of_getElem? (i := 22) rfl)) (hw _ (List.mem_of_getElem? (i := 23) rfl)) (hw _ (List.mem_of_getElem? (i := 25) rfl)) (hw _ (List.mem_of_getElem? (i := 24) rfl)) (hw _ (List.mem_of_getElem? (i := 25) rfl)) rfl (by decide) (rmE7 l Z a0 hw [] hj3 d0 aj3 v0 bj3 _ _ cs _ (S_cs.ext Exj3) hcs Ej3 (F_d0_coder.ext Exj3) Fcj3 (F_d0_value.ext Exj3) Fvj3 (V_v0.ext Exj3) Vj3 (Fld.ne (F_d0_value.ext Exj3) Fvj3 (fun q => arv_ne (V_v0.ext Exj3) Vj3 (Or.inl (by decide)) (Value.ref.inj q)))) (hw _ (List.mem_of_getElem? (i := 26) rfl)) (hw _ (List.mem_of_getElem? (i := 15) rfl)) ej3 (E_d0.ext Exj3) (pc := 11) (Ls := #[.val (.int k), .val (.int z), .val (.ref t0), .unset, .unset]) (argsL := [(.ref aj3)]) (rest := []) (by rw [hml]; rfl) (lenOf pd_3 rfl) (W := 0) (by decide) (by decide) (by decide) (by decide) (by decide) (hb hby at_11) rfl rfl ?_
    intro Tj4 Lj4 vj4 Xj4 hQj4
    obtain ⟨rfl, rfl, ej4⟩ := hQj4
    show own_EndsS _ _ pP eE bB sS _ _ Tj4 (mkF mI 14 #[.val (.int k), .val (.int z), .val (.ref t0), .unset, .unset] [(.int (0 : Int32))])
    refine own_goS (T' := Tj4) (g' := (mkF mI 15 #[.val (.int k), .val (.int z), .val (.ref t0), .val (.int (0 : Int32)), .unset] [])) (fun t_ kt_ => XS.istoreN Xj4.here hx rfl (hb hby at_14) rfl (l' := #[.val (.int k), .val (.int z), .val (.ref t0), .val (.int (0 : Int32)), .unset]) rfl kt_) ?_
    by_cases hz0 : ((z &&& (2147483647 : Int32)) % (3 : Int32)) = (0 : Int32)
    · skip
      refine own_goS (T' := Tj4) (g' := (mkF mI 16 #[.val (.int k), .val (.int z), .val (.ref t0), .val (.int (0 : Int32)), .unset] [(.int z)])) (fun t_ kt_ => XS.iloadN Xj4.here hx rfl (hb hby at_15) rfl kt_) ?_
      refine own_callS own_closedS Xj4 hx hZ (y := (⟨"com/example/inchworm/inchworm/core/StepUndoesPinLaw", "state", "(I)Lcom/example/inchworm/inchworm/core/VersionState;"⟩ : MethodName)) hown (hw _ (List.mem_of_getElem? (i := 36) rfl)) (hw _ (List.mem_of_getElem? (i := 37) rfl)) (by decide) (rmV_0 l Z a0 hw [] hj3 z hz0 u0 (S_u0.ext Exj3) u1 (S_u1.ext Exj3) u2 (S_u2.ext Exj3)) (hw _ (List.mem_of_getElem? (i := 38) rfl)) (hw _ (List.mem_of_getElem? (i := 2) rfl)) ej4 (pc := 16) (Ls := #[.val (.int k), .val (.int z), .val (.ref t0), .val (.int (0 : Int32)), .unset]) (argsL := [(.int z)]) (rest := []) (by rw [hml]; rfl) (lenOf pd_4 rfl) (W := 0) (by decide) (by decide) (by decide) (by decide) (by decide) (hb hby at_16) rfl rfl ?_
      intro Tj5 Lj5 vj5 Xj5 hQj5
      obtain ⟨rfl, rfl, ej5⟩ := hQj5
      show own_EndsS _ _ pP eE bB sS _ _ Tj5 (mkF mI 19 #[.val (.int k), .val (.int z), .val (.ref t0), .val (.int (0 : Int32)), .unset] [(.ref u0)])
      refine own_goS (T' := Tj5) (g' := (mkF mI 21 #[.val (.int k), .val (.int z), .val (.ref t0), .val (.int (0 : Int32)), .val (.ref u0)] [])) (fun t_ kt_ => XS.astore Xj5.here hx rfl (hb hby at_19) rfl rfl (l' := #[.val (.int k), .val (.int z), .val (.ref t0), .val (.int (0 : Int32)), .val (.ref u0)]) rfl kt_) ?_
      refine own_goS (T' := Tj5) (g' := (mkF mI 22 #[.val (.int k), .val (.int z), .val (.ref t0), .val (.int (0 : Int32)), .val (.ref u0)] [(.ref t0)])) (fun t_ kt_ => XS.aloadN Xj5.here hx rfl (hb hby at_21) rfl rfl kt_) ?_
      refine own_callV own_closedS Xj5 hx hZ (y := (⟨"com/example/inchworm/inchworm/core/Step", "undoes", "()Z"⟩ : MethodName)) (z := (⟨"com/example/inchworm/inchworm/core/Step", "undoes", "()Z"⟩ : MethodName)) hown (hw _ (List.mem_of_getElem? (i := 43) rfl)) (hw _ (List.mem_of_getElem? (i := 44) rfl)) (hw _ (List.mem_of_getElem? (i := 46) rfl)) (hw _ (List.mem_of_getElem? (i := 45) rfl)) (hw _ (List.mem_of_getElem? (i := 46) rfl)) rfl (by decide) (rmU_0 l Z a0 hw [] hj3 t0 (S_t0.ext Exj3) t1 (S_t1.ext Exj3) t2 (S_t2.ext Exj3) t3 (S_t3.ext Exj3) ne_t0_t1 ne_t0_t2 ne_t0_t3 ne_t1_t2 ne_t1_t3 ne_t2_t3) (hw _ (List.mem_of_getElem? (i := 47) rfl)) (hw _ (List.mem_of_getElem? (i := 5) rfl)) ej5 (E_t0.ext Exj3) (pc := 22) (Ls := #[.val (.int k), .val (.int z), .val (.ref t0), .val (.int (0 : Int32)), .val (.ref u0)]) (argsL := []) (rest := []) (by rw [hml]; rfl) (lenOf pd_5 rfl) (W := 0) (by decide) (by decide) (by decide) (by decide) (by decide) (hb hby at_22) rfl rfl ?_
      intro Tj6 Lj6 vj6 Xj6 hQj6
      obtain ⟨rfl, rfl, ej6⟩ := hQj6
      show own_EndsS _ _ pP eE bB sS _ _ Tj6 (mkF mI 25 #[.val (.int k), .val (.int z), .val (.ref t0), .val (.int (0 : Int32)), .val (.ref u0)] [(.int (0 : Int32))])
      refine own_goS (T' := Tj6) (g' := (mkF mI 26 #[.val (.int k), .val (.int z), .val (.ref t0), .val (.int (0 : Int32)), .val (.ref u0)] [(.int (0 : Int32)), (.int (0 : Int32))])) (fun t_ kt_ => XS.iloadN Xj6.here hx rfl (hb hby at_25) rfl kt_) ?_
      refine own_goS (T' := Tj6) (g' := (mkF mI 29 #[.val (.int k), .val (.int z), .val (.ref t0), .val (.int (0 : Int32)), .val (.ref u0)] [])) (fun t_ kt_ => XS.icmpNo Xj6.here hx rfl (hb hby at_26) rfl (teq (by decide : (0 : Int32) = (0 : Int32))).2 kt_) ?_
      refine own_goS (T' := Tj6) (g' := (mkF mI 31 #[.val (.int k), .val (.int z), .val (.ref t0), .val (.int (0 : Int32)), .val (.ref u0)] [(.ref u0)])) (fun t_ kt_ => XS.aload Xj6.here hx rfl (hb hby at_29) rfl rfl kt_) ?_
      refine own_callS own_closedS Xj6 hx hZ (y := (⟨"com/example/inchworm/inchworm/core/Step", "undo", "(Lcom/example/inchworm/inchworm/core/VersionState;)Lcom/example/inchworm/inchworm/core/Step;"⟩ : MethodName)) hown (hw _ (List.mem_of_getElem? (i := 52) rfl)) (hw _ (List.mem_of_getElem? (i := 53) rfl)) (by decide) (rmO_0 l Z a0 hw [] hj3 t0 (S_t0.ext Exj3) t1 (S_t1.ext Exj3) t2 (S_t2.ext Exj3) t3 (S_t3.ext Exj3) u0 (S_u0.ext Exj3) u1 (S_u1.ext Exj3) u2 (S_u2.ext Exj3) ne_u0_u1 ne_u0_u2 ne_u1_u2) (hw _ (List.mem_of_getElem? (i := 54) rfl)) (hw _ (List.mem_of_getElem? (i := 5) rfl)) ej6 (pc := 31) (Ls := #[.val (.int k), .val (.int z), .val (.ref t0), .val (.int (0 : Int32)), .val (.ref u0)]) (argsL := [(.ref u0)]) (rest := []) (by rw [hml]; rfl) (lenOf pd_6 rfl) (W := 0) (by decide) (by decide) (by decide) (by decide) (by decide) (hb hby at_31) rfl rfl ?_
      intro Tj7 Lj7 vj7 Xj7 hQj7
      obtain ⟨rfl, rfl, ej7⟩ := hQj7
      show own_EndsS _ _ pP eE bB sS _ _ Tj7 (mkF mI 34 #[.val (.int k), .val (.int z), .val (.ref t0), .val (.int (0 : Int32)), .val (.ref u0)] [(.ref t3)])
      refine own_callV own_closedS Xj7 hx hZ (y := (⟨"com/example/inchworm/inchworm/core/Step", "undoes", "()Z"⟩ : MethodName)) (z := (⟨"com/example/inchworm/inchworm/core/Step", "undoes", "()Z"⟩ : MethodName)) hown (hw _ (List.mem_of_getElem? (i := 43) rfl)) (hw _ (List.mem_of_getElem? (i := 44) rfl)) (hw _ (List.mem_of_getElem? (i := 46) rfl)) (hw _ (List.mem_of_getElem? (i := 45) rfl)) (hw _ (List.mem_of_getElem? (i := 46) rfl)) rfl (by decide) (rmU_3 l Z a0 hw [] hj3 t0 (S_t0.ext Exj3) t1 (S_t1.ext Exj3) t2 (S_t2.ext Exj3) t3 (S_t3.ext Exj3) ne_t0_t1 ne_t0_t2 ne_t0_t3 ne_t1_t2 ne_t1_t3 ne_t2_t3) (hw _ (List.mem_of_getElem? (i := 47) rfl)) (hw _ (List.mem_of_getElem? (i := 5) rfl)) ej7 (E_t3.ext Exj3) (pc := 34) (Ls := #[.val (.int k), .val (.int z), .val (.ref t0), .val (.int (0 : Int32)), .val (.ref u0)]) (argsL := []) (rest := []) (by rw [hml]; rfl) (lenOf pd_5 rfl) (W := 0) (by decide) (by decide) (by decide) (by decide) (by decide) (hb hby at_34) rfl rfl ?_
      intro Tj8 Lj8 vj8 Xj8 hQj8
      obtain ⟨rfl, rfl, ej8⟩ := hQj8
      show own_EndsS _ _ pP eE bB sS _ _ Tj8 (mkF mI 37 #[.val (.int k), .val (.int z), .val (.ref t0), .val (.int (0 : Int32)), .val (.ref u0)] [(.int (1 : Int32))])
      refine own_goS (T' := Tj8) (g' := (mkF mI 40 #[.val (.int k), .val (.int z), .val (.ref t0), .val (.int (0 : Int32)), .val (.ref u0)] [])) (fun t_ kt_ => XS.ifNo Xj8.here hx rfl (hb hby at_37) rfl ((if0 _ _).trans (feq (by decide : ¬ ((1 : Int32) = (0 : Int32)))).1) kt_) ?_
      refine own_goS (T' := Tj8) (g' := (mkF mI 41 #[.val (.int k), .val (.int z), .val (.ref t0), .val (.int (0 : Int32)), .val (.ref u0)] [(.int (1 : Int32))])) (fun t_ kt_ => XS.iconst Xj8.here hx rfl (hb hby at_40) kt_) ?_
      refine own_goS (T' := Tj8) (g' := (mkF mI 45 #[.val (.int k), .val (.int z), .val (.ref t0), .val (.int (0 : Int32)), .val (.ref u0)] [(.int (1 : Int32))])) (fun t_ kt_ => XS.goto Xj8.here hx rfl (pc0 := 41) (pc' := 45) rfl (hb hby at_41) (by decide) (by decide) kt_) ?_
      refine own_leaveS Xj8 hlk (some (.int (nar .boolean (1 : Int32)))) (fun h => by rw [hret] at h; cases h) hS ej8 hk hZ hEL Cj3 (by decide) (by decide) ?_ (fun fs hr => retN Xj8 hx (t := .boolean) hret (by simp) (hb hby at_45) hr)
      exact ⟨rfl, rfl⟩
    · skip
      by_cases hz1 : ((z &&& (2147483647 : Int32)) % (3 : Int32)) = (1 : Int32)
      · skip
        refine own_goS (T' := Tj4) (g' := (mkF mI 16 #[.val (.int k), .val (.int z), .val (.ref t0), .val (.int (0 : Int32)), .unset] [(.int z)])) (fun t_ kt_ => XS.iloadN Xj4.here hx rfl (hb hby at_15) rfl kt_) ?_
        refine own_callS own_closedS Xj4 hx hZ (y := (⟨"com/example/inchworm/inchworm/core/StepUndoesPinLaw", "state", "(I)Lcom/example/inchworm/inchworm/core/VersionState;"⟩ : MethodName)) hown (hw _ (List.mem_of_getElem? (i := 36) rfl)) (hw _ (List.mem_of_getElem? (i := 37) rfl)) (by decide) (rmV_1 l Z a0 hw [] hj3 z hz0 hz1 u0 (S_u0.ext Exj3) u1 (S_u1.ext Exj3) u2 (S_u2.ext Exj3)) (hw _ (List.mem_of_getElem? (i := 38) rfl)) (hw _ (List.mem_of_getElem? (i := 2) rfl)) ej4 (pc := 16) (Ls := #[.val (.int k), .val (.int z), .val (.ref t0), .val (.int (0 : Int32)), .unset]) (argsL := [(.int z)]) (rest := []) (by rw [hml]; rfl) (lenOf pd_4 rfl) (W := 0) (by decide) (by decide) (by decide) (by decide) (by decide) (hb hby at_16) rfl rfl ?_
        intro Tj9 Lj9 vj9 Xj9 hQj9
        obtain ⟨rfl, rfl, ej9⟩ := hQj9
        show own_EndsS _ _ pP eE bB sS _ _ Tj9 (mkF mI 19 #[.val (.int k), .val (.int z), .val (.ref t0), .val (.int (0 : Int32)), .unset] [(.ref u1)])
        refine own_goS (T' := Tj9) (g' := (mkF mI 21 #[.val (.int k), .val (.int z), .val (.ref t0), .val (.int (0 : Int32)), .val (.ref u1)] [])) (fun t_ kt_ => XS.astore Xj9.here hx rfl (hb hby at_19) rfl rfl (l' := #[.val (.int k), .val (.int z), .val (.ref t0), .val (.int (0 : Int32)), .val (.ref u1)]) rfl kt_) ?_
        refine own_goS (T' := Tj9) (g' := (mkF mI 22 #[.val (.int k), .val (.int z), .val (.ref t0), .val (.int (0 : Int32)), .val (.ref u1)] [(.ref t0)])) (fun t_ kt_ => XS.aloadN Xj9.here hx rfl (hb hby at_21) rfl rfl kt_) ?_
        refine own_callV own_closedS Xj9 hx hZ (y := (⟨"com/example/inchworm/inchworm/core/Step", "undoes", "()Z"⟩ : MethodName)) (z := (⟨"com/example/inchworm/inchworm/core/Step", "undoes", "()Z"⟩ : MethodName)) hown (hw _ (List.mem_of_getElem? (i := 43) rfl)) (hw _ (List.mem_of_getElem? (i := 44) rfl)) (hw _ (List.mem_of_getElem? (i := 46) rfl)) (hw _ (List.mem_of_getElem? (i := 45) rfl)) (hw _ (List.mem_of_getElem? (i := 46) rfl)) rfl (by decide) (rmU_0 l Z a0 hw [] hj3 t0 (S_t0.ext Exj3) t1 (S_t1.ext Exj3) t2 (S_t2.ext Exj3) t3 (S_t3.ext Exj3) ne_t0_t1 ne_t0_t2 ne_t0_t3 ne_t1_t2 ne_t1_t3 ne_t2_t3) (hw _ (List.mem_of_getElem? (i := 47) rfl)) (hw _ (List.mem_of_getElem? (i := 5) rfl)) ej9 (E_t0.ext Exj3) (pc := 22) (Ls := #[.val (.int k), .val (.int z), .val (.ref t0), .val (.int (0 : Int32)), .val (.ref u1)]) (argsL := []) (rest := []) (by rw [hml]; rfl) (lenOf pd_5 rfl) (W := 0) (by decide) (by decide) (by decide) (by decide) (by decide) (hb hby at_22) rfl rfl ?_
        intro Tj10 Lj10 vj10 Xj10 hQj10
        obtain ⟨rfl, rfl, ej10⟩ := hQj10
        show own_EndsS _ _ pP eE bB sS _ _ Tj10 (mkF mI 25 #[.val (.int k), .val (.int z), .val (.ref t0), .val (.int (0 : Int32)), .val (.ref u1)] [(.int (0 : Int32))])
        refine own_goS (T' := Tj10) (g' := (mkF mI 26 #[.val (.int k), .val (.int z), .val (.ref t0), .val (.int (0 : Int32)), .val (.ref u1)] [(.int (0 : Int32)), (.int (0 : Int32))])) (fun t_ kt_ => XS.iloadN Xj10.here hx rfl (hb hby at_25) rfl kt_) ?_
        refine own_goS (T' := Tj10) (g' := (mkF mI 29 #[.val (.int k), .val (.int z), .val (.ref t0), .val (.int (0 : Int32)), .val (.ref u1)] [])) (fun t_ kt_ => XS.icmpNo Xj10.here hx rfl (hb hby at_26) rfl (teq (by decide : (0 : Int32) = (0 : Int32))).2 kt_) ?_
        refine own_goS (T' := Tj10) (g' := (mkF mI 31 #[.val (.int k), .val (.int z), .val (.ref t0), .val (.int (0 : Int32)), .val (.ref u1)] [(.ref u1)])) (fun t_ kt_ => XS.aload Xj10.here hx rfl (hb hby at_29) rfl rfl kt_) ?_
        refine own_callS own_closedS Xj10 hx hZ (y := (⟨"com/example/inchworm/inchworm/core/Step", "undo", "(Lcom/example/inchworm/inchworm/core/VersionState;)Lcom/example/inchworm/inchworm/core/Step;"⟩ : MethodName)) hown (hw _ (List.mem_of_getElem? (i := 52) rfl)) (hw _ (List.mem_of_getElem? (i := 53) rfl)) (by decide) (rmO_1 l Z a0 hw [] hj3 t0 (S_t0.ext Exj3) t1 (S_t1.ext Exj3) t2 (S_t2.ext Exj3) t3 (S_t3.ext Exj3) u0 (S_u0.ext Exj3) u1 (S_u1.ext Exj3) u2 (S_u2.ext Exj3) ne_u0_u1 ne_u0_u2 ne_u1_u2) (hw _ (List.mem_of_getElem? (i := 54) rfl)) (hw _ (List.mem_of_getElem? (i := 5) rfl)) ej10 (pc := 31) (Ls := #[.val (.int k), .val (.int z), .val (.ref t0), .val (.int (0 : Int32)), .val (.ref u1)]) (argsL := [(.ref u1)]) (rest := []) (by rw [hml]; rfl) (lenOf pd_6 rfl) (W := 0) (by decide) (by decide) (by decide) (by decide) (by decide) (hb hby at_31) rfl rfl ?_
        intro Tj11 Lj11 vj11 Xj11 hQj11
        obtain ⟨rfl, rfl, ej11⟩ := hQj11
        show own_EndsS _ _ pP eE bB sS _ _ Tj11 (mkF mI 34 #[.val (.int k), .val (.int z), .val (.ref t0), .val (.int (0 : Int32)), .val (.ref u1)] [(.ref t2)])
        refine own_callV own_closedS Xj11 hx hZ (y := (⟨"com/example/inchworm/inchworm/core/Step", "undoes", "()Z"⟩ : MethodName)) (z := (⟨"com/example/inchworm/inchworm/core/Step", "undoes", "()Z"⟩ : MethodName)) hown (hw _ (List.mem_of_getElem? (i := 43) rfl)) (hw _ (List.mem_of_getElem? (i := 44) rfl)) (hw _ (List.mem_of_getElem? (i := 46) rfl)) (hw _ (List.mem_of_getElem? (i := 45) rfl)) (hw _ (List.mem_of_getElem? (i := 46) rfl)) rfl (by decide) (rmU_2 l Z a0 hw [] hj3 t0 (S_t0.ext Exj3) t1 (S_t1.ext Exj3) t2 (S_t2.ext Exj3) t3 (S_t3.ext Exj3) ne_t0_t1 ne_t0_t2 ne_t0_t3 ne_t1_t2 ne_t1_t3 ne_t2_t3) (hw _ (List.mem_of_getElem? (i := 47) rfl)) (hw _ (List.mem_of_getElem? (i := 5) rfl)) ej11 (E_t2.ext Exj3) (pc := 34) (Ls := #[.val (.int k), .val (.int z), .val (.ref t0), .val (.int (0 : Int32)), .val (.ref u1)]) (argsL := []) (rest := []) (by rw [hml]; rfl) (lenOf pd_5 rfl) (W := 0) (by decide) (by decide) (by decide) (by decide) (by decide) (hb hby at_34) rfl rfl ?_
        intro Tj12 Lj12 vj12 Xj12 hQj12
        obtain ⟨rfl, rfl, ej12⟩ := hQj12
        show own_EndsS _ _ pP eE bB sS _ _ Tj12 (mkF mI 37 #[.val (.int k), .val (.int z), .val (.ref t0), .val (.int (0 : Int32)), .val (.ref u1)] [(.int (1 : Int32))])
        refine own_goS (T' := Tj12) (g' := (mkF mI 40 #[.val (.int k), .val (.int z), .val (.ref t0), .val (.int (0 : Int32)), .val (.ref u1)] [])) (fun t_ kt_ => XS.ifNo Xj12.here hx rfl (hb hby at_37) rfl ((if0 _ _).trans (feq (by decide : ¬ ((1 : Int32) = (0 : Int32)))).1) kt_) ?_
        refine own_goS (T' := Tj12) (g' := (mkF mI 41 #[.val (.int k), .val (.int z), .val (.ref t0), .val (.int (0 : Int32)), .val (.ref u1)] [(.int (1 : Int32))])) (fun t_ kt_ => XS.iconst Xj12.here hx rfl (hb hby at_40) kt_) ?_
        refine own_goS (T' := Tj12) (g' := (mkF mI 45 #[.val (.int k), .val (.int z), .val (.ref t0), .val (.int (0 : Int32)), .val (.ref u1)] [(.int (1 : Int32))])) (fun t_ kt_ => XS.goto Xj12.here hx rfl (pc0 := 41) (pc' := 45) rfl (hb hby at_41) (by decide) (by decide) kt_) ?_
        refine own_leaveS Xj12 hlk (some (.int (nar .boolean (1 : Int32)))) (fun h => by rw [hret] at h; cases h) hS ej12 hk hZ hEL Cj3 (by decide) (by decide) ?_ (fun fs hr => retN Xj12 hx (t := .boolean) hret (by simp) (hb hby at_45) hr)
        exact ⟨rfl, rfl⟩
      · skip
        refine own_goS (T' := Tj4) (g' := (mkF mI 16 #[.val (.int k), .val (.int z), .val (.ref t0), .val (.int (0 : Int32)), .unset] [(.int z)])) (fun t_ kt_ => XS.iloadN Xj4.here hx rfl (hb hby at_15) rfl kt_) ?_
        refine own_callS own_closedS Xj4 hx hZ (y := (⟨"com/example/inchworm/inchworm/core/StepUndoesPinLaw", "state", "(I)Lcom/example/inchworm/inchworm/core/VersionState;"⟩ : MethodName)) hown (hw _ (List.mem_of_getElem? (i := 36) rfl)) (hw _ (List.mem_of_getElem? (i := 37) rfl)) (by decide) (rmV_2 l Z a0 hw [] hj3 z hz0 hz1 u0 (S_u0.ext Exj3) u1 (S_u1.ext Exj3) u2 (S_u2.ext Exj3)) (hw _ (List.mem_of_getElem? (i := 38) rfl)) (hw _ (List.mem_of_getElem? (i := 2) rfl)) ej4 (pc := 16) (Ls := #[.val (.int k), .val (.int z), .val (.ref t0), .val (.int (0 : Int32)), .unset]) (argsL := [(.int z)]) (rest := []) (by rw [hml]; rfl) (lenOf pd_4 rfl) (W := 0) (by decide) (by decide) (by decide) (by decide) (by decide) (hb hby at_16) rfl rfl ?_
        intro Tj13 Lj13 vj13 Xj13 hQj13
        obtain ⟨rfl, rfl, ej13⟩ := hQj13
        show own_EndsS _ _ pP eE bB sS _ _ Tj13 (mkF mI 19 #[.val (.int k), .val (.int z), .val (.ref t0), .val (.int (0 : Int32)), .unset] [(.ref u2)])
        refine own_goS (T' := Tj13) (g' := (mkF mI 21 #[.val (.int k), .val (.int z), .val (.ref t0), .val (.int (0 : Int32)), .val (.ref u2)] [])) (fun t_ kt_ => XS.astore Xj13.here hx rfl (hb hby at_19) rfl rfl (l' := #[.val (.int k), .val (.int z), .val (.ref t0), .val (.int (0 : Int32)), .val (.ref u2)]) rfl kt_) ?_
        refine own_goS (T' := Tj13) (g' := (mkF mI 22 #[.val (.int k), .val (.int z), .val (.ref t0), .val (.int (0 : Int32)), .val (.ref u2)] [(.ref t0)])) (fun t_ kt_ => XS.aloadN Xj13.here hx rfl (hb hby at_21) rfl rfl kt_) ?_
        refine own_callV own_closedS Xj13 hx hZ (y := (⟨"com/example/inchworm/inchworm/core/Step", "undoes", "()Z"⟩ : MethodName)) (z := (⟨"com/example/inchworm/inchworm/core/Step", "undoes", "()Z"⟩ : MethodName)) hown (hw _ (List.mem_of_getElem? (i := 43) rfl)) (hw _ (List.mem_of_getElem? (i := 44) rfl)) (hw _ (List.mem_of_getElem? (i := 46) rfl)) (hw _ (List.mem_of_getElem? (i := 45) rfl)) (hw _ (List.mem_of_getElem? (i := 46) rfl)) rfl (by decide) (rmU_0 l Z a0 hw [] hj3 t0 (S_t0.ext Exj3) t1 (S_t1.ext Exj3) t2 (S_t2.ext Exj3) t3 (S_t3.ext Exj3) ne_t0_t1 ne_t0_t2 ne_t0_t3 ne_t1_t2 ne_t1_t3 ne_t2_t3) (hw _ (List.mem_of_getElem? (i := 47) rfl)) (hw _ (List.mem_of_getElem? (i := 5) rfl)) ej13 (E_t0.ext Exj3) (pc := 22) (Ls := #[.val (.int k), .val (.int z), .val (.ref t0), .val (.int (0 : Int32)), .val (.ref u2)]) (argsL := []) (rest := []) (by rw [hml]; rfl) (lenOf pd_5 rfl) (W := 0) (by decide) (by decide) (by decide) (by decide) (by decide) (hb hby at_22) rfl rfl ?_
        intro Tj14 Lj14 vj14 Xj14 hQj14
        obtain ⟨rfl, rfl, ej14⟩ := hQj14
        show own_EndsS _ _ pP eE bB sS _ _ Tj14 (mkF mI 25 #[.val (.int k), .val (.int z), .val (.ref t0), .val (.int (0 : Int32)), .val (.ref u2)] [(.int (0 : Int32))])
        refine own_goS (T' := Tj14) (g' := (mkF mI 26 #[.val (.int k), .val (.int z), .val (.ref t0), .val (.int (0 : Int32)), .val (.ref u2)] [(.int (0 : Int32)), (.int (0 : Int32))])) (fun t_ kt_ => XS.iloadN Xj14.here hx rfl (hb hby at_25) rfl kt_) ?_
        refine own_goS (T' := Tj14) (g' := (mkF mI 29 #[.val (.int k), .val (.int z), .val (.ref t0), .val (.int (0 : Int32)), .val (.ref u2)] [])) (fun t_ kt_ => XS.icmpNo Xj14.here hx rfl (hb hby at_26) rfl (teq (by decide : (0 : Int32) = (0 : Int32))).2 kt_) ?_
        refine own_goS (T' := Tj14) (g' := (mkF mI 31 #[.val (.int k), .val (.int z), .val (.ref t0), .val (.int (0 : Int32)), .val (.ref u2)] [(.ref u2)])) (fun t_ kt_ => XS.aload Xj14.here hx rfl (hb hby at_29) rfl rfl kt_) ?_
        refine own_callS own_closedS Xj14 hx hZ (y := (⟨"com/example/inchworm/inchworm/core/Step", "undo", "(Lcom/example/inchworm/inchworm/core/VersionState;)Lcom/example/inchworm/inchworm/core/Step;"⟩ : MethodName)) hown (hw _ (List.mem_of_getElem? (i := 52) rfl)) (hw _ (List.mem_of_getElem? (i := 53) rfl)) (by decide) (rmO_2 l Z a0 hw [] hj3 t0 (S_t0.ext Exj3) t1 (S_t1.ext Exj3) t2 (S_t2.ext Exj3) t3 (S_t3.ext Exj3) u0 (S_u0.ext Exj3) u1 (S_u1.ext Exj3) u2 (S_u2.ext Exj3) ne_u0_u1 ne_u0_u2 ne_u1_u2) (hw _ (List.mem_of_getElem? (i := 54) rfl)) (hw _ (List.mem_of_getElem? (i := 5) rfl)) ej14 (pc := 31) (Ls := #[.val (.int k), .val (.int z), .val (.ref t0), .val (.int (0 : Int32)), .val (.ref u2)]) (argsL := [(.ref u2)]) (rest := []) (by rw [hml]; rfl) (lenOf pd_6 rfl) (W := 0) (by decide) (by decide) (by decide) (by decide) (by decide) (hb hby at_31) rfl rfl ?_
        intro Tj15 Lj15 vj15 Xj15 hQj15
        obtain ⟨rfl, rfl, ej15⟩ := hQj15
        show own_EndsS _ _ pP eE bB sS _ _ Tj15 (mkF mI 34 #[.val (.int k), .val (.int z), .val (.ref t0), .val (.int (0 : Int32)), .val (.ref u2)] [(.ref t3)])
        refine own_callV own_closedS Xj15 hx hZ (y := (⟨"com/example/inchworm/inchworm/core/Step", "undoes", "()Z"⟩ : MethodName)) (z := (⟨"com/example/inchworm/inchworm/core/Step", "undoes", "()Z"⟩ : MethodName)) hown (hw _ (List.mem_of_getElem? (i := 43) rfl)) (hw _ (List.mem_of_getElem? (i := 44) rfl)) (hw _ (List.mem_of_getElem? (i := 46) rfl)) (hw _ (List.mem_of_getElem? (i := 45) rfl)) (hw _ (List.mem_of_getElem? (i := 46) rfl)) rfl (by decide) (rmU_3 l Z a0 hw [] hj3 t0 (S_t0.ext Exj3) t1 (S_t1.ext Exj3) t2 (S_t2.ext Exj3) t3 (S_t3.ext Exj3) ne_t0_t1 ne_t0_t2 ne_t0_t3 ne_t1_t2 ne_t1_t3 ne_t2_t3) (hw _ (List.mem_of_getElem? (i := 47) rfl)) (hw _ (List.mem_of_getElem? (i := 5) rfl)) ej15 (E_t3.ext Exj3) (pc := 34) (Ls := #[.val (.int k), .val (.int z), .val (.ref t0), .val (.int (0 : Int32)), .val (.ref u2)]) (argsL := []) (rest := []) (by rw [hml]; rfl) (lenOf pd_5 rfl) (W := 0) (by decide) (by decide) (by decide) (by decide) (by decide) (hb hby at_34) rfl rfl ?_
        intro Tj16 Lj16 vj16 Xj16 hQj16
        obtain ⟨rfl, rfl, ej16⟩ := hQj16
        show own_EndsS _ _ pP eE bB sS _ _ Tj16 (mkF mI 37 #[.val (.int k), .val (.int z), .val (.ref t0), .val (.int (0 : Int32)), .val (.ref u2)] [(.int (1 : Int32))])
        refine own_goS (T' := Tj16) (g' := (mkF mI 40 #[.val (.int k), .val (.int z), .val (.ref t0), .val (.int (0 : Int32)), .val (.ref u2)] [])) (fun t_ kt_ => XS.ifNo Xj16.here hx rfl (hb hby at_37) rfl ((if0 _ _).trans (feq (by decide : ¬ ((1 : Int32) = (0 : Int32)))).1) kt_) ?_
        refine own_goS (T' := Tj16) (g' := (mkF mI 41 #[.val (.int k), .val (.int z), .val (.ref t0), .val (.int (0 : Int32)), .val (.ref u2)] [(.int (1 : Int32))])) (fun t_ kt_ => XS.iconst Xj16.here hx rfl (hb hby at_40) kt_) ?_
        refine own_goS (T' := Tj16) (g' := (mkF mI 45 #[.val (.int k), .val (.int z), .val (.ref t0), .val (.int (0 : Int32)), .val (.ref u2)] [(.int (1 : Int32))])) (fun t_ kt_ => XS.goto Xj16.here hx rfl (pc0 := 41) (pc' := 45) rfl (hb hby at_41) (by decide) (by decide) kt_) ?_
        refine own_leaveS Xj16 hlk (some (.int (nar .boolean (1 : Int32)))) (fun h => by rw [hret] at h; cases h) hS ej16 hk hZ hEL Cj3 (by decide) (by decide) ?_ (fun fs hr => retN Xj16 hx (t := .boolean) hret (by simp) (hb hby at_45) hr)
        exact ⟨rfl, rfl⟩
  · skip
    by_cases hk1 : (k &&& (3 : Int32)) = (1 : Int32)
    · skip
      refine own_goS (T' := s₁) (g' := (mkF mI 1 #[.val (.int k), .val (.int z), .unset, .unset, .unset] [(.int k)])) (fun t_ kt_ => XS.iloadN X0.here hx rfl (hb hby at_0) rfl kt_) ?_
      refine own_callS own_closedS X0 hx hZ (y := (⟨"com/example/inchworm/inchworm/core/StepUndoesPinLaw", "step", "(I)Lcom/example/inchworm/inchworm/core/Step;"⟩ : MethodName)) hown (hw _ (List.mem_of_getElem? (i := 0) rfl)) (hw _ (List.mem_of_getElem? (i := 1) rfl)) (by decide) (rmS_1 l Z a0 hw [] h0 k hk0 hk1 t0 S_t0 t1 S_t1 t2 S_t2 t3 S_t3) (hw _ (List.mem_of_getElem? (i := 3) rfl)) (hw _ (List.mem_of_getElem? (i := 2) rfl)) e0 (pc := 1) (Ls := #[.val (.int k), .val (.int z), .unset, .unset, .unset]) (argsL := [(.int k)]) (rest := []) (by rw [hml]; rfl) (lenOf pd_1 rfl) (W := 0) (by decide) (by decide) (by decide) (by decide) (by decide) (hb hby at_1) rfl rfl ?_
      intro Tj17 Lj17 vj17 Xj17 hQj17
      obtain ⟨rfl, rfl, ej17⟩ := hQj17
      show own_EndsS _ _ pP eE bB sS _ _ Tj17 (mkF mI 4 #[.val (.int k), .val (.int z), .unset, .unset, .unset] [(.ref t1)])
      refine own_goS (T' := Tj17) (g' := (mkF mI 5 #[.val (.int k), .val (.int z), .val (.ref t1), .unset, .unset] [])) (fun t_ kt_ => XS.astoreN Xj17.here hx rfl (hb hby at_4) rfl rfl (l' := #[.val (.int k), .val (.int z), .val (.ref t1), .unset, .unset]) rfl kt_) ?_
      refine own_goS (T' := Tj17) (g' := (mkF mI 6 #[.val (.int k), .val (.int z), .val (.ref t1), .unset, .unset] [(.ref t1)])) (fun t_ kt_ => XS.aloadN Xj17.here hx rfl (hb hby at_5) rfl rfl kt_) ?_
      refine own_callV own_closedS Xj17 hx hZ (y := (⟨"com/example/inchworm/inchworm/core/Step", "done", "()Ljava/lang/String;"⟩ : MethodName)) (z := (⟨"com/example/inchworm/inchworm/core/Step", "done", "()Ljava/lang/String;"⟩ : MethodName)) hown (hw _ (List.mem_of_getElem? (i := 7) rfl)) (hw _ (List.mem_of_getElem? (i := 8) rfl)) (hw _ (List.mem_of_getElem? (i := 10) rfl)) (hw _ (List.mem_of_getElem? (i := 9) rfl)) (hw _ (List.mem_of_getElem? (i := 10) rfl)) rfl (by decide) (rmD l Z a0 hw [] h0 t1 d1 F_t1_done) (hw _ (List.mem_of_getElem? (i := 11) rfl)) (hw _ (List.mem_of_getElem? (i := 5) rfl)) ej17 E_t1 (pc := 6) (Ls := #[.val (.int k), .val (.int z), .val (.ref t1), .unset, .unset]) (argsL := []) (rest := []) (by rw [hml]; rfl) (lenOf pd_2 rfl) (W := 0) (by decide) (by decide) (by decide) (by decide) (by decide) (hb hby at_6) rfl rfl ?_
      intro Tj18 Lj18 vj18 Xj18 hQj18
      obtain ⟨rfl, rfl, ej18⟩ := hQj18
      show own_EndsS _ _ pP eE bB sS _ _ Tj18 (mkF mI 9 #[.val (.int k), .val (.int z), .val (.ref t1), .unset, .unset] [(.ref d1)])
      obtain ⟨aj19, Tj19, hj19, vmj19, kj19, bj19, kkj19, Xj19, ej19, Exj19, hS, hk, hZ, hown, Ej19, Fcj19, Fvj19, Vj19, Cj19, -, -, stj19⟩ := own_ldc Xj18 hx hZ hown (hw _ (List.mem_of_getElem? (i := 14) rfl)) hStr ej18 hS hk hEL (List.mem_of_getElem? (i := 0) rfl) C0 (vs := [(.int (117 : Int32)), (.int (110 : Int32)), (.int (100 : Int32)), (.int (111 : Int32)), (.int (110 : Int32)), (.int (101 : Int32))]) (z := 6) ⟨by decide, by decide⟩ (by decide) rfl (g := (mkF mI 9 #[.val (.int k), .val (.int z), .val (.ref t1), .unset, .unset] [(.ref d1)])) rfl (hb hby at_9) (n := 24) (by decide) (by decide) (by decide) (by decide)
      refine own_goS (T' := Tj19) (g' := (mkF mI 11 #[.val (.int k), .val (.int z), .val (.ref t1), .unset, .unset] [(.ref aj19), (.ref d1)])) (fun t_ kt_ => stj19 _ kt_) ?_
      refine own_callV own_closedS Xj19 hx hZ (y := (⟨"java/lang/String", "equals", "(Ljava/lang/Object;)Z"⟩ : MethodName)) (z := (⟨"java/lang/String", "equals", "(Ljava/lang/Object;)Z"⟩ : MethodName)) hown (hw _ (List.mem_of_getElem? (i := 22) rfl)) (hw _ (List.mem_of_getElem? (i := 23) rfl)) (hw _ (List.mem_of_getElem? (i := 25) rfl)) (hw _ (List.mem_of_getElem? (i := 24) rfl)) (hw _ (List.mem_of_getElem? (i := 25) rfl)) rfl (by decide) (rmE7 l Z a0 hw [] hj19 d1 aj19 v1 bj19 _ _ cs _ (S_cs.ext Exj19) hcs Ej19 (F_d1_coder.ext Exj19) Fcj19 (F_d1_value.ext Exj19) Fvj19 (V_v1.ext Exj19) Vj19 (Fld.ne (F_d1_value.ext Exj19) Fvj19 (fun q => arv_ne (V_v1.ext Exj19) Vj19 (Or.inl (by decide)) (Value.ref.inj q)))) (hw _ (List.mem_of_getElem? (i := 26) rfl)) (hw _ (List.mem_of_getElem? (i := 15) rfl)) ej19 (E_d1.ext Exj19) (pc := 11) (Ls := #[.val (.int k), .val (.int z), .val (.ref t1), .unset, .unset]) (argsL := [(.ref aj19)]) (rest := []) (by rw [hml]; rfl) (lenOf pd_3 rfl) (W := 0) (by decide) (by decide) (by decide) (by decide) (by decide) (hb hby at_11) rfl rfl ?_
      intro Tj20 Lj20 vj20 Xj20 hQj20
      obtain ⟨rfl, rfl, ej20⟩ := hQj20
      show own_EndsS _ _ pP eE bB sS _ _ Tj20 (mkF mI 14 #[.val (.int k), .val (.int z), .val (.ref t1), .unset, .unset] [(.int (0 : Int32))])
      refine own_goS (T' := Tj20) (g' := (mkF mI 15 #[.val (.int k), .val (.int z), .val (.ref t1), .val (.int (0 : Int32)), .unset] [])) (fun t_ kt_ => XS.istoreN Xj20.here hx rfl (hb hby at_14) rfl (l' := #[.val (.int k), .val (.int z), .val (.ref t1), .val (.int (0 : Int32)), .unset]) rfl kt_) ?_
      by_cases hz0 : ((z &&& (2147483647 : Int32)) % (3 : Int32)) = (0 : Int32)
      · skip
        refine own_goS (T' := Tj20) (g' := (mkF mI 16 #[.val (.int k), .val (.int z), .val (.ref t1), .val (.int (0 : Int32)), .unset] [(.int z)])) (fun t_ kt_ => XS.iloadN Xj20.here hx rfl (hb hby at_15) rfl kt_) ?_
        refine own_callS own_closedS Xj20 hx hZ (y := (⟨"com/example/inchworm/inchworm/core/StepUndoesPinLaw", "state", "(I)Lcom/example/inchworm/inchworm/core/VersionState;"⟩ : MethodName)) hown (hw _ (List.mem_of_getElem? (i := 36) rfl)) (hw _ (List.mem_of_getElem? (i := 37) rfl)) (by decide) (rmV_0 l Z a0 hw [] hj19 z hz0 u0 (S_u0.ext Exj19) u1 (S_u1.ext Exj19) u2 (S_u2.ext Exj19)) (hw _ (List.mem_of_getElem? (i := 38) rfl)) (hw _ (List.mem_of_getElem? (i := 2) rfl)) ej20 (pc := 16) (Ls := #[.val (.int k), .val (.int z), .val (.ref t1), .val (.int (0 : Int32)), .unset]) (argsL := [(.int z)]) (rest := []) (by rw [hml]; rfl) (lenOf pd_4 rfl) (W := 0) (by decide) (by decide) (by decide) (by decide) (by decide) (hb hby at_16) rfl rfl ?_
        intro Tj21 Lj21 vj21 Xj21 hQj21
        obtain ⟨rfl, rfl, ej21⟩ := hQj21
        show own_EndsS _ _ pP eE bB sS _ _ Tj21 (mkF mI 19 #[.val (.int k), .val (.int z), .val (.ref t1), .val (.int (0 : Int32)), .unset] [(.ref u0)])
        refine own_goS (T' := Tj21) (g' := (mkF mI 21 #[.val (.int k), .val (.int z), .val (.ref t1), .val (.int (0 : Int32)), .val (.ref u0)] [])) (fun t_ kt_ => XS.astore Xj21.here hx rfl (hb hby at_19) rfl rfl (l' := #[.val (.int k), .val (.int z), .val (.ref t1), .val (.int (0 : Int32)), .val (.ref u0)]) rfl kt_) ?_
        refine own_goS (T' := Tj21) (g' := (mkF mI 22 #[.val (.int k), .val (.int z), .val (.ref t1), .val (.int (0 : Int32)), .val (.ref u0)] [(.ref t1)])) (fun t_ kt_ => XS.aloadN Xj21.here hx rfl (hb hby at_21) rfl rfl kt_) ?_
        refine own_callV own_closedS Xj21 hx hZ (y := (⟨"com/example/inchworm/inchworm/core/Step", "undoes", "()Z"⟩ : MethodName)) (z := (⟨"com/example/inchworm/inchworm/core/Step", "undoes", "()Z"⟩ : MethodName)) hown (hw _ (List.mem_of_getElem? (i := 43) rfl)) (hw _ (List.mem_of_getElem? (i := 44) rfl)) (hw _ (List.mem_of_getElem? (i := 46) rfl)) (hw _ (List.mem_of_getElem? (i := 45) rfl)) (hw _ (List.mem_of_getElem? (i := 46) rfl)) rfl (by decide) (rmU_1 l Z a0 hw [] hj19 t0 (S_t0.ext Exj19) t1 (S_t1.ext Exj19) t2 (S_t2.ext Exj19) t3 (S_t3.ext Exj19) ne_t0_t1 ne_t0_t2 ne_t0_t3 ne_t1_t2 ne_t1_t3 ne_t2_t3) (hw _ (List.mem_of_getElem? (i := 47) rfl)) (hw _ (List.mem_of_getElem? (i := 5) rfl)) ej21 (E_t1.ext Exj19) (pc := 22) (Ls := #[.val (.int k), .val (.int z), .val (.ref t1), .val (.int (0 : Int32)), .val (.ref u0)]) (argsL := []) (rest := []) (by rw [hml]; rfl) (lenOf pd_5 rfl) (W := 0) (by decide) (by decide) (by decide) (by decide) (by decide) (hb hby at_22) rfl rfl ?_
        intro Tj22 Lj22 vj22 Xj22 hQj22
        obtain ⟨rfl, rfl, ej22⟩ := hQj22
        show own_EndsS _ _ pP eE bB sS _ _ Tj22 (mkF mI 25 #[.val (.int k), .val (.int z), .val (.ref t1), .val (.int (0 : Int32)), .val (.ref u0)] [(.int (0 : Int32))])
        refine own_goS (T' := Tj22) (g' := (mkF mI 26 #[.val (.int k), .val (.int z), .val (.ref t1), .val (.int (0 : Int32)), .val (.ref u0)] [(.int (0 : Int32)), (.int (0 : Int32))])) (fun t_ kt_ => XS.iloadN Xj22.here hx rfl (hb hby at_25) rfl kt_) ?_
        refine own_goS (T' := Tj22) (g' := (mkF mI 29 #[.val (.int k), .val (.int z), .val (.ref t1), .val (.int (0 : Int32)), .val (.ref u0)] [])) (fun t_ kt_ => XS.icmpNo Xj22.here hx rfl (hb hby at_26) rfl (teq (by decide : (0 : Int32) = (0 : Int32))).2 kt_) ?_
        refine own_goS (T' := Tj22) (g' := (mkF mI 31 #[.val (.int k), .val (.int z), .val (.ref t1), .val (.int (0 : Int32)), .val (.ref u0)] [(.ref u0)])) (fun t_ kt_ => XS.aload Xj22.here hx rfl (hb hby at_29) rfl rfl kt_) ?_
        refine own_callS own_closedS Xj22 hx hZ (y := (⟨"com/example/inchworm/inchworm/core/Step", "undo", "(Lcom/example/inchworm/inchworm/core/VersionState;)Lcom/example/inchworm/inchworm/core/Step;"⟩ : MethodName)) hown (hw _ (List.mem_of_getElem? (i := 52) rfl)) (hw _ (List.mem_of_getElem? (i := 53) rfl)) (by decide) (rmO_0 l Z a0 hw [] hj19 t0 (S_t0.ext Exj19) t1 (S_t1.ext Exj19) t2 (S_t2.ext Exj19) t3 (S_t3.ext Exj19) u0 (S_u0.ext Exj19) u1 (S_u1.ext Exj19) u2 (S_u2.ext Exj19) ne_u0_u1 ne_u0_u2 ne_u1_u2) (hw _ (List.mem_of_getElem? (i := 54) rfl)) (hw _ (List.mem_of_getElem? (i := 5) rfl)) ej22 (pc := 31) (Ls := #[.val (.int k), .val (.int z), .val (.ref t1), .val (.int (0 : Int32)), .val (.ref u0)]) (argsL := [(.ref u0)]) (rest := []) (by rw [hml]; rfl) (lenOf pd_6 rfl) (W := 0) (by decide) (by decide) (by decide) (by decide) (by decide) (hb hby at_31) rfl rfl ?_
        intro Tj23 Lj23 vj23 Xj23 hQj23
        obtain ⟨rfl, rfl, ej23⟩ := hQj23
        show own_EndsS _ _ pP eE bB sS _ _ Tj23 (mkF mI 34 #[.val (.int k), .val (.int z), .val (.ref t1), .val (.int (0 : Int32)), .val (.ref u0)] [(.ref t3)])
        refine own_callV own_closedS Xj23 hx hZ (y := (⟨"com/example/inchworm/inchworm/core/Step", "undoes", "()Z"⟩ : MethodName)) (z := (⟨"com/example/inchworm/inchworm/core/Step", "undoes", "()Z"⟩ : MethodName)) hown (hw _ (List.mem_of_getElem? (i := 43) rfl)) (hw _ (List.mem_of_getElem? (i := 44) rfl)) (hw _ (List.mem_of_getElem? (i := 46) rfl)) (hw _ (List.mem_of_getElem? (i := 45) rfl)) (hw _ (List.mem_of_getElem? (i := 46) rfl)) rfl (by decide) (rmU_3 l Z a0 hw [] hj19 t0 (S_t0.ext Exj19) t1 (S_t1.ext Exj19) t2 (S_t2.ext Exj19) t3 (S_t3.ext Exj19) ne_t0_t1 ne_t0_t2 ne_t0_t3 ne_t1_t2 ne_t1_t3 ne_t2_t3) (hw _ (List.mem_of_getElem? (i := 47) rfl)) (hw _ (List.mem_of_getElem? (i := 5) rfl)) ej23 (E_t3.ext Exj19) (pc := 34) (Ls := #[.val (.int k), .val (.int z), .val (.ref t1), .val (.int (0 : Int32)), .val (.ref u0)]) (argsL := []) (rest := []) (by rw [hml]; rfl) (lenOf pd_5 rfl) (W := 0) (by decide) (by decide) (by decide) (by decide) (by decide) (hb hby at_34) rfl rfl ?_
        intro Tj24 Lj24 vj24 Xj24 hQj24
        obtain ⟨rfl, rfl, ej24⟩ := hQj24
        show own_EndsS _ _ pP eE bB sS _ _ Tj24 (mkF mI 37 #[.val (.int k), .val (.int z), .val (.ref t1), .val (.int (0 : Int32)), .val (.ref u0)] [(.int (1 : Int32))])
        refine own_goS (T' := Tj24) (g' := (mkF mI 40 #[.val (.int k), .val (.int z), .val (.ref t1), .val (.int (0 : Int32)), .val (.ref u0)] [])) (fun t_ kt_ => XS.ifNo Xj24.here hx rfl (hb hby at_37) rfl ((if0 _ _).trans (feq (by decide : ¬ ((1 : Int32) = (0 : Int32)))).1) kt_) ?_
        refine own_goS (T' := Tj24) (g' := (mkF mI 41 #[.val (.int k), .val (.int z), .val (.ref t1), .val (.int (0 : Int32)), .val (.ref u0)] [(.int (1 : Int32))])) (fun t_ kt_ => XS.iconst Xj24.here hx rfl (hb hby at_40) kt_) ?_
        refine own_goS (T' := Tj24) (g' := (mkF mI 45 #[.val (.int k), .val (.int z), .val (.ref t1), .val (.int (0 : Int32)), .val (.ref u0)] [(.int (1 : Int32))])) (fun t_ kt_ => XS.goto Xj24.here hx rfl (pc0 := 41) (pc' := 45) rfl (hb hby at_41) (by decide) (by decide) kt_) ?_
        refine own_leaveS Xj24 hlk (some (.int (nar .boolean (1 : Int32)))) (fun h => by rw [hret] at h; cases h) hS ej24 hk hZ hEL Cj19 (by decide) (by decide) ?_ (fun fs hr => retN Xj24 hx (t := .boolean) hret (by simp) (hb hby at_45) hr)
        exact ⟨rfl, rfl⟩
      · skip
        by_cases hz1 : ((z &&& (2147483647 : Int32)) % (3 : Int32)) = (1 : Int32)
        · skip
          refine own_goS (T' := Tj20) (g' := (mkF mI 16 #[.val (.int k), .val (.int z), .val (.ref t1), .val (.int (0 : Int32)), .unset] [(.int z)])) (fun t_ kt_ => XS.iloadN Xj20.here hx rfl (hb hby at_15) rfl kt_) ?_
          refine own_callS own_closedS Xj20 hx hZ (y := (⟨"com/example/inchworm/inchworm/core/StepUndoesPinLaw", "state", "(I)Lcom/example/inchworm/inchworm/core/VersionState;"⟩ : MethodName)) hown (hw _ (List.mem_of_getElem? (i := 36) rfl)) (hw _ (List.mem_of_getElem? (i := 37) rfl)) (by decide) (rmV_1 l Z a0 hw [] hj19 z hz0 hz1 u0 (S_u0.ext Exj19) u1 (S_u1.ext Exj19) u2 (S_u2.ext Exj19)) (hw _ (List.mem_of_getElem? (i := 38) rfl)) (hw _ (List.mem_of_getElem? (i := 2) rfl)) ej20 (pc := 16) (Ls := #[.val (.int k), .val (.int z), .val (.ref t1), .val (.int (0 : Int32)), .unset]) (argsL := [(.int z)]) (rest := []) (by rw [hml]; rfl) (lenOf pd_4 rfl) (W := 0) (by decide) (by decide) (by decide) (by decide) (by decide) (hb hby at_16) rfl rfl ?_
          intro Tj25 Lj25 vj25 Xj25 hQj25
          obtain ⟨rfl, rfl, ej25⟩ := hQj25
          show own_EndsS _ _ pP eE bB sS _ _ Tj25 (mkF mI 19 #[.val (.int k), .val (.int z), .val (.ref t1), .val (.int (0 : Int32)), .unset] [(.ref u1)])
          refine own_goS (T' := Tj25) (g' := (mkF mI 21 #[.val (.int k), .val (.int z), .val (.ref t1), .val (.int (0 : Int32)), .val (.ref u1)] [])) (fun t_ kt_ => XS.astore Xj25.here hx rfl (hb hby at_19) rfl rfl (l' := #[.val (.int k), .val (.int z), .val (.ref t1), .val (.int (0 : Int32)), .val (.ref u1)]) rfl kt_) ?_
          refine own_goS (T' := Tj25) (g' := (mkF mI 22 #[.val (.int k), .val (.int z), .val (.ref t1), .val (.int (0 : Int32)), .val (.ref u1)] [(.ref t1)])) (fun t_ kt_ => XS.aloadN Xj25.here hx rfl (hb hby at_21) rfl rfl kt_) ?_
          refine own_callV own_closedS Xj25 hx hZ (y := (⟨"com/example/inchworm/inchworm/core/Step", "undoes", "()Z"⟩ : MethodName)) (z := (⟨"com/example/inchworm/inchworm/core/Step", "undoes", "()Z"⟩ : MethodName)) hown (hw _ (List.mem_of_getElem? (i := 43) rfl)) (hw _ (List.mem_of_getElem? (i := 44) rfl)) (hw _ (List.mem_of_getElem? (i := 46) rfl)) (hw _ (List.mem_of_getElem? (i := 45) rfl)) (hw _ (List.mem_of_getElem? (i := 46) rfl)) rfl (by decide) (rmU_1 l Z a0 hw [] hj19 t0 (S_t0.ext Exj19) t1 (S_t1.ext Exj19) t2 (S_t2.ext Exj19) t3 (S_t3.ext Exj19) ne_t0_t1 ne_t0_t2 ne_t0_t3 ne_t1_t2 ne_t1_t3 ne_t2_t3) (hw _ (List.mem_of_getElem? (i := 47) rfl)) (hw _ (List.mem_of_getElem? (i := 5) rfl)) ej25 (E_t1.ext Exj19) (pc := 22) (Ls := #[.val (.int k), .val (.int z), .val (.ref t1), .val (.int (0 : Int32)), .val (.ref u1)]) (argsL := []) (rest := []) (by rw [hml]; rfl) (lenOf pd_5 rfl) (W := 0) (by decide) (by decide) (by decide) (by decide) (by decide) (hb hby at_22) rfl rfl ?_
          intro Tj26 Lj26 vj26 Xj26 hQj26
          obtain ⟨rfl, rfl, ej26⟩ := hQj26
          show own_EndsS _ _ pP eE bB sS _ _ Tj26 (mkF mI 25 #[.val (.int k), .val (.int z), .val (.ref t1), .val (.int (0 : Int32)), .val (.ref u1)] [(.int (0 : Int32))])
          refine own_goS (T' := Tj26) (g' := (mkF mI 26 #[.val (.int k), .val (.int z), .val (.ref t1), .val (.int (0 : Int32)), .val (.ref u1)] [(.int (0 : Int32)), (.int (0 : Int32))])) (fun t_ kt_ => XS.iloadN Xj26.here hx rfl (hb hby at_25) rfl kt_) ?_
          refine own_goS (T' := Tj26) (g' := (mkF mI 29 #[.val (.int k), .val (.int z), .val (.ref t1), .val (.int (0 : Int32)), .val (.ref u1)] [])) (fun t_ kt_ => XS.icmpNo Xj26.here hx rfl (hb hby at_26) rfl (teq (by decide : (0 : Int32) = (0 : Int32))).2 kt_) ?_
          refine own_goS (T' := Tj26) (g' := (mkF mI 31 #[.val (.int k), .val (.int z), .val (.ref t1), .val (.int (0 : Int32)), .val (.ref u1)] [(.ref u1)])) (fun t_ kt_ => XS.aload Xj26.here hx rfl (hb hby at_29) rfl rfl kt_) ?_
          refine own_callS own_closedS Xj26 hx hZ (y := (⟨"com/example/inchworm/inchworm/core/Step", "undo", "(Lcom/example/inchworm/inchworm/core/VersionState;)Lcom/example/inchworm/inchworm/core/Step;"⟩ : MethodName)) hown (hw _ (List.mem_of_getElem? (i := 52) rfl)) (hw _ (List.mem_of_getElem? (i := 53) rfl)) (by decide) (rmO_1 l Z a0 hw [] hj19 t0 (S_t0.ext Exj19) t1 (S_t1.ext Exj19) t2 (S_t2.ext Exj19) t3 (S_t3.ext Exj19) u0 (S_u0.ext Exj19) u1 (S_u1.ext Exj19) u2 (S_u2.ext Exj19) ne_u0_u1 ne_u0_u2 ne_u1_u2) (hw _ (List.mem_of_getElem? (i := 54) rfl)) (hw _ (List.mem_of_getElem? (i := 5) rfl)) ej26 (pc := 31) (Ls := #[.val (.int k), .val (.int z), .val (.ref t1), .val (.int (0 : Int32)), .val (.ref u1)]) (argsL := [(.ref u1)]) (rest := []) (by rw [hml]; rfl) (lenOf pd_6 rfl) (W := 0) (by decide) (by decide) (by decide) (by decide) (by decide) (hb hby at_31) rfl rfl ?_
          intro Tj27 Lj27 vj27 Xj27 hQj27
          obtain ⟨rfl, rfl, ej27⟩ := hQj27
          show own_EndsS _ _ pP eE bB sS _ _ Tj27 (mkF mI 34 #[.val (.int k), .val (.int z), .val (.ref t1), .val (.int (0 : Int32)), .val (.ref u1)] [(.ref t2)])
          refine own_callV own_closedS Xj27 hx hZ (y := (⟨"com/example/inchworm/inchworm/core/Step", "undoes", "()Z"⟩ : MethodName)) (z := (⟨"com/example/inchworm/inchworm/core/Step", "undoes", "()Z"⟩ : MethodName)) hown (hw _ (List.mem_of_getElem? (i := 43) rfl)) (hw _ (List.mem_of_getElem? (i := 44) rfl)) (hw _ (List.mem_of_getElem? (i := 46) rfl)) (hw _ (List.mem_of_getElem? (i := 45) rfl)) (hw _ (List.mem_of_getElem? (i := 46) rfl)) rfl (by decide) (rmU_2 l Z a0 hw [] hj19 t0 (S_t0.ext Exj19) t1 (S_t1.ext Exj19) t2 (S_t2.ext Exj19) t3 (S_t3.ext Exj19) ne_t0_t1 ne_t0_t2 ne_t0_t3 ne_t1_t2 ne_t1_t3 ne_t2_t3) (hw _ (List.mem_of_getElem? (i := 47) rfl)) (hw _ (List.mem_of_getElem? (i := 5) rfl)) ej27 (E_t2.ext Exj19) (pc := 34) (Ls := #[.val (.int k), .val (.int z), .val (.ref t1), .val (.int (0 : Int32)), .val (.ref u1)]) (argsL := []) (rest := []) (by rw [hml]; rfl) (lenOf pd_5 rfl) (W := 0) (by decide) (by decide) (by decide) (by decide) (by decide) (hb hby at_34) rfl rfl ?_
          intro Tj28 Lj28 vj28 Xj28 hQj28
          obtain ⟨rfl, rfl, ej28⟩ := hQj28
          show own_EndsS _ _ pP eE bB sS _ _ Tj28 (mkF mI 37 #[.val (.int k), .val (.int z), .val (.ref t1), .val (.int (0 : Int32)), .val (.ref u1)] [(.int (1 : Int32))])
          refine own_goS (T' := Tj28) (g' := (mkF mI 40 #[.val (.int k), .val (.int z), .val (.ref t1), .val (.int (0 : Int32)), .val (.ref u1)] [])) (fun t_ kt_ => XS.ifNo Xj28.here hx rfl (hb hby at_37) rfl ((if0 _ _).trans (feq (by decide : ¬ ((1 : Int32) = (0 : Int32)))).1) kt_) ?_
          refine own_goS (T' := Tj28) (g' := (mkF mI 41 #[.val (.int k), .val (.int z), .val (.ref t1), .val (.int (0 : Int32)), .val (.ref u1)] [(.int (1 : Int32))])) (fun t_ kt_ => XS.iconst Xj28.here hx rfl (hb hby at_40) kt_) ?_
          refine own_goS (T' := Tj28) (g' := (mkF mI 45 #[.val (.int k), .val (.int z), .val (.ref t1), .val (.int (0 : Int32)), .val (.ref u1)] [(.int (1 : Int32))])) (fun t_ kt_ => XS.goto Xj28.here hx rfl (pc0 := 41) (pc' := 45) rfl (hb hby at_41) (by decide) (by decide) kt_) ?_
          refine own_leaveS Xj28 hlk (some (.int (nar .boolean (1 : Int32)))) (fun h => by rw [hret] at h; cases h) hS ej28 hk hZ hEL Cj19 (by decide) (by decide) ?_ (fun fs hr => retN Xj28 hx (t := .boolean) hret (by simp) (hb hby at_45) hr)
          exact ⟨rfl, rfl⟩
        · skip
          refine own_goS (T' := Tj20) (g' := (mkF mI 16 #[.val (.int k), .val (.int z), .val (.ref t1), .val (.int (0 : Int32)), .unset] [(.int z)])) (fun t_ kt_ => XS.iloadN Xj20.here hx rfl (hb hby at_15) rfl kt_) ?_
          refine own_callS own_closedS Xj20 hx hZ (y := (⟨"com/example/inchworm/inchworm/core/StepUndoesPinLaw", "state", "(I)Lcom/example/inchworm/inchworm/core/VersionState;"⟩ : MethodName)) hown (hw _ (List.mem_of_getElem? (i := 36) rfl)) (hw _ (List.mem_of_getElem? (i := 37) rfl)) (by decide) (rmV_2 l Z a0 hw [] hj19 z hz0 hz1 u0 (S_u0.ext Exj19) u1 (S_u1.ext Exj19) u2 (S_u2.ext Exj19)) (hw _ (List.mem_of_getElem? (i := 38) rfl)) (hw _ (List.mem_of_getElem? (i := 2) rfl)) ej20 (pc := 16) (Ls := #[.val (.int k), .val (.int z), .val (.ref t1), .val (.int (0 : Int32)), .unset]) (argsL := [(.int z)]) (rest := []) (by rw [hml]; rfl) (lenOf pd_4 rfl) (W := 0) (by decide) (by decide) (by decide) (by decide) (by decide) (hb hby at_16) rfl rfl ?_
          intro Tj29 Lj29 vj29 Xj29 hQj29
          obtain ⟨rfl, rfl, ej29⟩ := hQj29
          show own_EndsS _ _ pP eE bB sS _ _ Tj29 (mkF mI 19 #[.val (.int k), .val (.int z), .val (.ref t1), .val (.int (0 : Int32)), .unset] [(.ref u2)])
          refine own_goS (T' := Tj29) (g' := (mkF mI 21 #[.val (.int k), .val (.int z), .val (.ref t1), .val (.int (0 : Int32)), .val (.ref u2)] [])) (fun t_ kt_ => XS.astore Xj29.here hx rfl (hb hby at_19) rfl rfl (l' := #[.val (.int k), .val (.int z), .val (.ref t1), .val (.int (0 : Int32)), .val (.ref u2)]) rfl kt_) ?_
          refine own_goS (T' := Tj29) (g' := (mkF mI 22 #[.val (.int k), .val (.int z), .val (.ref t1), .val (.int (0 : Int32)), .val (.ref u2)] [(.ref t1)])) (fun t_ kt_ => XS.aloadN Xj29.here hx rfl (hb hby at_21) rfl rfl kt_) ?_
          refine own_callV own_closedS Xj29 hx hZ (y := (⟨"com/example/inchworm/inchworm/core/Step", "undoes", "()Z"⟩ : MethodName)) (z := (⟨"com/example/inchworm/inchworm/core/Step", "undoes", "()Z"⟩ : MethodName)) hown (hw _ (List.mem_of_getElem? (i := 43) rfl)) (hw _ (List.mem_of_getElem? (i := 44) rfl)) (hw _ (List.mem_of_getElem? (i := 46) rfl)) (hw _ (List.mem_of_getElem? (i := 45) rfl)) (hw _ (List.mem_of_getElem? (i := 46) rfl)) rfl (by decide) (rmU_1 l Z a0 hw [] hj19 t0 (S_t0.ext Exj19) t1 (S_t1.ext Exj19) t2 (S_t2.ext Exj19) t3 (S_t3.ext Exj19) ne_t0_t1 ne_t0_t2 ne_t0_t3 ne_t1_t2 ne_t1_t3 ne_t2_t3) (hw _ (List.mem_of_getElem? (i := 47) rfl)) (hw _ (List.mem_of_getElem? (i := 5) rfl)) ej29 (E_t1.ext Exj19) (pc := 22) (Ls := #[.val (.int k), .val (.int z), .val (.ref t1), .val (.int (0 : Int32)), .val (.ref u2)]) (argsL := []) (rest := []) (by rw [hml]; rfl) (lenOf pd_5 rfl) (W := 0) (by decide) (by decide) (by decide) (by decide) (by decide) (hb hby at_22) rfl rfl ?_
          intro Tj30 Lj30 vj30 Xj30 hQj30
          obtain ⟨rfl, rfl, ej30⟩ := hQj30
          show own_EndsS _ _ pP eE bB sS _ _ Tj30 (mkF mI 25 #[.val (.int k), .val (.int z), .val (.ref t1), .val (.int (0 : Int32)), .val (.ref u2)] [(.int (0 : Int32))])
          refine own_goS (T' := Tj30) (g' := (mkF mI 26 #[.val (.int k), .val (.int z), .val (.ref t1), .val (.int (0 : Int32)), .val (.ref u2)] [(.int (0 : Int32)), (.int (0 : Int32))])) (fun t_ kt_ => XS.iloadN Xj30.here hx rfl (hb hby at_25) rfl kt_) ?_
          refine own_goS (T' := Tj30) (g' := (mkF mI 29 #[.val (.int k), .val (.int z), .val (.ref t1), .val (.int (0 : Int32)), .val (.ref u2)] [])) (fun t_ kt_ => XS.icmpNo Xj30.here hx rfl (hb hby at_26) rfl (teq (by decide : (0 : Int32) = (0 : Int32))).2 kt_) ?_
          refine own_goS (T' := Tj30) (g' := (mkF mI 31 #[.val (.int k), .val (.int z), .val (.ref t1), .val (.int (0 : Int32)), .val (.ref u2)] [(.ref u2)])) (fun t_ kt_ => XS.aload Xj30.here hx rfl (hb hby at_29) rfl rfl kt_) ?_
          refine own_callS own_closedS Xj30 hx hZ (y := (⟨"com/example/inchworm/inchworm/core/Step", "undo", "(Lcom/example/inchworm/inchworm/core/VersionState;)Lcom/example/inchworm/inchworm/core/Step;"⟩ : MethodName)) hown (hw _ (List.mem_of_getElem? (i := 52) rfl)) (hw _ (List.mem_of_getElem? (i := 53) rfl)) (by decide) (rmO_2 l Z a0 hw [] hj19 t0 (S_t0.ext Exj19) t1 (S_t1.ext Exj19) t2 (S_t2.ext Exj19) t3 (S_t3.ext Exj19) u0 (S_u0.ext Exj19) u1 (S_u1.ext Exj19) u2 (S_u2.ext Exj19) ne_u0_u1 ne_u0_u2 ne_u1_u2) (hw _ (List.mem_of_getElem? (i := 54) rfl)) (hw _ (List.mem_of_getElem? (i := 5) rfl)) ej30 (pc := 31) (Ls := #[.val (.int k), .val (.int z), .val (.ref t1), .val (.int (0 : Int32)), .val (.ref u2)]) (argsL := [(.ref u2)]) (rest := []) (by rw [hml]; rfl) (lenOf pd_6 rfl) (W := 0) (by decide) (by decide) (by decide) (by decide) (by decide) (hb hby at_31) rfl rfl ?_
          intro Tj31 Lj31 vj31 Xj31 hQj31
          obtain ⟨rfl, rfl, ej31⟩ := hQj31
          show own_EndsS _ _ pP eE bB sS _ _ Tj31 (mkF mI 34 #[.val (.int k), .val (.int z), .val (.ref t1), .val (.int (0 : Int32)), .val (.ref u2)] [(.ref t3)])
          refine own_callV own_closedS Xj31 hx hZ (y := (⟨"com/example/inchworm/inchworm/core/Step", "undoes", "()Z"⟩ : MethodName)) (z := (⟨"com/example/inchworm/inchworm/core/Step", "undoes", "()Z"⟩ : MethodName)) hown (hw _ (List.mem_of_getElem? (i := 43) rfl)) (hw _ (List.mem_of_getElem? (i := 44) rfl)) (hw _ (List.mem_of_getElem? (i := 46) rfl)) (hw _ (List.mem_of_getElem? (i := 45) rfl)) (hw _ (List.mem_of_getElem? (i := 46) rfl)) rfl (by decide) (rmU_3 l Z a0 hw [] hj19 t0 (S_t0.ext Exj19) t1 (S_t1.ext Exj19) t2 (S_t2.ext Exj19) t3 (S_t3.ext Exj19) ne_t0_t1 ne_t0_t2 ne_t0_t3 ne_t1_t2 ne_t1_t3 ne_t2_t3) (hw _ (List.mem_of_getElem? (i := 47) rfl)) (hw _ (List.mem_of_getElem? (i := 5) rfl)) ej31 (E_t3.ext Exj19) (pc := 34) (Ls := #[.val (.int k), .val (.int z), .val (.ref t1), .val (.int (0 : Int32)), .val (.ref u2)]) (argsL := []) (rest := []) (by rw [hml]; rfl) (lenOf pd_5 rfl) (W := 0) (by decide) (by decide) (by decide) (by decide) (by decide) (hb hby at_34) rfl rfl ?_
          intro Tj32 Lj32 vj32 Xj32 hQj32
          obtain ⟨rfl, rfl, ej32⟩ := hQj32
          show own_EndsS _ _ pP eE bB sS _ _ Tj32 (mkF mI 37 #[.val (.int k), .val (.int z), .val (.ref t1), .val (.int (0 : Int32)), .val (.ref u2)] [(.int (1 : Int32))])
          refine own_goS (T' := Tj32) (g' := (mkF mI 40 #[.val (.int k), .val (.int z), .val (.ref t1), .val (.int (0 : Int32)), .val (.ref u2)] [])) (fun t_ kt_ => XS.ifNo Xj32.here hx rfl (hb hby at_37) rfl ((if0 _ _).trans (feq (by decide : ¬ ((1 : Int32) = (0 : Int32)))).1) kt_) ?_
          refine own_goS (T' := Tj32) (g' := (mkF mI 41 #[.val (.int k), .val (.int z), .val (.ref t1), .val (.int (0 : Int32)), .val (.ref u2)] [(.int (1 : Int32))])) (fun t_ kt_ => XS.iconst Xj32.here hx rfl (hb hby at_40) kt_) ?_
          refine own_goS (T' := Tj32) (g' := (mkF mI 45 #[.val (.int k), .val (.int z), .val (.ref t1), .val (.int (0 : Int32)), .val (.ref u2)] [(.int (1 : Int32))])) (fun t_ kt_ => XS.goto Xj32.here hx rfl (pc0 := 41) (pc' := 45) rfl (hb hby at_41) (by decide) (by decide) kt_) ?_
          refine own_leaveS Xj32 hlk (some (.int (nar .boolean (1 : Int32)))) (fun h => by rw [hret] at h; cases h) hS ej32 hk hZ hEL Cj19 (by decide) (by decide) ?_ (fun fs hr => retN Xj32 hx (t := .boolean) hret (by simp) (hb hby at_45) hr)
          exact ⟨rfl, rfl⟩
    · skip
      by_cases hk2 : (k &&& (3 : Int32)) = (2 : Int32)
      · skip
        refine own_goS (T' := s₁) (g' := (mkF mI 1 #[.val (.int k), .val (.int z), .unset, .unset, .unset] [(.int k)])) (fun t_ kt_ => XS.iloadN X0.here hx rfl (hb hby at_0) rfl kt_) ?_
        refine own_callS own_closedS X0 hx hZ (y := (⟨"com/example/inchworm/inchworm/core/StepUndoesPinLaw", "step", "(I)Lcom/example/inchworm/inchworm/core/Step;"⟩ : MethodName)) hown (hw _ (List.mem_of_getElem? (i := 0) rfl)) (hw _ (List.mem_of_getElem? (i := 1) rfl)) (by decide) (rmS_2 l Z a0 hw [] h0 k hk0 hk1 hk2 t0 S_t0 t1 S_t1 t2 S_t2 t3 S_t3) (hw _ (List.mem_of_getElem? (i := 3) rfl)) (hw _ (List.mem_of_getElem? (i := 2) rfl)) e0 (pc := 1) (Ls := #[.val (.int k), .val (.int z), .unset, .unset, .unset]) (argsL := [(.int k)]) (rest := []) (by rw [hml]; rfl) (lenOf pd_1 rfl) (W := 0) (by decide) (by decide) (by decide) (by decide) (by decide) (hb hby at_1) rfl rfl ?_
        intro Tj33 Lj33 vj33 Xj33 hQj33
        obtain ⟨rfl, rfl, ej33⟩ := hQj33
        show own_EndsS _ _ pP eE bB sS _ _ Tj33 (mkF mI 4 #[.val (.int k), .val (.int z), .unset, .unset, .unset] [(.ref t2)])
        refine own_goS (T' := Tj33) (g' := (mkF mI 5 #[.val (.int k), .val (.int z), .val (.ref t2), .unset, .unset] [])) (fun t_ kt_ => XS.astoreN Xj33.here hx rfl (hb hby at_4) rfl rfl (l' := #[.val (.int k), .val (.int z), .val (.ref t2), .unset, .unset]) rfl kt_) ?_
        refine own_goS (T' := Tj33) (g' := (mkF mI 6 #[.val (.int k), .val (.int z), .val (.ref t2), .unset, .unset] [(.ref t2)])) (fun t_ kt_ => XS.aloadN Xj33.here hx rfl (hb hby at_5) rfl rfl kt_) ?_
        refine own_callV own_closedS Xj33 hx hZ (y := (⟨"com/example/inchworm/inchworm/core/Step", "done", "()Ljava/lang/String;"⟩ : MethodName)) (z := (⟨"com/example/inchworm/inchworm/core/Step", "done", "()Ljava/lang/String;"⟩ : MethodName)) hown (hw _ (List.mem_of_getElem? (i := 7) rfl)) (hw _ (List.mem_of_getElem? (i := 8) rfl)) (hw _ (List.mem_of_getElem? (i := 10) rfl)) (hw _ (List.mem_of_getElem? (i := 9) rfl)) (hw _ (List.mem_of_getElem? (i := 10) rfl)) rfl (by decide) (rmD l Z a0 hw [] h0 t2 d2 F_t2_done) (hw _ (List.mem_of_getElem? (i := 11) rfl)) (hw _ (List.mem_of_getElem? (i := 5) rfl)) ej33 E_t2 (pc := 6) (Ls := #[.val (.int k), .val (.int z), .val (.ref t2), .unset, .unset]) (argsL := []) (rest := []) (by rw [hml]; rfl) (lenOf pd_2 rfl) (W := 0) (by decide) (by decide) (by decide) (by decide) (by decide) (hb hby at_6) rfl rfl ?_
        intro Tj34 Lj34 vj34 Xj34 hQj34
        obtain ⟨rfl, rfl, ej34⟩ := hQj34
        show own_EndsS _ _ pP eE bB sS _ _ Tj34 (mkF mI 9 #[.val (.int k), .val (.int z), .val (.ref t2), .unset, .unset] [(.ref d2)])
        obtain ⟨aj35, Tj35, hj35, vmj35, kj35, bj35, kkj35, Xj35, ej35, Exj35, hS, hk, hZ, hown, Ej35, Fcj35, Fvj35, Vj35, Cj35, -, -, stj35⟩ := own_ldc Xj34 hx hZ hown (hw _ (List.mem_of_getElem? (i := 14) rfl)) hStr ej34 hS hk hEL (List.mem_of_getElem? (i := 0) rfl) C0 (vs := [(.int (117 : Int32)), (.int (110 : Int32)), (.int (100 : Int32)), (.int (111 : Int32)), (.int (110 : Int32)), (.int (101 : Int32))]) (z := 6) ⟨by decide, by decide⟩ (by decide) rfl (g := (mkF mI 9 #[.val (.int k), .val (.int z), .val (.ref t2), .unset, .unset] [(.ref d2)])) rfl (hb hby at_9) (n := 24) (by decide) (by decide) (by decide) (by decide)
        refine own_goS (T' := Tj35) (g' := (mkF mI 11 #[.val (.int k), .val (.int z), .val (.ref t2), .unset, .unset] [(.ref aj35), (.ref d2)])) (fun t_ kt_ => stj35 _ kt_) ?_
        refine own_callV own_closedS Xj35 hx hZ (y := (⟨"java/lang/String", "equals", "(Ljava/lang/Object;)Z"⟩ : MethodName)) (z := (⟨"java/lang/String", "equals", "(Ljava/lang/Object;)Z"⟩ : MethodName)) hown (hw _ (List.mem_of_getElem? (i := 22) rfl)) (hw _ (List.mem_of_getElem? (i := 23) rfl)) (hw _ (List.mem_of_getElem? (i := 25) rfl)) (hw _ (List.mem_of_getElem? (i := 24) rfl)) (hw _ (List.mem_of_getElem? (i := 25) rfl)) rfl (by decide) (rmE6 l Z a0 hw [] hj35 d2 aj35 v2 bj35 _ _ cs (S_cs.ext Exj35) hcs Ej35 (F_d2_coder.ext Exj35) Fcj35 (F_d2_value.ext Exj35) Fvj35 (V_v2.ext Exj35) Vj35) (hw _ (List.mem_of_getElem? (i := 26) rfl)) (hw _ (List.mem_of_getElem? (i := 15) rfl)) ej35 (E_d2.ext Exj35) (pc := 11) (Ls := #[.val (.int k), .val (.int z), .val (.ref t2), .unset, .unset]) (argsL := [(.ref aj35)]) (rest := []) (by rw [hml]; rfl) (lenOf pd_3 rfl) (W := 0) (by decide) (by decide) (by decide) (by decide) (by decide) (hb hby at_11) rfl rfl ?_
        intro Tj36 Lj36 vj36 Xj36 hQj36
        obtain ⟨rfl, rfl, ej36⟩ := hQj36
        show own_EndsS _ _ pP eE bB sS _ _ Tj36 (mkF mI 14 #[.val (.int k), .val (.int z), .val (.ref t2), .unset, .unset] [(.int (1 : Int32))])
        refine own_goS (T' := Tj36) (g' := (mkF mI 15 #[.val (.int k), .val (.int z), .val (.ref t2), .val (.int (1 : Int32)), .unset] [])) (fun t_ kt_ => XS.istoreN Xj36.here hx rfl (hb hby at_14) rfl (l' := #[.val (.int k), .val (.int z), .val (.ref t2), .val (.int (1 : Int32)), .unset]) rfl kt_) ?_
        by_cases hz0 : ((z &&& (2147483647 : Int32)) % (3 : Int32)) = (0 : Int32)
        · skip
          refine own_goS (T' := Tj36) (g' := (mkF mI 16 #[.val (.int k), .val (.int z), .val (.ref t2), .val (.int (1 : Int32)), .unset] [(.int z)])) (fun t_ kt_ => XS.iloadN Xj36.here hx rfl (hb hby at_15) rfl kt_) ?_
          refine own_callS own_closedS Xj36 hx hZ (y := (⟨"com/example/inchworm/inchworm/core/StepUndoesPinLaw", "state", "(I)Lcom/example/inchworm/inchworm/core/VersionState;"⟩ : MethodName)) hown (hw _ (List.mem_of_getElem? (i := 36) rfl)) (hw _ (List.mem_of_getElem? (i := 37) rfl)) (by decide) (rmV_0 l Z a0 hw [] hj35 z hz0 u0 (S_u0.ext Exj35) u1 (S_u1.ext Exj35) u2 (S_u2.ext Exj35)) (hw _ (List.mem_of_getElem? (i := 38) rfl)) (hw _ (List.mem_of_getElem? (i := 2) rfl)) ej36 (pc := 16) (Ls := #[.val (.int k), .val (.int z), .val (.ref t2), .val (.int (1 : Int32)), .unset]) (argsL := [(.int z)]) (rest := []) (by rw [hml]; rfl) (lenOf pd_4 rfl) (W := 0) (by decide) (by decide) (by decide) (by decide) (by decide) (hb hby at_16) rfl rfl ?_
          intro Tj37 Lj37 vj37 Xj37 hQj37
          obtain ⟨rfl, rfl, ej37⟩ := hQj37
          show own_EndsS _ _ pP eE bB sS _ _ Tj37 (mkF mI 19 #[.val (.int k), .val (.int z), .val (.ref t2), .val (.int (1 : Int32)), .unset] [(.ref u0)])
          refine own_goS (T' := Tj37) (g' := (mkF mI 21 #[.val (.int k), .val (.int z), .val (.ref t2), .val (.int (1 : Int32)), .val (.ref u0)] [])) (fun t_ kt_ => XS.astore Xj37.here hx rfl (hb hby at_19) rfl rfl (l' := #[.val (.int k), .val (.int z), .val (.ref t2), .val (.int (1 : Int32)), .val (.ref u0)]) rfl kt_) ?_
          refine own_goS (T' := Tj37) (g' := (mkF mI 22 #[.val (.int k), .val (.int z), .val (.ref t2), .val (.int (1 : Int32)), .val (.ref u0)] [(.ref t2)])) (fun t_ kt_ => XS.aloadN Xj37.here hx rfl (hb hby at_21) rfl rfl kt_) ?_
          refine own_callV own_closedS Xj37 hx hZ (y := (⟨"com/example/inchworm/inchworm/core/Step", "undoes", "()Z"⟩ : MethodName)) (z := (⟨"com/example/inchworm/inchworm/core/Step", "undoes", "()Z"⟩ : MethodName)) hown (hw _ (List.mem_of_getElem? (i := 43) rfl)) (hw _ (List.mem_of_getElem? (i := 44) rfl)) (hw _ (List.mem_of_getElem? (i := 46) rfl)) (hw _ (List.mem_of_getElem? (i := 45) rfl)) (hw _ (List.mem_of_getElem? (i := 46) rfl)) rfl (by decide) (rmU_2 l Z a0 hw [] hj35 t0 (S_t0.ext Exj35) t1 (S_t1.ext Exj35) t2 (S_t2.ext Exj35) t3 (S_t3.ext Exj35) ne_t0_t1 ne_t0_t2 ne_t0_t3 ne_t1_t2 ne_t1_t3 ne_t2_t3) (hw _ (List.mem_of_getElem? (i := 47) rfl)) (hw _ (List.mem_of_getElem? (i := 5) rfl)) ej37 (E_t2.ext Exj35) (pc := 22) (Ls := #[.val (.int k), .val (.int z), .val (.ref t2), .val (.int (1 : Int32)), .val (.ref u0)]) (argsL := []) (rest := []) (by rw [hml]; rfl) (lenOf pd_5 rfl) (W := 0) (by decide) (by decide) (by decide) (by decide) (by decide) (hb hby at_22) rfl rfl ?_
          intro Tj38 Lj38 vj38 Xj38 hQj38
          obtain ⟨rfl, rfl, ej38⟩ := hQj38
          show own_EndsS _ _ pP eE bB sS _ _ Tj38 (mkF mI 25 #[.val (.int k), .val (.int z), .val (.ref t2), .val (.int (1 : Int32)), .val (.ref u0)] [(.int (1 : Int32))])
          refine own_goS (T' := Tj38) (g' := (mkF mI 26 #[.val (.int k), .val (.int z), .val (.ref t2), .val (.int (1 : Int32)), .val (.ref u0)] [(.int (1 : Int32)), (.int (1 : Int32))])) (fun t_ kt_ => XS.iloadN Xj38.here hx rfl (hb hby at_25) rfl kt_) ?_
          refine own_goS (T' := Tj38) (g' := (mkF mI 29 #[.val (.int k), .val (.int z), .val (.ref t2), .val (.int (1 : Int32)), .val (.ref u0)] [])) (fun t_ kt_ => XS.icmpNo Xj38.here hx rfl (hb hby at_26) rfl (teq (by decide : (1 : Int32) = (1 : Int32))).2 kt_) ?_
          refine own_goS (T' := Tj38) (g' := (mkF mI 31 #[.val (.int k), .val (.int z), .val (.ref t2), .val (.int (1 : Int32)), .val (.ref u0)] [(.ref u0)])) (fun t_ kt_ => XS.aload Xj38.here hx rfl (hb hby at_29) rfl rfl kt_) ?_
          refine own_callS own_closedS Xj38 hx hZ (y := (⟨"com/example/inchworm/inchworm/core/Step", "undo", "(Lcom/example/inchworm/inchworm/core/VersionState;)Lcom/example/inchworm/inchworm/core/Step;"⟩ : MethodName)) hown (hw _ (List.mem_of_getElem? (i := 52) rfl)) (hw _ (List.mem_of_getElem? (i := 53) rfl)) (by decide) (rmO_0 l Z a0 hw [] hj35 t0 (S_t0.ext Exj35) t1 (S_t1.ext Exj35) t2 (S_t2.ext Exj35) t3 (S_t3.ext Exj35) u0 (S_u0.ext Exj35) u1 (S_u1.ext Exj35) u2 (S_u2.ext Exj35) ne_u0_u1 ne_u0_u2 ne_u1_u2) (hw _ (List.mem_of_getElem? (i := 54) rfl)) (hw _ (List.mem_of_getElem? (i := 5) rfl)) ej38 (pc := 31) (Ls := #[.val (.int k), .val (.int z), .val (.ref t2), .val (.int (1 : Int32)), .val (.ref u0)]) (argsL := [(.ref u0)]) (rest := []) (by rw [hml]; rfl) (lenOf pd_6 rfl) (W := 0) (by decide) (by decide) (by decide) (by decide) (by decide) (hb hby at_31) rfl rfl ?_
          intro Tj39 Lj39 vj39 Xj39 hQj39
          obtain ⟨rfl, rfl, ej39⟩ := hQj39
          show own_EndsS _ _ pP eE bB sS _ _ Tj39 (mkF mI 34 #[.val (.int k), .val (.int z), .val (.ref t2), .val (.int (1 : Int32)), .val (.ref u0)] [(.ref t3)])
          refine own_callV own_closedS Xj39 hx hZ (y := (⟨"com/example/inchworm/inchworm/core/Step", "undoes", "()Z"⟩ : MethodName)) (z := (⟨"com/example/inchworm/inchworm/core/Step", "undoes", "()Z"⟩ : MethodName)) hown (hw _ (List.mem_of_getElem? (i := 43) rfl)) (hw _ (List.mem_of_getElem? (i := 44) rfl)) (hw _ (List.mem_of_getElem? (i := 46) rfl)) (hw _ (List.mem_of_getElem? (i := 45) rfl)) (hw _ (List.mem_of_getElem? (i := 46) rfl)) rfl (by decide) (rmU_3 l Z a0 hw [] hj35 t0 (S_t0.ext Exj35) t1 (S_t1.ext Exj35) t2 (S_t2.ext Exj35) t3 (S_t3.ext Exj35) ne_t0_t1 ne_t0_t2 ne_t0_t3 ne_t1_t2 ne_t1_t3 ne_t2_t3) (hw _ (List.mem_of_getElem? (i := 47) rfl)) (hw _ (List.mem_of_getElem? (i := 5) rfl)) ej39 (E_t3.ext Exj35) (pc := 34) (Ls := #[.val (.int k), .val (.int z), .val (.ref t2), .val (.int (1 : Int32)), .val (.ref u0)]) (argsL := []) (rest := []) (by rw [hml]; rfl) (lenOf pd_5 rfl) (W := 0) (by decide) (by decide) (by decide) (by decide) (by decide) (hb hby at_34) rfl rfl ?_
          intro Tj40 Lj40 vj40 Xj40 hQj40
          obtain ⟨rfl, rfl, ej40⟩ := hQj40
          show own_EndsS _ _ pP eE bB sS _ _ Tj40 (mkF mI 37 #[.val (.int k), .val (.int z), .val (.ref t2), .val (.int (1 : Int32)), .val (.ref u0)] [(.int (1 : Int32))])
          refine own_goS (T' := Tj40) (g' := (mkF mI 40 #[.val (.int k), .val (.int z), .val (.ref t2), .val (.int (1 : Int32)), .val (.ref u0)] [])) (fun t_ kt_ => XS.ifNo Xj40.here hx rfl (hb hby at_37) rfl ((if0 _ _).trans (feq (by decide : ¬ ((1 : Int32) = (0 : Int32)))).1) kt_) ?_
          refine own_goS (T' := Tj40) (g' := (mkF mI 41 #[.val (.int k), .val (.int z), .val (.ref t2), .val (.int (1 : Int32)), .val (.ref u0)] [(.int (1 : Int32))])) (fun t_ kt_ => XS.iconst Xj40.here hx rfl (hb hby at_40) kt_) ?_
          refine own_goS (T' := Tj40) (g' := (mkF mI 45 #[.val (.int k), .val (.int z), .val (.ref t2), .val (.int (1 : Int32)), .val (.ref u0)] [(.int (1 : Int32))])) (fun t_ kt_ => XS.goto Xj40.here hx rfl (pc0 := 41) (pc' := 45) rfl (hb hby at_41) (by decide) (by decide) kt_) ?_
          refine own_leaveS Xj40 hlk (some (.int (nar .boolean (1 : Int32)))) (fun h => by rw [hret] at h; cases h) hS ej40 hk hZ hEL Cj35 (by decide) (by decide) ?_ (fun fs hr => retN Xj40 hx (t := .boolean) hret (by simp) (hb hby at_45) hr)
          exact ⟨rfl, rfl⟩
        · skip
          by_cases hz1 : ((z &&& (2147483647 : Int32)) % (3 : Int32)) = (1 : Int32)
          · skip
            refine own_goS (T' := Tj36) (g' := (mkF mI 16 #[.val (.int k), .val (.int z), .val (.ref t2), .val (.int (1 : Int32)), .unset] [(.int z)])) (fun t_ kt_ => XS.iloadN Xj36.here hx rfl (hb hby at_15) rfl kt_) ?_
            refine own_callS own_closedS Xj36 hx hZ (y := (⟨"com/example/inchworm/inchworm/core/StepUndoesPinLaw", "state", "(I)Lcom/example/inchworm/inchworm/core/VersionState;"⟩ : MethodName)) hown (hw _ (List.mem_of_getElem? (i := 36) rfl)) (hw _ (List.mem_of_getElem? (i := 37) rfl)) (by decide) (rmV_1 l Z a0 hw [] hj35 z hz0 hz1 u0 (S_u0.ext Exj35) u1 (S_u1.ext Exj35) u2 (S_u2.ext Exj35)) (hw _ (List.mem_of_getElem? (i := 38) rfl)) (hw _ (List.mem_of_getElem? (i := 2) rfl)) ej36 (pc := 16) (Ls := #[.val (.int k), .val (.int z), .val (.ref t2), .val (.int (1 : Int32)), .unset]) (argsL := [(.int z)]) (rest := []) (by rw [hml]; rfl) (lenOf pd_4 rfl) (W := 0) (by decide) (by decide) (by decide) (by decide) (by decide) (hb hby at_16) rfl rfl ?_
            intro Tj41 Lj41 vj41 Xj41 hQj41
            obtain ⟨rfl, rfl, ej41⟩ := hQj41
            show own_EndsS _ _ pP eE bB sS _ _ Tj41 (mkF mI 19 #[.val (.int k), .val (.int z), .val (.ref t2), .val (.int (1 : Int32)), .unset] [(.ref u1)])
            refine own_goS (T' := Tj41) (g' := (mkF mI 21 #[.val (.int k), .val (.int z), .val (.ref t2), .val (.int (1 : Int32)), .val (.ref u1)] [])) (fun t_ kt_ => XS.astore Xj41.here hx rfl (hb hby at_19) rfl rfl (l' := #[.val (.int k), .val (.int z), .val (.ref t2), .val (.int (1 : Int32)), .val (.ref u1)]) rfl kt_) ?_
            refine own_goS (T' := Tj41) (g' := (mkF mI 22 #[.val (.int k), .val (.int z), .val (.ref t2), .val (.int (1 : Int32)), .val (.ref u1)] [(.ref t2)])) (fun t_ kt_ => XS.aloadN Xj41.here hx rfl (hb hby at_21) rfl rfl kt_) ?_
            refine own_callV own_closedS Xj41 hx hZ (y := (⟨"com/example/inchworm/inchworm/core/Step", "undoes", "()Z"⟩ : MethodName)) (z := (⟨"com/example/inchworm/inchworm/core/Step", "undoes", "()Z"⟩ : MethodName)) hown (hw _ (List.mem_of_getElem? (i := 43) rfl)) (hw _ (List.mem_of_getElem? (i := 44) rfl)) (hw _ (List.mem_of_getElem? (i := 46) rfl)) (hw _ (List.mem_of_getElem? (i := 45) rfl)) (hw _ (List.mem_of_getElem? (i := 46) rfl)) rfl (by decide) (rmU_2 l Z a0 hw [] hj35 t0 (S_t0.ext Exj35) t1 (S_t1.ext Exj35) t2 (S_t2.ext Exj35) t3 (S_t3.ext Exj35) ne_t0_t1 ne_t0_t2 ne_t0_t3 ne_t1_t2 ne_t1_t3 ne_t2_t3) (hw _ (List.mem_of_getElem? (i := 47) rfl)) (hw _ (List.mem_of_getElem? (i := 5) rfl)) ej41 (E_t2.ext Exj35) (pc := 22) (Ls := #[.val (.int k), .val (.int z), .val (.ref t2), .val (.int (1 : Int32)), .val (.ref u1)]) (argsL := []) (rest := []) (by rw [hml]; rfl) (lenOf pd_5 rfl) (W := 0) (by decide) (by decide) (by decide) (by decide) (by decide) (hb hby at_22) rfl rfl ?_
            intro Tj42 Lj42 vj42 Xj42 hQj42
            obtain ⟨rfl, rfl, ej42⟩ := hQj42
            show own_EndsS _ _ pP eE bB sS _ _ Tj42 (mkF mI 25 #[.val (.int k), .val (.int z), .val (.ref t2), .val (.int (1 : Int32)), .val (.ref u1)] [(.int (1 : Int32))])
            refine own_goS (T' := Tj42) (g' := (mkF mI 26 #[.val (.int k), .val (.int z), .val (.ref t2), .val (.int (1 : Int32)), .val (.ref u1)] [(.int (1 : Int32)), (.int (1 : Int32))])) (fun t_ kt_ => XS.iloadN Xj42.here hx rfl (hb hby at_25) rfl kt_) ?_
            refine own_goS (T' := Tj42) (g' := (mkF mI 29 #[.val (.int k), .val (.int z), .val (.ref t2), .val (.int (1 : Int32)), .val (.ref u1)] [])) (fun t_ kt_ => XS.icmpNo Xj42.here hx rfl (hb hby at_26) rfl (teq (by decide : (1 : Int32) = (1 : Int32))).2 kt_) ?_
            refine own_goS (T' := Tj42) (g' := (mkF mI 31 #[.val (.int k), .val (.int z), .val (.ref t2), .val (.int (1 : Int32)), .val (.ref u1)] [(.ref u1)])) (fun t_ kt_ => XS.aload Xj42.here hx rfl (hb hby at_29) rfl rfl kt_) ?_
            refine own_callS own_closedS Xj42 hx hZ (y := (⟨"com/example/inchworm/inchworm/core/Step", "undo", "(Lcom/example/inchworm/inchworm/core/VersionState;)Lcom/example/inchworm/inchworm/core/Step;"⟩ : MethodName)) hown (hw _ (List.mem_of_getElem? (i := 52) rfl)) (hw _ (List.mem_of_getElem? (i := 53) rfl)) (by decide) (rmO_1 l Z a0 hw [] hj35 t0 (S_t0.ext Exj35) t1 (S_t1.ext Exj35) t2 (S_t2.ext Exj35) t3 (S_t3.ext Exj35) u0 (S_u0.ext Exj35) u1 (S_u1.ext Exj35) u2 (S_u2.ext Exj35) ne_u0_u1 ne_u0_u2 ne_u1_u2) (hw _ (List.mem_of_getElem? (i := 54) rfl)) (hw _ (List.mem_of_getElem? (i := 5) rfl)) ej42 (pc := 31) (Ls := #[.val (.int k), .val (.int z), .val (.ref t2), .val (.int (1 : Int32)), .val (.ref u1)]) (argsL := [(.ref u1)]) (rest := []) (by rw [hml]; rfl) (lenOf pd_6 rfl) (W := 0) (by decide) (by decide) (by decide) (by decide) (by decide) (hb hby at_31) rfl rfl ?_
            intro Tj43 Lj43 vj43 Xj43 hQj43
            obtain ⟨rfl, rfl, ej43⟩ := hQj43
            show own_EndsS _ _ pP eE bB sS _ _ Tj43 (mkF mI 34 #[.val (.int k), .val (.int z), .val (.ref t2), .val (.int (1 : Int32)), .val (.ref u1)] [(.ref t2)])
            refine own_callV own_closedS Xj43 hx hZ (y := (⟨"com/example/inchworm/inchworm/core/Step", "undoes", "()Z"⟩ : MethodName)) (z := (⟨"com/example/inchworm/inchworm/core/Step", "undoes", "()Z"⟩ : MethodName)) hown (hw _ (List.mem_of_getElem? (i := 43) rfl)) (hw _ (List.mem_of_getElem? (i := 44) rfl)) (hw _ (List.mem_of_getElem? (i := 46) rfl)) (hw _ (List.mem_of_getElem? (i := 45) rfl)) (hw _ (List.mem_of_getElem? (i := 46) rfl)) rfl (by decide) (rmU_2 l Z a0 hw [] hj35 t0 (S_t0.ext Exj35) t1 (S_t1.ext Exj35) t2 (S_t2.ext Exj35) t3 (S_t3.ext Exj35) ne_t0_t1 ne_t0_t2 ne_t0_t3 ne_t1_t2 ne_t1_t3 ne_t2_t3) (hw _ (List.mem_of_getElem? (i := 47) rfl)) (hw _ (List.mem_of_getElem? (i := 5) rfl)) ej43 (E_t2.ext Exj35) (pc := 34) (Ls := #[.val (.int k), .val (.int z), .val (.ref t2), .val (.int (1 : Int32)), .val (.ref u1)]) (argsL := []) (rest := []) (by rw [hml]; rfl) (lenOf pd_5 rfl) (W := 0) (by decide) (by decide) (by decide) (by decide) (by decide) (hb hby at_34) rfl rfl ?_
            intro Tj44 Lj44 vj44 Xj44 hQj44
            obtain ⟨rfl, rfl, ej44⟩ := hQj44
            show own_EndsS _ _ pP eE bB sS _ _ Tj44 (mkF mI 37 #[.val (.int k), .val (.int z), .val (.ref t2), .val (.int (1 : Int32)), .val (.ref u1)] [(.int (1 : Int32))])
            refine own_goS (T' := Tj44) (g' := (mkF mI 40 #[.val (.int k), .val (.int z), .val (.ref t2), .val (.int (1 : Int32)), .val (.ref u1)] [])) (fun t_ kt_ => XS.ifNo Xj44.here hx rfl (hb hby at_37) rfl ((if0 _ _).trans (feq (by decide : ¬ ((1 : Int32) = (0 : Int32)))).1) kt_) ?_
            refine own_goS (T' := Tj44) (g' := (mkF mI 41 #[.val (.int k), .val (.int z), .val (.ref t2), .val (.int (1 : Int32)), .val (.ref u1)] [(.int (1 : Int32))])) (fun t_ kt_ => XS.iconst Xj44.here hx rfl (hb hby at_40) kt_) ?_
            refine own_goS (T' := Tj44) (g' := (mkF mI 45 #[.val (.int k), .val (.int z), .val (.ref t2), .val (.int (1 : Int32)), .val (.ref u1)] [(.int (1 : Int32))])) (fun t_ kt_ => XS.goto Xj44.here hx rfl (pc0 := 41) (pc' := 45) rfl (hb hby at_41) (by decide) (by decide) kt_) ?_
            refine own_leaveS Xj44 hlk (some (.int (nar .boolean (1 : Int32)))) (fun h => by rw [hret] at h; cases h) hS ej44 hk hZ hEL Cj35 (by decide) (by decide) ?_ (fun fs hr => retN Xj44 hx (t := .boolean) hret (by simp) (hb hby at_45) hr)
            exact ⟨rfl, rfl⟩
          · skip
            refine own_goS (T' := Tj36) (g' := (mkF mI 16 #[.val (.int k), .val (.int z), .val (.ref t2), .val (.int (1 : Int32)), .unset] [(.int z)])) (fun t_ kt_ => XS.iloadN Xj36.here hx rfl (hb hby at_15) rfl kt_) ?_
            refine own_callS own_closedS Xj36 hx hZ (y := (⟨"com/example/inchworm/inchworm/core/StepUndoesPinLaw", "state", "(I)Lcom/example/inchworm/inchworm/core/VersionState;"⟩ : MethodName)) hown (hw _ (List.mem_of_getElem? (i := 36) rfl)) (hw _ (List.mem_of_getElem? (i := 37) rfl)) (by decide) (rmV_2 l Z a0 hw [] hj35 z hz0 hz1 u0 (S_u0.ext Exj35) u1 (S_u1.ext Exj35) u2 (S_u2.ext Exj35)) (hw _ (List.mem_of_getElem? (i := 38) rfl)) (hw _ (List.mem_of_getElem? (i := 2) rfl)) ej36 (pc := 16) (Ls := #[.val (.int k), .val (.int z), .val (.ref t2), .val (.int (1 : Int32)), .unset]) (argsL := [(.int z)]) (rest := []) (by rw [hml]; rfl) (lenOf pd_4 rfl) (W := 0) (by decide) (by decide) (by decide) (by decide) (by decide) (hb hby at_16) rfl rfl ?_
            intro Tj45 Lj45 vj45 Xj45 hQj45
            obtain ⟨rfl, rfl, ej45⟩ := hQj45
            show own_EndsS _ _ pP eE bB sS _ _ Tj45 (mkF mI 19 #[.val (.int k), .val (.int z), .val (.ref t2), .val (.int (1 : Int32)), .unset] [(.ref u2)])
            refine own_goS (T' := Tj45) (g' := (mkF mI 21 #[.val (.int k), .val (.int z), .val (.ref t2), .val (.int (1 : Int32)), .val (.ref u2)] [])) (fun t_ kt_ => XS.astore Xj45.here hx rfl (hb hby at_19) rfl rfl (l' := #[.val (.int k), .val (.int z), .val (.ref t2), .val (.int (1 : Int32)), .val (.ref u2)]) rfl kt_) ?_
            refine own_goS (T' := Tj45) (g' := (mkF mI 22 #[.val (.int k), .val (.int z), .val (.ref t2), .val (.int (1 : Int32)), .val (.ref u2)] [(.ref t2)])) (fun t_ kt_ => XS.aloadN Xj45.here hx rfl (hb hby at_21) rfl rfl kt_) ?_
            refine own_callV own_closedS Xj45 hx hZ (y := (⟨"com/example/inchworm/inchworm/core/Step", "undoes", "()Z"⟩ : MethodName)) (z := (⟨"com/example/inchworm/inchworm/core/Step", "undoes", "()Z"⟩ : MethodName)) hown (hw _ (List.mem_of_getElem? (i := 43) rfl)) (hw _ (List.mem_of_getElem? (i := 44) rfl)) (hw _ (List.mem_of_getElem? (i := 46) rfl)) (hw _ (List.mem_of_getElem? (i := 45) rfl)) (hw _ (List.mem_of_getElem? (i := 46) rfl)) rfl (by decide) (rmU_2 l Z a0 hw [] hj35 t0 (S_t0.ext Exj35) t1 (S_t1.ext Exj35) t2 (S_t2.ext Exj35) t3 (S_t3.ext Exj35) ne_t0_t1 ne_t0_t2 ne_t0_t3 ne_t1_t2 ne_t1_t3 ne_t2_t3) (hw _ (List.mem_of_getElem? (i := 47) rfl)) (hw _ (List.mem_of_getElem? (i := 5) rfl)) ej45 (E_t2.ext Exj35) (pc := 22) (Ls := #[.val (.int k), .val (.int z), .val (.ref t2), .val (.int (1 : Int32)), .val (.ref u2)]) (argsL := []) (rest := []) (by rw [hml]; rfl) (lenOf pd_5 rfl) (W := 0) (by decide) (by decide) (by decide) (by decide) (by decide) (hb hby at_22) rfl rfl ?_
            intro Tj46 Lj46 vj46 Xj46 hQj46
            obtain ⟨rfl, rfl, ej46⟩ := hQj46
            show own_EndsS _ _ pP eE bB sS _ _ Tj46 (mkF mI 25 #[.val (.int k), .val (.int z), .val (.ref t2), .val (.int (1 : Int32)), .val (.ref u2)] [(.int (1 : Int32))])
            refine own_goS (T' := Tj46) (g' := (mkF mI 26 #[.val (.int k), .val (.int z), .val (.ref t2), .val (.int (1 : Int32)), .val (.ref u2)] [(.int (1 : Int32)), (.int (1 : Int32))])) (fun t_ kt_ => XS.iloadN Xj46.here hx rfl (hb hby at_25) rfl kt_) ?_
            refine own_goS (T' := Tj46) (g' := (mkF mI 29 #[.val (.int k), .val (.int z), .val (.ref t2), .val (.int (1 : Int32)), .val (.ref u2)] [])) (fun t_ kt_ => XS.icmpNo Xj46.here hx rfl (hb hby at_26) rfl (teq (by decide : (1 : Int32) = (1 : Int32))).2 kt_) ?_
            refine own_goS (T' := Tj46) (g' := (mkF mI 31 #[.val (.int k), .val (.int z), .val (.ref t2), .val (.int (1 : Int32)), .val (.ref u2)] [(.ref u2)])) (fun t_ kt_ => XS.aload Xj46.here hx rfl (hb hby at_29) rfl rfl kt_) ?_
            refine own_callS own_closedS Xj46 hx hZ (y := (⟨"com/example/inchworm/inchworm/core/Step", "undo", "(Lcom/example/inchworm/inchworm/core/VersionState;)Lcom/example/inchworm/inchworm/core/Step;"⟩ : MethodName)) hown (hw _ (List.mem_of_getElem? (i := 52) rfl)) (hw _ (List.mem_of_getElem? (i := 53) rfl)) (by decide) (rmO_2 l Z a0 hw [] hj35 t0 (S_t0.ext Exj35) t1 (S_t1.ext Exj35) t2 (S_t2.ext Exj35) t3 (S_t3.ext Exj35) u0 (S_u0.ext Exj35) u1 (S_u1.ext Exj35) u2 (S_u2.ext Exj35) ne_u0_u1 ne_u0_u2 ne_u1_u2) (hw _ (List.mem_of_getElem? (i := 54) rfl)) (hw _ (List.mem_of_getElem? (i := 5) rfl)) ej46 (pc := 31) (Ls := #[.val (.int k), .val (.int z), .val (.ref t2), .val (.int (1 : Int32)), .val (.ref u2)]) (argsL := [(.ref u2)]) (rest := []) (by rw [hml]; rfl) (lenOf pd_6 rfl) (W := 0) (by decide) (by decide) (by decide) (by decide) (by decide) (hb hby at_31) rfl rfl ?_
            intro Tj47 Lj47 vj47 Xj47 hQj47
            obtain ⟨rfl, rfl, ej47⟩ := hQj47
            show own_EndsS _ _ pP eE bB sS _ _ Tj47 (mkF mI 34 #[.val (.int k), .val (.int z), .val (.ref t2), .val (.int (1 : Int32)), .val (.ref u2)] [(.ref t3)])
            refine own_callV own_closedS Xj47 hx hZ (y := (⟨"com/example/inchworm/inchworm/core/Step", "undoes", "()Z"⟩ : MethodName)) (z := (⟨"com/example/inchworm/inchworm/core/Step", "undoes", "()Z"⟩ : MethodName)) hown (hw _ (List.mem_of_getElem? (i := 43) rfl)) (hw _ (List.mem_of_getElem? (i := 44) rfl)) (hw _ (List.mem_of_getElem? (i := 46) rfl)) (hw _ (List.mem_of_getElem? (i := 45) rfl)) (hw _ (List.mem_of_getElem? (i := 46) rfl)) rfl (by decide) (rmU_3 l Z a0 hw [] hj35 t0 (S_t0.ext Exj35) t1 (S_t1.ext Exj35) t2 (S_t2.ext Exj35) t3 (S_t3.ext Exj35) ne_t0_t1 ne_t0_t2 ne_t0_t3 ne_t1_t2 ne_t1_t3 ne_t2_t3) (hw _ (List.mem_of_getElem? (i := 47) rfl)) (hw _ (List.mem_of_getElem? (i := 5) rfl)) ej47 (E_t3.ext Exj35) (pc := 34) (Ls := #[.val (.int k), .val (.int z), .val (.ref t2), .val (.int (1 : Int32)), .val (.ref u2)]) (argsL := []) (rest := []) (by rw [hml]; rfl) (lenOf pd_5 rfl) (W := 0) (by decide) (by decide) (by decide) (by decide) (by decide) (hb hby at_34) rfl rfl ?_
            intro Tj48 Lj48 vj48 Xj48 hQj48
            obtain ⟨rfl, rfl, ej48⟩ := hQj48
            show own_EndsS _ _ pP eE bB sS _ _ Tj48 (mkF mI 37 #[.val (.int k), .val (.int z), .val (.ref t2), .val (.int (1 : Int32)), .val (.ref u2)] [(.int (1 : Int32))])
            refine own_goS (T' := Tj48) (g' := (mkF mI 40 #[.val (.int k), .val (.int z), .val (.ref t2), .val (.int (1 : Int32)), .val (.ref u2)] [])) (fun t_ kt_ => XS.ifNo Xj48.here hx rfl (hb hby at_37) rfl ((if0 _ _).trans (feq (by decide : ¬ ((1 : Int32) = (0 : Int32)))).1) kt_) ?_
            refine own_goS (T' := Tj48) (g' := (mkF mI 41 #[.val (.int k), .val (.int z), .val (.ref t2), .val (.int (1 : Int32)), .val (.ref u2)] [(.int (1 : Int32))])) (fun t_ kt_ => XS.iconst Xj48.here hx rfl (hb hby at_40) kt_) ?_
            refine own_goS (T' := Tj48) (g' := (mkF mI 45 #[.val (.int k), .val (.int z), .val (.ref t2), .val (.int (1 : Int32)), .val (.ref u2)] [(.int (1 : Int32))])) (fun t_ kt_ => XS.goto Xj48.here hx rfl (pc0 := 41) (pc' := 45) rfl (hb hby at_41) (by decide) (by decide) kt_) ?_
            refine own_leaveS Xj48 hlk (some (.int (nar .boolean (1 : Int32)))) (fun h => by rw [hret] at h; cases h) hS ej48 hk hZ hEL Cj35 (by decide) (by decide) ?_ (fun fs hr => retN Xj48 hx (t := .boolean) hret (by simp) (hb hby at_45) hr)
            exact ⟨rfl, rfl⟩
      · skip
        refine own_goS (T' := s₁) (g' := (mkF mI 1 #[.val (.int k), .val (.int z), .unset, .unset, .unset] [(.int k)])) (fun t_ kt_ => XS.iloadN X0.here hx rfl (hb hby at_0) rfl kt_) ?_
        refine own_callS own_closedS X0 hx hZ (y := (⟨"com/example/inchworm/inchworm/core/StepUndoesPinLaw", "step", "(I)Lcom/example/inchworm/inchworm/core/Step;"⟩ : MethodName)) hown (hw _ (List.mem_of_getElem? (i := 0) rfl)) (hw _ (List.mem_of_getElem? (i := 1) rfl)) (by decide) (rmS_3 l Z a0 hw [] h0 k hk0 hk1 hk2 t0 S_t0 t1 S_t1 t2 S_t2 t3 S_t3) (hw _ (List.mem_of_getElem? (i := 3) rfl)) (hw _ (List.mem_of_getElem? (i := 2) rfl)) e0 (pc := 1) (Ls := #[.val (.int k), .val (.int z), .unset, .unset, .unset]) (argsL := [(.int k)]) (rest := []) (by rw [hml]; rfl) (lenOf pd_1 rfl) (W := 0) (by decide) (by decide) (by decide) (by decide) (by decide) (hb hby at_1) rfl rfl ?_
        intro Tj49 Lj49 vj49 Xj49 hQj49
        obtain ⟨rfl, rfl, ej49⟩ := hQj49
        show own_EndsS _ _ pP eE bB sS _ _ Tj49 (mkF mI 4 #[.val (.int k), .val (.int z), .unset, .unset, .unset] [(.ref t3)])
        refine own_goS (T' := Tj49) (g' := (mkF mI 5 #[.val (.int k), .val (.int z), .val (.ref t3), .unset, .unset] [])) (fun t_ kt_ => XS.astoreN Xj49.here hx rfl (hb hby at_4) rfl rfl (l' := #[.val (.int k), .val (.int z), .val (.ref t3), .unset, .unset]) rfl kt_) ?_
        refine own_goS (T' := Tj49) (g' := (mkF mI 6 #[.val (.int k), .val (.int z), .val (.ref t3), .unset, .unset] [(.ref t3)])) (fun t_ kt_ => XS.aloadN Xj49.here hx rfl (hb hby at_5) rfl rfl kt_) ?_
        refine own_callV own_closedS Xj49 hx hZ (y := (⟨"com/example/inchworm/inchworm/core/Step", "done", "()Ljava/lang/String;"⟩ : MethodName)) (z := (⟨"com/example/inchworm/inchworm/core/Step", "done", "()Ljava/lang/String;"⟩ : MethodName)) hown (hw _ (List.mem_of_getElem? (i := 7) rfl)) (hw _ (List.mem_of_getElem? (i := 8) rfl)) (hw _ (List.mem_of_getElem? (i := 10) rfl)) (hw _ (List.mem_of_getElem? (i := 9) rfl)) (hw _ (List.mem_of_getElem? (i := 10) rfl)) rfl (by decide) (rmD l Z a0 hw [] h0 t3 d2 F_t3_done) (hw _ (List.mem_of_getElem? (i := 11) rfl)) (hw _ (List.mem_of_getElem? (i := 5) rfl)) ej49 E_t3 (pc := 6) (Ls := #[.val (.int k), .val (.int z), .val (.ref t3), .unset, .unset]) (argsL := []) (rest := []) (by rw [hml]; rfl) (lenOf pd_2 rfl) (W := 0) (by decide) (by decide) (by decide) (by decide) (by decide) (hb hby at_6) rfl rfl ?_
        intro Tj50 Lj50 vj50 Xj50 hQj50
        obtain ⟨rfl, rfl, ej50⟩ := hQj50
        show own_EndsS _ _ pP eE bB sS _ _ Tj50 (mkF mI 9 #[.val (.int k), .val (.int z), .val (.ref t3), .unset, .unset] [(.ref d2)])
        obtain ⟨aj51, Tj51, hj51, vmj51, kj51, bj51, kkj51, Xj51, ej51, Exj51, hS, hk, hZ, hown, Ej51, Fcj51, Fvj51, Vj51, Cj51, -, -, stj51⟩ := own_ldc Xj50 hx hZ hown (hw _ (List.mem_of_getElem? (i := 14) rfl)) hStr ej50 hS hk hEL (List.mem_of_getElem? (i := 0) rfl) C0 (vs := [(.int (117 : Int32)), (.int (110 : Int32)), (.int (100 : Int32)), (.int (111 : Int32)), (.int (110 : Int32)), (.int (101 : Int32))]) (z := 6) ⟨by decide, by decide⟩ (by decide) rfl (g := (mkF mI 9 #[.val (.int k), .val (.int z), .val (.ref t3), .unset, .unset] [(.ref d2)])) rfl (hb hby at_9) (n := 24) (by decide) (by decide) (by decide) (by decide)
        refine own_goS (T' := Tj51) (g' := (mkF mI 11 #[.val (.int k), .val (.int z), .val (.ref t3), .unset, .unset] [(.ref aj51), (.ref d2)])) (fun t_ kt_ => stj51 _ kt_) ?_
        refine own_callV own_closedS Xj51 hx hZ (y := (⟨"java/lang/String", "equals", "(Ljava/lang/Object;)Z"⟩ : MethodName)) (z := (⟨"java/lang/String", "equals", "(Ljava/lang/Object;)Z"⟩ : MethodName)) hown (hw _ (List.mem_of_getElem? (i := 22) rfl)) (hw _ (List.mem_of_getElem? (i := 23) rfl)) (hw _ (List.mem_of_getElem? (i := 25) rfl)) (hw _ (List.mem_of_getElem? (i := 24) rfl)) (hw _ (List.mem_of_getElem? (i := 25) rfl)) rfl (by decide) (rmE6 l Z a0 hw [] hj51 d2 aj51 v2 bj51 _ _ cs (S_cs.ext Exj51) hcs Ej51 (F_d2_coder.ext Exj51) Fcj51 (F_d2_value.ext Exj51) Fvj51 (V_v2.ext Exj51) Vj51) (hw _ (List.mem_of_getElem? (i := 26) rfl)) (hw _ (List.mem_of_getElem? (i := 15) rfl)) ej51 (E_d2.ext Exj51) (pc := 11) (Ls := #[.val (.int k), .val (.int z), .val (.ref t3), .unset, .unset]) (argsL := [(.ref aj51)]) (rest := []) (by rw [hml]; rfl) (lenOf pd_3 rfl) (W := 0) (by decide) (by decide) (by decide) (by decide) (by decide) (hb hby at_11) rfl rfl ?_
        intro Tj52 Lj52 vj52 Xj52 hQj52
        obtain ⟨rfl, rfl, ej52⟩ := hQj52
        show own_EndsS _ _ pP eE bB sS _ _ Tj52 (mkF mI 14 #[.val (.int k), .val (.int z), .val (.ref t3), .unset, .unset] [(.int (1 : Int32))])
        refine own_goS (T' := Tj52) (g' := (mkF mI 15 #[.val (.int k), .val (.int z), .val (.ref t3), .val (.int (1 : Int32)), .unset] [])) (fun t_ kt_ => XS.istoreN Xj52.here hx rfl (hb hby at_14) rfl (l' := #[.val (.int k), .val (.int z), .val (.ref t3), .val (.int (1 : Int32)), .unset]) rfl kt_) ?_
        by_cases hz0 : ((z &&& (2147483647 : Int32)) % (3 : Int32)) = (0 : Int32)
        · skip
          refine own_goS (T' := Tj52) (g' := (mkF mI 16 #[.val (.int k), .val (.int z), .val (.ref t3), .val (.int (1 : Int32)), .unset] [(.int z)])) (fun t_ kt_ => XS.iloadN Xj52.here hx rfl (hb hby at_15) rfl kt_) ?_
          refine own_callS own_closedS Xj52 hx hZ (y := (⟨"com/example/inchworm/inchworm/core/StepUndoesPinLaw", "state", "(I)Lcom/example/inchworm/inchworm/core/VersionState;"⟩ : MethodName)) hown (hw _ (List.mem_of_getElem? (i := 36) rfl)) (hw _ (List.mem_of_getElem? (i := 37) rfl)) (by decide) (rmV_0 l Z a0 hw [] hj51 z hz0 u0 (S_u0.ext Exj51) u1 (S_u1.ext Exj51) u2 (S_u2.ext Exj51)) (hw _ (List.mem_of_getElem? (i := 38) rfl)) (hw _ (List.mem_of_getElem? (i := 2) rfl)) ej52 (pc := 16) (Ls := #[.val (.int k), .val (.int z), .val (.ref t3), .val (.int (1 : Int32)), .unset]) (argsL := [(.int z)]) (rest := []) (by rw [hml]; rfl) (lenOf pd_4 rfl) (W := 0) (by decide) (by decide) (by decide) (by decide) (by decide) (hb hby at_16) rfl rfl ?_
          intro Tj53 Lj53 vj53 Xj53 hQj53
          obtain ⟨rfl, rfl, ej53⟩ := hQj53
          show own_EndsS _ _ pP eE bB sS _ _ Tj53 (mkF mI 19 #[.val (.int k), .val (.int z), .val (.ref t3), .val (.int (1 : Int32)), .unset] [(.ref u0)])
          refine own_goS (T' := Tj53) (g' := (mkF mI 21 #[.val (.int k), .val (.int z), .val (.ref t3), .val (.int (1 : Int32)), .val (.ref u0)] [])) (fun t_ kt_ => XS.astore Xj53.here hx rfl (hb hby at_19) rfl rfl (l' := #[.val (.int k), .val (.int z), .val (.ref t3), .val (.int (1 : Int32)), .val (.ref u0)]) rfl kt_) ?_
          refine own_goS (T' := Tj53) (g' := (mkF mI 22 #[.val (.int k), .val (.int z), .val (.ref t3), .val (.int (1 : Int32)), .val (.ref u0)] [(.ref t3)])) (fun t_ kt_ => XS.aloadN Xj53.here hx rfl (hb hby at_21) rfl rfl kt_) ?_
          refine own_callV own_closedS Xj53 hx hZ (y := (⟨"com/example/inchworm/inchworm/core/Step", "undoes", "()Z"⟩ : MethodName)) (z := (⟨"com/example/inchworm/inchworm/core/Step", "undoes", "()Z"⟩ : MethodName)) hown (hw _ (List.mem_of_getElem? (i := 43) rfl)) (hw _ (List.mem_of_getElem? (i := 44) rfl)) (hw _ (List.mem_of_getElem? (i := 46) rfl)) (hw _ (List.mem_of_getElem? (i := 45) rfl)) (hw _ (List.mem_of_getElem? (i := 46) rfl)) rfl (by decide) (rmU_3 l Z a0 hw [] hj51 t0 (S_t0.ext Exj51) t1 (S_t1.ext Exj51) t2 (S_t2.ext Exj51) t3 (S_t3.ext Exj51) ne_t0_t1 ne_t0_t2 ne_t0_t3 ne_t1_t2 ne_t1_t3 ne_t2_t3) (hw _ (List.mem_of_getElem? (i := 47) rfl)) (hw _ (List.mem_of_getElem? (i := 5) rfl)) ej53 (E_t3.ext Exj51) (pc := 22) (Ls := #[.val (.int k), .val (.int z), .val (.ref t3), .val (.int (1 : Int32)), .val (.ref u0)]) (argsL := []) (rest := []) (by rw [hml]; rfl) (lenOf pd_5 rfl) (W := 0) (by decide) (by decide) (by decide) (by decide) (by decide) (hb hby at_22) rfl rfl ?_
          intro Tj54 Lj54 vj54 Xj54 hQj54
          obtain ⟨rfl, rfl, ej54⟩ := hQj54
          show own_EndsS _ _ pP eE bB sS _ _ Tj54 (mkF mI 25 #[.val (.int k), .val (.int z), .val (.ref t3), .val (.int (1 : Int32)), .val (.ref u0)] [(.int (1 : Int32))])
          refine own_goS (T' := Tj54) (g' := (mkF mI 26 #[.val (.int k), .val (.int z), .val (.ref t3), .val (.int (1 : Int32)), .val (.ref u0)] [(.int (1 : Int32)), (.int (1 : Int32))])) (fun t_ kt_ => XS.iloadN Xj54.here hx rfl (hb hby at_25) rfl kt_) ?_
          refine own_goS (T' := Tj54) (g' := (mkF mI 29 #[.val (.int k), .val (.int z), .val (.ref t3), .val (.int (1 : Int32)), .val (.ref u0)] [])) (fun t_ kt_ => XS.icmpNo Xj54.here hx rfl (hb hby at_26) rfl (teq (by decide : (1 : Int32) = (1 : Int32))).2 kt_) ?_
          refine own_goS (T' := Tj54) (g' := (mkF mI 31 #[.val (.int k), .val (.int z), .val (.ref t3), .val (.int (1 : Int32)), .val (.ref u0)] [(.ref u0)])) (fun t_ kt_ => XS.aload Xj54.here hx rfl (hb hby at_29) rfl rfl kt_) ?_
          refine own_callS own_closedS Xj54 hx hZ (y := (⟨"com/example/inchworm/inchworm/core/Step", "undo", "(Lcom/example/inchworm/inchworm/core/VersionState;)Lcom/example/inchworm/inchworm/core/Step;"⟩ : MethodName)) hown (hw _ (List.mem_of_getElem? (i := 52) rfl)) (hw _ (List.mem_of_getElem? (i := 53) rfl)) (by decide) (rmO_0 l Z a0 hw [] hj51 t0 (S_t0.ext Exj51) t1 (S_t1.ext Exj51) t2 (S_t2.ext Exj51) t3 (S_t3.ext Exj51) u0 (S_u0.ext Exj51) u1 (S_u1.ext Exj51) u2 (S_u2.ext Exj51) ne_u0_u1 ne_u0_u2 ne_u1_u2) (hw _ (List.mem_of_getElem? (i := 54) rfl)) (hw _ (List.mem_of_getElem? (i := 5) rfl)) ej54 (pc := 31) (Ls := #[.val (.int k), .val (.int z), .val (.ref t3), .val (.int (1 : Int32)), .val (.ref u0)]) (argsL := [(.ref u0)]) (rest := []) (by rw [hml]; rfl) (lenOf pd_6 rfl) (W := 0) (by decide) (by decide) (by decide) (by decide) (by decide) (hb hby at_31) rfl rfl ?_
          intro Tj55 Lj55 vj55 Xj55 hQj55
          obtain ⟨rfl, rfl, ej55⟩ := hQj55
          show own_EndsS _ _ pP eE bB sS _ _ Tj55 (mkF mI 34 #[.val (.int k), .val (.int z), .val (.ref t3), .val (.int (1 : Int32)), .val (.ref u0)] [(.ref t3)])
          refine own_callV own_closedS Xj55 hx hZ (y := (⟨"com/example/inchworm/inchworm/core/Step", "undoes", "()Z"⟩ : MethodName)) (z := (⟨"com/example/inchworm/inchworm/core/Step", "undoes", "()Z"⟩ : MethodName)) hown (hw _ (List.mem_of_getElem? (i := 43) rfl)) (hw _ (List.mem_of_getElem? (i := 44) rfl)) (hw _ (List.mem_of_getElem? (i := 46) rfl)) (hw _ (List.mem_of_getElem? (i := 45) rfl)) (hw _ (List.mem_of_getElem? (i := 46) rfl)) rfl (by decide) (rmU_3 l Z a0 hw [] hj51 t0 (S_t0.ext Exj51) t1 (S_t1.ext Exj51) t2 (S_t2.ext Exj51) t3 (S_t3.ext Exj51) ne_t0_t1 ne_t0_t2 ne_t0_t3 ne_t1_t2 ne_t1_t3 ne_t2_t3) (hw _ (List.mem_of_getElem? (i := 47) rfl)) (hw _ (List.mem_of_getElem? (i := 5) rfl)) ej55 (E_t3.ext Exj51) (pc := 34) (Ls := #[.val (.int k), .val (.int z), .val (.ref t3), .val (.int (1 : Int32)), .val (.ref u0)]) (argsL := []) (rest := []) (by rw [hml]; rfl) (lenOf pd_5 rfl) (W := 0) (by decide) (by decide) (by decide) (by decide) (by decide) (hb hby at_34) rfl rfl ?_
          intro Tj56 Lj56 vj56 Xj56 hQj56
          obtain ⟨rfl, rfl, ej56⟩ := hQj56
          show own_EndsS _ _ pP eE bB sS _ _ Tj56 (mkF mI 37 #[.val (.int k), .val (.int z), .val (.ref t3), .val (.int (1 : Int32)), .val (.ref u0)] [(.int (1 : Int32))])
          refine own_goS (T' := Tj56) (g' := (mkF mI 40 #[.val (.int k), .val (.int z), .val (.ref t3), .val (.int (1 : Int32)), .val (.ref u0)] [])) (fun t_ kt_ => XS.ifNo Xj56.here hx rfl (hb hby at_37) rfl ((if0 _ _).trans (feq (by decide : ¬ ((1 : Int32) = (0 : Int32)))).1) kt_) ?_
          refine own_goS (T' := Tj56) (g' := (mkF mI 41 #[.val (.int k), .val (.int z), .val (.ref t3), .val (.int (1 : Int32)), .val (.ref u0)] [(.int (1 : Int32))])) (fun t_ kt_ => XS.iconst Xj56.here hx rfl (hb hby at_40) kt_) ?_
          refine own_goS (T' := Tj56) (g' := (mkF mI 45 #[.val (.int k), .val (.int z), .val (.ref t3), .val (.int (1 : Int32)), .val (.ref u0)] [(.int (1 : Int32))])) (fun t_ kt_ => XS.goto Xj56.here hx rfl (pc0 := 41) (pc' := 45) rfl (hb hby at_41) (by decide) (by decide) kt_) ?_
          refine own_leaveS Xj56 hlk (some (.int (nar .boolean (1 : Int32)))) (fun h => by rw [hret] at h; cases h) hS ej56 hk hZ hEL Cj51 (by decide) (by decide) ?_ (fun fs hr => retN Xj56 hx (t := .boolean) hret (by simp) (hb hby at_45) hr)
          exact ⟨rfl, rfl⟩
        · skip
          by_cases hz1 : ((z &&& (2147483647 : Int32)) % (3 : Int32)) = (1 : Int32)
          · skip
            refine own_goS (T' := Tj52) (g' := (mkF mI 16 #[.val (.int k), .val (.int z), .val (.ref t3), .val (.int (1 : Int32)), .unset] [(.int z)])) (fun t_ kt_ => XS.iloadN Xj52.here hx rfl (hb hby at_15) rfl kt_) ?_
            refine own_callS own_closedS Xj52 hx hZ (y := (⟨"com/example/inchworm/inchworm/core/StepUndoesPinLaw", "state", "(I)Lcom/example/inchworm/inchworm/core/VersionState;"⟩ : MethodName)) hown (hw _ (List.mem_of_getElem? (i := 36) rfl)) (hw _ (List.mem_of_getElem? (i := 37) rfl)) (by decide) (rmV_1 l Z a0 hw [] hj51 z hz0 hz1 u0 (S_u0.ext Exj51) u1 (S_u1.ext Exj51) u2 (S_u2.ext Exj51)) (hw _ (List.mem_of_getElem? (i := 38) rfl)) (hw _ (List.mem_of_getElem? (i := 2) rfl)) ej52 (pc := 16) (Ls := #[.val (.int k), .val (.int z), .val (.ref t3), .val (.int (1 : Int32)), .unset]) (argsL := [(.int z)]) (rest := []) (by rw [hml]; rfl) (lenOf pd_4 rfl) (W := 0) (by decide) (by decide) (by decide) (by decide) (by decide) (hb hby at_16) rfl rfl ?_
            intro Tj57 Lj57 vj57 Xj57 hQj57
            obtain ⟨rfl, rfl, ej57⟩ := hQj57
            show own_EndsS _ _ pP eE bB sS _ _ Tj57 (mkF mI 19 #[.val (.int k), .val (.int z), .val (.ref t3), .val (.int (1 : Int32)), .unset] [(.ref u1)])
            refine own_goS (T' := Tj57) (g' := (mkF mI 21 #[.val (.int k), .val (.int z), .val (.ref t3), .val (.int (1 : Int32)), .val (.ref u1)] [])) (fun t_ kt_ => XS.astore Xj57.here hx rfl (hb hby at_19) rfl rfl (l' := #[.val (.int k), .val (.int z), .val (.ref t3), .val (.int (1 : Int32)), .val (.ref u1)]) rfl kt_) ?_
            refine own_goS (T' := Tj57) (g' := (mkF mI 22 #[.val (.int k), .val (.int z), .val (.ref t3), .val (.int (1 : Int32)), .val (.ref u1)] [(.ref t3)])) (fun t_ kt_ => XS.aloadN Xj57.here hx rfl (hb hby at_21) rfl rfl kt_) ?_
            refine own_callV own_closedS Xj57 hx hZ (y := (⟨"com/example/inchworm/inchworm/core/Step", "undoes", "()Z"⟩ : MethodName)) (z := (⟨"com/example/inchworm/inchworm/core/Step", "undoes", "()Z"⟩ : MethodName)) hown (hw _ (List.mem_of_getElem? (i := 43) rfl)) (hw _ (List.mem_of_getElem? (i := 44) rfl)) (hw _ (List.mem_of_getElem? (i := 46) rfl)) (hw _ (List.mem_of_getElem? (i := 45) rfl)) (hw _ (List.mem_of_getElem? (i := 46) rfl)) rfl (by decide) (rmU_3 l Z a0 hw [] hj51 t0 (S_t0.ext Exj51) t1 (S_t1.ext Exj51) t2 (S_t2.ext Exj51) t3 (S_t3.ext Exj51) ne_t0_t1 ne_t0_t2 ne_t0_t3 ne_t1_t2 ne_t1_t3 ne_t2_t3) (hw _ (List.mem_of_getElem? (i := 47) rfl)) (hw _ (List.mem_of_getElem? (i := 5) rfl)) ej57 (E_t3.ext Exj51) (pc := 22) (Ls := #[.val (.int k), .val (.int z), .val (.ref t3), .val (.int (1 : Int32)), .val (.ref u1)]) (argsL := []) (rest := []) (by rw [hml]; rfl) (lenOf pd_5 rfl) (W := 0) (by decide) (by decide) (by decide) (by decide) (by decide) (hb hby at_22) rfl rfl ?_
            intro Tj58 Lj58 vj58 Xj58 hQj58
            obtain ⟨rfl, rfl, ej58⟩ := hQj58
            show own_EndsS _ _ pP eE bB sS _ _ Tj58 (mkF mI 25 #[.val (.int k), .val (.int z), .val (.ref t3), .val (.int (1 : Int32)), .val (.ref u1)] [(.int (1 : Int32))])
            refine own_goS (T' := Tj58) (g' := (mkF mI 26 #[.val (.int k), .val (.int z), .val (.ref t3), .val (.int (1 : Int32)), .val (.ref u1)] [(.int (1 : Int32)), (.int (1 : Int32))])) (fun t_ kt_ => XS.iloadN Xj58.here hx rfl (hb hby at_25) rfl kt_) ?_
            refine own_goS (T' := Tj58) (g' := (mkF mI 29 #[.val (.int k), .val (.int z), .val (.ref t3), .val (.int (1 : Int32)), .val (.ref u1)] [])) (fun t_ kt_ => XS.icmpNo Xj58.here hx rfl (hb hby at_26) rfl (teq (by decide : (1 : Int32) = (1 : Int32))).2 kt_) ?_
            refine own_goS (T' := Tj58) (g' := (mkF mI 31 #[.val (.int k), .val (.int z), .val (.ref t3), .val (.int (1 : Int32)), .val (.ref u1)] [(.ref u1)])) (fun t_ kt_ => XS.aload Xj58.here hx rfl (hb hby at_29) rfl rfl kt_) ?_
            refine own_callS own_closedS Xj58 hx hZ (y := (⟨"com/example/inchworm/inchworm/core/Step", "undo", "(Lcom/example/inchworm/inchworm/core/VersionState;)Lcom/example/inchworm/inchworm/core/Step;"⟩ : MethodName)) hown (hw _ (List.mem_of_getElem? (i := 52) rfl)) (hw _ (List.mem_of_getElem? (i := 53) rfl)) (by decide) (rmO_1 l Z a0 hw [] hj51 t0 (S_t0.ext Exj51) t1 (S_t1.ext Exj51) t2 (S_t2.ext Exj51) t3 (S_t3.ext Exj51) u0 (S_u0.ext Exj51) u1 (S_u1.ext Exj51) u2 (S_u2.ext Exj51) ne_u0_u1 ne_u0_u2 ne_u1_u2) (hw _ (List.mem_of_getElem? (i := 54) rfl)) (hw _ (List.mem_of_getElem? (i := 5) rfl)) ej58 (pc := 31) (Ls := #[.val (.int k), .val (.int z), .val (.ref t3), .val (.int (1 : Int32)), .val (.ref u1)]) (argsL := [(.ref u1)]) (rest := []) (by rw [hml]; rfl) (lenOf pd_6 rfl) (W := 0) (by decide) (by decide) (by decide) (by decide) (by decide) (hb hby at_31) rfl rfl ?_
            intro Tj59 Lj59 vj59 Xj59 hQj59
            obtain ⟨rfl, rfl, ej59⟩ := hQj59
            show own_EndsS _ _ pP eE bB sS _ _ Tj59 (mkF mI 34 #[.val (.int k), .val (.int z), .val (.ref t3), .val (.int (1 : Int32)), .val (.ref u1)] [(.ref t2)])
            refine own_callV own_closedS Xj59 hx hZ (y := (⟨"com/example/inchworm/inchworm/core/Step", "undoes", "()Z"⟩ : MethodName)) (z := (⟨"com/example/inchworm/inchworm/core/Step", "undoes", "()Z"⟩ : MethodName)) hown (hw _ (List.mem_of_getElem? (i := 43) rfl)) (hw _ (List.mem_of_getElem? (i := 44) rfl)) (hw _ (List.mem_of_getElem? (i := 46) rfl)) (hw _ (List.mem_of_getElem? (i := 45) rfl)) (hw _ (List.mem_of_getElem? (i := 46) rfl)) rfl (by decide) (rmU_2 l Z a0 hw [] hj51 t0 (S_t0.ext Exj51) t1 (S_t1.ext Exj51) t2 (S_t2.ext Exj51) t3 (S_t3.ext Exj51) ne_t0_t1 ne_t0_t2 ne_t0_t3 ne_t1_t2 ne_t1_t3 ne_t2_t3) (hw _ (List.mem_of_getElem? (i := 47) rfl)) (hw _ (List.mem_of_getElem? (i := 5) rfl)) ej59 (E_t2.ext Exj51) (pc := 34) (Ls := #[.val (.int k), .val (.int z), .val (.ref t3), .val (.int (1 : Int32)), .val (.ref u1)]) (argsL := []) (rest := []) (by rw [hml]; rfl) (lenOf pd_5 rfl) (W := 0) (by decide) (by decide) (by decide) (by decide) (by decide) (hb hby at_34) rfl rfl ?_
            intro Tj60 Lj60 vj60 Xj60 hQj60
            obtain ⟨rfl, rfl, ej60⟩ := hQj60
            show own_EndsS _ _ pP eE bB sS _ _ Tj60 (mkF mI 37 #[.val (.int k), .val (.int z), .val (.ref t3), .val (.int (1 : Int32)), .val (.ref u1)] [(.int (1 : Int32))])
            refine own_goS (T' := Tj60) (g' := (mkF mI 40 #[.val (.int k), .val (.int z), .val (.ref t3), .val (.int (1 : Int32)), .val (.ref u1)] [])) (fun t_ kt_ => XS.ifNo Xj60.here hx rfl (hb hby at_37) rfl ((if0 _ _).trans (feq (by decide : ¬ ((1 : Int32) = (0 : Int32)))).1) kt_) ?_
            refine own_goS (T' := Tj60) (g' := (mkF mI 41 #[.val (.int k), .val (.int z), .val (.ref t3), .val (.int (1 : Int32)), .val (.ref u1)] [(.int (1 : Int32))])) (fun t_ kt_ => XS.iconst Xj60.here hx rfl (hb hby at_40) kt_) ?_
            refine own_goS (T' := Tj60) (g' := (mkF mI 45 #[.val (.int k), .val (.int z), .val (.ref t3), .val (.int (1 : Int32)), .val (.ref u1)] [(.int (1 : Int32))])) (fun t_ kt_ => XS.goto Xj60.here hx rfl (pc0 := 41) (pc' := 45) rfl (hb hby at_41) (by decide) (by decide) kt_) ?_
            refine own_leaveS Xj60 hlk (some (.int (nar .boolean (1 : Int32)))) (fun h => by rw [hret] at h; cases h) hS ej60 hk hZ hEL Cj51 (by decide) (by decide) ?_ (fun fs hr => retN Xj60 hx (t := .boolean) hret (by simp) (hb hby at_45) hr)
            exact ⟨rfl, rfl⟩
          · skip
            refine own_goS (T' := Tj52) (g' := (mkF mI 16 #[.val (.int k), .val (.int z), .val (.ref t3), .val (.int (1 : Int32)), .unset] [(.int z)])) (fun t_ kt_ => XS.iloadN Xj52.here hx rfl (hb hby at_15) rfl kt_) ?_
            refine own_callS own_closedS Xj52 hx hZ (y := (⟨"com/example/inchworm/inchworm/core/StepUndoesPinLaw", "state", "(I)Lcom/example/inchworm/inchworm/core/VersionState;"⟩ : MethodName)) hown (hw _ (List.mem_of_getElem? (i := 36) rfl)) (hw _ (List.mem_of_getElem? (i := 37) rfl)) (by decide) (rmV_2 l Z a0 hw [] hj51 z hz0 hz1 u0 (S_u0.ext Exj51) u1 (S_u1.ext Exj51) u2 (S_u2.ext Exj51)) (hw _ (List.mem_of_getElem? (i := 38) rfl)) (hw _ (List.mem_of_getElem? (i := 2) rfl)) ej52 (pc := 16) (Ls := #[.val (.int k), .val (.int z), .val (.ref t3), .val (.int (1 : Int32)), .unset]) (argsL := [(.int z)]) (rest := []) (by rw [hml]; rfl) (lenOf pd_4 rfl) (W := 0) (by decide) (by decide) (by decide) (by decide) (by decide) (hb hby at_16) rfl rfl ?_
            intro Tj61 Lj61 vj61 Xj61 hQj61
            obtain ⟨rfl, rfl, ej61⟩ := hQj61
            show own_EndsS _ _ pP eE bB sS _ _ Tj61 (mkF mI 19 #[.val (.int k), .val (.int z), .val (.ref t3), .val (.int (1 : Int32)), .unset] [(.ref u2)])
            refine own_goS (T' := Tj61) (g' := (mkF mI 21 #[.val (.int k), .val (.int z), .val (.ref t3), .val (.int (1 : Int32)), .val (.ref u2)] [])) (fun t_ kt_ => XS.astore Xj61.here hx rfl (hb hby at_19) rfl rfl (l' := #[.val (.int k), .val (.int z), .val (.ref t3), .val (.int (1 : Int32)), .val (.ref u2)]) rfl kt_) ?_
            refine own_goS (T' := Tj61) (g' := (mkF mI 22 #[.val (.int k), .val (.int z), .val (.ref t3), .val (.int (1 : Int32)), .val (.ref u2)] [(.ref t3)])) (fun t_ kt_ => XS.aloadN Xj61.here hx rfl (hb hby at_21) rfl rfl kt_) ?_
            refine own_callV own_closedS Xj61 hx hZ (y := (⟨"com/example/inchworm/inchworm/core/Step", "undoes", "()Z"⟩ : MethodName)) (z := (⟨"com/example/inchworm/inchworm/core/Step", "undoes", "()Z"⟩ : MethodName)) hown (hw _ (List.mem_of_getElem? (i := 43) rfl)) (hw _ (List.mem_of_getElem? (i := 44) rfl)) (hw _ (List.mem_of_getElem? (i := 46) rfl)) (hw _ (List.mem_of_getElem? (i := 45) rfl)) (hw _ (List.mem_of_getElem? (i := 46) rfl)) rfl (by decide) (rmU_3 l Z a0 hw [] hj51 t0 (S_t0.ext Exj51) t1 (S_t1.ext Exj51) t2 (S_t2.ext Exj51) t3 (S_t3.ext Exj51) ne_t0_t1 ne_t0_t2 ne_t0_t3 ne_t1_t2 ne_t1_t3 ne_t2_t3) (hw _ (List.mem_of_getElem? (i := 47) rfl)) (hw _ (List.mem_of_getElem? (i := 5) rfl)) ej61 (E_t3.ext Exj51) (pc := 22) (Ls := #[.val (.int k), .val (.int z), .val (.ref t3), .val (.int (1 : Int32)), .val (.ref u2)]) (argsL := []) (rest := []) (by rw [hml]; rfl) (lenOf pd_5 rfl) (W := 0) (by decide) (by decide) (by decide) (by decide) (by decide) (hb hby at_22) rfl rfl ?_
            intro Tj62 Lj62 vj62 Xj62 hQj62
            obtain ⟨rfl, rfl, ej62⟩ := hQj62
            show own_EndsS _ _ pP eE bB sS _ _ Tj62 (mkF mI 25 #[.val (.int k), .val (.int z), .val (.ref t3), .val (.int (1 : Int32)), .val (.ref u2)] [(.int (1 : Int32))])
            refine own_goS (T' := Tj62) (g' := (mkF mI 26 #[.val (.int k), .val (.int z), .val (.ref t3), .val (.int (1 : Int32)), .val (.ref u2)] [(.int (1 : Int32)), (.int (1 : Int32))])) (fun t_ kt_ => XS.iloadN Xj62.here hx rfl (hb hby at_25) rfl kt_) ?_
            refine own_goS (T' := Tj62) (g' := (mkF mI 29 #[.val (.int k), .val (.int z), .val (.ref t3), .val (.int (1 : Int32)), .val (.ref u2)] [])) (fun t_ kt_ => XS.icmpNo Xj62.here hx rfl (hb hby at_26) rfl (teq (by decide : (1 : Int32) = (1 : Int32))).2 kt_) ?_
            refine own_goS (T' := Tj62) (g' := (mkF mI 31 #[.val (.int k), .val (.int z), .val (.ref t3), .val (.int (1 : Int32)), .val (.ref u2)] [(.ref u2)])) (fun t_ kt_ => XS.aload Xj62.here hx rfl (hb hby at_29) rfl rfl kt_) ?_
            refine own_callS own_closedS Xj62 hx hZ (y := (⟨"com/example/inchworm/inchworm/core/Step", "undo", "(Lcom/example/inchworm/inchworm/core/VersionState;)Lcom/example/inchworm/inchworm/core/Step;"⟩ : MethodName)) hown (hw _ (List.mem_of_getElem? (i := 52) rfl)) (hw _ (List.mem_of_getElem? (i := 53) rfl)) (by decide) (rmO_2 l Z a0 hw [] hj51 t0 (S_t0.ext Exj51) t1 (S_t1.ext Exj51) t2 (S_t2.ext Exj51) t3 (S_t3.ext Exj51) u0 (S_u0.ext Exj51) u1 (S_u1.ext Exj51) u2 (S_u2.ext Exj51) ne_u0_u1 ne_u0_u2 ne_u1_u2) (hw _ (List.mem_of_getElem? (i := 54) rfl)) (hw _ (List.mem_of_getElem? (i := 5) rfl)) ej62 (pc := 31) (Ls := #[.val (.int k), .val (.int z), .val (.ref t3), .val (.int (1 : Int32)), .val (.ref u2)]) (argsL := [(.ref u2)]) (rest := []) (by rw [hml]; rfl) (lenOf pd_6 rfl) (W := 0) (by decide) (by decide) (by decide) (by decide) (by decide) (hb hby at_31) rfl rfl ?_
            intro Tj63 Lj63 vj63 Xj63 hQj63
            obtain ⟨rfl, rfl, ej63⟩ := hQj63
            show own_EndsS _ _ pP eE bB sS _ _ Tj63 (mkF mI 34 #[.val (.int k), .val (.int z), .val (.ref t3), .val (.int (1 : Int32)), .val (.ref u2)] [(.ref t3)])
            refine own_callV own_closedS Xj63 hx hZ (y := (⟨"com/example/inchworm/inchworm/core/Step", "undoes", "()Z"⟩ : MethodName)) (z := (⟨"com/example/inchworm/inchworm/core/Step", "undoes", "()Z"⟩ : MethodName)) hown (hw _ (List.mem_of_getElem? (i := 43) rfl)) (hw _ (List.mem_of_getElem? (i := 44) rfl)) (hw _ (List.mem_of_getElem? (i := 46) rfl)) (hw _ (List.mem_of_getElem? (i := 45) rfl)) (hw _ (List.mem_of_getElem? (i := 46) rfl)) rfl (by decide) (rmU_3 l Z a0 hw [] hj51 t0 (S_t0.ext Exj51) t1 (S_t1.ext Exj51) t2 (S_t2.ext Exj51) t3 (S_t3.ext Exj51) ne_t0_t1 ne_t0_t2 ne_t0_t3 ne_t1_t2 ne_t1_t3 ne_t2_t3) (hw _ (List.mem_of_getElem? (i := 47) rfl)) (hw _ (List.mem_of_getElem? (i := 5) rfl)) ej63 (E_t3.ext Exj51) (pc := 34) (Ls := #[.val (.int k), .val (.int z), .val (.ref t3), .val (.int (1 : Int32)), .val (.ref u2)]) (argsL := []) (rest := []) (by rw [hml]; rfl) (lenOf pd_5 rfl) (W := 0) (by decide) (by decide) (by decide) (by decide) (by decide) (hb hby at_34) rfl rfl ?_
            intro Tj64 Lj64 vj64 Xj64 hQj64
            obtain ⟨rfl, rfl, ej64⟩ := hQj64
            show own_EndsS _ _ pP eE bB sS _ _ Tj64 (mkF mI 37 #[.val (.int k), .val (.int z), .val (.ref t3), .val (.int (1 : Int32)), .val (.ref u2)] [(.int (1 : Int32))])
            refine own_goS (T' := Tj64) (g' := (mkF mI 40 #[.val (.int k), .val (.int z), .val (.ref t3), .val (.int (1 : Int32)), .val (.ref u2)] [])) (fun t_ kt_ => XS.ifNo Xj64.here hx rfl (hb hby at_37) rfl ((if0 _ _).trans (feq (by decide : ¬ ((1 : Int32) = (0 : Int32)))).1) kt_) ?_
            refine own_goS (T' := Tj64) (g' := (mkF mI 41 #[.val (.int k), .val (.int z), .val (.ref t3), .val (.int (1 : Int32)), .val (.ref u2)] [(.int (1 : Int32))])) (fun t_ kt_ => XS.iconst Xj64.here hx rfl (hb hby at_40) kt_) ?_
            refine own_goS (T' := Tj64) (g' := (mkF mI 45 #[.val (.int k), .val (.int z), .val (.ref t3), .val (.int (1 : Int32)), .val (.ref u2)] [(.int (1 : Int32))])) (fun t_ kt_ => XS.goto Xj64.here hx rfl (pc0 := 41) (pc' := 45) rfl (hb hby at_41) (by decide) (by decide) kt_) ?_
            refine own_leaveS Xj64 hlk (some (.int (nar .boolean (1 : Int32)))) (fun h => by rw [hret] at h; cases h) hS ej64 hk hZ hEL Cj51 (by decide) (by decide) ?_ (fun fs hr => retN Xj64 hx (t := .boolean) hret (by simp) (hb hby at_45) hr)
            exact ⟨rfl, rfl⟩
set_option maxRecDepth 65536 in
set_option maxHeartbeats 40000000 in
theorem comes_1 {Post : Tables → Env → Array Value → State → Outcome → State → Prop} (hpost : ∀ tb e args s v u, (limb_1_1.after args s (.returned v) u = true ∧ limb_1_2.after args s (.returned v) u = true ∧ True) → ReturnedEndW s (.returned v) u (Jvm.fieldLocs frame_1_writes args s ++ Jvm.arrayLocs frame_1_arrays args s ++ Jvm.staticLocs frame_1_statics s) 8 1088 → Post tb e args s (.returned v) u) :
    ArmFor flags0 classFile x code maxLocals ret World_1 tables_1 room_1 Calls_1 rest_1 Pre_1 Post := by
  intro l hfl _ _ p e ha hc hk s m args below hf hA hF happ hP
  obtain ⟨hcalls, hrest, hpre⟩ := hP
  obtain ⟨-, -, -, hnamed, -, -, -, hat⟩ := (Spec.applies_iff hf).mp happ
  obtain ⟨hg, hn⟩ := and_e (Cond.before_iff.mp (show (Jvm.Cond.and given_1 narrow_1).before args s = true from hpre))
  obtain ⟨hg0, hgr0⟩ := and_e hg
  obtain ⟨hg1, hgr1⟩ := and_e hgr0
  obtain ⟨w0, w1, rfl⟩ : ∃ w0 w1 : Value, args = #[w0, w1] := by
    have hs : args.size = 2 := by simpa [Cond.value, given_1] using hg0
    obtain ⟨L⟩ := args
    match L, hs with
    | [w0, w1], _ => exact ⟨w0, w1, rfl⟩
  have hw := fun d (hd : d ∈ tables_1) => atoms_spec (ws := Jvm.Cond.code x code maxLocals ret :: tables_1) hat d (List.mem_cons_of_mem _ hd)
  have hfit : Fit s := fun {y c} hc i hi => by
    obtain ⟨ha, rfl⟩ := Array.getElem?_eq_some_iff.mp hc
    have q := List.all_eq_true.mp ((Array.all_eq_true_iff_forall_mem.mp hF) _ (Array.getElem_mem ha)) i (List.mem_range.mpr hi)
    simpa [Array.getElem?_eq_getElem hi] using q
  obtain ⟨hsets, hown0⟩ := atoms_of _ (rest_1_c_eq ▸ (show rest_1_c.before _ s = true from hrest))
  obtain ⟨i0, ei0⟩ := is_v hg1
  obtain rfl : w0 = (.int i0) := Option.some.inj ei0
  obtain ⟨i1, ei1⟩ := is_v hgr1
  obtain rfl : w1 = (.int i1) := Option.some.inj ei1
  obtain ⟨n0, nr0⟩ := and_e hn
  obtain ⟨n1, nr1⟩ := and_e nr0
  obtain ⟨n2, nr2⟩ := and_e nr1
  obtain ⟨n3, nr3⟩ := and_e nr2
  obtain ⟨n4, nr4⟩ := and_e nr3
  obtain ⟨n5, nr5⟩ := and_e nr4
  obtain ⟨n6, nr6⟩ := and_e nr5
  obtain ⟨n7, nr7⟩ := and_e nr6
  obtain ⟨n8, nr8⟩ := and_e nr7
  obtain ⟨n9, nr9⟩ := and_e nr8
  obtain ⟨n10, nr10⟩ := and_e nr9
  obtain ⟨n11, nr11⟩ := and_e nr10
  obtain ⟨n12, nr12⟩ := and_e nr11
  obtain ⟨n13, nr13⟩ := and_e nr12
  obtain ⟨n14, nr14⟩ := and_e nr13
  obtain ⟨n15, nr15⟩ := and_e nr14
  obtain ⟨n16, nr16⟩ := and_e nr15
  obtain ⟨n17, nr17⟩ := and_e nr16
  obtain ⟨n18, nr18⟩ := and_e nr17
  obtain ⟨n19, nr19⟩ := and_e nr18
  obtain ⟨n20, nr20⟩ := and_e nr19
  obtain ⟨n21, nr21⟩ := and_e nr20
  obtain ⟨n22, nr22⟩ := and_e nr21
  obtain ⟨n23, nr23⟩ := and_e nr22
  obtain ⟨n24, nr24⟩ := and_e nr23
  obtain ⟨n25, nr25⟩ := and_e nr24
  obtain ⟨n26, nr26⟩ := and_e nr25
  obtain ⟨n27, nr27⟩ := and_e nr26
  obtain ⟨n28, nr28⟩ := and_e nr27
  obtain ⟨n29, nr29⟩ := and_e nr28
  obtain ⟨n30, nr30⟩ := and_e nr29
  obtain ⟨n31, nr31⟩ := and_e nr30
  obtain ⟨n32, nr32⟩ := and_e nr31
  obtain ⟨n33, nr33⟩ := and_e nr32
  obtain ⟨n34, nr34⟩ := and_e nr33
  obtain ⟨n35, nr35⟩ := and_e nr34
  obtain ⟨n36, nr36⟩ := and_e nr35
  obtain ⟨n37, nr37⟩ := and_e nr36
  obtain ⟨n38, nr38⟩ := and_e nr37
  obtain ⟨n39, nr39⟩ := and_e nr38
  obtain ⟨n40, nr40⟩ := and_e nr39
  obtain ⟨n41, nr41⟩ := and_e nr40
  obtain ⟨n42, nr42⟩ := and_e nr41
  obtain ⟨n43, nr43⟩ := and_e nr42
  obtain ⟨n44, nr44⟩ := and_e nr43
  obtain ⟨n45, nr45⟩ := and_e nr44
  have n46 := nr45
  obtain ⟨t0, ev_t0⟩ := exa_v n0
  have E_t0 := Exa.start ev_t0 n0
  have S_t0 := Sta.start ev_t0 (Or.inr ⟨(hw _ (List.mem_of_getElem? (i := 5) rfl)), (hw _ (List.mem_of_getElem? (i := 6) rfl))⟩)
  obtain ⟨u0, ev_u0⟩ := exa_v n5
  have E_u0 := Exa.start ev_u0 n5
  have S_u0 := Sta.start ev_u0 (Or.inr ⟨(hw _ (List.mem_of_getElem? (i := 41) rfl)), (hw _ (List.mem_of_getElem? (i := 42) rfl))⟩)
  obtain ⟨t2, ev_t2⟩ := exa_v n6
  have E_t2 := Exa.start ev_t2 n6
  have S_t2 := Sta.start ev_t2 (Or.inr ⟨(hw _ (List.mem_of_getElem? (i := 5) rfl)), (hw _ (List.mem_of_getElem? (i := 49) rfl))⟩)
  obtain ⟨t3, ev_t3⟩ := exa_v n9
  have E_t3 := Exa.start ev_t3 n9
  have S_t3 := Sta.start ev_t3 (Or.inr ⟨(hw _ (List.mem_of_getElem? (i := 5) rfl)), (hw _ (List.mem_of_getElem? (i := 51) rfl))⟩)
  obtain ⟨u1, ev_u1⟩ := exa_v n11
  have E_u1 := Exa.start ev_u1 n11
  have S_u1 := Sta.start ev_u1 (Or.inr ⟨(hw _ (List.mem_of_getElem? (i := 41) rfl)), (hw _ (List.mem_of_getElem? (i := 56) rfl))⟩)
  obtain ⟨u2, ev_u2⟩ := exa_v n18
  have E_u2 := Exa.start ev_u2 n18
  have S_u2 := Sta.start ev_u2 (Or.inr ⟨(hw _ (List.mem_of_getElem? (i := 41) rfl)), (hw _ (List.mem_of_getElem? (i := 60) rfl))⟩)
  obtain ⟨t1, ev_t1⟩ := exa_v n20
  have E_t1 := Exa.start ev_t1 n20
  have S_t1 := Sta.start ev_t1 (Or.inr ⟨(hw _ (List.mem_of_getElem? (i := 5) rfl)), (hw _ (List.mem_of_getElem? (i := 62) rfl))⟩)
  have F_t0_ordinal := own_fldI ev_t0 n7
  have F_t2_ordinal := own_fldI ev_t2 n8
  have F_t3_ordinal := own_fldI ev_t3 n10
  have F_u0_ordinal := own_fldI ev_u0 n12
  have F_u1_ordinal := own_fldI ev_u1 n13
  have F_u2_ordinal := own_fldI ev_u2 n19
  have F_t1_ordinal := own_fldI ev_t1 n25
  obtain ⟨d0, ev_d0⟩ := exa_v n1
  have E_d0 := Exa.start ev_d0 n1
  have F_t0_done := Fld.start ((fld_at ev_t0).symm.trans ev_d0)
  obtain ⟨d2, ev_d2⟩ := exa_v n14
  have E_d2 := Exa.start ev_d2 n14
  have F_t2_done := Fld.start ((fld_at ev_t2).symm.trans ev_d2)
  obtain ⟨d1, ev_d1⟩ := exa_v n21
  have E_d1 := Exa.start ev_d1 n21
  have F_t1_done := Fld.start ((fld_at ev_t1).symm.trans ev_d1)
  have F_d0_coder := own_fldI ev_d0 n2
  obtain ⟨v0, ev_v0⟩ := arr_v n3
  have F_d0_value := Fld.start ((fld_at ev_d0).symm.trans ev_v0)
  obtain ⟨cl_v0, Ar_v0⟩ := Arr.start ev_v0 n3
  have L_v0 : cl_v0.slots.size = 7 := own_lenI ev_v0 Ar_v0 n4 (by decide)
  have F_d2_coder := own_fldI ev_d2 n15
  obtain ⟨v2, ev_v2⟩ := arr_v n16
  have F_d2_value := Fld.start ((fld_at ev_d2).symm.trans ev_v2)
  obtain ⟨cl_v2, Ar_v2⟩ := Arr.start ev_v2 n16
  have L_v2 : cl_v2.slots.size = 6 := own_lenI ev_v2 Ar_v2 n17 (by decide)
  have F_d1_coder := own_fldI ev_d1 n22
  obtain ⟨v1, ev_v1⟩ := arr_v n23
  have F_d1_value := Fld.start ((fld_at ev_d1).symm.trans ev_v1)
  obtain ⟨cl_v1, Ar_v1⟩ := Arr.start ev_v1 n23
  have L_v1 : cl_v1.slots.size = 7 := own_lenI ev_v1 Ar_v1 n24 (by decide)
  have F_t3_done := own_fldR ev_t3 ev_d2 n26
  have H_v0_0 : cl_v0.slots[0]? = some (.int (97 : Int32)) := own_elemI ev_v0 Ar_v0.1 n27
  have H_v0_1 : cl_v0.slots[1]? = some (.int (112 : Int32)) := own_elemI ev_v0 Ar_v0.1 n28
  have H_v0_2 : cl_v0.slots[2]? = some (.int (112 : Int32)) := own_elemI ev_v0 Ar_v0.1 n29
  have H_v0_3 : cl_v0.slots[3]? = some (.int (108 : Int32)) := own_elemI ev_v0 Ar_v0.1 n30
  have H_v0_4 : cl_v0.slots[4]? = some (.int (105 : Int32)) := own_elemI ev_v0 Ar_v0.1 n31
  have H_v0_5 : cl_v0.slots[5]? = some (.int (101 : Int32)) := own_elemI ev_v0 Ar_v0.1 n32
  have H_v0_6 : cl_v0.slots[6]? = some (.int (100 : Int32)) := own_elemI ev_v0 Ar_v0.1 n33
  have H_v2_0 : cl_v2.slots[0]? = some (.int (117 : Int32)) := own_elemI ev_v2 Ar_v2.1 n34
  have H_v2_1 : cl_v2.slots[1]? = some (.int (110 : Int32)) := own_elemI ev_v2 Ar_v2.1 n35
  have H_v2_2 : cl_v2.slots[2]? = some (.int (100 : Int32)) := own_elemI ev_v2 Ar_v2.1 n36
  have H_v2_3 : cl_v2.slots[3]? = some (.int (111 : Int32)) := own_elemI ev_v2 Ar_v2.1 n37
  have H_v2_4 : cl_v2.slots[4]? = some (.int (110 : Int32)) := own_elemI ev_v2 Ar_v2.1 n38
  have H_v2_5 : cl_v2.slots[5]? = some (.int (101 : Int32)) := own_elemI ev_v2 Ar_v2.1 n39
  have H_v1_0 : cl_v1.slots[0]? = some (.int (114 : Int32)) := own_elemI ev_v1 Ar_v1.1 n40
  have H_v1_1 : cl_v1.slots[1]? = some (.int (101 : Int32)) := own_elemI ev_v1 Ar_v1.1 n41
  have H_v1_2 : cl_v1.slots[2]? = some (.int (116 : Int32)) := own_elemI ev_v1 Ar_v1.1 n42
  have H_v1_3 : cl_v1.slots[3]? = some (.int (105 : Int32)) := own_elemI ev_v1 Ar_v1.1 n43
  have H_v1_4 : cl_v1.slots[4]? = some (.int (114 : Int32)) := own_elemI ev_v1 Ar_v1.1 n44
  have H_v1_5 : cl_v1.slots[5]? = some (.int (101 : Int32)) := own_elemI ev_v1 Ar_v1.1 n45
  have H_v1_6 : cl_v1.slots[6]? = some (.int (100 : Int32)) := own_elemI ev_v1 Ar_v1.1 n46
  have V_v0 : Arv s s.heap v0 cl_v0.cls .byte 7 [(.int (97 : Int32)), (.int (112 : Int32)), (.int (112 : Int32)), (.int (108 : Int32)), (.int (105 : Int32)), (.int (101 : Int32)), (.int (100 : Int32))] (.int 0) := Arv.start hfit Ar_v0 (by rw [L_v0]; decide) (by rw [L_v0]; rfl) (by decide) rfl ⟨H_v0_0, H_v0_1, H_v0_2, H_v0_3, H_v0_4, H_v0_5, H_v0_6, trivial⟩
  have V_v1 : Arv s s.heap v1 cl_v1.cls .byte 7 [(.int (114 : Int32)), (.int (101 : Int32)), (.int (116 : Int32)), (.int (105 : Int32)), (.int (114 : Int32)), (.int (101 : Int32)), (.int (100 : Int32))] (.int 0) := Arv.start hfit Ar_v1 (by rw [L_v1]; decide) (by rw [L_v1]; rfl) (by decide) rfl ⟨H_v1_0, H_v1_1, H_v1_2, H_v1_3, H_v1_4, H_v1_5, H_v1_6, trivial⟩
  have V_v2 : Arv s s.heap v2 cl_v2.cls .byte 6 [(.int (117 : Int32)), (.int (110 : Int32)), (.int (100 : Int32)), (.int (111 : Int32)), (.int (110 : Int32)), (.int (101 : Int32))] (.int 0) := Arv.start hfit Ar_v2 (by rw [L_v2]; decide) (by rw [L_v2]; rfl) (by decide) rfl ⟨H_v2_0, H_v2_1, H_v2_2, H_v2_3, H_v2_4, H_v2_5, trivial⟩
  have c0 := Cond.before_iff.mp (hsets _ (List.mem_of_getElem? (i := 1) rfl))
  obtain ⟨cs, ev_cs⟩ := is_v c0
  have S_cs := Sta.start ev_cs (Or.inl (hsets _ (List.mem_of_getElem? (i := 0) rfl)))
  have hcs : ¬ cs = 0 := fun q => by
    have w := Cond.before_iff.mp (hsets _ (List.mem_of_getElem? (i := 2) rfl))
    have w2 := not_v w
    rw [eq_i ev_cs (Term.int_eval (0)) (by rw [q])] at w2
    cases w2
  have hEL : EW s _ [("com/example/inchworm/inchworm/core/StepUndoesPinLaw", 45)] := EW.cons (hw _ (List.mem_of_getElem? (i := 14) rfl)) (by decide) EW.nil
  have hCH : CHv s [("com/example/inchworm/inchworm/core/StepUndoesPinLaw", 45)] s.vm s.heap := CHv.start hEL (fun p hp => hcalls.1 p hp) (hsets _ (List.mem_of_getElem? (i := 2) rfl)) (hw _ (List.mem_of_getElem? (i := 17) rfl)) (hw _ (List.mem_of_getElem? (i := 16) rfl))
  have hStr : ∀ a ∈ Bundle.stringAtoms, a.before _ s = true := fun a ha => by
    simp only [Bundle.stringAtoms, Bundle.sN, List.mem_cons, List.not_mem_nil, or_false] at ha
    rcases ha with rfl | rfl | rfl | rfl | rfl | rfl | rfl
    · exact (hw _ (List.mem_of_getElem? (i := 15) rfl))
    · exact (hw _ (List.mem_of_getElem? (i := 16) rfl))
    · exact (hw _ (List.mem_of_getElem? (i := 17) rfl))
    · exact (hw _ (List.mem_of_getElem? (i := 18) rfl))
    · exact (hw _ (List.mem_of_getElem? (i := 19) rfl))
    · exact (hw _ (List.mem_of_getElem? (i := 20) rfl))
    · exact (hw _ (List.mem_of_getElem? (i := 21) rfl))
  obtain ⟨n, o, h1, h2, h3, _, L, rfl, ⟨rfl, rfl⟩, -, hq⟩ := rm0 l s _ hw tables_1 s.heap hEL hStr i0 i1 cs S_cs hcs t0 S_t0 t1 S_t1 t2 S_t2 t3 S_t3 u0 S_u0 u1 S_u1 u2 S_u2 d0 v0 _ E_d0 F_d0_coder F_d0_value V_v0 d1 v1 _ E_d1 F_d1_coder F_d1_value V_v1 d2 v2 _ E_d2 F_d2_coder F_d2_value V_v2 E_t0 F_t0_done E_t1 F_t1_done E_t2 F_t2_done E_t3 F_t3_done (Fld.ne F_t0_ordinal F_t1_ordinal (fun q => absurd (Value.int.inj q) (by decide))) (Fld.ne F_t0_ordinal F_t2_ordinal (fun q => absurd (Value.int.inj q) (by decide))) (Fld.ne F_t0_ordinal F_t3_ordinal (fun q => absurd (Value.int.inj q) (by decide))) (Fld.ne F_t1_ordinal F_t2_ordinal (fun q => absurd (Value.int.inj q) (by decide))) (Fld.ne F_t1_ordinal F_t3_ordinal (fun q => absurd (Value.int.inj q) (by decide))) (Fld.ne F_t2_ordinal F_t3_ordinal (fun q => absurd (Value.int.inj q) (by decide))) (Fld.ne F_u0_ordinal F_u1_ordinal (fun q => absurd (Value.int.inj q) (by decide))) (Fld.ne F_u0_ordinal F_u2_ordinal (fun q => absurd (Value.int.inj q) (by decide))) (Fld.ne F_u1_ordinal F_u2_ordinal (fun q => absurd (Value.int.inj q) (by decide))) p e ha hc hk s m _ below hf ((Spec.applies_iff_loose hf).mp happ).1 ⟨rfl, State.Warmed39.refl s, rfl, hCH⟩ trivial
  exact ⟨n, _, h1, h2, h3, hpost _ _ _ _ _ _ ⟨Cond.after_iff.mpr rfl, Cond.after_iff.mpr (eq_i res_at (Term.int_eval (1)) rfl), trivial⟩ ⟨hq.1, hq.2.1, hq.2.2.1, (hq.2.2.2.sift fun y hy => nomatch hy).mono (by decide) (by decide)⟩⟩
theorem main_1_1 : Claimed_1_1 := comes_1 fun _ _ _ _ _ _ h hF => ⟨h.1, hF⟩
theorem main_1_2 : Claimed_1_2 := comes_1 fun _ _ _ _ _ _ h hF => ⟨h.2.1, hF⟩
end Jvm.Pilot.@@N@@
namespace Jvm.Pilot.@@N@@
open Jvm Jvm.ClassFile Sem Op Lib Jvm.Free Jvm.Stand Jvm.Pilot.@@N@@.Jvm.D
/-! MADE BY PROGRAM (witnessworld.py) out of the Statement's table words and the real class files: 19 classes; the members and pool entries that the words name. The judged class is class 1, her method 3. -/
namespace start1
open Jvm.ClassFile
def u (s : String) : CpInfo := .utf8 (stringToUtf16 s)
/-- a pool by its gaps: so many unusable entries, then the entry; so many at the end -/
def gap : Nat → List CpInfo → List CpInfo
  | 0, r => r
  | n + 1, r => .unusable :: gap n r
def poolList (es : List (Nat × CpInfo)) (last : Nat) : List CpInfo := es.foldr (fun e r => gap e.1 (e.2 :: r)) (gap last [])
def pool (es : List (Nat × CpInfo)) (last : Nat) : Array CpInfo := ⟨poolList es last⟩
def fileOf (pool : Array CpInfo) (this : Nat) (attrs : Array Attribute := #[]) (ms : Array MethodInfo := #[]) (fl : Nat := 33) (sup : Nat := 0) (ifs : Array Nat := #[]) (fds : Array FieldInfo := #[]) : ClassFile where
  minorVersion := 0
  majorVersion := 65
  constantPool := pool
  accessFlags := fl
  thisClass := this
  superClass := sup
  interfaces := ifs
  fields := fds
  methods := ms
  attributes := attrs
def plain (name : String) (sup : Option ClassId) : Class where
  name := name
  kind := .ordinary
  loader := none
  accessFlags := 33
  super := sup
  interfaces := #[]
  cf := none
  fields := #[]
  methods := #[]
  instanceTypes := #[]
  staticTypes := #[]
  resolved := #[]
  callSites := []
  init := .initialized
  statics := none
  mirror := none

def pool0 : Array CpInfo := pool [(5, u "<init>"), (0, u "()V"), (1, .class_ 10), (1, u "java/lang/Object")] 113

def k0m0 : Method := { name := "<init>", desc := "()V", sig := { parameters := [], returnType := none }, accessFlags := 1, code := none }
/-- java/lang/Object -/
def k0 : Class := { plain "java/lang/Object" none with
  accessFlags := 33
  interfaces := #[]
  cf := some (fileOf pool0 8 #[] #[{ accessFlags := 1, nameIndex := 5, descriptorIndex := 6, attributes := #[] }] 33 0 #[] #[])
  fields := #[]
  methods := #[k0m0]
  instanceTypes := #[]
  staticTypes := #[]
  resolved := Array.replicate 124 none
  statics := none }

def pool1 : Array CpInfo := pool [(2, .class_ 4), (1, u "java/lang/Object"), (0, u "<init>"), (0, u "()V"), (0, .fieldref 8 9), (0, .class_ 10), (0, .nameAndType 11 12), (0, u "com/example/inchworm/inchworm/core/Step"), (0, u "APPLY"), (0, u "Lcom/example/inchworm/inchworm/core/Step;"), (0, .fieldref 8 14), (0, .nameAndType 15 12), (0, u "RETIRE"), (0, .fieldref 8 17), (0, .nameAndType 18 12), (0, u "UNDO_TRANSITION"), (0, .fieldref 8 20), (0, .nameAndType 21 12), (0, u "UNDO_APPLIED"), (0, .integer 2147483647), (0, .fieldref 24 25), (0, .class_ 26), (0, .nameAndType 27 28), (0, u "com/example/inchworm/inchworm/core/VersionState"), (0, u "PENDING"), (0, u "Lcom/example/inchworm/inchworm/core/VersionState;"), (0, .fieldref 24 30), (0, .nameAndType 31 28), (0, u "TRANSITION"), (0, .fieldref 24 33), (0, .nameAndType 34 28), (0, u "APPLIED"), (0, .methodref 36 37), (0, .class_ 38), (0, .nameAndType 39 40), (0, u "com/example/inchworm/inchworm/core/StepUndoesPinLaw"), (0, u "step"), (0, u "(I)Lcom/example/inchworm/inchworm/core/Step;"), (0, .methodref 8 42), (0, .nameAndType 43 44), (0, u "done"), (0, u "()Ljava/lang/String;"), (0, .string 46), (0, u "undone"), (0, .methodref 48 49), (0, .class_ 50), (0, .nameAndType 51 52), (0, u "java/lang/String"), (0, u "equals"), (0, u "(Ljava/lang/Object;)Z"), (0, .methodref 36 54), (0, .nameAndType 55 56), (0, u "state"), (0, u "(I)Lcom/example/inchworm/inchworm/core/VersionState;"), (0, .methodref 8 58), (0, .nameAndType 59 60), (0, u "undoes"), (0, u "()Z"), (0, .methodref 8 62), (0, .nameAndType 63 64), (0, u "undo"), (0, u "(Lcom/example/inchworm/inchworm/core/VersionState;)Lcom/example/inchworm/inchworm/core/Step;"), (3, u "law"), (0, u "(II)Z")] 2

def k1m0 : Method := { name := "<init>", desc := "()V", sig := { parameters := [], returnType := none }, accessFlags := 1, code := none }
def k1c1 : Code := { maxStack := 2, maxLocals := 2, code := method_2_code, exceptionTable := #[], attributes := #[] }
def k1m1 : Method := { name := "step", desc := "(I)Lcom/example/inchworm/inchworm/core/Step;", sig := { parameters := [.int], returnType := some (.object "com/example/inchworm/inchworm/core/Step") }, accessFlags := 10, code := some k1c1 }
def k1c2 : Code := { maxStack := 2, maxLocals := 2, code := method_3_code, exceptionTable := #[], attributes := #[] }
def k1m2 : Method := { name := "state", desc := "(I)Lcom/example/inchworm/inchworm/core/VersionState;", sig := { parameters := [.int], returnType := some (.object "com/example/inchworm/inchworm/core/VersionState") }, accessFlags := 10, code := some k1c2 }
def k1c3 : Code := { maxStack := 2, maxLocals := 5, code := code, exceptionTable := #[], attributes := #[] }
def k1m3 : Method := { name := "law", desc := "(II)Z", sig := { parameters := [.int, .int], returnType := some .boolean }, accessFlags := 9, code := some k1c3 }
/-- com/example/inchworm/inchworm/core/StepUndoesPinLaw -/
def k1 : Class := { plain "com/example/inchworm/inchworm/core/StepUndoesPinLaw" (some 0) with
  accessFlags := 49
  interfaces := #[]
  cf := some (fileOf pool1 36 #[] #[{ accessFlags := 1, nameIndex := 5, descriptorIndex := 6, attributes := #[] }, { accessFlags := 10, nameIndex := 39, descriptorIndex := 40, attributes := #[] }, { accessFlags := 10, nameIndex := 55, descriptorIndex := 56, attributes := #[] }, { accessFlags := 9, nameIndex := 68, descriptorIndex := 69, attributes := #[] }] 49 2 #[] #[])
  fields := #[]
  methods := #[k1m0, k1m1, k1m2, k1m3]
  instanceTypes := #[]
  staticTypes := #[]
  resolved := Array.replicate 72 none
  statics := none }

def pool2 : Array CpInfo := pool [(1, .class_ 2), (0, u "java/lang/constant/Constable"), (0, .class_ 4), (0, u "java/lang/Object")] 6

/-- java/lang/constant/Constable -/
def k2 : Class := { plain "java/lang/constant/Constable" (some 0) with
  accessFlags := 1537
  interfaces := #[]
  cf := some (fileOf pool2 1 #[] #[] 1537 3 #[] #[])
  fields := #[]
  methods := #[]
  instanceTypes := #[]
  staticTypes := #[]
  resolved := Array.replicate 11 none
  statics := none }

def pool3 : Array CpInfo := pool [(1, .class_ 2), (0, u "java/lang/Comparable"), (0, .class_ 4), (0, u "java/lang/Object")] 7

/-- java/lang/Comparable -/
def k3 : Class := { plain "java/lang/Comparable" (some 0) with
  accessFlags := 1537
  interfaces := #[]
  cf := some (fileOf pool3 1 #[] #[] 1537 3 #[] #[])
  fields := #[]
  methods := #[]
  instanceTypes := #[]
  staticTypes := #[]
  resolved := Array.replicate 12 none
  statics := none }

def pool4 : Array CpInfo := pool [(1, .class_ 2), (0, u "java/io/Serializable"), (0, .class_ 4), (0, u "java/lang/Object")] 2

/-- java/io/Serializable -/
def k4 : Class := { plain "java/io/Serializable" (some 0) with
  accessFlags := 1537
  interfaces := #[]
  cf := some (fileOf pool4 1 #[] #[] 1537 3 #[] #[])
  fields := #[]
  methods := #[]
  instanceTypes := #[]
  staticTypes := #[]
  resolved := Array.replicate 7 none
  statics := none }

def pool5 : Array CpInfo := pool [(2, .class_ 4), (1, u "java/lang/Enum"), (0, u "name"), (0, u "Ljava/lang/String;"), (2, u "ordinal"), (0, u "I"), (1, .class_ 14), (1, u "java/lang/Object"), (4, u "hash"), (86, .class_ 108), (1, u "java/lang/Enum$EnumDesc"), (2, .class_ 112), (0, u "java/lang/constant/Constable"), (0, .class_ 114), (0, u "java/lang/Comparable"), (0, .class_ 116), (0, u "java/io/Serializable")] 87

/-- java/lang/Enum -/
def k5 : Class := { plain "java/lang/Enum" (some 0) with
  accessFlags := 1057
  interfaces := #[2, 3, 4]
  cf := some (fileOf pool5 2 #[.nestMembers #[106]] #[] 1057 12 #[111, 113, 115] #[{ accessFlags := 18, nameIndex := 5, descriptorIndex := 6, attributes := #[] }, { accessFlags := 18, nameIndex := 9, descriptorIndex := 10, attributes := #[] }, { accessFlags := 2, nameIndex := 19, descriptorIndex := 10, attributes := #[] }])
  fields := #[{ name := "name", type := (.object "java/lang/String"), accessFlags := 18, slot := 0, constantValue := 0 }, { name := "ordinal", type := .int, accessFlags := 18, slot := 1, constantValue := 0 }, { name := "hash", type := .int, accessFlags := 2, slot := 2, constantValue := 0 }]
  methods := #[]
  instanceTypes := #[(.object "java/lang/String"), .int, .int]
  staticTypes := #[]
  resolved := Array.replicate 204 none
  statics := none }

def pool6 : Array CpInfo := pool [(1, .class_ 2), (0, u "com/example/inchworm/inchworm/core/Step"), (2, u "APPLY"), (0, u "Lcom/example/inchworm/inchworm/core/Step;"), (2, u "RETIRE"), (0, .fieldref 1 11), (0, .nameAndType 12 6), (0, u "UNDO_TRANSITION"), (0, .fieldref 1 14), (0, .nameAndType 15 6), (0, u "UNDO_APPLIED"), (2, u "$VALUES"), (0, u "[Lcom/example/inchworm/inchworm/core/Step;"), (6, .class_ 28), (1, u "java/lang/Enum"), (6, .fieldref 1 36), (0, .nameAndType 37 38), (0, u "done"), (0, u "Ljava/lang/String;"), (0, .fieldref 40 41), (0, .class_ 42), (0, .nameAndType 43 44), (0, u "com/example/inchworm/inchworm/core/VersionState"), (0, u "TRANSITION"), (0, u "Lcom/example/inchworm/inchworm/core/VersionState;"), (14, u "undoes"), (0, u "()Z"), (2, u "undo"), (0, u "(Lcom/example/inchworm/inchworm/core/VersionState;)Lcom/example/inchworm/inchworm/core/Step;"), (38, u "()Ljava/lang/String;")] 5

def k6c0 : Code := { maxStack := 2, maxLocals := 1, code := prog_40_method_4_code, exceptionTable := #[], attributes := #[] }
def k6m0 : Method := { name := "undo", desc := "(Lcom/example/inchworm/inchworm/core/VersionState;)Lcom/example/inchworm/inchworm/core/Step;", sig := { parameters := [(.object "com/example/inchworm/inchworm/core/VersionState")], returnType := some (.object "com/example/inchworm/inchworm/core/Step") }, accessFlags := 9, code := some k6c0 }
def k6c1 : Code := { maxStack := 1, maxLocals := 1, code := prog_40_method_6_code, exceptionTable := #[], attributes := #[] }
def k6m1 : Method := { name := "done", desc := "()Ljava/lang/String;", sig := { parameters := [], returnType := some (.object "java/lang/String") }, accessFlags := 1, code := some k6c1 }
def k6c2 : Code := { maxStack := 2, maxLocals := 1, code := prog_40_method_7_code, exceptionTable := #[], attributes := #[] }
def k6m2 : Method := { name := "undoes", desc := "()Z", sig := { parameters := [], returnType := some .boolean }, accessFlags := 1, code := some k6c2 }
/-- com/example/inchworm/inchworm/core/Step -/
def k6 : Class := { plain "com/example/inchworm/inchworm/core/Step" (some 5) with
  accessFlags := 16433
  interfaces := #[]
  cf := some (fileOf pool6 1 #[] #[{ accessFlags := 9, nameIndex := 63, descriptorIndex := 64, attributes := #[] }, { accessFlags := 1, nameIndex := 37, descriptorIndex := 103, attributes := #[] }, { accessFlags := 1, nameIndex := 59, descriptorIndex := 60, attributes := #[] }] 16433 26 #[] #[{ accessFlags := 16409, nameIndex := 5, descriptorIndex := 6, attributes := #[] }, { accessFlags := 16409, nameIndex := 9, descriptorIndex := 6, attributes := #[] }, { accessFlags := 16409, nameIndex := 12, descriptorIndex := 6, attributes := #[] }, { accessFlags := 16409, nameIndex := 15, descriptorIndex := 6, attributes := #[] }, { accessFlags := 18, nameIndex := 37, descriptorIndex := 38, attributes := #[] }, { accessFlags := 4122, nameIndex := 18, descriptorIndex := 19, attributes := #[] }])
  fields := #[{ name := "APPLY", type := (.object "com/example/inchworm/inchworm/core/Step"), accessFlags := 16409, slot := 0, constantValue := 0 }, { name := "RETIRE", type := (.object "com/example/inchworm/inchworm/core/Step"), accessFlags := 16409, slot := 1, constantValue := 0 }, { name := "UNDO_TRANSITION", type := (.object "com/example/inchworm/inchworm/core/Step"), accessFlags := 16409, slot := 2, constantValue := 0 }, { name := "UNDO_APPLIED", type := (.object "com/example/inchworm/inchworm/core/Step"), accessFlags := 16409, slot := 3, constantValue := 0 }, { name := "done", type := (.object "java/lang/String"), accessFlags := 18, slot := 3, constantValue := 0 }, { name := "$VALUES", type := (.array (.object "com/example/inchworm/inchworm/core/Step")), accessFlags := 4122, slot := 4, constantValue := 0 }]
  methods := #[k6m0, k6m1, k6m2]
  instanceTypes := #[(.object "java/lang/String"), .int, .int, (.object "java/lang/String")]
  staticTypes := #[(.object "com/example/inchworm/inchworm/core/Step"), (.object "com/example/inchworm/inchworm/core/Step"), (.object "com/example/inchworm/inchworm/core/Step"), (.object "com/example/inchworm/inchworm/core/Step"), (.array (.object "com/example/inchworm/inchworm/core/Step"))]
  resolved := Array.replicate 109 none
  statics := some 0 }

def pool7 : Array CpInfo := pool [(2, .class_ 4), (1, u "java/lang/CharSequence"), (42, .class_ 48), (0, u "java/lang/CharSequence$1CodePointIterator"), (10, .class_ 60), (0, u "java/lang/CharSequence$1CharIterator"), (5, .class_ 67), (0, u "java/lang/Object")] 63

/-- java/lang/CharSequence -/
def k7 : Class := { plain "java/lang/CharSequence" (some 0) with
  accessFlags := 1537
  interfaces := #[]
  cf := some (fileOf pool7 2 #[.nestMembers #[47, 59]] #[] 1537 66 #[] #[])
  fields := #[]
  methods := #[]
  instanceTypes := #[]
  staticTypes := #[]
  resolved := Array.replicate 131 none
  statics := none }

def pool8 : Array CpInfo := pool [(1, .class_ 2), (0, u "java/lang/constant/ConstantDesc"), (0, .class_ 4), (0, u "java/lang/Object")] 32

/-- java/lang/constant/ConstantDesc -/
def k8 : Class := { plain "java/lang/constant/ConstantDesc" (some 0) with
  accessFlags := 1537
  interfaces := #[]
  cf := some (fileOf pool8 1 #[] #[] 1537 3 #[] #[])
  fields := #[]
  methods := #[]
  instanceTypes := #[]
  staticTypes := #[]
  resolved := Array.replicate 37 none
  statics := none }

def pool9 : Array CpInfo := pool [(2, .class_ 4), (1, u "java/lang/Object"), (0, u "<init>"), (0, u "()V"), (2, .fieldref 10 11), (0, .class_ 12), (0, .nameAndType 13 14), (0, u "java/lang/String"), (0, u "value"), (0, u "[B"), (0, .fieldref 10 16), (0, .nameAndType 17 18), (0, u "coder"), (0, u "B"), (2, u "hash"), (0, u "I"), (2, u "hashIsZero"), (0, u "Z"), (11, .fieldref 10 39), (0, .nameAndType 40 26), (0, u "COMPACT_STRINGS"), (66, .class_ 109), (1, u "java/lang/StringLatin1"), (431, .methodref 107 542), (0, .nameAndType 543 544), (0, u "equals"), (0, u "([B[B)Z"), (28, u "(Ljava/lang/Object;)Z"), (1, .class_ 576), (0, u "java/lang/CharSequence"), (22, u "CASE_INSENSITIVE_ORDER"), (0, u "Ljava/util/Comparator;"), (500, u "serialPersistentFields"), (0, u "[Ljava/io/ObjectStreamField;"), (0, .class_ 1104), (0, u "java/lang/String$CaseInsensitiveComparator"), (1, .class_ 1107), (0, u "java/io/Serializable"), (0, .class_ 1109), (0, u "java/lang/Comparable"), (0, .class_ 1111), (0, u "java/lang/constant/Constable"), (0, .class_ 1113), (0, u "java/lang/constant/ConstantDesc"), (2, u "serialVersionUID"), (0, u "J"), (3, u "REPL"), (0, u "C"), (2, u "LATIN1"), (1, u "UTF16")] 323

def k9m0 : Method := { name := "<init>", desc := "()V", sig := { parameters := [], returnType := none }, accessFlags := 1, code := none }
def k9c1 : Code := { maxStack := 2, maxLocals := 3, code := jdk_42_method_66_code, exceptionTable := #[], attributes := #[] }
def k9m1 : Method := { name := "equals", desc := "(Ljava/lang/Object;)Z", sig := { parameters := [(.object "java/lang/Object")], returnType := some .boolean }, accessFlags := 1, code := some k9c1 }
/-- java/lang/String -/
def k9 : Class := { plain "java/lang/String" (some 0) with
  accessFlags := 49
  interfaces := #[4, 3, 7, 2, 8]
  cf := some (fileOf pool9 10 #[.nestMembers #[1103]] #[{ accessFlags := 1, nameIndex := 5, descriptorIndex := 6, attributes := #[] }, { accessFlags := 1, nameIndex := 543, descriptorIndex := 573, attributes := #[] }] 49 2 #[1106, 1108, 575, 1110, 1112] #[{ accessFlags := 18, nameIndex := 13, descriptorIndex := 14, attributes := #[] }, { accessFlags := 18, nameIndex := 17, descriptorIndex := 18, attributes := #[] }, { accessFlags := 2, nameIndex := 21, descriptorIndex := 22, attributes := #[] }, { accessFlags := 2, nameIndex := 25, descriptorIndex := 26, attributes := #[] }, { accessFlags := 26, nameIndex := 1116, descriptorIndex := 1117, attributes := #[] }, { accessFlags := 24, nameIndex := 40, descriptorIndex := 26, attributes := #[] }, { accessFlags := 26, nameIndex := 1101, descriptorIndex := 1102, attributes := #[] }, { accessFlags := 26, nameIndex := 1121, descriptorIndex := 1122, attributes := #[] }, { accessFlags := 25, nameIndex := 599, descriptorIndex := 600, attributes := #[] }, { accessFlags := 24, nameIndex := 1125, descriptorIndex := 18, attributes := #[] }, { accessFlags := 24, nameIndex := 1127, descriptorIndex := 18, attributes := #[] }])
  fields := #[{ name := "value", type := (.array .byte), accessFlags := 18, slot := 0, constantValue := 0 }, { name := "coder", type := .byte, accessFlags := 18, slot := 1, constantValue := 0 }, { name := "hash", type := .int, accessFlags := 2, slot := 2, constantValue := 0 }, { name := "hashIsZero", type := .boolean, accessFlags := 2, slot := 3, constantValue := 0 }, { name := "serialVersionUID", type := .long, accessFlags := 26, slot := 0, constantValue := 0 }, { name := "COMPACT_STRINGS", type := .boolean, accessFlags := 24, slot := 1, constantValue := 0 }, { name := "serialPersistentFields", type := (.array (.object "java/io/ObjectStreamField")), accessFlags := 26, slot := 2, constantValue := 0 }, { name := "REPL", type := .char, accessFlags := 26, slot := 3, constantValue := 0 }, { name := "CASE_INSENSITIVE_ORDER", type := (.object "java/util/Comparator"), accessFlags := 25, slot := 4, constantValue := 0 }, { name := "LATIN1", type := .byte, accessFlags := 24, slot := 5, constantValue := 0 }, { name := "UTF16", type := .byte, accessFlags := 24, slot := 6, constantValue := 0 }]
  methods := #[k9m0, k9m1]
  instanceTypes := #[(.array .byte), .byte, .int, .boolean]
  staticTypes := #[.long, .boolean, (.array (.object "java/io/ObjectStreamField")), .char, (.object "java/util/Comparator"), .byte, .byte]
  resolved := Array.replicate 1451 none
  statics := some 1 }

def pool10 : Array CpInfo := pool [(4, .class_ 6), (1, u "java/lang/Object"), (0, u "<init>"), (0, u "()V"), (5, .class_ 16), (1, u "java/lang/StringLatin1"), (104, u "$assertionsDisabled"), (0, u "Z"), (98, .class_ 223), (1, u "java/lang/StringLatin1$LinesSpliterator"), (57, u "equals"), (0, u "([B[B)Z"), (107, .class_ 391), (0, u "java/lang/StringLatin1$CharsSpliterator")] 3

def k10m0 : Method := { name := "<init>", desc := "()V", sig := { parameters := [], returnType := none }, accessFlags := 0, code := none }
def k10c1 : Code := { maxStack := 3, maxLocals := 3, code := jdk_43_method_13_code, exceptionTable := #[], attributes := #[] }
def k10m1 : Method := { name := "equals", desc := "([B[B)Z", sig := { parameters := [(.array .byte), (.array .byte)], returnType := some .boolean }, accessFlags := 9, code := some k10c1 }
/-- java/lang/StringLatin1 -/
def k10 : Class := { plain "java/lang/StringLatin1" (some 0) with
  accessFlags := 48
  interfaces := #[]
  cf := some (fileOf pool10 14 #[.nestMembers #[390, 221]] #[{ accessFlags := 0, nameIndex := 7, descriptorIndex := 8, attributes := #[] }, { accessFlags := 9, nameIndex := 281, descriptorIndex := 282, attributes := #[] }] 48 4 #[] #[{ accessFlags := 4120, nameIndex := 121, descriptorIndex := 122, attributes := #[] }])
  fields := #[{ name := "$assertionsDisabled", type := .boolean, accessFlags := 4120, slot := 0, constantValue := 0 }]
  methods := #[k10m0, k10m1]
  instanceTypes := #[]
  staticTypes := #[.boolean]
  resolved := Array.replicate 395 none
  statics := none }

def pool11 : Array CpInfo := pool [(1, .class_ 2), (0, u "com/example/inchworm/inchworm/core/VersionState"), (2, u "PENDING"), (0, u "Lcom/example/inchworm/inchworm/core/VersionState;"), (2, u "TRANSITION"), (2, u "APPLIED"), (2, u "$VALUES"), (0, u "[Lcom/example/inchworm/inchworm/core/VersionState;"), (6, .class_ 25), (1, u "java/lang/Enum")] 76

/-- com/example/inchworm/inchworm/core/VersionState -/
def k11 : Class := { plain "com/example/inchworm/inchworm/core/VersionState" (some 5) with
  accessFlags := 16433
  interfaces := #[]
  cf := some (fileOf pool11 1 #[] #[] 16433 23 #[] #[{ accessFlags := 16409, nameIndex := 5, descriptorIndex := 6, attributes := #[] }, { accessFlags := 16409, nameIndex := 9, descriptorIndex := 6, attributes := #[] }, { accessFlags := 16409, nameIndex := 12, descriptorIndex := 6, attributes := #[] }, { accessFlags := 4122, nameIndex := 15, descriptorIndex := 16, attributes := #[] }])
  fields := #[{ name := "PENDING", type := (.object "com/example/inchworm/inchworm/core/VersionState"), accessFlags := 16409, slot := 0, constantValue := 0 }, { name := "TRANSITION", type := (.object "com/example/inchworm/inchworm/core/VersionState"), accessFlags := 16409, slot := 1, constantValue := 0 }, { name := "APPLIED", type := (.object "com/example/inchworm/inchworm/core/VersionState"), accessFlags := 16409, slot := 2, constantValue := 0 }, { name := "$VALUES", type := (.array (.object "com/example/inchworm/inchworm/core/VersionState")), accessFlags := 4122, slot := 3, constantValue := 0 }]
  methods := #[]
  instanceTypes := #[(.object "java/lang/String"), .int, .int]
  staticTypes := #[(.object "com/example/inchworm/inchworm/core/VersionState"), (.object "com/example/inchworm/inchworm/core/VersionState"), (.object "com/example/inchworm/inchworm/core/VersionState"), (.array (.object "com/example/inchworm/inchworm/core/VersionState"))]
  resolved := Array.replicate 102 none
  statics := some 2 }

def pool12 : Array CpInfo := pool [(2, .class_ 4), (1, u "java/lang/Object"), (0, u "<init>"), (0, u "()V"), (17, .class_ 26), (1, u "jdk/internal/util/Preconditions"), (28, .class_ 56), (0, u "jdk/internal/util/Preconditions$4"), (57, .class_ 115), (0, u "jdk/internal/util/Preconditions$1"), (7, u "SIOOBE_FORMATTER"), (0, u "Ljava/util/function/BiFunction;"), (0, .class_ 126), (0, u "jdk/internal/util/Preconditions$2"), (3, u "AIOOBE_FORMATTER"), (0, .class_ 132), (0, u "jdk/internal/util/Preconditions$3"), (3, u "IOOBE_FORMATTER")] 57

def k12m0 : Method := { name := "<init>", desc := "()V", sig := { parameters := [], returnType := none }, accessFlags := 1, code := none }
/-- jdk/internal/util/Preconditions -/
def k12 : Class := { plain "jdk/internal/util/Preconditions" (some 0) with
  accessFlags := 33
  interfaces := #[]
  cf := some (fileOf pool12 24 #[.nestMembers #[55, 131, 125, 114]] #[{ accessFlags := 1, nameIndex := 5, descriptorIndex := 6, attributes := #[] }] 33 2 #[] #[{ accessFlags := 25, nameIndex := 123, descriptorIndex := 124, attributes := #[] }, { accessFlags := 25, nameIndex := 130, descriptorIndex := 124, attributes := #[] }, { accessFlags := 25, nameIndex := 136, descriptorIndex := 124, attributes := #[] }])
  fields := #[{ name := "SIOOBE_FORMATTER", type := (.object "java/util/function/BiFunction"), accessFlags := 25, slot := 0, constantValue := 0 }, { name := "AIOOBE_FORMATTER", type := (.object "java/util/function/BiFunction"), accessFlags := 25, slot := 1, constantValue := 0 }, { name := "IOOBE_FORMATTER", type := (.object "java/util/function/BiFunction"), accessFlags := 25, slot := 2, constantValue := 0 }]
  methods := #[k12m0]
  instanceTypes := #[]
  staticTypes := #[(.object "java/util/function/BiFunction"), (.object "java/util/function/BiFunction"), (.object "java/util/function/BiFunction")]
  resolved := Array.replicate 194 none
  statics := some 3 }

def pool13 : Array CpInfo := pool [(9, u "<init>"), (6, .class_ 18), (1, u "java/lang/Object"), (0, u "()V"), (1, .class_ 23), (1, u "jdk/internal/util/ArraysSupport"), (0, u "LOG2_ARRAY_LONG_INDEX_SCALE"), (0, u "I"), (2, u "U"), (0, u "Ljdk/internal/misc/Unsafe;"), (8, u "BIG_ENDIAN"), (0, u "Z"), (8, u "LOG2_BYTE_BIT_SIZE"), (4, u "LOG2_ARRAY_INT_INDEX_SCALE"), (54, u "JLA"), (0, u "Ljdk/internal/access/JavaLangAccess;"), (11, u "LOG2_ARRAY_BOOLEAN_INDEX_SCALE"), (9, u "LOG2_ARRAY_BYTE_INDEX_SCALE"), (5, u "LOG2_ARRAY_CHAR_INDEX_SCALE"), (5, u "LOG2_ARRAY_SHORT_INDEX_SCALE"), (18, u "LOG2_ARRAY_FLOAT_INDEX_SCALE"), (24, u "LOG2_ARRAY_DOUBLE_INDEX_SCALE"), (89, u "T_BOOLEAN"), (2, u "T_CHAR"), (1, u "T_FLOAT"), (1, u "T_DOUBLE"), (1, u "T_BYTE"), (1, u "T_SHORT"), (1, u "T_INT"), (1, u "T_LONG"), (1, u "SOFT_MAX_ARRAY_LENGTH")] 83

def k13m0 : Method := { name := "<init>", desc := "()V", sig := { parameters := [], returnType := none }, accessFlags := 2, code := none }
/-- jdk/internal/util/ArraysSupport -/
def k13 : Class := { plain "jdk/internal/util/ArraysSupport" (some 0) with
  accessFlags := 33
  interfaces := #[]
  cf := some (fileOf pool13 21 #[] #[{ accessFlags := 2, nameIndex := 9, descriptorIndex := 19, attributes := #[] }] 33 16 #[] #[{ accessFlags := 24, nameIndex := 28, descriptorIndex := 29, attributes := #[] }, { accessFlags := 26, nameIndex := 38, descriptorIndex := 39, attributes := #[] }, { accessFlags := 25, nameIndex := 121, descriptorIndex := 25, attributes := #[] }, { accessFlags := 25, nameIndex := 131, descriptorIndex := 25, attributes := #[] }, { accessFlags := 25, nameIndex := 137, descriptorIndex := 25, attributes := #[] }, { accessFlags := 25, nameIndex := 143, descriptorIndex := 25, attributes := #[] }, { accessFlags := 25, nameIndex := 53, descriptorIndex := 25, attributes := #[] }, { accessFlags := 25, nameIndex := 24, descriptorIndex := 25, attributes := #[] }, { accessFlags := 25, nameIndex := 162, descriptorIndex := 25, attributes := #[] }, { accessFlags := 25, nameIndex := 187, descriptorIndex := 25, attributes := #[] }, { accessFlags := 26, nameIndex := 48, descriptorIndex := 25, attributes := #[] }, { accessFlags := 25, nameIndex := 277, descriptorIndex := 25, attributes := #[] }, { accessFlags := 25, nameIndex := 280, descriptorIndex := 25, attributes := #[] }, { accessFlags := 25, nameIndex := 282, descriptorIndex := 25, attributes := #[] }, { accessFlags := 25, nameIndex := 284, descriptorIndex := 25, attributes := #[] }, { accessFlags := 25, nameIndex := 286, descriptorIndex := 25, attributes := #[] }, { accessFlags := 25, nameIndex := 288, descriptorIndex := 25, attributes := #[] }, { accessFlags := 25, nameIndex := 290, descriptorIndex := 25, attributes := #[] }, { accessFlags := 25, nameIndex := 292, descriptorIndex := 25, attributes := #[] }, { accessFlags := 26, nameIndex := 108, descriptorIndex := 109, attributes := #[] }, { accessFlags := 25, nameIndex := 294, descriptorIndex := 25, attributes := #[] }])
  fields := #[{ name := "U", type := (.object "jdk/internal/misc/Unsafe"), accessFlags := 24, slot := 0, constantValue := 0 }, { name := "BIG_ENDIAN", type := .boolean, accessFlags := 26, slot := 1, constantValue := 0 }, { name := "LOG2_ARRAY_BOOLEAN_INDEX_SCALE", type := .int, accessFlags := 25, slot := 2, constantValue := 0 }, { name := "LOG2_ARRAY_BYTE_INDEX_SCALE", type := .int, accessFlags := 25, slot := 3, constantValue := 0 }, { name := "LOG2_ARRAY_CHAR_INDEX_SCALE", type := .int, accessFlags := 25, slot := 4, constantValue := 0 }, { name := "LOG2_ARRAY_SHORT_INDEX_SCALE", type := .int, accessFlags := 25, slot := 5, constantValue := 0 }, { name := "LOG2_ARRAY_INT_INDEX_SCALE", type := .int, accessFlags := 25, slot := 6, constantValue := 0 }, { name := "LOG2_ARRAY_LONG_INDEX_SCALE", type := .int, accessFlags := 25, slot := 7, constantValue := 0 }, { name := "LOG2_ARRAY_FLOAT_INDEX_SCALE", type := .int, accessFlags := 25, slot := 8, constantValue := 0 }, { name := "LOG2_ARRAY_DOUBLE_INDEX_SCALE", type := .int, accessFlags := 25, slot := 9, constantValue := 0 }, { name := "LOG2_BYTE_BIT_SIZE", type := .int, accessFlags := 26, slot := 10, constantValue := 0 }, { name := "T_BOOLEAN", type := .int, accessFlags := 25, slot := 11, constantValue := 0 }, { name := "T_CHAR", type := .int, accessFlags := 25, slot := 12, constantValue := 0 }, { name := "T_FLOAT", type := .int, accessFlags := 25, slot := 13, constantValue := 0 }, { name := "T_DOUBLE", type := .int, accessFlags := 25, slot := 14, constantValue := 0 }, { name := "T_BYTE", type := .int, accessFlags := 25, slot := 15, constantValue := 0 }, { name := "T_SHORT", type := .int, accessFlags := 25, slot := 16, constantValue := 0 }, { name := "T_INT", type := .int, accessFlags := 25, slot := 17, constantValue := 0 }, { name := "T_LONG", type := .int, accessFlags := 25, slot := 18, constantValue := 0 }, { name := "JLA", type := (.object "jdk/internal/access/JavaLangAccess"), accessFlags := 26, slot := 19, constantValue := 0 }, { name := "SOFT_MAX_ARRAY_LENGTH", type := .int, accessFlags := 25, slot := 20, constantValue := 0 }]
  methods := #[k13m0]
  instanceTypes := #[]
  staticTypes := #[(.object "jdk/internal/misc/Unsafe"), .boolean, .int, .int, .int, .int, .int, .int, .int, .int, .int, .int, .int, .int, .int, .int, .int, .int, .int, (.object "jdk/internal/access/JavaLangAccess"), .int]
  resolved := Array.replicate 378 none
  statics := none }

def pool14 : Array CpInfo := pool [(1, u "java/lang/Cloneable"), (0, .class_ 1), (0, u "java/lang/Object"), (0, .class_ 3)] 3

/-- java/lang/Cloneable -/
def k14 : Class := { plain "java/lang/Cloneable" (some 0) with
  accessFlags := 1537
  interfaces := #[]
  cf := some (fileOf pool14 2 #[] #[] 1537 4 #[] #[])
  fields := #[]
  methods := #[]
  instanceTypes := #[]
  staticTypes := #[]
  resolved := Array.replicate 8 none
  statics := none }

/-- the primitive byte -/
def k15 : Class := { plain "byte" none with kind := .primitive 'B', accessFlags := 0x411 }
/-- [B -/
def k16 : Class := { plain "[B" (some 0) with kind := .array 15 .byte, interfaces := #[14, 4], accessFlags := 1041 }

/-- the primitive int -/
def k17 : Class := { plain "int" none with kind := .primitive 'I', accessFlags := 0x411 }
/-- [I -/
def k18 : Class := { plain "[I" (some 0) with kind := .array 17 .int, interfaces := #[14, 4], accessFlags := 1041 }

def heap : Heap := #[{ cls := 6, slots := #[.ref 10, .ref 11, .ref 12, .ref 13, .null], vm := .statics 6 },
  { cls := 9, slots := #[.long 0, .int 1, .null, .int 0, .null, .int 0, .int 0], vm := .statics 9 },
  { cls := 11, slots := #[.ref 14, .ref 15, .ref 16, .null], vm := .statics 11 },
  { cls := 12, slots := #[.null, .null, .null], vm := .statics 12 },
  { cls := 16, slots := #[.int 97, .int 112, .int 112, .int 108, .int 105, .int 101, .int 100], vm := .none },
  { cls := 16, slots := #[.int 114, .int 101, .int 116, .int 105, .int 114, .int 101, .int 100], vm := .none },
  { cls := 16, slots := #[.int 117, .int 110, .int 100, .int 111, .int 110, .int 101], vm := .none },
  { cls := 9, slots := #[.ref 4, .int 0, .int 0, .int 0], vm := .none },
  { cls := 9, slots := #[.ref 5, .int 0, .int 0, .int 0], vm := .none },
  { cls := 9, slots := #[.ref 6, .int 0, .int 0, .int 0], vm := .none },
  { cls := 6, slots := #[.null, .int 0, .int 0, .ref 7], vm := .none },
  { cls := 6, slots := #[.null, .int 1, .int 0, .ref 8], vm := .none },
  { cls := 6, slots := #[.null, .int 2, .int 0, .ref 9], vm := .none },
  { cls := 6, slots := #[.null, .int 3, .int 0, .ref 9], vm := .none },
  { cls := 11, slots := #[.null, .int 0, .int 0], vm := .none },
  { cls := 11, slots := #[.null, .int 1, .int 0], vm := .none },
  { cls := 11, slots := #[.null, .int 2, .int 0], vm := .none }]
def classes : Array Class := #[k0, k1, k2, k3, k4, k5, k6, k7, k8, k9, k10, k11, k12, k13, k14, k15, k16, k17, k18]
def interned : List (Array UInt16 × Addr) := []
def slotsUsed : Nat := 76
def theMethod : MethodId := ⟨1, 3⟩
def args0 : Array Value := #[.int 5, .int 3]
def aboutOver (below : List Frame) : State where
  vm := { classes := classes, interned := interned.toArray }
  heap := heap
  slotsUsed := slotsUsed
  threads := #[{ frames := .invoking theMethod args0 :: below }]
def below0 : List Frame := [.native { method := ⟨0, 0⟩, args := #[] }]
def about1 : State := aboutOver below0
def p0 : Program := .bare "" "" ""
def e0 : Env := launch0.env 0 0 0
theorem w_frames : about1.frames = Frame.invoking theMethod args0 :: below0 := rfl
set_option maxRecDepth 65536 in
theorem w_args : argsFit about1.vm theMethod args0 = true := by decide +kernel
set_option maxRecDepth 65536 in
theorem w_heap : heapFits about1 = true := by decide +kernel
set_option maxRecDepth 65536 in
theorem w_runnable : about1.curStatus? = some .runnable := by decide +kernel
set_option maxRecDepth 65536 in
theorem w_alone : about1.alone = true := by decide +kernel
set_option maxRecDepth 65536 in
theorem w_named : about1.methodNamed? x = some theMethod := by decide +kernel
set_option maxRecDepth 65536 in
theorem w_hears : about1.hears theMethod below0 = true := by decide +kernel
set_option maxRecDepth 65536 in
theorem w_ripe : about1.ripe theMethod args0 below0 = true := by decide +kernel
theorem w_running : about1.status = .running := rfl
set_option maxRecDepth 65536 in
theorem w_room : about1.hasRoom e0.platform room_1 = true :=
  launch0.hasRoom_least _ room_1 (by decide +kernel) (by decide +kernel) (by decide +kernel) (by decide +kernel) (by decide +kernel) (by decide +kernel)
theorem allAtoms_all (ts : List Jvm.Cond) (a : Array Jvm.Value) (st : Jvm.State) : (allAtoms ts).before a st = ts.all (fun c => c.before a st) := by
  induction ts with
  | nil => rfl
  | cons c t ih =>
    show (Jvm.Cond.and c (allAtoms t)).before a st = _
    rw [Jvm.Cond.before_and, ih, List.all_cons]
def words1 : List Jvm.Cond := Jvm.Cond.code x code maxLocals ret :: tables_1
/-- a 'code' word, met by the world's own term for the bytes: nothing is compared byte by byte -/
theorem code_word {y : MethodName} {bytes : ByteArray} {mx : Nat} {rt : Option FieldType} {a : Array Value} {s : State} {m : MethodId} {meth : Method} {c : Code} (h1 : s.methodNamed? y = some m) (h2 : s.vm.method? m = some meth) (h3 : meth.code = some c) (h4 : c.code = bytes)
    (h5 : (c.maxLocals == mx && c.exceptionTable.isEmpty && decide (c.maxStack ≤ mostOperands) && decide (meth.sig.returnType = rt) && !meth.locks && decide (parseMethodDescriptor y.desc = some meth.sig)) = true) : (Jvm.Cond.code y bytes mx rt).before a s = true := by
  simp only [Bool.and_eq_true, beq_iff_eq, Bool.not_eq_true', decide_eq_true_eq] at h5
  obtain ⟨⟨⟨⟨⟨g1, g2⟩, g3⟩, g4⟩, g5⟩, g6⟩ := h5
  simp [Cond.before, Cond.holds, Cond.value, h1, h2, h3, h4, g1, g2, g3, g4, g5, g6]
def isCode : Jvm.Cond → Bool
  | .code _ _ _ _ => true
  | _ => false
theorem all_split {L : List Jvm.Cond} {P : Jvm.Cond → Bool} (h1 : L.all (fun c => isCode c || P c) = true) (h2 : ∀ c ∈ L.filter isCode, P c = true) : L.all P = true := by
  refine List.all_eq_true.mpr fun c hc => ?_
  have h := List.all_eq_true.mp h1 c hc
  rcases Bool.eq_false_or_eq_true (isCode c) with hi | hi
  · exact h2 c (List.mem_filter.mpr ⟨hc, hi⟩)
  · simpa [hi] using h
set_option maxRecDepth 65536 in
theorem w_c0 : (Jvm.Cond.code x code maxLocals ret).before args0 about1 = true := code_word (m := ⟨1, 3⟩) (meth := k1m3) (c := k1c3) (by decide +kernel) rfl rfl rfl (by decide +kernel)
set_option maxRecDepth 65536 in
theorem w_c1 : (Jvm.Cond.code ({ cls := "com/example/inchworm/inchworm/core/StepUndoesPinLaw", name := "step", desc := "(I)Lcom/example/inchworm/inchworm/core/Step;" } : Jvm.MethodName) method_2_code (2 : Nat) (Option.some (Jvm.ClassFile.FieldType.object "com/example/inchworm/inchworm/core/Step"))).before args0 about1 = true := code_word (m := ⟨1, 1⟩) (meth := k1m1) (c := k1c1) (by decide +kernel) rfl rfl rfl (by decide +kernel)
set_option maxRecDepth 65536 in
theorem w_c2 : (Jvm.Cond.code ({ cls := "com/example/inchworm/inchworm/core/Step", name := "done", desc := "()Ljava/lang/String;" } : Jvm.MethodName) prog_40_method_6_code (1 : Nat) (Option.some (Jvm.ClassFile.FieldType.object "java/lang/String"))).before args0 about1 = true := code_word (m := ⟨6, 1⟩) (meth := k6m1) (c := k6c1) (by decide +kernel) rfl rfl rfl (by decide +kernel)
set_option maxRecDepth 65536 in
theorem w_c3 : (Jvm.Cond.code ({ cls := "java/lang/String", name := "equals", desc := "(Ljava/lang/Object;)Z" } : Jvm.MethodName) jdk_42_method_66_code (3 : Nat) (Option.some Jvm.ClassFile.FieldType.boolean)).before args0 about1 = true := code_word (m := ⟨9, 1⟩) (meth := k9m1) (c := k9c1) (by decide +kernel) rfl rfl rfl (by decide +kernel)
set_option maxRecDepth 65536 in
theorem w_c4 : (Jvm.Cond.code ({ cls := "java/lang/StringLatin1", name := "equals", desc := "([B[B)Z" } : Jvm.MethodName) jdk_43_method_13_code (3 : Nat) (Option.some Jvm.ClassFile.FieldType.boolean)).before args0 about1 = true := code_word (m := ⟨10, 1⟩) (meth := k10m1) (c := k10c1) (by decide +kernel) rfl rfl rfl (by decide +kernel)
set_option maxRecDepth 65536 in
theorem w_c5 : (Jvm.Cond.code ({ cls := "com/example/inchworm/inchworm/core/StepUndoesPinLaw", name := "state", desc := "(I)Lcom/example/inchworm/inchworm/core/VersionState;" } : Jvm.MethodName) method_3_code (2 : Nat) (Option.some (Jvm.ClassFile.FieldType.object "com/example/inchworm/inchworm/core/VersionState"))).before args0 about1 = true := code_word (m := ⟨1, 2⟩) (meth := k1m2) (c := k1c2) (by decide +kernel) rfl rfl rfl (by decide +kernel)
set_option maxRecDepth 65536 in
theorem w_c6 : (Jvm.Cond.code ({ cls := "com/example/inchworm/inchworm/core/Step", name := "undoes", desc := "()Z" } : Jvm.MethodName) prog_40_method_7_code (1 : Nat) (Option.some Jvm.ClassFile.FieldType.boolean)).before args0 about1 = true := code_word (m := ⟨6, 2⟩) (meth := k6m2) (c := k6c2) (by decide +kernel) rfl rfl rfl (by decide +kernel)
set_option maxRecDepth 65536 in
theorem w_c7 : (Jvm.Cond.code ({ cls := "com/example/inchworm/inchworm/core/Step", name := "undo", desc := "(Lcom/example/inchworm/inchworm/core/VersionState;)Lcom/example/inchworm/inchworm/core/Step;" } : Jvm.MethodName) prog_40_method_4_code (1 : Nat) (Option.some (Jvm.ClassFile.FieldType.object "com/example/inchworm/inchworm/core/Step"))).before args0 about1 = true := code_word (m := ⟨6, 0⟩) (meth := k6m0) (c := k6c0) (by decide +kernel) rfl rfl rfl (by decide +kernel)
def codes1 : List Jvm.Cond := [Jvm.Cond.code x code maxLocals ret, Jvm.Cond.code ({ cls := "com/example/inchworm/inchworm/core/StepUndoesPinLaw", name := "step", desc := "(I)Lcom/example/inchworm/inchworm/core/Step;" } : Jvm.MethodName) method_2_code (2 : Nat) (Option.some (Jvm.ClassFile.FieldType.object "com/example/inchworm/inchworm/core/Step")), Jvm.Cond.code ({ cls := "com/example/inchworm/inchworm/core/Step", name := "done", desc := "()Ljava/lang/String;" } : Jvm.MethodName) prog_40_method_6_code (1 : Nat) (Option.some (Jvm.ClassFile.FieldType.object "java/lang/String")), Jvm.Cond.code ({ cls := "java/lang/String", name := "equals", desc := "(Ljava/lang/Object;)Z" } : Jvm.MethodName) jdk_42_method_66_code (3 : Nat) (Option.some Jvm.ClassFile.FieldType.boolean), Jvm.Cond.code ({ cls := "java/lang/StringLatin1", name := "equals", desc := "([B[B)Z" } : Jvm.MethodName) jdk_43_method_13_code (3 : Nat) (Option.some Jvm.ClassFile.FieldType.boolean), Jvm.Cond.code ({ cls := "com/example/inchworm/inchworm/core/StepUndoesPinLaw", name := "state", desc := "(I)Lcom/example/inchworm/inchworm/core/VersionState;" } : Jvm.MethodName) method_3_code (2 : Nat) (Option.some (Jvm.ClassFile.FieldType.object "com/example/inchworm/inchworm/core/VersionState")), Jvm.Cond.code ({ cls := "com/example/inchworm/inchworm/core/Step", name := "undoes", desc := "()Z" } : Jvm.MethodName) prog_40_method_7_code (1 : Nat) (Option.some Jvm.ClassFile.FieldType.boolean), Jvm.Cond.code ({ cls := "com/example/inchworm/inchworm/core/Step", name := "undo", desc := "(Lcom/example/inchworm/inchworm/core/VersionState;)Lcom/example/inchworm/inchworm/core/Step;" } : Jvm.MethodName) prog_40_method_4_code (1 : Nat) (Option.some (Jvm.ClassFile.FieldType.object "com/example/inchworm/inchworm/core/Step"))]
set_option maxRecDepth 65536 in
theorem codes_eq : words1.filter isCode = codes1 := rfl
theorem w_codes : ∀ c ∈ words1.filter isCode, c.before args0 about1 = true := by
  rw [codes_eq]
  intro c hc
  simp only [codes1, List.mem_cons, List.not_mem_nil, or_false] at hc
  rcases hc with rfl | rfl | rfl | rfl | rfl | rfl | rfl | rfl
  · exact w_c0
  · exact w_c1
  · exact w_c2
  · exact w_c3
  · exact w_c4
  · exact w_c5
  · exact w_c6
  · exact w_c7
set_option maxRecDepth 65536 in
theorem w_t1 : (words1.take 24).all (fun c => isCode c || c.before args0 about1) = true := by decide +kernel
set_option maxRecDepth 65536 in
theorem w_t2 : ((words1.drop 24).take 24).all (fun c => isCode c || c.before args0 about1) = true := by decide +kernel
set_option maxRecDepth 65536 in
theorem w_t3 : ((words1.drop 24).drop 24).all (fun c => isCode c || c.before args0 about1) = true := by decide +kernel
theorem w_tables : (allAtoms (Jvm.Cond.code x code maxLocals ret :: tables_1)).before args0 about1 = true := by
  rw [allAtoms_all]
  show words1.all (fun c => c.before args0 about1) = true
  refine all_split ?_ w_codes
  rw [← List.take_append_drop 24 words1, List.all_append, w_t1, ← List.take_append_drop 24 (words1.drop 24), List.all_append, w_t2, w_t3]
  rfl
set_option maxRecDepth 65536 in
theorem w_rest : rest_1_c.before args0 about1 = true := by decide +kernel
set_option maxRecDepth 65536 in
theorem w_case : (Jvm.Cond.and given_1 narrow_1).before args0 about1 = true := by decide +kernel
set_option maxRecDepth 65536 in
theorem w_consts : constsHeld consts_1 about1 := Jvm.Lit.constsHeldB_iff.mp (by decide +kernel)
theorem w_applies : (headSpec (Jvm.Cond.code x code maxLocals ret :: tables_1) room_1).applies x e0.platform about1 = true :=
  (Spec.applies_iff w_frames).mpr ⟨w_running, w_runnable, w_alone, w_named, w_hears, w_ripe, w_room, w_tables⟩
theorem atStart : AtStart classFile x code maxLocals ret World_1 tables_1 room_1 Calls_1 rest_1 Pre_1 launch0 p0 e0 about1 theMethod args0 below0 :=
  ⟨lists_1, trivial, launch0.admits_env _ _ _, launch0.least_env, fairChoices_fair.cas, fairChoices_fair.clock, w_frames, w_args, w_heap, w_applies, ⟨w_consts, trivial⟩, w_rest, w_case⟩
end start1
theorem witness_1 : WitnessClaimed_1 := ⟨start1.p0, start1.e0, start1.about1, start1.theMethod, start1.args0, start1.below0, start1.atStart⟩
end Jvm.Pilot.@@N@@
