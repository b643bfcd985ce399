import JvmDerived
import JvmDerived.Pilot.@@N@@Statement
import JvmDerived.Pilot.@@N@@Code
set_option linter.unusedVariables false
set_option linter.unusedSimpArgs false
namespace Jvm.RoadKit
open Sem ClassFile Op Lib Jvm.Stand Jvm.Free Jvm.LawKit
section Own
variable {p : Program} {l : Launch} {e : Env} {R : Room} {s : State} {m : MethodId} {args : Array Value} {below : List Frame} {meth : Method} {c : Code} {T T' : State} {locs : List Loc} {cells slots : Nat} {Z : State} {h0 h : Heap} {a0 : Array Value} {Q Q' : Option Value → Heap → List Loc → Prop} {rm rm0 : Room}
/-- from here on the walk returns, and what it leaves is Q -/
def own_Ends (p : Program) (e : Env) (below : List Frame) (s : State) (Q : Option Value → Heap → List Loc → Prop) (rm : Room) (T : State) (g : JFrame) : Prop :=
  ∃ s₂ o, Steps p.tables e below (T.setTop g) s₂ ∧ s₂.status = .running ∧ Ended s₂ below o ∧ ∃ v L, o = .returned v ∧ Q v s₂.heap L ∧ FrameEnd s o s₂ L rm.cells rm.slots
theorem own_go {g g' : JFrame} (h : ∀ t, Steps p.tables e below (T'.setTop g') t → Steps p.tables e below (T.setTop g) t) (H : own_Ends p e below s Q rm T' g') : own_Ends p e below s Q rm T g := by
  obtain ⟨s₂, o, h1, r⟩ := H
  exact ⟨s₂, o, h _ h1, r⟩
/-- a goal that may be stepped back -/
def own_Closed (p : Program) (e : Env) (below : List Frame) (G : State → JFrame → Prop) : Prop := ∀ (T T' : State) (g g' : JFrame), (∀ t, Steps p.tables e below (T'.setTop g') t → Steps p.tables e below (T.setTop g) t) → G T' g' → G T g
theorem own_closed : own_Closed p e below (own_Ends p e below s Q rm) := fun _ _ _ _ h H => own_go h H
theorem own_cast {g g' : JFrame} (q : g = g') (H : own_Ends p e below s Q rm T g') : own_Ends p e below s Q rm T g := q ▸ H
/-- it gives r back, and the heap as it was -/
def own_QP (h0 : Heap) (r : Option Value) (v : Option Value) (h : Heap) (L : List Loc) : Prop := v = r ∧ L = [] ∧ h = h0
theorem own_lrem (x y : Int64) : x - (x / y) * y = x % y := by
  apply Int64.toInt_inj.mp
  have h1 := Int64.le_toInt (x % y)
  have h2 := Int64.toInt_lt (x % y)
  rw [Int64.toInt_sub, Int64.toInt_mul, Int64.toInt_div, Int.bmod_mul_bmod, Int.sub_bmod_bmod, Int.mul_comm (x.toInt.tdiv y.toInt), ← Int.tmod_def, ← Int64.toInt_mod]
  exact Int.bmod_eq_of_le_mul_two (by omega) (by omega)
theorem own_lremM {g : JFrame} {target : State} (X : Stand p l e R s m args below meth c T locs cells slots) (hx : p.tables.exec = Jvm.exec) (hg : g.method = m) {x y : Int64} {rest : List Value} (hd : decode c.code g.pc = .ok (.lrem, 1)) (hs : g.stack = .long y :: .long x :: rest) (hy : y ≠ 0)
    (hr : Steps p.tables e below (T.setTop { g with pc := g.pc + 1, stack := .long (x % y) :: rest }) target) : Steps p.tables e below (T.setTop g) target := by
  have q : x - x / y * y = x % y := own_lrem x y
  exact XS.lrem X.here hx hg hd hs hy (by rw [q]; exact hr)
/-- a body's contract -/
def own_Met (l : Launch) (Z : State) (y : MethodName) (bytes : ByteArray) (maxL : Nat) (ret : Option FieldType) (ws : List Cond) (rm : Room) (as' : Array Value) (h0 : Heap) (Q : Option Value → Heap → List Loc → Prop) : Prop :=
  MetFree l y (head1 (Cond.code y bytes maxL ret :: ws) rm) (fun a U => a = as' ∧ Z.Warmed39 U.vm ∧ U.heap = h0) (fun _ _ _ _ _ => True) (fun _ U o U' => ∃ v L, o = .returned v ∧ Q v U'.heap L ∧ FrameEnd U o U' L rm.cells rm.slots)
theorem own_met {y : MethodName} {bytes : ByteArray} {maxL : Nat} {ret : Option FieldType} {ws : List Cond} {as' : Array Value} (hy : plainFor y = true)
    (H : ∀ (p : Program) (e : Env) (s : State) (m : MethodId) (below : List Frame) (meth : Method) (c : Code) (s₁ : State), p.tables.exec = Jvm.exec → c.code = bytes → c.maxLocals = maxL → s.vm.findClass y.cls = some m.cls → meth.name = y.name → meth.sig.returnType = ret → meth.locks = false → Z.Warmed39 s.vm →
      Stand p l e rm s m as' below meth c s₁ [] 0 0 → s₁.heap = h0 → own_Ends p e below s Q rm s₁ (entryFrame m as' maxL)) : own_Met l Z y bytes maxL ret ws rm as' h0 Q := by
  refine MetFree.of_bodySF hy hisR ?_
  intro p e s m args below meth c s₁ Bd hml0 hP hK
  obtain ⟨rfl, hZ, hh⟩ := hP
  exact H p e s m below meth c s₁ Bd.exec Bd.bytes hml0 (findClass_of_methodNamed Bd.named) (name_of_methodNamed Bd.named Bd.method).1 Bd.returns Bd.notSynchronized hZ (Stand.of_body Bd) (by rw [← hh, Bd.state]; rfl)
theorem own_retI (X : Stand p l e R s m args below meth c T locs cells slots) (hx : p.tables.exec = Jvm.exec) (hlk : meth.locks = false) {pc : Nat} {Ls : Array Slot} {z : Int32} {rest : List Value} (hret : meth.sig.returnType = some .int) (hd : decode c.code pc = .ok (.ireturn, 1))
    (hk : cells ≤ rm.cells) (hn : slots ≤ rm.slots) (hq : Q (some (.int z)) T.heap locs) : own_Ends p e below s Q rm T (mkF m pc Ls (.int z :: rest)) := by
  obtain ⟨fs, hr, hrun, hended, hW, hsame⟩ := X.leave (v := some (.int z)) (fun h => by rw [hret] at h; cases h) hlk
  exact ⟨_, _, retOut X hx hret rfl (Or.inl ⟨rfl, Or.inl rfl, z, rfl⟩) hd hr, hrun, hended, _, _, rfl, hq, ⟨_, rfl⟩, hW, hsame.mono hk hn⟩
theorem own_retN (X : Stand p l e R s m args below meth c T locs cells slots) (hx : p.tables.exec = Jvm.exec) (hlk : meth.locks = false) {pc : Nat} {Ls : Array Slot} {z z' : Int32} {t : FieldType} {rest : List Value} (hret : meth.sig.returnType = some t) (ht : t = .boolean ∨ t = .byte ∨ t = .char ∨ t = .short) (hd : decode c.code pc = .ok (.ireturn, 1)) (hz : nar t z = z')
    (hk : cells ≤ rm.cells) (hn : slots ≤ rm.slots) (hq : Q (some (.int z')) T.heap locs) : own_Ends p e below s Q rm T (mkF m pc Ls (.int z :: rest)) := by
  subst hz
  obtain ⟨fs, hr, hrun, hended, hW, hsame⟩ := X.leave (v := some (.int (nar t z))) (fun h => by rw [hret] at h; cases h) hlk
  exact ⟨_, _, retN X hx hret ht hd hr, hrun, hended, _, _, rfl, hq, ⟨_, rfl⟩, hW, hsame.mono hk hn⟩
theorem own_retA (X : Stand p l e R s m args below meth c T locs cells slots) (hx : p.tables.exec = Jvm.exec) (hlk : meth.locks = false) {pc : Nat} {Ls : Array Slot} {w : Value} {t : FieldType} {rest : List Value} (hret : meth.sig.returnType = some t) (ht : t.isReference = true) (hw : w.isRef = true) (hd : decode c.code pc = .ok (.areturn, 1))
    (hk : cells ≤ rm.cells) (hn : slots ≤ rm.slots) (hq : Q (some w) T.heap locs) : own_Ends p e below s Q rm T (mkF m pc Ls (w :: rest)) := by
  obtain ⟨fs, hr, hrun, hended, hW, hsame⟩ := X.leave (v := some w) (fun h => by rw [hret] at h; cases h) hlk
  have hnw : narrow t w = w := by cases w <;> cases t <;> first | rfl | cases ht | cases hw
  exact ⟨_, _, retOut X hx hret hnw (Or.inr (Or.inr (Or.inr (Or.inr ⟨rfl, ht, hw⟩)))) hd hr, hrun, hended, _, _, rfl, hq, ⟨_, rfl⟩, hW, hsame.mono hk hn⟩
theorem own_retJ (X : Stand p l e R s m args below meth c T locs cells slots) (hx : p.tables.exec = Jvm.exec) (hlk : meth.locks = false) {pc : Nat} {Ls : Array Slot} {z : Int64} {rest : List Value} (hret : meth.sig.returnType = some .long) (hd : decode c.code pc = .ok (.lreturn, 1))
    (hk : cells ≤ rm.cells) (hn : slots ≤ rm.slots) (hq : Q (some (.long z)) T.heap locs) : own_Ends p e below s Q rm T (mkF m pc Ls (.long z :: rest)) := by
  obtain ⟨fs, hr, hrun, hended, hW, hsame⟩ := X.leave (v := some (.long z)) (fun h => by rw [hret] at h; cases h) hlk
  exact ⟨_, _, retOut X hx hret rfl (Or.inr (Or.inl ⟨rfl, rfl, z, rfl⟩)) hd hr, hrun, hended, _, _, rfl, hq, ⟨_, rfl⟩, hW, hsame.mono hk hn⟩
theorem own_retV (X : Stand p l e R s m args below meth c T locs cells slots) (hx : p.tables.exec = Jvm.exec) (hlk : meth.locks = false) {pc : Nat} {Ls : Array Slot} (hret : meth.sig.returnType = none) (hd : decode c.code pc = .ok (.return_, 1))
    (hk : cells ≤ rm.cells) (hn : slots ≤ rm.slots) (hq : Q none T.heap locs) : own_Ends p e below s Q rm T (mkF m pc Ls []) := by
  obtain ⟨fs, hr, hrun, hended, hW, hsame⟩ := X.leave (v := none) (fun _ => rfl) hlk
  exact ⟨_, _, X.returnOut hx hret hd hr, hrun, hended, _, _, rfl, hq, ⟨_, rfl⟩, hW, hsame.mono hk hn⟩
/-- what an instance method's words say besides: its own class declares it; that class is no interface; the look-up from there finds it -/
theorem own_decl {y : MethodName} {bytes : ByteArray} {maxL : Nat} {ret : Option FieldType} (w : (Cond.instanceMethod y).before a0 Z = true) (wc : (Cond.code y bytes maxL ret).before a0 Z = true) : (Cond.declares y).before a0 Z = true := by
  obtain ⟨mk, methM, hn, hm, hs, -⟩ := Cond.instanceMethod_spec w
  obtain ⟨m2, c, h1, -, -, -, -, -, -, hsig⟩ := Cond.code_spec hn wc
  cases hm.symm.trans h1
  simp [Cond.before, Cond.holds, Cond.value, hn, hm, hs, hsig]
theorem own_nf {C6 : String} {y y6 : MethodName} (w6 : (Cond.selects C6 y6 y6).before a0 Z = true) (h6 : y6.cls = y.cls) : NotFace Z y := fun r0 h0 => by
  obtain ⟨c2, r2, m2, q1, q2, q3, q4, kP, hkP, hkPi⟩ := Cond.selects_spec w6
  have e1 := findClass_of_methodNamed q3
  have e2 := findClass_of_methodNamed h0
  rw [h6] at e1
  have q := Option.some.inj (e1.symm.trans e2)
  exact ⟨kP, by rw [← q]; exact hkP, hkPi⟩
theorem own_same {C6 : String} {y y6 : MethodName} (w : (Cond.instanceMethod y).before a0 Z = true) (w6 : (Cond.selects C6 y6 y6).before a0 Z = true) (h6 : y6.cls = y.cls) (hy : y.cls ≠ "java/lang/invoke/MethodHandle" ∧ y.cls ≠ "java/lang/invoke/VarHandle") : (Cond.sameMethod y.cls y.cls y.name y.desc).before a0 Z = true := by
  obtain ⟨mk, methM, hn, hm, hs, -⟩ := Cond.instanceMethod_spec w
  obtain ⟨kr, hk, hi⟩ := own_nf w6 h6 _ hn
  have e1 := findClass_of_methodNamed hn
  have e2 := State.methodFound?_of_named hn hy
  simp [Cond.before, Cond.holds, Cond.value, e1, e2, hn, hk, hi]
/-- invokevirtual by the contract of the body that the receiver's class selects -/
theorem own_callV {G : State → JFrame → Prop} (hG : own_Closed p e below G) (X : Stand p l e R s m args below meth c T locs cells slots) (hx : p.tables.exec = Jvm.exec) (hZ : Z.Warmed39 s.vm) {own C : String} {index : Nat} {y z : MethodName} (hown : s.vm.findClass own = some m.cls)
    (w1 : (Cond.methodLink own index y).before a0 Z = true) (w2 : (Cond.declares y).before a0 Z = true) (w3 : (Cond.selects C y z).before a0 Z = true) (w4 : (Cond.instanceMethod z).before a0 Z = true) {C6 : String} {y6 : MethodName} (w6 : (Cond.selects C6 y6 y6).before a0 Z = true) (h6 : y6.cls = y.cls) (hy : y.cls ≠ "java/lang/invoke/MethodHandle" ∧ y.cls ≠ "java/lang/invoke/VarHandle")
    {bytes : ByteArray} {maxL : Nat} {ret : Option FieldType} {as' : Array Value} (hM : own_Met l Z z bytes maxL ret [] rm as' h Q') (wc : (Cond.code z bytes maxL ret).before a0 Z = true) (wz : (Cond.initialized z.cls).before a0 Z = true)
    {b : Addr} (eT : T.heap = h) (E : Exa Z h b C) {pc W : Nat} {Ls : Array Slot} {argsL rest : List Value} (hsize : Ls.size = c.maxLocals) (hlen : ∀ sig, parseMethodDescriptor y.desc = some sig → argsL.length = sig.parameters.length)
    (hW : (rest.map fun v => v.category).sum ≤ W) (hf : rm.frames + 1 ≤ R.frames) (hl : W + (maxL + 11) + rm.locals ≤ R.locals) (hc : cells + rm.cells ≤ R.cells) (hn : slots + rm.slots ≤ R.slots)
    (hdg : decode c.code pc = .ok (.invokevirtual index, 3)) (has : (Value.ref b :: argsL).toArray = as') {st : List Value} (hst : st = argsL.reverse ++ .ref b :: rest)
    (k : ∀ (T' : State) (L : List Loc) (v : Option Value), Stand p l e R s m args below meth c T' (locs ++ L) (cells + rm.cells) (slots + rm.slots) → Q' v T'.heap L → G T' (mkF m (pc + 3) Ls (v.toList ++ rest))) :
    G T (mkF m pc Ls st) := by
  subst hst
  obtain ⟨cq, kq, qa, qb, qc⟩ := isOf hZ eT E
  obtain ⟨v, _, ⟨T4, L4, k4, n4⟩, -, X4, ⟨Lc, hQ, l4, y4, z4⟩, st4⟩ := X.virtualBack hx (y := y) (z := z) hown (mvT hZ w1) (mvT hZ w2) (own_nf (a0 := #[]) (mvT hZ w6) h6) (mvT hZ w3) (mvT hZ w4) hy (backOf (W := W) hM hZ wc wz hf hl) qa qc (g := mkF m pc Ls (argsL.reverse ++ .ref b :: rest)) rfl hsize (Steps.refl _) (argsL := argsL) (rest := rest) hlen rfl (by simpa [JFrame.monitorRoom] using hW) hdg (fun _ _ => ⟨has, eT, hc, hn⟩)
  dsimp only [Pt.U, Pt.locs, Pt.cells, Pt.slots] at X4 l4 y4 z4 st4 hQ
  subst l4 y4 z4
  exact hG _ _ _ _ (fun t kt => st4.trans kt) (k _ _ _ X4 hQ)
/-- the same through a class that inherits the method -/
theorem own_callU {G : State → JFrame → Prop} (hG : own_Closed p e below G) (X : Stand p l e R s m args below meth c T locs cells slots) (hx : p.tables.exec = Jvm.exec) (hZ : Z.Warmed39 s.vm) {own C owner : String} {index : Nat} {y z : MethodName} (hown : s.vm.findClass own = some m.cls)
    (w1 : (Cond.methodLink own index y).before a0 Z = true) (w0 : (Cond.sameMethod y.cls owner y.name y.desc).before a0 Z = true) (w2 : (Cond.declares ⟨owner, y.name, y.desc⟩).before a0 Z = true) (w3 : (Cond.selects C y z).before a0 Z = true) (w4 : (Cond.instanceMethod z).before a0 Z = true) (hy : owner ≠ "java/lang/invoke/MethodHandle" ∧ owner ≠ "java/lang/invoke/VarHandle")
    {bytes : ByteArray} {maxL : Nat} {ret : Option FieldType} {as' : Array Value} (hM : own_Met l Z z bytes maxL ret [] rm as' h Q') (wc : (Cond.code z bytes maxL ret).before a0 Z = true) (wz : (Cond.initialized z.cls).before a0 Z = true)
    {b : Addr} (eT : T.heap = h) (E : Exa Z h b C) {pc W : Nat} {Ls : Array Slot} {argsL rest : List Value} (hsize : Ls.size = c.maxLocals) (hlen : ∀ sig, parseMethodDescriptor y.desc = some sig → argsL.length = sig.parameters.length)
    (hW : (rest.map fun v => v.category).sum ≤ W) (hf : rm.frames + 1 ≤ R.frames) (hl : W + (maxL + 11) + rm.locals ≤ R.locals) (hc : cells + rm.cells ≤ R.cells) (hn : slots + rm.slots ≤ R.slots)
    (hdg : decode c.code pc = .ok (.invokevirtual index, 3)) (has : (Value.ref b :: argsL).toArray = as') {st : List Value} (hst : st = argsL.reverse ++ .ref b :: rest)
    (k : ∀ (T' : State) (L : List Loc) (v : Option Value), Stand p l e R s m args below meth c T' (locs ++ L) (cells + rm.cells) (slots + rm.slots) → Q' v T'.heap L → G T' (mkF m (pc + 3) Ls (v.toList ++ rest))) :
    G T (mkF m pc Ls st) := by
  subst hst
  obtain ⟨cq, kq, qa, qb, qc⟩ := isOf hZ eT E
  obtain ⟨v, _, ⟨T4, L4, k4, n4⟩, -, X4, ⟨Lc, hQ, l4, y4, z4⟩, st4⟩ := X.virtualBackUp hx (x := y) (y := z) hown (mvT hZ w1) (mvT hZ w0) (mvT hZ w2) hy (mvT hZ w3) (mvT hZ w4) (backOf (W := W) hM hZ wc wz hf hl) qa qc (g := mkF m pc Ls (argsL.reverse ++ .ref b :: rest)) rfl hsize (Steps.refl _) (argsL := argsL) (rest := rest) hlen rfl (by simpa [JFrame.monitorRoom] using hW) hdg (fun _ _ => ⟨has, eT, hc, hn⟩)
  dsimp only [Pt.U, Pt.locs, Pt.cells, Pt.slots] at X4 l4 y4 z4 st4 hQ
  subst l4 y4 z4
  exact hG _ _ _ _ (fun t kt => st4.trans kt) (k _ _ _ X4 hQ)
/-- a constructor by its contract -/
theorem own_callI {G : State → JFrame → Prop} (hG : own_Closed p e below G) (X : Stand p l e R s m args below meth c T locs cells slots) (hx : p.tables.exec = Jvm.exec) (hZ : Z.Warmed39 s.vm) {own : String} {index : Nat} {y : MethodName} (hy1 : y.name = "<init>") (hown : s.vm.findClass own = some m.cls)
    (w1 : (Cond.methodLink own index y).before a0 Z = true) (w4 : (Cond.instanceMethod y).before a0 Z = true) (hy : y.cls ≠ "java/lang/invoke/MethodHandle" ∧ y.cls ≠ "java/lang/invoke/VarHandle")
    {bytes : ByteArray} {maxL : Nat} {as' : Array Value} (hM : own_Met l Z y bytes maxL none [] rm as' h Q') (wc : (Cond.code y bytes maxL none).before a0 Z = true) (wz : (Cond.initialized y.cls).before a0 Z = true)
    {b : Addr} (eT : T.heap = h) {pc W : Nat} {Ls : Array Slot} {argsL rest : List Value} (hsize : Ls.size = c.maxLocals) (hlen : ∀ sig, parseMethodDescriptor y.desc = some sig → argsL.length = sig.parameters.length)
    (hW : (rest.map fun v => v.category).sum ≤ W) (hf : rm.frames + 1 ≤ R.frames) (hl : W + (maxL + 11) + rm.locals ≤ R.locals) (hc : cells + rm.cells ≤ R.cells) (hn : slots + rm.slots ≤ R.slots)
    (hdg : decode c.code pc = .ok (.invokespecial index, 3)) (has : (Value.ref b :: argsL).toArray = as') {st : List Value} (hst : st = argsL.reverse ++ .ref b :: rest)
    (k : ∀ (T' : State) (L : List Loc) (v : Option Value), Stand p l e R s m args below meth c T' (locs ++ L) (cells + rm.cells) (slots + rm.slots) → Q' v T'.heap L → G T' (mkF m (pc + 3) Ls (v.toList ++ rest))) :
    G T (mkF m pc Ls st) := by
  subst hst
  obtain ⟨v, _, ⟨T4, L4, k4, n4⟩, -, X4, ⟨Lc, hQ, l4, y4, z4⟩, st4⟩ := X.specialBack hx (y := y) hy1 hown (mvT hZ w1) (mvT hZ w4) (mvT hZ wc) hy (backOf (W := W) hM hZ wc wz hf hl) (g := mkF m pc Ls (argsL.reverse ++ .ref b :: rest)) rfl hsize (Steps.refl _) (a := b) (argsL := argsL) (rest := rest) hlen rfl (by simpa [JFrame.monitorRoom] using hW) hdg (fun _ _ => ⟨has, eT, hc, hn⟩)
  dsimp only [Pt.U, Pt.locs, Pt.cells, Pt.slots] at X4 l4 y4 z4 st4 hQ
  subst l4 y4 z4
  exact hG _ _ _ _ (fun t kt => st4.trans kt) (k _ _ _ X4 hQ)
/-- super.m(..) by its contract -/
theorem own_callX {G : State → JFrame → Prop} (hG : own_Closed p e below G) (X : Stand p l e R s m args below meth c T locs cells slots) (hx : p.tables.exec = Jvm.exec) (hZ : Z.Warmed39 s.vm) {own C : String} {index : Nat} {y : MethodName} (hown : s.vm.findClass own = some m.cls)
    (w1 : (Cond.methodLink own index y).before a0 Z = true) (w4 : (Cond.instanceMethod y).before a0 Z = true) (w5 : (Cond.superclass own y.cls).before a0 Z = true) {C6 : String} {y6 : MethodName} (w6 : (Cond.selects C6 y6 y6).before a0 Z = true) (h6 : y6.cls = y.cls) (hy : y.cls ≠ "java/lang/invoke/MethodHandle" ∧ y.cls ≠ "java/lang/invoke/VarHandle") (hni : y.name ≠ "<init>")
    {bytes : ByteArray} {maxL : Nat} {ret : Option FieldType} {as' : Array Value} (hM : own_Met l Z y bytes maxL ret [] rm as' h Q') (wc : (Cond.code y bytes maxL ret).before a0 Z = true) (wz : (Cond.initialized y.cls).before a0 Z = true)
    {b : Addr} (eT : T.heap = h) (E : Exa Z h b C) {pc W : Nat} {Ls : Array Slot} {argsL rest : List Value} (hsize : Ls.size = c.maxLocals) (hlen : ∀ sig, parseMethodDescriptor y.desc = some sig → argsL.length = sig.parameters.length)
    (hW : (rest.map fun v => v.category).sum ≤ W) (hf : rm.frames + 1 ≤ R.frames) (hl : W + (maxL + 11) + rm.locals ≤ R.locals) (hc : cells + rm.cells ≤ R.cells) (hn : slots + rm.slots ≤ R.slots)
    (hdg : decode c.code pc = .ok (.invokespecial index, 3)) (has : (Value.ref b :: argsL).toArray = as') {st : List Value} (hst : st = argsL.reverse ++ .ref b :: rest)
    (k : ∀ (T' : State) (L : List Loc) (v : Option Value), Stand p l e R s m args below meth c T' (locs ++ L) (cells + rm.cells) (slots + rm.slots) → Q' v T'.heap L → G T' (mkF m (pc + 3) Ls (v.toList ++ rest))) :
    G T (mkF m pc Ls st) := by
  subst hst
  obtain ⟨v, _, ⟨T4, L4, k4, n4⟩, -, X4, ⟨Lc, hQ, l4, y4, z4⟩, st4⟩ := superBack X hx hZ (y := y) hown w1 (own_same w4 w6 h6 hy) w4 w5 hni (backOf (W := W) hM hZ wc wz hf hl) eT (Ins.self E) (g := mkF m pc Ls (argsL.reverse ++ .ref b :: rest)) rfl hsize wc (argsL := argsL) (rest := rest) hlen rfl (by simpa [JFrame.monitorRoom] using hW) hdg (fun _ _ => ⟨has, eT, hc, hn⟩)
  dsimp only [Pt.U, Pt.locs, Pt.cells, Pt.slots] at X4 l4 y4 z4 st4 hQ
  subst l4 y4 z4
  exact hG _ _ _ _ (fun t kt => st4.trans kt) (k _ _ _ X4 hQ)
/-- invokestatic by the callee's contract -/
theorem own_callS {G : State → JFrame → Prop} (hG : own_Closed p e below G) (X : Stand p l e R s m args below meth c T locs cells slots) (hx : p.tables.exec = Jvm.exec) (hZ : Z.Warmed39 s.vm) {own : String} {index : Nat} {y : MethodName} (hown : s.vm.findClass own = some m.cls)
    (w1 : (Cond.methodLink own index y).before a0 Z = true) (w2 : (Cond.static y).before a0 Z = true) (hy : y.cls ≠ "java/lang/invoke/MethodHandle" ∧ y.cls ≠ "java/lang/invoke/VarHandle")
    {bytes : ByteArray} {maxL : Nat} {ret : Option FieldType} {as' : Array Value} (hM : own_Met l Z y bytes maxL ret [] rm as' h Q') (wc : (Cond.code y bytes maxL ret).before a0 Z = true) (wz : (Cond.initialized y.cls).before a0 Z = true)
    (eT : T.heap = h) {pc W : Nat} {Ls : Array Slot} {argsL rest : List Value} (hsize : Ls.size = c.maxLocals) (hlen : ∀ sig, parseMethodDescriptor y.desc = some sig → argsL.length = sig.parameters.length)
    (hW : (rest.map fun v => v.category).sum ≤ W) (hf : rm.frames + 1 ≤ R.frames) (hl : W + (maxL + 11) + rm.locals ≤ R.locals) (hc : cells + rm.cells ≤ R.cells) (hn : slots + rm.slots ≤ R.slots)
    (hdg : decode c.code pc = .ok (.invokestatic index, 3)) (has : argsL.toArray = as') {st : List Value} (hst : st = argsL.reverse ++ rest)
    (k : ∀ (T' : State) (L : List Loc) (v : Option Value), Stand p l e R s m args below meth c T' (locs ++ L) (cells + rm.cells) (slots + rm.slots) → Q' v T'.heap L → G T' (mkF m (pc + 3) Ls (v.toList ++ rest))) :
    G T (mkF m pc Ls st) := by
  subst hst
  obtain ⟨v, _, ⟨T4, L4, k4, n4⟩, -, X4, ⟨Lc, hQ, l4, y4, z4⟩, st4⟩ := Jvm.LawKit.callS X hx (y := y) hown (mvT hZ w1) (mvT hZ w2) (mvT hZ wz) (mvT hZ wc) hy (backOf (W := W) hM hZ wc wz hf hl) (g := mkF m pc Ls (argsL.reverse ++ rest)) rfl hsize (argsL := argsL) (rest := rest) hlen rfl (by simpa [JFrame.monitorRoom] using hW) hdg (fun _ _ => ⟨has, eT, hc, hn⟩)
  dsimp only [Pt.U, Pt.locs, Pt.cells, Pt.slots] at X4 l4 y4 z4 st4 hQ
  subst l4 y4 z4
  exact hG _ _ _ _ (fun t kt => st4 t kt) (k _ _ _ X4 hQ)
/-- it gives r back; the heap has grown at the most -/
def own_QE (h0 : Heap) (r : Option Value) (v : Option Value) (h : Heap) (L : List Loc) : Prop := v = r ∧ L = [] ∧ Ext h0 h
theorem own_ext0 {h : Heap} : Ext h h := ⟨Nat.le_refl _, fun _ _ q => q⟩
theorem own_extT {h1 h2 h3 : Heap} (A : Ext h1 h2) (B : Ext h2 h3) : Ext h1 h3 := ⟨Nat.le_trans A.1 B.1, fun a c q => B.2 a c (A.2 a c q)⟩
theorem own_len (X : Stand p l e R s m args below meth c T locs cells slots) (hx : p.tables.exec = Jvm.exec) (hZ : Z.Warmed39 s.vm) (eT : T.heap = h) {a : Addr} {cl : Cell} {ty : FieldType} (A : Arr Z h a cl ty) {z : Int32} (hz : cl.slots.size.toInt32 = z) {g : JFrame} (hg : g.method = m) {rest : List Value} (hs : g.stack = .ref a :: rest) (hd : decode c.code g.pc = .ok (.arraylength, 1)) (t : State)
    (hr : Steps p.tables e below (T.setTop { g with pc := g.pc + 1, stack := .int z :: rest }) t) : Steps p.tables e below (T.setTop g) t := by
  subst hz
  exact X.arraylength hx (by rw [eT]; exact A.1) (State.isArrayOf_alike hZ.alike A.2.1) hg hs hd t hr
theorem own_aald (X : Stand p l e R s m args below meth c T locs cells slots) (hx : p.tables.exec = Jvm.exec) (hZ : Z.Warmed39 s.vm) (eT : T.heap = h) {a : Addr} {cl : Cell} {ty : FieldType} (A : Arr Z h a cl ty) (ht : ty.isReference = true) {j : Int32} {v : Value} (hin : ¬ (j < 0 ∨ cl.slots.size ≤ j.toNatClampNeg)) (hv : cl.slots[j.toNatClampNeg]? = some v) {g : JFrame} (hg : g.method = m) {rest : List Value} (hs : g.stack = .int j :: .ref a :: rest) (hd : decode c.code g.pc = .ok (.aaload, 1)) (t : State)
    (hr : Steps p.tables e below (T.setTop { g with pc := g.pc + 1, stack := v :: rest }) t) : Steps p.tables e below (T.setTop g) t :=
  X.aaload hx (by rw [eT]; exact A.1) (State.isArrayOf_alike hZ.alike A.2.1) ht A.2.2 hin hv hg hs hd t hr
theorem own_lald (X : Stand p l e R s m args below meth c T locs cells slots) (hx : p.tables.exec = Jvm.exec) (hZ : Z.Warmed39 s.vm) (eT : T.heap = h) {a : Addr} {cl : Cell} (A : Arr Z h a cl .long) {j : Int32} {v : Value} (hin : ¬ (j < 0 ∨ cl.slots.size ≤ j.toNatClampNeg)) (hv : cl.slots[j.toNatClampNeg]? = some v) {g : JFrame} (hg : g.method = m) {rest : List Value} (hs : g.stack = .int j :: .ref a :: rest) (hd : decode c.code g.pc = .ok (.laload, 1)) (t : State)
    (hr : Steps p.tables e below (T.setTop { g with pc := g.pc + 1, stack := v :: rest }) t) : Steps p.tables e below (T.setTop g) t :=
  X.laload hx (by rw [eT]; exact A.1) (State.isArrayOf_alike hZ.alike A.2.1) A.2.2 hin hv hg hs hd t hr
theorem own_bald (X : Stand p l e R s m args below meth c T locs cells slots) (hx : p.tables.exec = Jvm.exec) (hZ : Z.Warmed39 s.vm) (eT : T.heap = h) {a : Addr} {cl : Cell} (A : Arr Z h a cl .byte) {j : Int32} {v : Value} (hin : ¬ (j < 0 ∨ cl.slots.size ≤ j.toNatClampNeg)) (hv : cl.slots[j.toNatClampNeg]? = some v) {g : JFrame} (hg : g.method = m) {rest : List Value} (hs : g.stack = .int j :: .ref a :: rest) (hd : decode c.code g.pc = .ok (.baload, 1)) (t : State)
    (hr : Steps p.tables e below (T.setTop { g with pc := g.pc + 1, stack := v :: rest }) t) : Steps p.tables e below (T.setTop g) t :=
  X.baloadBytes hx (by rw [eT]; exact A.1) (State.isArrayOf_alike hZ.alike A.2.1) A.2.2 hin hv hg hs hd t hr
/-- a field that the case says holds what the other term holds -/
theorem own_fldR {t u : Term} {C n d : String} {a b : Addr} (ev : t.eval args s none [] s = some (.ref a)) (ev2 : u.eval args s none [] s = some (.ref b)) (hq : (Cond.eq (Term.field t C n d) u).value args s none s [] = some true) : Fld s s.heap a C n d (.ref b) := by
  obtain ⟨x, y, h1, h2, k1, k2⟩ := cmp_v (Or.inl hq)
  cases ev2.symm.trans h2
  have hx : x = .ref b := by
    cases x <;> simp [Kin, Value.isRef] at k1 k2
    · simp [Cond.value, h1, h2] at hq
    · simpa [Cond.value, h1, h2] using hq
  subst hx
  exact Fld.start ((fld_at ev).symm.trans h1)
/-- an element that the case says is what the other term is -/
theorem own_elemR {t u : Term} {k : Int32} {a b : Addr} {cl : Cell} (ev : t.eval args s none [] s = some (.ref a)) (hc : s.heap[a]? = some cl) (ev2 : u.eval args s none [] s = some (.ref b)) (hq : (Cond.eq (Term.elem t (Term.int k)) u).value args s none s [] = some true) : cl.slots[k.toNatClampNeg]? = some (.ref b) := by
  obtain ⟨x, y, h1, h2, k1, k2⟩ := cmp_v (Or.inl hq)
  cases ev2.symm.trans h2
  have hx : x = .ref b := by
    cases x <;> simp [Kin, Value.isRef] at k1 k2
    · simp [Cond.value, h1, h2] at hq
    · simpa [Cond.value, h1, h2] using hq
  subst hx
  exact (elem_in h1 ev rfl hc).2
/-- an element that the case says is this int -/
theorem own_elemI {t : Term} {k w : Int32} {a : Addr} {cl : Cell} (ev : t.eval args s none [] s = some (.ref a)) (hc : s.heap[a]? = some cl) (hq : (Cond.eq (Term.elem t (Term.int k)) (Term.int w)).value args s none s [] = some true) : cl.slots[k.toNatClampNeg]? = some (.int w) := by
  obtain ⟨x, y, h1, h2, k1, k2⟩ := cmp_v (Or.inl hq)
  have e2 : y = .int w := (Option.some.inj h2).symm
  subst e2
  obtain ⟨z, rfl⟩ : ∃ z, x = .int z := k2
  have e3 : z = w := by simpa [Cond.value, h1, h2] using hq
  subst e3
  exact (elem_in h1 ev rfl hc).2
/-- a length that the case says -/
theorem own_lenI {t : Term} {k : Int32} {a : Addr} {cl : Cell} {ty : FieldType} (ev : t.eval args s none [] s = some (.ref a)) (A : Arr s s.heap a cl ty) (hq : (Cond.eq (Term.length t) (Term.int k)).value args s none s [] = some true) (hk : ¬ k < 0) : cl.slots.size = k.toNatClampNeg := by
  obtain ⟨x, y, h1, h2, k1, k2⟩ := cmp_v (Or.inl hq)
  have e2 : y = .int k := (Option.some.inj h2).symm
  subst e2
  obtain ⟨z, rfl⟩ : ∃ z, x = .int z := k2
  have e3 : z = k := by simpa [Cond.value, h1, h2] using hq
  subst e3
  have ha : s.arrayAt? a = some cl := A.fin (Vm.Alike.refl _)
  by_cases hlt : cl.slots.size < 2 ^ 31
  · have q : cl.slots.size.toInt32 = z := by
      have h3 := len_f ev ha hlt
      rw [h1] at h3
      exact (Value.int.inj (Option.some.inj h3)).symm
    rw [← q]; simp only [Int32.toNatClampNeg, len_toInt hlt]; rfl
  · simp [Term.eval, ev, ha, hlt] at h1
/-- a field that the case says holds this int -/
theorem own_fldI {t : Term} {C n d : String} {k : Int32} {a : Addr} (ev : t.eval args s none [] s = some (.ref a)) (hq : (Cond.eq (Term.field t C n d) (Term.int k)).value args s none s [] = some true) : Fld s s.heap a C n d (.int k) := by
  obtain ⟨x, y, h1, h2, k1, k2⟩ := cmp_v (Or.inl hq)
  have e2 : y = .int k := (Option.some.inj h2).symm
  subst e2
  obtain ⟨z, rfl⟩ : ∃ z, x = .int z := k2
  have e3 : z = k := by simpa [Cond.value, h1, h2] using hq
  subst e3
  exact Fld.start ((fld_at ev).symm.trans h1)
end Own
end Jvm.RoadKit
namespace Jvm.Pilot.@@N@@
open Jvm Jvm.ClassFile Sem Op Lib Jvm.Free Jvm.Stand Jvm.LawKit Jvm.RoadKit Bundle Jvm.Pilot.@@N@@.Jvm.D
theorem pd_0 : parseMethodDescriptor "(I)Lcom/example/gatewright/gatewright/engine/XPathFunction;" = some ⟨[.int], some (.object "com/example/gatewright/gatewright/engine/XPathFunction")⟩ := by decide +kernel
theorem pd_1 : parseMethodDescriptor "(I)Z" = some ⟨[.int], some .boolean⟩ := by decide +kernel
theorem pd_2 : parseMethodDescriptor "(II)Z" = some ⟨[.int, .int], some .boolean⟩ := by decide +kernel
def own_lo (k : Int32) : Int32 := if k = 0 then 0 else if k = 1 then 0 else if k = 2 then 1 else if k = 3 then 1 else if k = 4 then 0 else if k = 5 then 0 else if k = 6 then 0 else if k = 7 then 0 else if k = 8 then 2 else if k = 9 then 2 else if k = 10 then 2 else if k = 11 then 2 else if k = 12 then 2 else if k = 13 then 2 else if k = 14 then 0 else if k = 15 then 0 else if k = 16 then 3 else if k = 17 then 1 else if k = 18 then 1 else if k = 19 then 0 else if k = 20 then 0 else if k = 21 then 1 else if k = 22 then 0 else if k = 23 then 1 else if k = 24 then 1 else if k = 25 then 1 else 1
def own_hi (k : Int32) : Int32 := if k = 0 then 0 else if k = 1 then 0 else if k = 2 then 1 else if k = 3 then 1 else if k = 4 then 1 else if k = 5 then 1 else if k = 6 then 1 else if k = 7 then 1 else if k = 8 then 2147483647 else if k = 9 then 2 else if k = 10 then 2 else if k = 11 then 2 else if k = 12 then 2 else if k = 13 then 3 else if k = 14 then 1 else if k = 15 then 1 else if k = 16 then 3 else if k = 17 then 1 else if k = 18 then 1 else if k = 19 then 0 else if k = 20 then 0 else if k = 21 then 1 else if k = 22 then 1 else if k = 23 then 1 else if k = 24 then 1 else if k = 25 then 1 else 1
def own_tk (a b c : Int32) : Int32 := if c < a then 0 else if b < c then 0 else 1
def own_exp (k c : Int32) : Int32 :=
  if k = 0 ∨ k = 1 ∨ k = 19 ∨ k = 20 then (if c = 0 then 1 else 0)
  else if k = 2 ∨ k = 3 ∨ k = 17 ∨ k = 18 ∨ k = 21 ∨ ¬ k < 23 then (if c = 1 then 1 else 0)
  else if (¬ k < 4 ∧ ¬ 7 < k) ∨ k = 14 ∨ k = 15 ∨ k = 22 then (if c = 0 then 1 else if c = 1 then 1 else 0)
  else if k = 8 then (if c < 2 then 0 else 1)
  else if ¬ k < 9 ∧ ¬ 12 < k then (if c = 2 then 1 else 0)
  else if k = 13 then (if c = 2 then 1 else if c = 3 then 1 else 0)
  else if c = 3 then 1 else 0
theorem own_tk_one (a c : Int32) : own_tk a a c = if c = a then 1 else 0 := by
  unfold own_tk
  by_cases h : c = a
  · subst h; simp
  · have h' : ¬ c.toInt = a.toInt := fun q => h (Int32.toInt_inj.mp q)
    simp only [h, if_false]
    by_cases h1 : c < a
    · simp [h1]
    · have h2 : a < c := by rw [Int32.lt_iff_toInt_lt] at h1 ⊢; omega
      simp [h1, h2]
theorem own_tk_two (a b c : Int32) (hab : b.toInt = a.toInt + 1) : own_tk a b c = if c = a then 1 else if c = b then 1 else 0 := by
  unfold own_tk
  by_cases h : c = a
  · subst h
    have h1 : ¬ b < c := by rw [Int32.lt_iff_toInt_lt]; omega
    simp [h1]
  · by_cases g : c = b
    · subst g
      have h1 : ¬ c < a := by rw [Int32.lt_iff_toInt_lt]; omega
      simp [h1, h]
    · have h' : ¬ c.toInt = a.toInt := fun q => h (Int32.toInt_inj.mp q)
      have g' : ¬ c.toInt = b.toInt := fun q => g (Int32.toInt_inj.mp q)
      simp only [h, g, if_false]
      by_cases h1 : c < a
      · simp [h1]
      · have h2 : b < c := by rw [Int32.lt_iff_toInt_lt] at h1 ⊢; omega
        simp [h1, h2]
theorem own_tk_max (a c : Int32) : own_tk a 2147483647 c = if c < a then 0 else 1 := by
  unfold own_tk
  have h : ¬ (2147483647 : Int32) < c := by
    rw [Int32.lt_iff_toInt_lt]
    have := Int32.toInt_lt c
    have e : (2147483647 : Int32).toInt = 2147483647 := by decide
    omega
  simp [h]
theorem own_law_0 (c : Int32) : own_tk (own_lo 0) (own_hi 0) c = own_exp 0 c := by
  rw [show own_lo 0 = 0 by decide, show own_hi 0 = 0 by decide]
  exact (own_tk_one 0 c).trans (by simp [own_exp])
theorem own_law_1 (c : Int32) : own_tk (own_lo 1) (own_hi 1) c = own_exp 1 c := by
  rw [show own_lo 1 = 0 by decide, show own_hi 1 = 0 by decide]
  exact (own_tk_one 0 c).trans (by simp [own_exp])
theorem own_law_2 (c : Int32) : own_tk (own_lo 2) (own_hi 2) c = own_exp 2 c := by
  rw [show own_lo 2 = 1 by decide, show own_hi 2 = 1 by decide]
  exact (own_tk_one 1 c).trans (by simp [own_exp])
theorem own_law_3 (c : Int32) : own_tk (own_lo 3) (own_hi 3) c = own_exp 3 c := by
  rw [show own_lo 3 = 1 by decide, show own_hi 3 = 1 by decide]
  exact (own_tk_one 1 c).trans (by simp [own_exp])
theorem own_law_4 (c : Int32) : own_tk (own_lo 4) (own_hi 4) c = own_exp 4 c := by
  rw [show own_lo 4 = 0 by decide, show own_hi 4 = 1 by decide]
  exact (own_tk_two 0 1 c (by decide)).trans (by simp [own_exp])
theorem own_law_5 (c : Int32) : own_tk (own_lo 5) (own_hi 5) c = own_exp 5 c := by
  rw [show own_lo 5 = 0 by decide, show own_hi 5 = 1 by decide]
  exact (own_tk_two 0 1 c (by decide)).trans (by simp [own_exp])
theorem own_law_6 (c : Int32) : own_tk (own_lo 6) (own_hi 6) c = own_exp 6 c := by
  rw [show own_lo 6 = 0 by decide, show own_hi 6 = 1 by decide]
  exact (own_tk_two 0 1 c (by decide)).trans (by simp [own_exp])
theorem own_law_7 (c : Int32) : own_tk (own_lo 7) (own_hi 7) c = own_exp 7 c := by
  rw [show own_lo 7 = 0 by decide, show own_hi 7 = 1 by decide]
  exact (own_tk_two 0 1 c (by decide)).trans (by simp [own_exp])
theorem own_law_8 (c : Int32) : own_tk (own_lo 8) (own_hi 8) c = own_exp 8 c := by
  rw [show own_lo 8 = 2 by decide, show own_hi 8 = 2147483647 by decide]
  exact (own_tk_max 2 c).trans (by simp [own_exp])
theorem own_law_9 (c : Int32) : own_tk (own_lo 9) (own_hi 9) c = own_exp 9 c := by
  rw [show own_lo 9 = 2 by decide, show own_hi 9 = 2 by decide]
  exact (own_tk_one 2 c).trans (by simp [own_exp])
theorem own_law_10 (c : Int32) : own_tk (own_lo 10) (own_hi 10) c = own_exp 10 c := by
  rw [show own_lo 10 = 2 by decide, show own_hi 10 = 2 by decide]
  exact (own_tk_one 2 c).trans (by simp [own_exp])
theorem own_law_11 (c : Int32) : own_tk (own_lo 11) (own_hi 11) c = own_exp 11 c := by
  rw [show own_lo 11 = 2 by decide, show own_hi 11 = 2 by decide]
  exact (own_tk_one 2 c).trans (by simp [own_exp])
theorem own_law_12 (c : Int32) : own_tk (own_lo 12) (own_hi 12) c = own_exp 12 c := by
  rw [show own_lo 12 = 2 by decide, show own_hi 12 = 2 by decide]
  exact (own_tk_one 2 c).trans (by simp [own_exp])
theorem own_law_13 (c : Int32) : own_tk (own_lo 13) (own_hi 13) c = own_exp 13 c := by
  rw [show own_lo 13 = 2 by decide, show own_hi 13 = 3 by decide]
  exact (own_tk_two 2 3 c (by decide)).trans (by simp [own_exp])
theorem own_law_14 (c : Int32) : own_tk (own_lo 14) (own_hi 14) c = own_exp 14 c := by
  rw [show own_lo 14 = 0 by decide, show own_hi 14 = 1 by decide]
  exact (own_tk_two 0 1 c (by decide)).trans (by simp [own_exp])
theorem own_law_15 (c : Int32) : own_tk (own_lo 15) (own_hi 15) c = own_exp 15 c := by
  rw [show own_lo 15 = 0 by decide, show own_hi 15 = 1 by decide]
  exact (own_tk_two 0 1 c (by decide)).trans (by simp [own_exp])
theorem own_law_16 (c : Int32) : own_tk (own_lo 16) (own_hi 16) c = own_exp 16 c := by
  rw [show own_lo 16 = 3 by decide, show own_hi 16 = 3 by decide]
  exact (own_tk_one 3 c).trans (by simp [own_exp])
theorem own_law_17 (c : Int32) : own_tk (own_lo 17) (own_hi 17) c = own_exp 17 c := by
  rw [show own_lo 17 = 1 by decide, show own_hi 17 = 1 by decide]
  exact (own_tk_one 1 c).trans (by simp [own_exp])
theorem own_law_18 (c : Int32) : own_tk (own_lo 18) (own_hi 18) c = own_exp 18 c := by
  rw [show own_lo 18 = 1 by decide, show own_hi 18 = 1 by decide]
  exact (own_tk_one 1 c).trans (by simp [own_exp])
theorem own_law_19 (c : Int32) : own_tk (own_lo 19) (own_hi 19) c = own_exp 19 c := by
  rw [show own_lo 19 = 0 by decide, show own_hi 19 = 0 by decide]
  exact (own_tk_one 0 c).trans (by simp [own_exp])
theorem own_law_20 (c : Int32) : own_tk (own_lo 20) (own_hi 20) c = own_exp 20 c := by
  rw [show own_lo 20 = 0 by decide, show own_hi 20 = 0 by decide]
  exact (own_tk_one 0 c).trans (by simp [own_exp])
theorem own_law_21 (c : Int32) : own_tk (own_lo 21) (own_hi 21) c = own_exp 21 c := by
  rw [show own_lo 21 = 1 by decide, show own_hi 21 = 1 by decide]
  exact (own_tk_one 1 c).trans (by simp [own_exp])
theorem own_law_22 (c : Int32) : own_tk (own_lo 22) (own_hi 22) c = own_exp 22 c := by
  rw [show own_lo 22 = 0 by decide, show own_hi 22 = 1 by decide]
  exact (own_tk_two 0 1 c (by decide)).trans (by simp [own_exp])
theorem own_law_23 (c : Int32) : own_tk (own_lo 23) (own_hi 23) c = own_exp 23 c := by
  rw [show own_lo 23 = 1 by decide, show own_hi 23 = 1 by decide]
  exact (own_tk_one 1 c).trans (by simp [own_exp])
theorem own_law_24 (c : Int32) : own_tk (own_lo 24) (own_hi 24) c = own_exp 24 c := by
  rw [show own_lo 24 = 1 by decide, show own_hi 24 = 1 by decide]
  exact (own_tk_one 1 c).trans (by simp [own_exp])
theorem own_law_25 (c : Int32) : own_tk (own_lo 25) (own_hi 25) c = own_exp 25 c := by
  rw [show own_lo 25 = 1 by decide, show own_hi 25 = 1 by decide]
  exact (own_tk_one 1 c).trans (by simp [own_exp])
theorem own_law (k c : Int32) (hk : ¬ k < 0) : own_tk (own_lo k) (own_hi k) c = own_exp k c := by
  by_cases h0 : k = 0
  · subst h0; exact own_law_0 c
  by_cases h1 : k = 1
  · subst h1; exact own_law_1 c
  by_cases h2 : k = 2
  · subst h2; exact own_law_2 c
  by_cases h3 : k = 3
  · subst h3; exact own_law_3 c
  by_cases h4 : k = 4
  · subst h4; exact own_law_4 c
  by_cases h5 : k = 5
  · subst h5; exact own_law_5 c
  by_cases h6 : k = 6
  · subst h6; exact own_law_6 c
  by_cases h7 : k = 7
  · subst h7; exact own_law_7 c
  by_cases h8 : k = 8
  · subst h8; exact own_law_8 c
  by_cases h9 : k = 9
  · subst h9; exact own_law_9 c
  by_cases h10 : k = 10
  · subst h10; exact own_law_10 c
  by_cases h11 : k = 11
  · subst h11; exact own_law_11 c
  by_cases h12 : k = 12
  · subst h12; exact own_law_12 c
  by_cases h13 : k = 13
  · subst h13; exact own_law_13 c
  by_cases h14 : k = 14
  · subst h14; exact own_law_14 c
  by_cases h15 : k = 15
  · subst h15; exact own_law_15 c
  by_cases h16 : k = 16
  · subst h16; exact own_law_16 c
  by_cases h17 : k = 17
  · subst h17; exact own_law_17 c
  by_cases h18 : k = 18
  · subst h18; exact own_law_18 c
  by_cases h19 : k = 19
  · subst h19; exact own_law_19 c
  by_cases h20 : k = 20
  · subst h20; exact own_law_20 c
  by_cases h21 : k = 21
  · subst h21; exact own_law_21 c
  by_cases h22 : k = 22
  · subst h22; exact own_law_22 c
  by_cases h23 : k = 23
  · subst h23; exact own_law_23 c
  by_cases h24 : k = 24
  · subst h24; exact own_law_24 c
  by_cases h25 : k = 25
  · subst h25; exact own_law_25 c
  have hlo : own_lo k = 1 := by simp only [own_lo, h0, h1, h2, h3, h4, h5, h6, h7, h8, h9, h10, h11, h12, h13, h14, h15, h16, h17, h18, h19, h20, h21, h22, h23, h24, h25, if_false]
  have hhi : own_hi k = 1 := by simp only [own_hi, h0, h1, h2, h3, h4, h5, h6, h7, h8, h9, h10, h11, h12, h13, h14, h15, h16, h17, h18, h19, h20, h21, h22, h23, h24, h25, if_false]
  have hge : ¬ k < 23 := by
    intro q
    have g0 : ¬ k.toInt = 0 := fun z => h0 (Int32.toInt_inj.mp (z.trans (by decide : (0 : Int) = (0 : Int32).toInt)))
    have g1 : ¬ k.toInt = 1 := fun z => h1 (Int32.toInt_inj.mp (z.trans (by decide : (1 : Int) = (1 : Int32).toInt)))
    have g2 : ¬ k.toInt = 2 := fun z => h2 (Int32.toInt_inj.mp (z.trans (by decide : (2 : Int) = (2 : Int32).toInt)))
    have g3 : ¬ k.toInt = 3 := fun z => h3 (Int32.toInt_inj.mp (z.trans (by decide : (3 : Int) = (3 : Int32).toInt)))
    have g4 : ¬ k.toInt = 4 := fun z => h4 (Int32.toInt_inj.mp (z.trans (by decide : (4 : Int) = (4 : Int32).toInt)))
    have g5 : ¬ k.toInt = 5 := fun z => h5 (Int32.toInt_inj.mp (z.trans (by decide : (5 : Int) = (5 : Int32).toInt)))
    have g6 : ¬ k.toInt = 6 := fun z => h6 (Int32.toInt_inj.mp (z.trans (by decide : (6 : Int) = (6 : Int32).toInt)))
    have g7 : ¬ k.toInt = 7 := fun z => h7 (Int32.toInt_inj.mp (z.trans (by decide : (7 : Int) = (7 : Int32).toInt)))
    have g8 : ¬ k.toInt = 8 := fun z => h8 (Int32.toInt_inj.mp (z.trans (by decide : (8 : Int) = (8 : Int32).toInt)))
    have g9 : ¬ k.toInt = 9 := fun z => h9 (Int32.toInt_inj.mp (z.trans (by decide : (9 : Int) = (9 : Int32).toInt)))
    have g10 : ¬ k.toInt = 10 := fun z => h10 (Int32.toInt_inj.mp (z.trans (by decide : (10 : Int) = (10 : Int32).toInt)))
    have g11 : ¬ k.toInt = 11 := fun z => h11 (Int32.toInt_inj.mp (z.trans (by decide : (11 : Int) = (11 : Int32).toInt)))
    have g12 : ¬ k.toInt = 12 := fun z => h12 (Int32.toInt_inj.mp (z.trans (by decide : (12 : Int) = (12 : Int32).toInt)))
    have g13 : ¬ k.toInt = 13 := fun z => h13 (Int32.toInt_inj.mp (z.trans (by decide : (13 : Int) = (13 : Int32).toInt)))
    have g14 : ¬ k.toInt = 14 := fun z => h14 (Int32.toInt_inj.mp (z.trans (by decide : (14 : Int) = (14 : Int32).toInt)))
    have g15 : ¬ k.toInt = 15 := fun z => h15 (Int32.toInt_inj.mp (z.trans (by decide : (15 : Int) = (15 : Int32).toInt)))
    have g16 : ¬ k.toInt = 16 := fun z => h16 (Int32.toInt_inj.mp (z.trans (by decide : (16 : Int) = (16 : Int32).toInt)))
    have g17 : ¬ k.toInt = 17 := fun z => h17 (Int32.toInt_inj.mp (z.trans (by decide : (17 : Int) = (17 : Int32).toInt)))
    have g18 : ¬ k.toInt = 18 := fun z => h18 (Int32.toInt_inj.mp (z.trans (by decide : (18 : Int) = (18 : Int32).toInt)))
    have g19 : ¬ k.toInt = 19 := fun z => h19 (Int32.toInt_inj.mp (z.trans (by decide : (19 : Int) = (19 : Int32).toInt)))
    have g20 : ¬ k.toInt = 20 := fun z => h20 (Int32.toInt_inj.mp (z.trans (by decide : (20 : Int) = (20 : Int32).toInt)))
    have g21 : ¬ k.toInt = 21 := fun z => h21 (Int32.toInt_inj.mp (z.trans (by decide : (21 : Int) = (21 : Int32).toInt)))
    have g22 : ¬ k.toInt = 22 := fun z => h22 (Int32.toInt_inj.mp (z.trans (by decide : (22 : Int) = (22 : Int32).toInt)))
    have g23 : ¬ k.toInt = 23 := fun z => h23 (Int32.toInt_inj.mp (z.trans (by decide : (23 : Int) = (23 : Int32).toInt)))
    have g24 : ¬ k.toInt = 24 := fun z => h24 (Int32.toInt_inj.mp (z.trans (by decide : (24 : Int) = (24 : Int32).toInt)))
    have g25 : ¬ k.toInt = 25 := fun z => h25 (Int32.toInt_inj.mp (z.trans (by decide : (25 : Int) = (25 : Int32).toInt)))
    rw [Int32.lt_iff_toInt_lt] at q hk
    have e1 : (23 : Int32).toInt = 23 := by decide
    have e2 : (0 : Int32).toInt = 0 := by decide
    omega
  rw [hlo, hhi, own_tk_one]
  simp only [own_exp, h0, h1, h2, h3, h4, h5, h6, h7, h8, h9, h10, h11, h12, h13, h14, h15, h16, h17, h18, h19, h20, h21, h22, h23, h24, h25, hge, not_false_eq_true, or_true, or_false, if_true, if_false]
theorem own_k27 (x : Int32) : ¬ ((x &&& (2147483647 : Int32)) % (27 : Int32)) < 0 := by
  rw [Int32.lt_iff_toInt_lt, Int32.toInt_mod]
  have h1 : 0 ≤ (x &&& (2147483647 : Int32)).toInt := (c_andS x 2147483647).2.2 (by decide)
  have h2 : (27 : Int32).toInt = 27 := by decide
  have h3 : (0 : Int32).toInt = 0 := by decide
  rw [h2, h3]
  have := Int.tmod_nonneg 27 h1
  omega
theorem d2_0 : decode prog_75_method_6_code 0 = .ok (.iload_n 1, 1) := by decide +kernel
theorem d2_1 : decode prog_75_method_6_code 1 = .ok (.aload_n 0, 1) := by decide +kernel
theorem d2_2 : decode prog_75_method_6_code 2 = .ok (.getfield 108, 3) := by decide +kernel
theorem d2_5 : decode prog_75_method_6_code 5 = .ok (.if_icmp .lt 15, 3) := by decide +kernel
theorem d2_8 : decode prog_75_method_6_code 8 = .ok (.iload_n 1, 1) := by decide +kernel
theorem d2_9 : decode prog_75_method_6_code 9 = .ok (.aload_n 0, 1) := by decide +kernel
theorem d2_10 : decode prog_75_method_6_code 10 = .ok (.getfield 112, 3) := by decide +kernel
theorem d2_13 : decode prog_75_method_6_code 13 = .ok (.if_icmp .gt 7, 3) := by decide +kernel
theorem d2_16 : decode prog_75_method_6_code 16 = .ok (.iconst 1, 1) := by decide +kernel
theorem d2_17 : decode prog_75_method_6_code 17 = .ok (.goto 4, 3) := by decide +kernel
theorem d2_20 : decode prog_75_method_6_code 20 = .ok (.iconst 0, 1) := by decide +kernel
theorem d2_21 : decode prog_75_method_6_code 21 = .ok (.ireturn, 1) := by decide +kernel
theorem rm2_pn : plainFor (⟨"com/example/gatewright/gatewright/engine/XPathFunction", "takes", "(I)Z"⟩ : MethodName) = true := plainFor_of_name (show plainName "com/example/gatewright/gatewright/engine/XPathFunction" = true by first | (simp [plainName, overriddenIn]; done) | decide +kernel)
theorem rm2_ef (mI : MethodId) (a : Addr) (c : Int32) : entryFrame mI #[(.ref a), (.int c)] 2 = mkF mI 0 #[.val (.ref a), .val (.int c)] [] := by first | (simp [entryFrame, mkF, argsToLocals, Value.category]; done) | rfl
set_option maxRecDepth 65536 in
set_option maxHeartbeats 40000000 in
theorem rm2 (l : Launch) (Z : State) (a0 : Array Value) (hw : ∀ d ∈ tables_1, d.before a0 Z = true) (ws : List Jvm.Cond) (h0 : Heap) (a : Addr) (c : Int32) (u w : Int32) (F1 : Fld Z h0 a "com/example/gatewright/gatewright/engine/XPathFunction" "fewest" "I" (.int u)) (F2 : Fld Z h0 a "com/example/gatewright/gatewright/engine/XPathFunction" "most" "I" (.int w)) :
    own_Met l Z (⟨"com/example/gatewright/gatewright/engine/XPathFunction", "takes", "(I)Z"⟩ : MethodName) prog_75_method_6_code 2 (some .boolean) ws ({ frames := 0, cells := 0, slots := 0, locals := 0 } : Room) #[(.ref a), (.int c)] h0 (own_QP h0 (some (.int (own_tk u w c)))) := by
  refine own_met rm2_pn ?_
  intro pP eE sS mI bB mT cC s₁ hx hby hml hown hnm hret hlk hZ X0 e0
  replace hown : sS.vm.findClass "com/example/gatewright/gatewright/engine/XPathFunction" = some mI.cls := hown
  refine own_cast (rm2_ef mI a c) ?_
  refine own_go (T' := s₁) (g' := (mkF mI 1 #[.val (.ref a), .val (.int c)] [(.int c)])) (fun t_ kt_ => XS.iloadN X0.here hx rfl (hb hby d2_0) rfl kt_) ?_
  refine own_go (T' := s₁) (g' := (mkF mI 2 #[.val (.ref a), .val (.int c)] [(.ref a), (.int c)])) (fun t_ kt_ => XS.aloadN X0.here hx rfl (hb hby d2_1) rfl rfl kt_) ?_
  obtain ⟨Ta1, Xa1, ea1, sta1⟩ := getF X0 hx hZ hown (host := "") (Or.inl (hw _ (List.mem_of_getElem? (i := 13) rfl))) Via.refl e0 F1 (g := (mkF mI 2 #[.val (.ref a), .val (.int c)] [(.ref a), (.int c)])) rfl rfl (hb hby d2_2)
  refine own_go (T' := Ta1) (g' := (mkF mI 5 #[.val (.ref a), .val (.int c)] [(.int u), (.int c)])) (fun t_ kt_ => sta1 _ kt_) ?_
  by_cases hc5_a2 : c < u
  · skip
    refine own_go (T' := Ta1) (g' := (mkF mI 20 #[.val (.ref a), .val (.int c)] [])) (fun t_ kt_ => XS.icmpYes Xa1.here hx rfl (pc0 := 5) (pc' := 20) rfl (hb hby d2_5) rfl (tlt hc5_a2).1 (by decide) (by decide) kt_) ?_
    refine own_go (T' := Ta1) (g' := (mkF mI 21 #[.val (.ref a), .val (.int c)] [(.int (0 : Int32))])) (fun t_ kt_ => XS.iconst Xa1.here hx rfl (hb hby d2_20) kt_) ?_
    refine own_retN Xa1 hx hlk (t := .boolean) hret (by simp) (hb hby d2_21) (show nar .boolean (0 : Int32) = (0 : Int32) from by decide) (by decide) (by decide) ?_
    exact ⟨by simp [own_tk, hc5_a2], rfl, ea1⟩
  · skip
    refine own_go (T' := Ta1) (g' := (mkF mI 8 #[.val (.ref a), .val (.int c)] [])) (fun t_ kt_ => XS.icmpNo Xa1.here hx rfl (hb hby d2_5) rfl (flt hc5_a2).1 kt_) ?_
    refine own_go (T' := Ta1) (g' := (mkF mI 9 #[.val (.ref a), .val (.int c)] [(.int c)])) (fun t_ kt_ => XS.iloadN Xa1.here hx rfl (hb hby d2_8) rfl kt_) ?_
    refine own_go (T' := Ta1) (g' := (mkF mI 10 #[.val (.ref a), .val (.int c)] [(.ref a), (.int c)])) (fun t_ kt_ => XS.aloadN Xa1.here hx rfl (hb hby d2_9) rfl rfl kt_) ?_
    obtain ⟨Ta3, Xa3, ea3, sta3⟩ := getF Xa1 hx hZ hown (host := "") (Or.inl (hw _ (List.mem_of_getElem? (i := 15) rfl))) Via.refl ea1 F2 (g := (mkF mI 10 #[.val (.ref a), .val (.int c)] [(.ref a), (.int c)])) rfl rfl (hb hby d2_10)
    refine own_go (T' := Ta3) (g' := (mkF mI 13 #[.val (.ref a), .val (.int c)] [(.int w), (.int c)])) (fun t_ kt_ => sta3 _ kt_) ?_
    by_cases hc13_a4 : w < c
    · skip
      refine own_go (T' := Ta3) (g' := (mkF mI 20 #[.val (.ref a), .val (.int c)] [])) (fun t_ kt_ => XS.icmpYes Xa3.here hx rfl (pc0 := 13) (pc' := 20) rfl (hb hby d2_13) rfl (tlt hc13_a4).2.2.1 (by decide) (by decide) kt_) ?_
      refine own_go (T' := Ta3) (g' := (mkF mI 21 #[.val (.ref a), .val (.int c)] [(.int (0 : Int32))])) (fun t_ kt_ => XS.iconst Xa3.here hx rfl (hb hby d2_20) kt_) ?_
      refine own_retN Xa3 hx hlk (t := .boolean) hret (by simp) (hb hby d2_21) (show nar .boolean (0 : Int32) = (0 : Int32) from by decide) (by decide) (by decide) ?_
      exact ⟨by simp [own_tk, hc5_a2, hc13_a4], rfl, ea3⟩
    · skip
      refine own_go (T' := Ta3) (g' := (mkF mI 16 #[.val (.ref a), .val (.int c)] [])) (fun t_ kt_ => XS.icmpNo Xa3.here hx rfl (hb hby d2_13) rfl (flt hc13_a4).2.2.1 kt_) ?_
      refine own_go (T' := Ta3) (g' := (mkF mI 17 #[.val (.ref a), .val (.int c)] [(.int (1 : Int32))])) (fun t_ kt_ => XS.iconst Xa3.here hx rfl (hb hby d2_16) kt_) ?_
      refine own_go (T' := Ta3) (g' := (mkF mI 21 #[.val (.ref a), .val (.int c)] [(.int (1 : Int32))])) (fun t_ kt_ => XS.goto Xa3.here hx rfl (pc0 := 17) (pc' := 21) rfl (hb hby d2_17) (by decide) (by decide) kt_) ?_
      refine own_retN Xa3 hx hlk (t := .boolean) hret (by simp) (hb hby d2_21) (show nar .boolean (1 : Int32) = (1 : Int32) from by decide) (by decide) (by decide) ?_
      exact ⟨by simp [own_tk, hc5_a2, hc13_a4], rfl, ea3⟩
theorem d3_0 : decode method_3_code 0 = .ok (.iload_n 0, 1) := by decide +kernel
theorem d3_1 : decode method_3_code 1 = .ok (.ifCond .eq 20, 3) := by decide +kernel
theorem d3_4 : decode method_3_code 4 = .ok (.iload_n 0, 1) := by decide +kernel
theorem d3_5 : decode method_3_code 5 = .ok (.iconst 1, 1) := by decide +kernel
theorem d3_6 : decode method_3_code 6 = .ok (.if_icmp .eq 15, 3) := by decide +kernel
theorem d3_9 : decode method_3_code 9 = .ok (.iload_n 0, 1) := by decide +kernel
theorem d3_10 : decode method_3_code 10 = .ok (.bipush 19, 2) := by decide +kernel
theorem d3_12 : decode method_3_code 12 = .ok (.if_icmp .eq 9, 3) := by decide +kernel
theorem d3_15 : decode method_3_code 15 = .ok (.iload_n 0, 1) := by decide +kernel
theorem d3_16 : decode method_3_code 16 = .ok (.bipush 20, 2) := by decide +kernel
theorem d3_18 : decode method_3_code 18 = .ok (.if_icmp .ne 13, 3) := by decide +kernel
theorem d3_21 : decode method_3_code 21 = .ok (.iload_n 1, 1) := by decide +kernel
theorem d3_22 : decode method_3_code 22 = .ok (.ifCond .ne 7, 3) := by decide +kernel
theorem d3_25 : decode method_3_code 25 = .ok (.iconst 1, 1) := by decide +kernel
theorem d3_26 : decode method_3_code 26 = .ok (.goto 4, 3) := by decide +kernel
theorem d3_29 : decode method_3_code 29 = .ok (.iconst 0, 1) := by decide +kernel
theorem d3_30 : decode method_3_code 30 = .ok (.ireturn, 1) := by decide +kernel
theorem d3_31 : decode method_3_code 31 = .ok (.iload_n 0, 1) := by decide +kernel
theorem d3_32 : decode method_3_code 32 = .ok (.iconst 2, 1) := by decide +kernel
theorem d3_33 : decode method_3_code 33 = .ok (.if_icmp .eq 32, 3) := by decide +kernel
theorem d3_36 : decode method_3_code 36 = .ok (.iload_n 0, 1) := by decide +kernel
theorem d3_37 : decode method_3_code 37 = .ok (.iconst 3, 1) := by decide +kernel
theorem d3_38 : decode method_3_code 38 = .ok (.if_icmp .eq 27, 3) := by decide +kernel
theorem d3_41 : decode method_3_code 41 = .ok (.iload_n 0, 1) := by decide +kernel
theorem d3_42 : decode method_3_code 42 = .ok (.bipush 17, 2) := by decide +kernel
theorem d3_44 : decode method_3_code 44 = .ok (.if_icmp .eq 21, 3) := by decide +kernel
theorem d3_47 : decode method_3_code 47 = .ok (.iload_n 0, 1) := by decide +kernel
theorem d3_48 : decode method_3_code 48 = .ok (.bipush 18, 2) := by decide +kernel
theorem d3_50 : decode method_3_code 50 = .ok (.if_icmp .eq 15, 3) := by decide +kernel
theorem d3_53 : decode method_3_code 53 = .ok (.iload_n 0, 1) := by decide +kernel
theorem d3_54 : decode method_3_code 54 = .ok (.bipush 21, 2) := by decide +kernel
theorem d3_56 : decode method_3_code 56 = .ok (.if_icmp .eq 9, 3) := by decide +kernel
theorem d3_59 : decode method_3_code 59 = .ok (.iload_n 0, 1) := by decide +kernel
theorem d3_60 : decode method_3_code 60 = .ok (.bipush 23, 2) := by decide +kernel
theorem d3_62 : decode method_3_code 62 = .ok (.if_icmp .lt 14, 3) := by decide +kernel
theorem d3_65 : decode method_3_code 65 = .ok (.iload_n 1, 1) := by decide +kernel
theorem d3_66 : decode method_3_code 66 = .ok (.iconst 1, 1) := by decide +kernel
theorem d3_67 : decode method_3_code 67 = .ok (.if_icmp .ne 7, 3) := by decide +kernel
theorem d3_70 : decode method_3_code 70 = .ok (.iconst 1, 1) := by decide +kernel
theorem d3_71 : decode method_3_code 71 = .ok (.goto 4, 3) := by decide +kernel
theorem d3_74 : decode method_3_code 74 = .ok (.iconst 0, 1) := by decide +kernel
theorem d3_75 : decode method_3_code 75 = .ok (.ireturn, 1) := by decide +kernel
theorem d3_76 : decode method_3_code 76 = .ok (.iload_n 0, 1) := by decide +kernel
theorem d3_77 : decode method_3_code 77 = .ok (.iconst 4, 1) := by decide +kernel
theorem d3_78 : decode method_3_code 78 = .ok (.if_icmp .lt 9, 3) := by decide +kernel
theorem d3_81 : decode method_3_code 81 = .ok (.iload_n 0, 1) := by decide +kernel
theorem d3_82 : decode method_3_code 82 = .ok (.bipush 7, 2) := by decide +kernel
theorem d3_84 : decode method_3_code 84 = .ok (.if_icmp .le 21, 3) := by decide +kernel
theorem d3_87 : decode method_3_code 87 = .ok (.iload_n 0, 1) := by decide +kernel
theorem d3_88 : decode method_3_code 88 = .ok (.bipush 14, 2) := by decide +kernel
theorem d3_90 : decode method_3_code 90 = .ok (.if_icmp .eq 15, 3) := by decide +kernel
theorem d3_93 : decode method_3_code 93 = .ok (.iload_n 0, 1) := by decide +kernel
theorem d3_94 : decode method_3_code 94 = .ok (.bipush 15, 2) := by decide +kernel
theorem d3_96 : decode method_3_code 96 = .ok (.if_icmp .eq 9, 3) := by decide +kernel
theorem d3_99 : decode method_3_code 99 = .ok (.iload_n 0, 1) := by decide +kernel
theorem d3_100 : decode method_3_code 100 = .ok (.bipush 22, 2) := by decide +kernel
theorem d3_102 : decode method_3_code 102 = .ok (.if_icmp .ne 18, 3) := by decide +kernel
theorem d3_105 : decode method_3_code 105 = .ok (.iload_n 1, 1) := by decide +kernel
theorem d3_106 : decode method_3_code 106 = .ok (.ifCond .eq 8, 3) := by decide +kernel
theorem d3_109 : decode method_3_code 109 = .ok (.iload_n 1, 1) := by decide +kernel
theorem d3_110 : decode method_3_code 110 = .ok (.iconst 1, 1) := by decide +kernel
theorem d3_111 : decode method_3_code 111 = .ok (.if_icmp .ne 7, 3) := by decide +kernel
theorem d3_114 : decode method_3_code 114 = .ok (.iconst 1, 1) := by decide +kernel
theorem d3_115 : decode method_3_code 115 = .ok (.goto 4, 3) := by decide +kernel
theorem d3_118 : decode method_3_code 118 = .ok (.iconst 0, 1) := by decide +kernel
theorem d3_119 : decode method_3_code 119 = .ok (.ireturn, 1) := by decide +kernel
theorem d3_120 : decode method_3_code 120 = .ok (.iload_n 0, 1) := by decide +kernel
theorem d3_121 : decode method_3_code 121 = .ok (.bipush 8, 2) := by decide +kernel
theorem d3_123 : decode method_3_code 123 = .ok (.if_icmp .ne 14, 3) := by decide +kernel
theorem d3_126 : decode method_3_code 126 = .ok (.iload_n 1, 1) := by decide +kernel
theorem d3_127 : decode method_3_code 127 = .ok (.iconst 2, 1) := by decide +kernel
theorem d3_128 : decode method_3_code 128 = .ok (.if_icmp .lt 7, 3) := by decide +kernel
theorem d3_131 : decode method_3_code 131 = .ok (.iconst 1, 1) := by decide +kernel
theorem d3_132 : decode method_3_code 132 = .ok (.goto 4, 3) := by decide +kernel
theorem d3_135 : decode method_3_code 135 = .ok (.iconst 0, 1) := by decide +kernel
theorem d3_136 : decode method_3_code 136 = .ok (.ireturn, 1) := by decide +kernel
theorem d3_137 : decode method_3_code 137 = .ok (.iload_n 0, 1) := by decide +kernel
theorem d3_138 : decode method_3_code 138 = .ok (.bipush 9, 2) := by decide +kernel
theorem d3_140 : decode method_3_code 140 = .ok (.if_icmp .lt 20, 3) := by decide +kernel
theorem d3_143 : decode method_3_code 143 = .ok (.iload_n 0, 1) := by decide +kernel
theorem d3_144 : decode method_3_code 144 = .ok (.bipush 12, 2) := by decide +kernel
theorem d3_146 : decode method_3_code 146 = .ok (.if_icmp .gt 14, 3) := by decide +kernel
theorem d3_149 : decode method_3_code 149 = .ok (.iload_n 1, 1) := by decide +kernel
theorem d3_150 : decode method_3_code 150 = .ok (.iconst 2, 1) := by decide +kernel
theorem d3_151 : decode method_3_code 151 = .ok (.if_icmp .ne 7, 3) := by decide +kernel
theorem d3_154 : decode method_3_code 154 = .ok (.iconst 1, 1) := by decide +kernel
theorem d3_155 : decode method_3_code 155 = .ok (.goto 4, 3) := by decide +kernel
theorem d3_158 : decode method_3_code 158 = .ok (.iconst 0, 1) := by decide +kernel
theorem d3_159 : decode method_3_code 159 = .ok (.ireturn, 1) := by decide +kernel
theorem d3_160 : decode method_3_code 160 = .ok (.iload_n 0, 1) := by decide +kernel
theorem d3_161 : decode method_3_code 161 = .ok (.bipush 13, 2) := by decide +kernel
theorem d3_163 : decode method_3_code 163 = .ok (.if_icmp .ne 19, 3) := by decide +kernel
theorem d3_166 : decode method_3_code 166 = .ok (.iload_n 1, 1) := by decide +kernel
theorem d3_167 : decode method_3_code 167 = .ok (.iconst 2, 1) := by decide +kernel
theorem d3_168 : decode method_3_code 168 = .ok (.if_icmp .eq 8, 3) := by decide +kernel
theorem d3_171 : decode method_3_code 171 = .ok (.iload_n 1, 1) := by decide +kernel
theorem d3_172 : decode method_3_code 172 = .ok (.iconst 3, 1) := by decide +kernel
theorem d3_173 : decode method_3_code 173 = .ok (.if_icmp .ne 7, 3) := by decide +kernel
theorem d3_176 : decode method_3_code 176 = .ok (.iconst 1, 1) := by decide +kernel
theorem d3_177 : decode method_3_code 177 = .ok (.goto 4, 3) := by decide +kernel
theorem d3_180 : decode method_3_code 180 = .ok (.iconst 0, 1) := by decide +kernel
theorem d3_181 : decode method_3_code 181 = .ok (.ireturn, 1) := by decide +kernel
theorem d3_182 : decode method_3_code 182 = .ok (.iload_n 1, 1) := by decide +kernel
theorem d3_183 : decode method_3_code 183 = .ok (.iconst 3, 1) := by decide +kernel
theorem d3_184 : decode method_3_code 184 = .ok (.if_icmp .ne 7, 3) := by decide +kernel
theorem d3_187 : decode method_3_code 187 = .ok (.iconst 1, 1) := by decide +kernel
theorem d3_188 : decode method_3_code 188 = .ok (.goto 4, 3) := by decide +kernel
theorem d3_191 : decode method_3_code 191 = .ok (.iconst 0, 1) := by decide +kernel
theorem d3_192 : decode method_3_code 192 = .ok (.ireturn, 1) := by decide +kernel
theorem rm3_pn : plainFor (⟨"com/example/gatewright/gatewright/engine/XPathFunctionTakesPinLaw", "expected", "(II)Z"⟩ : MethodName) = true := plainFor_of_name (show plainName "com/example/gatewright/gatewright/engine/XPathFunctionTakesPinLaw" = true by first | (simp [plainName, overriddenIn]; done) | decide +kernel)
theorem rm3_ef (mI : MethodId) (k : Int32) (c : Int32) : entryFrame mI #[(.int k), (.int c)] 2 = mkF mI 0 #[.val (.int k), .val (.int c)] [] := by first | (simp [entryFrame, mkF, argsToLocals, Value.category]; done) | rfl
set_option maxRecDepth 65536 in
set_option maxHeartbeats 40000000 in
theorem rm3 (l : Launch) (Z : State) (a0 : Array Value) (hw : ∀ d ∈ tables_1, d.before a0 Z = true) (ws : List Jvm.Cond) (h0 : Heap) (k c : Int32) :
    own_Met l Z (⟨"com/example/gatewright/gatewright/engine/XPathFunctionTakesPinLaw", "expected", "(II)Z"⟩ : MethodName) method_3_code 2 (some .boolean) ws ({ frames := 0, cells := 0, slots := 0, locals := 0 } : Room) #[(.int k), (.int c)] h0 (own_QP h0 (some (.int (own_exp k c)))) := by
  refine own_met rm3_pn ?_
  intro pP eE sS mI bB mT cC s₁ hx hby hml hown hnm hret hlk hZ X0 e0
  replace hown : sS.vm.findClass "com/example/gatewright/gatewright/engine/XPathFunctionTakesPinLaw" = some mI.cls := hown
  refine own_cast (rm3_ef mI k c) ?_
  refine own_go (T' := s₁) (g' := (mkF mI 1 #[.val (.int k), .val (.int c)] [(.int k)])) (fun t_ kt_ => XS.iloadN X0.here hx rfl (hb hby d3_0) rfl kt_) ?_
  by_cases hc1_b1 : k = (0 : Int32)
  · skip
    refine own_go (T' := s₁) (g' := (mkF mI 21 #[.val (.int k), .val (.int c)] [])) (fun t_ kt_ => XS.ifYes X0.here hx rfl (pc0 := 1) (pc' := 21) rfl (hb hby d3_1) rfl ((if0 _ _).trans (teq hc1_b1).1) (by decide) (by decide) kt_) ?_
    refine own_go (T' := s₁) (g' := (mkF mI 22 #[.val (.int k), .val (.int c)] [(.int c)])) (fun t_ kt_ => XS.iloadN X0.here hx rfl (hb hby d3_21) rfl kt_) ?_
    by_cases hc22_b2 : c = (0 : Int32)
    · skip
      refine own_go (T' := s₁) (g' := (mkF mI 25 #[.val (.int k), .val (.int c)] [])) (fun t_ kt_ => XS.ifNo X0.here hx rfl (hb hby d3_22) rfl ((if0 _ _).trans (teq hc22_b2).2) kt_) ?_
      refine own_go (T' := s₁) (g' := (mkF mI 26 #[.val (.int k), .val (.int c)] [(.int (1 : Int32))])) (fun t_ kt_ => XS.iconst X0.here hx rfl (hb hby d3_25) kt_) ?_
      refine own_go (T' := s₁) (g' := (mkF mI 30 #[.val (.int k), .val (.int c)] [(.int (1 : Int32))])) (fun t_ kt_ => XS.goto X0.here hx rfl (pc0 := 26) (pc' := 30) rfl (hb hby d3_26) (by decide) (by decide) kt_) ?_
      refine own_retN X0 hx hlk (t := .boolean) hret (by simp) (hb hby d3_30) (show nar .boolean (1 : Int32) = (1 : Int32) from by decide) (by decide) (by decide) ?_
      exact ⟨by simp [own_exp, hc1_b1, hc22_b2], rfl, e0⟩
    · skip
      refine own_go (T' := s₁) (g' := (mkF mI 29 #[.val (.int k), .val (.int c)] [])) (fun t_ kt_ => XS.ifYes X0.here hx rfl (pc0 := 22) (pc' := 29) rfl (hb hby d3_22) rfl ((if0 _ _).trans (feq hc22_b2).2) (by decide) (by decide) kt_) ?_
      refine own_go (T' := s₁) (g' := (mkF mI 30 #[.val (.int k), .val (.int c)] [(.int (0 : Int32))])) (fun t_ kt_ => XS.iconst X0.here hx rfl (hb hby d3_29) kt_) ?_
      refine own_retN X0 hx hlk (t := .boolean) hret (by simp) (hb hby d3_30) (show nar .boolean (0 : Int32) = (0 : Int32) from by decide) (by decide) (by decide) ?_
      exact ⟨by simp [own_exp, hc1_b1, hc22_b2], rfl, e0⟩
  · skip
    refine own_go (T' := s₁) (g' := (mkF mI 4 #[.val (.int k), .val (.int c)] [])) (fun t_ kt_ => XS.ifNo X0.here hx rfl (hb hby d3_1) rfl ((if0 _ _).trans (feq hc1_b1).1) kt_) ?_
    refine own_go (T' := s₁) (g' := (mkF mI 5 #[.val (.int k), .val (.int c)] [(.int k)])) (fun t_ kt_ => XS.iloadN X0.here hx rfl (hb hby d3_4) rfl kt_) ?_
    refine own_go (T' := s₁) (g' := (mkF mI 6 #[.val (.int k), .val (.int c)] [(.int (1 : Int32)), (.int k)])) (fun t_ kt_ => XS.iconst X0.here hx rfl (hb hby d3_5) kt_) ?_
    by_cases hc6_b3 : k = (1 : Int32)
    · skip
      refine own_go (T' := s₁) (g' := (mkF mI 21 #[.val (.int k), .val (.int c)] [])) (fun t_ kt_ => XS.icmpYes X0.here hx rfl (pc0 := 6) (pc' := 21) rfl (hb hby d3_6) rfl (teq hc6_b3).1 (by decide) (by decide) kt_) ?_
      refine own_go (T' := s₁) (g' := (mkF mI 22 #[.val (.int k), .val (.int c)] [(.int c)])) (fun t_ kt_ => XS.iloadN X0.here hx rfl (hb hby d3_21) rfl kt_) ?_
      by_cases hc22_b4 : c = (0 : Int32)
      · skip
        refine own_go (T' := s₁) (g' := (mkF mI 25 #[.val (.int k), .val (.int c)] [])) (fun t_ kt_ => XS.ifNo X0.here hx rfl (hb hby d3_22) rfl ((if0 _ _).trans (teq hc22_b4).2) kt_) ?_
        refine own_go (T' := s₁) (g' := (mkF mI 26 #[.val (.int k), .val (.int c)] [(.int (1 : Int32))])) (fun t_ kt_ => XS.iconst X0.here hx rfl (hb hby d3_25) kt_) ?_
        refine own_go (T' := s₁) (g' := (mkF mI 30 #[.val (.int k), .val (.int c)] [(.int (1 : Int32))])) (fun t_ kt_ => XS.goto X0.here hx rfl (pc0 := 26) (pc' := 30) rfl (hb hby d3_26) (by decide) (by decide) kt_) ?_
        refine own_retN X0 hx hlk (t := .boolean) hret (by simp) (hb hby d3_30) (show nar .boolean (1 : Int32) = (1 : Int32) from by decide) (by decide) (by decide) ?_
        exact ⟨by simp [own_exp, hc1_b1, hc6_b3, hc22_b4], rfl, e0⟩
      · skip
        refine own_go (T' := s₁) (g' := (mkF mI 29 #[.val (.int k), .val (.int c)] [])) (fun t_ kt_ => XS.ifYes X0.here hx rfl (pc0 := 22) (pc' := 29) rfl (hb hby d3_22) rfl ((if0 _ _).trans (feq hc22_b4).2) (by decide) (by decide) kt_) ?_
        refine own_go (T' := s₁) (g' := (mkF mI 30 #[.val (.int k), .val (.int c)] [(.int (0 : Int32))])) (fun t_ kt_ => XS.iconst X0.here hx rfl (hb hby d3_29) kt_) ?_
        refine own_retN X0 hx hlk (t := .boolean) hret (by simp) (hb hby d3_30) (show nar .boolean (0 : Int32) = (0 : Int32) from by decide) (by decide) (by decide) ?_
        exact ⟨by simp [own_exp, hc1_b1, hc6_b3, hc22_b4], rfl, e0⟩
    · skip
      refine own_go (T' := s₁) (g' := (mkF mI 9 #[.val (.int k), .val (.int c)] [])) (fun t_ kt_ => XS.icmpNo X0.here hx rfl (hb hby d3_6) rfl (feq hc6_b3).1 kt_) ?_
      refine own_go (T' := s₁) (g' := (mkF mI 10 #[.val (.int k), .val (.int c)] [(.int k)])) (fun t_ kt_ => XS.iloadN X0.here hx rfl (hb hby d3_9) rfl kt_) ?_
      refine own_go (T' := s₁) (g' := (mkF mI 12 #[.val (.int k), .val (.int c)] [(.int (19 : Int32)), (.int k)])) (fun t_ kt_ => XS.bipush X0.here hx rfl (hb hby d3_10) kt_) ?_
      by_cases hc12_b5 : k = (19 : Int32)
      · skip
        refine own_go (T' := s₁) (g' := (mkF mI 21 #[.val (.int k), .val (.int c)] [])) (fun t_ kt_ => XS.icmpYes X0.here hx rfl (pc0 := 12) (pc' := 21) rfl (hb hby d3_12) rfl (teq hc12_b5).1 (by decide) (by decide) kt_) ?_
        refine own_go (T' := s₁) (g' := (mkF mI 22 #[.val (.int k), .val (.int c)] [(.int c)])) (fun t_ kt_ => XS.iloadN X0.here hx rfl (hb hby d3_21) rfl kt_) ?_
        by_cases hc22_b6 : c = (0 : Int32)
        · skip
          refine own_go (T' := s₁) (g' := (mkF mI 25 #[.val (.int k), .val (.int c)] [])) (fun t_ kt_ => XS.ifNo X0.here hx rfl (hb hby d3_22) rfl ((if0 _ _).trans (teq hc22_b6).2) kt_) ?_
          refine own_go (T' := s₁) (g' := (mkF mI 26 #[.val (.int k), .val (.int c)] [(.int (1 : Int32))])) (fun t_ kt_ => XS.iconst X0.here hx rfl (hb hby d3_25) kt_) ?_
          refine own_go (T' := s₁) (g' := (mkF mI 30 #[.val (.int k), .val (.int c)] [(.int (1 : Int32))])) (fun t_ kt_ => XS.goto X0.here hx rfl (pc0 := 26) (pc' := 30) rfl (hb hby d3_26) (by decide) (by decide) kt_) ?_
          refine own_retN X0 hx hlk (t := .boolean) hret (by simp) (hb hby d3_30) (show nar .boolean (1 : Int32) = (1 : Int32) from by decide) (by decide) (by decide) ?_
          exact ⟨by simp [own_exp, hc1_b1, hc6_b3, hc12_b5, hc22_b6], rfl, e0⟩
        · skip
          refine own_go (T' := s₁) (g' := (mkF mI 29 #[.val (.int k), .val (.int c)] [])) (fun t_ kt_ => XS.ifYes X0.here hx rfl (pc0 := 22) (pc' := 29) rfl (hb hby d3_22) rfl ((if0 _ _).trans (feq hc22_b6).2) (by decide) (by decide) kt_) ?_
          refine own_go (T' := s₁) (g' := (mkF mI 30 #[.val (.int k), .val (.int c)] [(.int (0 : Int32))])) (fun t_ kt_ => XS.iconst X0.here hx rfl (hb hby d3_29) kt_) ?_
          refine own_retN X0 hx hlk (t := .boolean) hret (by simp) (hb hby d3_30) (show nar .boolean (0 : Int32) = (0 : Int32) from by decide) (by decide) (by decide) ?_
          exact ⟨by simp [own_exp, hc1_b1, hc6_b3, hc12_b5, hc22_b6], rfl, e0⟩
      · skip
        refine own_go (T' := s₁) (g' := (mkF mI 15 #[.val (.int k), .val (.int c)] [])) (fun t_ kt_ => XS.icmpNo X0.here hx rfl (hb hby d3_12) rfl (feq hc12_b5).1 kt_) ?_
        refine own_go (T' := s₁) (g' := (mkF mI 16 #[.val (.int k), .val (.int c)] [(.int k)])) (fun t_ kt_ => XS.iloadN X0.here hx rfl (hb hby d3_15) rfl kt_) ?_
        refine own_go (T' := s₁) (g' := (mkF mI 18 #[.val (.int k), .val (.int c)] [(.int (20 : Int32)), (.int k)])) (fun t_ kt_ => XS.bipush X0.here hx rfl (hb hby d3_16) kt_) ?_
        by_cases hc18_b7 : k = (20 : Int32)
        · skip
          refine own_go (T' := s₁) (g' := (mkF mI 21 #[.val (.int k), .val (.int c)] [])) (fun t_ kt_ => XS.icmpNo X0.here hx rfl (hb hby d3_18) rfl (teq hc18_b7).2 kt_) ?_
          refine own_go (T' := s₁) (g' := (mkF mI 22 #[.val (.int k), .val (.int c)] [(.int c)])) (fun t_ kt_ => XS.iloadN X0.here hx rfl (hb hby d3_21) rfl kt_) ?_
          by_cases hc22_b8 : c = (0 : Int32)
          · skip
            refine own_go (T' := s₁) (g' := (mkF mI 25 #[.val (.int k), .val (.int c)] [])) (fun t_ kt_ => XS.ifNo X0.here hx rfl (hb hby d3_22) rfl ((if0 _ _).trans (teq hc22_b8).2) kt_) ?_
            refine own_go (T' := s₁) (g' := (mkF mI 26 #[.val (.int k), .val (.int c)] [(.int (1 : Int32))])) (fun t_ kt_ => XS.iconst X0.here hx rfl (hb hby d3_25) kt_) ?_
            refine own_go (T' := s₁) (g' := (mkF mI 30 #[.val (.int k), .val (.int c)] [(.int (1 : Int32))])) (fun t_ kt_ => XS.goto X0.here hx rfl (pc0 := 26) (pc' := 30) rfl (hb hby d3_26) (by decide) (by decide) kt_) ?_
            refine own_retN X0 hx hlk (t := .boolean) hret (by simp) (hb hby d3_30) (show nar .boolean (1 : Int32) = (1 : Int32) from by decide) (by decide) (by decide) ?_
            exact ⟨by simp [own_exp, hc1_b1, hc6_b3, hc12_b5, hc18_b7, hc22_b8], rfl, e0⟩
          · skip
            refine own_go (T' := s₁) (g' := (mkF mI 29 #[.val (.int k), .val (.int c)] [])) (fun t_ kt_ => XS.ifYes X0.here hx rfl (pc0 := 22) (pc' := 29) rfl (hb hby d3_22) rfl ((if0 _ _).trans (feq hc22_b8).2) (by decide) (by decide) kt_) ?_
            refine own_go (T' := s₁) (g' := (mkF mI 30 #[.val (.int k), .val (.int c)] [(.int (0 : Int32))])) (fun t_ kt_ => XS.iconst X0.here hx rfl (hb hby d3_29) kt_) ?_
            refine own_retN X0 hx hlk (t := .boolean) hret (by simp) (hb hby d3_30) (show nar .boolean (0 : Int32) = (0 : Int32) from by decide) (by decide) (by decide) ?_
            exact ⟨by simp [own_exp, hc1_b1, hc6_b3, hc12_b5, hc18_b7, hc22_b8], rfl, e0⟩
        · skip
          refine own_go (T' := s₁) (g' := (mkF mI 31 #[.val (.int k), .val (.int c)] [])) (fun t_ kt_ => XS.icmpYes X0.here hx rfl (pc0 := 18) (pc' := 31) rfl (hb hby d3_18) rfl (feq hc18_b7).2 (by decide) (by decide) kt_) ?_
          refine own_go (T' := s₁) (g' := (mkF mI 32 #[.val (.int k), .val (.int c)] [(.int k)])) (fun t_ kt_ => XS.iloadN X0.here hx rfl (hb hby d3_31) rfl kt_) ?_
          refine own_go (T' := s₁) (g' := (mkF mI 33 #[.val (.int k), .val (.int c)] [(.int (2 : Int32)), (.int k)])) (fun t_ kt_ => XS.iconst X0.here hx rfl (hb hby d3_32) kt_) ?_
          by_cases hc33_b9 : k = (2 : Int32)
          · skip
            refine own_go (T' := s₁) (g' := (mkF mI 65 #[.val (.int k), .val (.int c)] [])) (fun t_ kt_ => XS.icmpYes X0.here hx rfl (pc0 := 33) (pc' := 65) rfl (hb hby d3_33) rfl (teq hc33_b9).1 (by decide) (by decide) kt_) ?_
            refine own_go (T' := s₁) (g' := (mkF mI 66 #[.val (.int k), .val (.int c)] [(.int c)])) (fun t_ kt_ => XS.iloadN X0.here hx rfl (hb hby d3_65) rfl kt_) ?_
            refine own_go (T' := s₁) (g' := (mkF mI 67 #[.val (.int k), .val (.int c)] [(.int (1 : Int32)), (.int c)])) (fun t_ kt_ => XS.iconst X0.here hx rfl (hb hby d3_66) kt_) ?_
            by_cases hc67_b10 : c = (1 : Int32)
            · skip
              refine own_go (T' := s₁) (g' := (mkF mI 70 #[.val (.int k), .val (.int c)] [])) (fun t_ kt_ => XS.icmpNo X0.here hx rfl (hb hby d3_67) rfl (teq hc67_b10).2 kt_) ?_
              refine own_go (T' := s₁) (g' := (mkF mI 71 #[.val (.int k), .val (.int c)] [(.int (1 : Int32))])) (fun t_ kt_ => XS.iconst X0.here hx rfl (hb hby d3_70) kt_) ?_
              refine own_go (T' := s₁) (g' := (mkF mI 75 #[.val (.int k), .val (.int c)] [(.int (1 : Int32))])) (fun t_ kt_ => XS.goto X0.here hx rfl (pc0 := 71) (pc' := 75) rfl (hb hby d3_71) (by decide) (by decide) kt_) ?_
              refine own_retN X0 hx hlk (t := .boolean) hret (by simp) (hb hby d3_75) (show nar .boolean (1 : Int32) = (1 : Int32) from by decide) (by decide) (by decide) ?_
              exact ⟨by simp [own_exp, hc1_b1, hc6_b3, hc12_b5, hc18_b7, hc33_b9, hc67_b10], rfl, e0⟩
            · skip
              refine own_go (T' := s₁) (g' := (mkF mI 74 #[.val (.int k), .val (.int c)] [])) (fun t_ kt_ => XS.icmpYes X0.here hx rfl (pc0 := 67) (pc' := 74) rfl (hb hby d3_67) rfl (feq hc67_b10).2 (by decide) (by decide) kt_) ?_
              refine own_go (T' := s₁) (g' := (mkF mI 75 #[.val (.int k), .val (.int c)] [(.int (0 : Int32))])) (fun t_ kt_ => XS.iconst X0.here hx rfl (hb hby d3_74) kt_) ?_
              refine own_retN X0 hx hlk (t := .boolean) hret (by simp) (hb hby d3_75) (show nar .boolean (0 : Int32) = (0 : Int32) from by decide) (by decide) (by decide) ?_
              exact ⟨by simp [own_exp, hc1_b1, hc6_b3, hc12_b5, hc18_b7, hc33_b9, hc67_b10], rfl, e0⟩
          · skip
            refine own_go (T' := s₁) (g' := (mkF mI 36 #[.val (.int k), .val (.int c)] [])) (fun t_ kt_ => XS.icmpNo X0.here hx rfl (hb hby d3_33) rfl (feq hc33_b9).1 kt_) ?_
            refine own_go (T' := s₁) (g' := (mkF mI 37 #[.val (.int k), .val (.int c)] [(.int k)])) (fun t_ kt_ => XS.iloadN X0.here hx rfl (hb hby d3_36) rfl kt_) ?_
            refine own_go (T' := s₁) (g' := (mkF mI 38 #[.val (.int k), .val (.int c)] [(.int (3 : Int32)), (.int k)])) (fun t_ kt_ => XS.iconst X0.here hx rfl (hb hby d3_37) kt_) ?_
            by_cases hc38_b11 : k = (3 : Int32)
            · skip
              refine own_go (T' := s₁) (g' := (mkF mI 65 #[.val (.int k), .val (.int c)] [])) (fun t_ kt_ => XS.icmpYes X0.here hx rfl (pc0 := 38) (pc' := 65) rfl (hb hby d3_38) rfl (teq hc38_b11).1 (by decide) (by decide) kt_) ?_
              refine own_go (T' := s₁) (g' := (mkF mI 66 #[.val (.int k), .val (.int c)] [(.int c)])) (fun t_ kt_ => XS.iloadN X0.here hx rfl (hb hby d3_65) rfl kt_) ?_
              refine own_go (T' := s₁) (g' := (mkF mI 67 #[.val (.int k), .val (.int c)] [(.int (1 : Int32)), (.int c)])) (fun t_ kt_ => XS.iconst X0.here hx rfl (hb hby d3_66) kt_) ?_
              by_cases hc67_b12 : c = (1 : Int32)
              · skip
                refine own_go (T' := s₁) (g' := (mkF mI 70 #[.val (.int k), .val (.int c)] [])) (fun t_ kt_ => XS.icmpNo X0.here hx rfl (hb hby d3_67) rfl (teq hc67_b12).2 kt_) ?_
                refine own_go (T' := s₁) (g' := (mkF mI 71 #[.val (.int k), .val (.int c)] [(.int (1 : Int32))])) (fun t_ kt_ => XS.iconst X0.here hx rfl (hb hby d3_70) kt_) ?_
                refine own_go (T' := s₁) (g' := (mkF mI 75 #[.val (.int k), .val (.int c)] [(.int (1 : Int32))])) (fun t_ kt_ => XS.goto X0.here hx rfl (pc0 := 71) (pc' := 75) rfl (hb hby d3_71) (by decide) (by decide) kt_) ?_
                refine own_retN X0 hx hlk (t := .boolean) hret (by simp) (hb hby d3_75) (show nar .boolean (1 : Int32) = (1 : Int32) from by decide) (by decide) (by decide) ?_
                exact ⟨by simp [own_exp, hc1_b1, hc6_b3, hc12_b5, hc18_b7, hc33_b9, hc38_b11, hc67_b12], rfl, e0⟩
              · skip
                refine own_go (T' := s₁) (g' := (mkF mI 74 #[.val (.int k), .val (.int c)] [])) (fun t_ kt_ => XS.icmpYes X0.here hx rfl (pc0 := 67) (pc' := 74) rfl (hb hby d3_67) rfl (feq hc67_b12).2 (by decide) (by decide) kt_) ?_
                refine own_go (T' := s₁) (g' := (mkF mI 75 #[.val (.int k), .val (.int c)] [(.int (0 : Int32))])) (fun t_ kt_ => XS.iconst X0.here hx rfl (hb hby d3_74) kt_) ?_
                refine own_retN X0 hx hlk (t := .boolean) hret (by simp) (hb hby d3_75) (show nar .boolean (0 : Int32) = (0 : Int32) from by decide) (by decide) (by decide) ?_
                exact ⟨by simp [own_exp, hc1_b1, hc6_b3, hc12_b5, hc18_b7, hc33_b9, hc38_b11, hc67_b12], rfl, e0⟩
            · skip
              refine own_go (T' := s₁) (g' := (mkF mI 41 #[.val (.int k), .val (.int c)] [])) (fun t_ kt_ => XS.icmpNo X0.here hx rfl (hb hby d3_38) rfl (feq hc38_b11).1 kt_) ?_
              refine own_go (T' := s₁) (g' := (mkF mI 42 #[.val (.int k), .val (.int c)] [(.int k)])) (fun t_ kt_ => XS.iloadN X0.here hx rfl (hb hby d3_41) rfl kt_) ?_
              refine own_go (T' := s₁) (g' := (mkF mI 44 #[.val (.int k), .val (.int c)] [(.int (17 : Int32)), (.int k)])) (fun t_ kt_ => XS.bipush X0.here hx rfl (hb hby d3_42) kt_) ?_
              by_cases hc44_b13 : k = (17 : Int32)
              · skip
                refine own_go (T' := s₁) (g' := (mkF mI 65 #[.val (.int k), .val (.int c)] [])) (fun t_ kt_ => XS.icmpYes X0.here hx rfl (pc0 := 44) (pc' := 65) rfl (hb hby d3_44) rfl (teq hc44_b13).1 (by decide) (by decide) kt_) ?_
                refine own_go (T' := s₁) (g' := (mkF mI 66 #[.val (.int k), .val (.int c)] [(.int c)])) (fun t_ kt_ => XS.iloadN X0.here hx rfl (hb hby d3_65) rfl kt_) ?_
                refine own_go (T' := s₁) (g' := (mkF mI 67 #[.val (.int k), .val (.int c)] [(.int (1 : Int32)), (.int c)])) (fun t_ kt_ => XS.iconst X0.here hx rfl (hb hby d3_66) kt_) ?_
                by_cases hc67_b14 : c = (1 : Int32)
                · skip
                  refine own_go (T' := s₁) (g' := (mkF mI 70 #[.val (.int k), .val (.int c)] [])) (fun t_ kt_ => XS.icmpNo X0.here hx rfl (hb hby d3_67) rfl (teq hc67_b14).2 kt_) ?_
                  refine own_go (T' := s₁) (g' := (mkF mI 71 #[.val (.int k), .val (.int c)] [(.int (1 : Int32))])) (fun t_ kt_ => XS.iconst X0.here hx rfl (hb hby d3_70) kt_) ?_
                  refine own_go (T' := s₁) (g' := (mkF mI 75 #[.val (.int k), .val (.int c)] [(.int (1 : Int32))])) (fun t_ kt_ => XS.goto X0.here hx rfl (pc0 := 71) (pc' := 75) rfl (hb hby d3_71) (by decide) (by decide) kt_) ?_
                  refine own_retN X0 hx hlk (t := .boolean) hret (by simp) (hb hby d3_75) (show nar .boolean (1 : Int32) = (1 : Int32) from by decide) (by decide) (by decide) ?_
                  exact ⟨by simp [own_exp, hc1_b1, hc6_b3, hc12_b5, hc18_b7, hc33_b9, hc38_b11, hc44_b13, hc67_b14], rfl, e0⟩
                · skip
                  refine own_go (T' := s₁) (g' := (mkF mI 74 #[.val (.int k), .val (.int c)] [])) (fun t_ kt_ => XS.icmpYes X0.here hx rfl (pc0 := 67) (pc' := 74) rfl (hb hby d3_67) rfl (feq hc67_b14).2 (by decide) (by decide) kt_) ?_
                  refine own_go (T' := s₁) (g' := (mkF mI 75 #[.val (.int k), .val (.int c)] [(.int (0 : Int32))])) (fun t_ kt_ => XS.iconst X0.here hx rfl (hb hby d3_74) kt_) ?_
                  refine own_retN X0 hx hlk (t := .boolean) hret (by simp) (hb hby d3_75) (show nar .boolean (0 : Int32) = (0 : Int32) from by decide) (by decide) (by decide) ?_
                  exact ⟨by simp [own_exp, hc1_b1, hc6_b3, hc12_b5, hc18_b7, hc33_b9, hc38_b11, hc44_b13, hc67_b14], rfl, e0⟩
              · skip
                refine own_go (T' := s₁) (g' := (mkF mI 47 #[.val (.int k), .val (.int c)] [])) (fun t_ kt_ => XS.icmpNo X0.here hx rfl (hb hby d3_44) rfl (feq hc44_b13).1 kt_) ?_
                refine own_go (T' := s₁) (g' := (mkF mI 48 #[.val (.int k), .val (.int c)] [(.int k)])) (fun t_ kt_ => XS.iloadN X0.here hx rfl (hb hby d3_47) rfl kt_) ?_
                refine own_go (T' := s₁) (g' := (mkF mI 50 #[.val (.int k), .val (.int c)] [(.int (18 : Int32)), (.int k)])) (fun t_ kt_ => XS.bipush X0.here hx rfl (hb hby d3_48) kt_) ?_
                by_cases hc50_b15 : k = (18 : Int32)
                · skip
                  refine own_go (T' := s₁) (g' := (mkF mI 65 #[.val (.int k), .val (.int c)] [])) (fun t_ kt_ => XS.icmpYes X0.here hx rfl (pc0 := 50) (pc' := 65) rfl (hb hby d3_50) rfl (teq hc50_b15).1 (by decide) (by decide) kt_) ?_
                  refine own_go (T' := s₁) (g' := (mkF mI 66 #[.val (.int k), .val (.int c)] [(.int c)])) (fun t_ kt_ => XS.iloadN X0.here hx rfl (hb hby d3_65) rfl kt_) ?_
                  refine own_go (T' := s₁) (g' := (mkF mI 67 #[.val (.int k), .val (.int c)] [(.int (1 : Int32)), (.int c)])) (fun t_ kt_ => XS.iconst X0.here hx rfl (hb hby d3_66) kt_) ?_
                  by_cases hc67_b16 : c = (1 : Int32)
                  · skip
                    refine own_go (T' := s₁) (g' := (mkF mI 70 #[.val (.int k), .val (.int c)] [])) (fun t_ kt_ => XS.icmpNo X0.here hx rfl (hb hby d3_67) rfl (teq hc67_b16).2 kt_) ?_
                    refine own_go (T' := s₁) (g' := (mkF mI 71 #[.val (.int k), .val (.int c)] [(.int (1 : Int32))])) (fun t_ kt_ => XS.iconst X0.here hx rfl (hb hby d3_70) kt_) ?_
                    refine own_go (T' := s₁) (g' := (mkF mI 75 #[.val (.int k), .val (.int c)] [(.int (1 : Int32))])) (fun t_ kt_ => XS.goto X0.here hx rfl (pc0 := 71) (pc' := 75) rfl (hb hby d3_71) (by decide) (by decide) kt_) ?_
                    refine own_retN X0 hx hlk (t := .boolean) hret (by simp) (hb hby d3_75) (show nar .boolean (1 : Int32) = (1 : Int32) from by decide) (by decide) (by decide) ?_
                    exact ⟨by simp [own_exp, hc1_b1, hc6_b3, hc12_b5, hc18_b7, hc33_b9, hc38_b11, hc44_b13, hc50_b15, hc67_b16], rfl, e0⟩
                  · skip
                    refine own_go (T' := s₁) (g' := (mkF mI 74 #[.val (.int k), .val (.int c)] [])) (fun t_ kt_ => XS.icmpYes X0.here hx rfl (pc0 := 67) (pc' := 74) rfl (hb hby d3_67) rfl (feq hc67_b16).2 (by decide) (by decide) kt_) ?_
                    refine own_go (T' := s₁) (g' := (mkF mI 75 #[.val (.int k), .val (.int c)] [(.int (0 : Int32))])) (fun t_ kt_ => XS.iconst X0.here hx rfl (hb hby d3_74) kt_) ?_
                    refine own_retN X0 hx hlk (t := .boolean) hret (by simp) (hb hby d3_75) (show nar .boolean (0 : Int32) = (0 : Int32) from by decide) (by decide) (by decide) ?_
                    exact ⟨by simp [own_exp, hc1_b1, hc6_b3, hc12_b5, hc18_b7, hc33_b9, hc38_b11, hc44_b13, hc50_b15, hc67_b16], rfl, e0⟩
                · skip
                  refine own_go (T' := s₁) (g' := (mkF mI 53 #[.val (.int k), .val (.int c)] [])) (fun t_ kt_ => XS.icmpNo X0.here hx rfl (hb hby d3_50) rfl (feq hc50_b15).1 kt_) ?_
                  refine own_go (T' := s₁) (g' := (mkF mI 54 #[.val (.int k), .val (.int c)] [(.int k)])) (fun t_ kt_ => XS.iloadN X0.here hx rfl (hb hby d3_53) rfl kt_) ?_
                  refine own_go (T' := s₁) (g' := (mkF mI 56 #[.val (.int k), .val (.int c)] [(.int (21 : Int32)), (.int k)])) (fun t_ kt_ => XS.bipush X0.here hx rfl (hb hby d3_54) kt_) ?_
                  by_cases hc56_b17 : k = (21 : Int32)
                  · skip
                    refine own_go (T' := s₁) (g' := (mkF mI 65 #[.val (.int k), .val (.int c)] [])) (fun t_ kt_ => XS.icmpYes X0.here hx rfl (pc0 := 56) (pc' := 65) rfl (hb hby d3_56) rfl (teq hc56_b17).1 (by decide) (by decide) kt_) ?_
                    refine own_go (T' := s₁) (g' := (mkF mI 66 #[.val (.int k), .val (.int c)] [(.int c)])) (fun t_ kt_ => XS.iloadN X0.here hx rfl (hb hby d3_65) rfl kt_) ?_
                    refine own_go (T' := s₁) (g' := (mkF mI 67 #[.val (.int k), .val (.int c)] [(.int (1 : Int32)), (.int c)])) (fun t_ kt_ => XS.iconst X0.here hx rfl (hb hby d3_66) kt_) ?_
                    by_cases hc67_b18 : c = (1 : Int32)
                    · skip
                      refine own_go (T' := s₁) (g' := (mkF mI 70 #[.val (.int k), .val (.int c)] [])) (fun t_ kt_ => XS.icmpNo X0.here hx rfl (hb hby d3_67) rfl (teq hc67_b18).2 kt_) ?_
                      refine own_go (T' := s₁) (g' := (mkF mI 71 #[.val (.int k), .val (.int c)] [(.int (1 : Int32))])) (fun t_ kt_ => XS.iconst X0.here hx rfl (hb hby d3_70) kt_) ?_
                      refine own_go (T' := s₁) (g' := (mkF mI 75 #[.val (.int k), .val (.int c)] [(.int (1 : Int32))])) (fun t_ kt_ => XS.goto X0.here hx rfl (pc0 := 71) (pc' := 75) rfl (hb hby d3_71) (by decide) (by decide) kt_) ?_
                      refine own_retN X0 hx hlk (t := .boolean) hret (by simp) (hb hby d3_75) (show nar .boolean (1 : Int32) = (1 : Int32) from by decide) (by decide) (by decide) ?_
                      exact ⟨by simp [own_exp, hc1_b1, hc6_b3, hc12_b5, hc18_b7, hc33_b9, hc38_b11, hc44_b13, hc50_b15, hc56_b17, hc67_b18], rfl, e0⟩
                    · skip
                      refine own_go (T' := s₁) (g' := (mkF mI 74 #[.val (.int k), .val (.int c)] [])) (fun t_ kt_ => XS.icmpYes X0.here hx rfl (pc0 := 67) (pc' := 74) rfl (hb hby d3_67) rfl (feq hc67_b18).2 (by decide) (by decide) kt_) ?_
                      refine own_go (T' := s₁) (g' := (mkF mI 75 #[.val (.int k), .val (.int c)] [(.int (0 : Int32))])) (fun t_ kt_ => XS.iconst X0.here hx rfl (hb hby d3_74) kt_) ?_
                      refine own_retN X0 hx hlk (t := .boolean) hret (by simp) (hb hby d3_75) (show nar .boolean (0 : Int32) = (0 : Int32) from by decide) (by decide) (by decide) ?_
                      exact ⟨by simp [own_exp, hc1_b1, hc6_b3, hc12_b5, hc18_b7, hc33_b9, hc38_b11, hc44_b13, hc50_b15, hc56_b17, hc67_b18], rfl, e0⟩
                  · skip
                    refine own_go (T' := s₁) (g' := (mkF mI 59 #[.val (.int k), .val (.int c)] [])) (fun t_ kt_ => XS.icmpNo X0.here hx rfl (hb hby d3_56) rfl (feq hc56_b17).1 kt_) ?_
                    refine own_go (T' := s₁) (g' := (mkF mI 60 #[.val (.int k), .val (.int c)] [(.int k)])) (fun t_ kt_ => XS.iloadN X0.here hx rfl (hb hby d3_59) rfl kt_) ?_
                    refine own_go (T' := s₁) (g' := (mkF mI 62 #[.val (.int k), .val (.int c)] [(.int (23 : Int32)), (.int k)])) (fun t_ kt_ => XS.bipush X0.here hx rfl (hb hby d3_60) kt_) ?_
                    by_cases hc62_b19 : k < (23 : Int32)
                    · skip
                      refine own_go (T' := s₁) (g' := (mkF mI 76 #[.val (.int k), .val (.int c)] [])) (fun t_ kt_ => XS.icmpYes X0.here hx rfl (pc0 := 62) (pc' := 76) rfl (hb hby d3_62) rfl (tlt hc62_b19).1 (by decide) (by decide) kt_) ?_
                      refine own_go (T' := s₁) (g' := (mkF mI 77 #[.val (.int k), .val (.int c)] [(.int k)])) (fun t_ kt_ => XS.iloadN X0.here hx rfl (hb hby d3_76) rfl kt_) ?_
                      refine own_go (T' := s₁) (g' := (mkF mI 78 #[.val (.int k), .val (.int c)] [(.int (4 : Int32)), (.int k)])) (fun t_ kt_ => XS.iconst X0.here hx rfl (hb hby d3_77) kt_) ?_
                      by_cases hc78_b20 : k < (4 : Int32)
                      · skip
                        refine own_go (T' := s₁) (g' := (mkF mI 87 #[.val (.int k), .val (.int c)] [])) (fun t_ kt_ => XS.icmpYes X0.here hx rfl (pc0 := 78) (pc' := 87) rfl (hb hby d3_78) rfl (tlt hc78_b20).1 (by decide) (by decide) kt_) ?_
                        refine own_go (T' := s₁) (g' := (mkF mI 88 #[.val (.int k), .val (.int c)] [(.int k)])) (fun t_ kt_ => XS.iloadN X0.here hx rfl (hb hby d3_87) rfl kt_) ?_
                        refine own_go (T' := s₁) (g' := (mkF mI 90 #[.val (.int k), .val (.int c)] [(.int (14 : Int32)), (.int k)])) (fun t_ kt_ => XS.bipush X0.here hx rfl (hb hby d3_88) kt_) ?_
                        by_cases hc90_b21 : k = (14 : Int32)
                        · skip
                          refine own_go (T' := s₁) (g' := (mkF mI 105 #[.val (.int k), .val (.int c)] [])) (fun t_ kt_ => XS.icmpYes X0.here hx rfl (pc0 := 90) (pc' := 105) rfl (hb hby d3_90) rfl (teq hc90_b21).1 (by decide) (by decide) kt_) ?_
                          refine own_go (T' := s₁) (g' := (mkF mI 106 #[.val (.int k), .val (.int c)] [(.int c)])) (fun t_ kt_ => XS.iloadN X0.here hx rfl (hb hby d3_105) rfl kt_) ?_
                          by_cases hc106_b22 : c = (0 : Int32)
                          · skip
                            refine own_go (T' := s₁) (g' := (mkF mI 114 #[.val (.int k), .val (.int c)] [])) (fun t_ kt_ => XS.ifYes X0.here hx rfl (pc0 := 106) (pc' := 114) rfl (hb hby d3_106) rfl ((if0 _ _).trans (teq hc106_b22).1) (by decide) (by decide) kt_) ?_
                            refine own_go (T' := s₁) (g' := (mkF mI 115 #[.val (.int k), .val (.int c)] [(.int (1 : Int32))])) (fun t_ kt_ => XS.iconst X0.here hx rfl (hb hby d3_114) kt_) ?_
                            refine own_go (T' := s₁) (g' := (mkF mI 119 #[.val (.int k), .val (.int c)] [(.int (1 : Int32))])) (fun t_ kt_ => XS.goto X0.here hx rfl (pc0 := 115) (pc' := 119) rfl (hb hby d3_115) (by decide) (by decide) kt_) ?_
                            refine own_retN X0 hx hlk (t := .boolean) hret (by simp) (hb hby d3_119) (show nar .boolean (1 : Int32) = (1 : Int32) from by decide) (by decide) (by decide) ?_
                            exact ⟨by simp [own_exp, hc1_b1, hc6_b3, hc12_b5, hc18_b7, hc33_b9, hc38_b11, hc44_b13, hc50_b15, hc56_b17, hc62_b19, hc78_b20, hc90_b21, hc106_b22], rfl, e0⟩
                          · skip
                            refine own_go (T' := s₁) (g' := (mkF mI 109 #[.val (.int k), .val (.int c)] [])) (fun t_ kt_ => XS.ifNo X0.here hx rfl (hb hby d3_106) rfl ((if0 _ _).trans (feq hc106_b22).1) kt_) ?_
                            refine own_go (T' := s₁) (g' := (mkF mI 110 #[.val (.int k), .val (.int c)] [(.int c)])) (fun t_ kt_ => XS.iloadN X0.here hx rfl (hb hby d3_109) rfl kt_) ?_
                            refine own_go (T' := s₁) (g' := (mkF mI 111 #[.val (.int k), .val (.int c)] [(.int (1 : Int32)), (.int c)])) (fun t_ kt_ => XS.iconst X0.here hx rfl (hb hby d3_110) kt_) ?_
                            by_cases hc111_b23 : c = (1 : Int32)
                            · skip
                              refine own_go (T' := s₁) (g' := (mkF mI 114 #[.val (.int k), .val (.int c)] [])) (fun t_ kt_ => XS.icmpNo X0.here hx rfl (hb hby d3_111) rfl (teq hc111_b23).2 kt_) ?_
                              refine own_go (T' := s₁) (g' := (mkF mI 115 #[.val (.int k), .val (.int c)] [(.int (1 : Int32))])) (fun t_ kt_ => XS.iconst X0.here hx rfl (hb hby d3_114) kt_) ?_
                              refine own_go (T' := s₁) (g' := (mkF mI 119 #[.val (.int k), .val (.int c)] [(.int (1 : Int32))])) (fun t_ kt_ => XS.goto X0.here hx rfl (pc0 := 115) (pc' := 119) rfl (hb hby d3_115) (by decide) (by decide) kt_) ?_
                              refine own_retN X0 hx hlk (t := .boolean) hret (by simp) (hb hby d3_119) (show nar .boolean (1 : Int32) = (1 : Int32) from by decide) (by decide) (by decide) ?_
                              exact ⟨by simp [own_exp, hc1_b1, hc6_b3, hc12_b5, hc18_b7, hc33_b9, hc38_b11, hc44_b13, hc50_b15, hc56_b17, hc62_b19, hc78_b20, hc90_b21, hc106_b22, hc111_b23], rfl, e0⟩
                            · skip
                              refine own_go (T' := s₁) (g' := (mkF mI 118 #[.val (.int k), .val (.int c)] [])) (fun t_ kt_ => XS.icmpYes X0.here hx rfl (pc0 := 111) (pc' := 118) rfl (hb hby d3_111) rfl (feq hc111_b23).2 (by decide) (by decide) kt_) ?_
                              refine own_go (T' := s₁) (g' := (mkF mI 119 #[.val (.int k), .val (.int c)] [(.int (0 : Int32))])) (fun t_ kt_ => XS.iconst X0.here hx rfl (hb hby d3_118) kt_) ?_
                              refine own_retN X0 hx hlk (t := .boolean) hret (by simp) (hb hby d3_119) (show nar .boolean (0 : Int32) = (0 : Int32) from by decide) (by decide) (by decide) ?_
                              exact ⟨by simp [own_exp, hc1_b1, hc6_b3, hc12_b5, hc18_b7, hc33_b9, hc38_b11, hc44_b13, hc50_b15, hc56_b17, hc62_b19, hc78_b20, hc90_b21, hc106_b22, hc111_b23], rfl, e0⟩
                        · skip
                          refine own_go (T' := s₁) (g' := (mkF mI 93 #[.val (.int k), .val (.int c)] [])) (fun t_ kt_ => XS.icmpNo X0.here hx rfl (hb hby d3_90) rfl (feq hc90_b21).1 kt_) ?_
                          refine own_go (T' := s₁) (g' := (mkF mI 94 #[.val (.int k), .val (.int c)] [(.int k)])) (fun t_ kt_ => XS.iloadN X0.here hx rfl (hb hby d3_93) rfl kt_) ?_
                          refine own_go (T' := s₁) (g' := (mkF mI 96 #[.val (.int k), .val (.int c)] [(.int (15 : Int32)), (.int k)])) (fun t_ kt_ => XS.bipush X0.here hx rfl (hb hby d3_94) kt_) ?_
                          by_cases hc96_b24 : k = (15 : Int32)
                          · skip
                            refine own_go (T' := s₁) (g' := (mkF mI 105 #[.val (.int k), .val (.int c)] [])) (fun t_ kt_ => XS.icmpYes X0.here hx rfl (pc0 := 96) (pc' := 105) rfl (hb hby d3_96) rfl (teq hc96_b24).1 (by decide) (by decide) kt_) ?_
                            refine own_go (T' := s₁) (g' := (mkF mI 106 #[.val (.int k), .val (.int c)] [(.int c)])) (fun t_ kt_ => XS.iloadN X0.here hx rfl (hb hby d3_105) rfl kt_) ?_
                            by_cases hc106_b25 : c = (0 : Int32)
                            · skip
                              refine own_go (T' := s₁) (g' := (mkF mI 114 #[.val (.int k), .val (.int c)] [])) (fun t_ kt_ => XS.ifYes X0.here hx rfl (pc0 := 106) (pc' := 114) rfl (hb hby d3_106) rfl ((if0 _ _).trans (teq hc106_b25).1) (by decide) (by decide) kt_) ?_
                              refine own_go (T' := s₁) (g' := (mkF mI 115 #[.val (.int k), .val (.int c)] [(.int (1 : Int32))])) (fun t_ kt_ => XS.iconst X0.here hx rfl (hb hby d3_114) kt_) ?_
                              refine own_go (T' := s₁) (g' := (mkF mI 119 #[.val (.int k), .val (.int c)] [(.int (1 : Int32))])) (fun t_ kt_ => XS.goto X0.here hx rfl (pc0 := 115) (pc' := 119) rfl (hb hby d3_115) (by decide) (by decide) kt_) ?_
                              refine own_retN X0 hx hlk (t := .boolean) hret (by simp) (hb hby d3_119) (show nar .boolean (1 : Int32) = (1 : Int32) from by decide) (by decide) (by decide) ?_
                              exact ⟨by simp [own_exp, hc1_b1, hc6_b3, hc12_b5, hc18_b7, hc33_b9, hc38_b11, hc44_b13, hc50_b15, hc56_b17, hc62_b19, hc78_b20, hc90_b21, hc96_b24, hc106_b25], rfl, e0⟩
                            · skip
                              refine own_go (T' := s₁) (g' := (mkF mI 109 #[.val (.int k), .val (.int c)] [])) (fun t_ kt_ => XS.ifNo X0.here hx rfl (hb hby d3_106) rfl ((if0 _ _).trans (feq hc106_b25).1) kt_) ?_
                              refine own_go (T' := s₁) (g' := (mkF mI 110 #[.val (.int k), .val (.int c)] [(.int c)])) (fun t_ kt_ => XS.iloadN X0.here hx rfl (hb hby d3_109) rfl kt_) ?_
                              refine own_go (T' := s₁) (g' := (mkF mI 111 #[.val (.int k), .val (.int c)] [(.int (1 : Int32)), (.int c)])) (fun t_ kt_ => XS.iconst X0.here hx rfl (hb hby d3_110) kt_) ?_
                              by_cases hc111_b26 : c = (1 : Int32)
                              · skip
                                refine own_go (T' := s₁) (g' := (mkF mI 114 #[.val (.int k), .val (.int c)] [])) (fun t_ kt_ => XS.icmpNo X0.here hx rfl (hb hby d3_111) rfl (teq hc111_b26).2 kt_) ?_
                                refine own_go (T' := s₁) (g' := (mkF mI 115 #[.val (.int k), .val (.int c)] [(.int (1 : Int32))])) (fun t_ kt_ => XS.iconst X0.here hx rfl (hb hby d3_114) kt_) ?_
                                refine own_go (T' := s₁) (g' := (mkF mI 119 #[.val (.int k), .val (.int c)] [(.int (1 : Int32))])) (fun t_ kt_ => XS.goto X0.here hx rfl (pc0 := 115) (pc' := 119) rfl (hb hby d3_115) (by decide) (by decide) kt_) ?_
                                refine own_retN X0 hx hlk (t := .boolean) hret (by simp) (hb hby d3_119) (show nar .boolean (1 : Int32) = (1 : Int32) from by decide) (by decide) (by decide) ?_
                                exact ⟨by simp [own_exp, hc1_b1, hc6_b3, hc12_b5, hc18_b7, hc33_b9, hc38_b11, hc44_b13, hc50_b15, hc56_b17, hc62_b19, hc78_b20, hc90_b21, hc96_b24, hc106_b25, hc111_b26], rfl, e0⟩
                              · skip
                                refine own_go (T' := s₁) (g' := (mkF mI 118 #[.val (.int k), .val (.int c)] [])) (fun t_ kt_ => XS.icmpYes X0.here hx rfl (pc0 := 111) (pc' := 118) rfl (hb hby d3_111) rfl (feq hc111_b26).2 (by decide) (by decide) kt_) ?_
                                refine own_go (T' := s₁) (g' := (mkF mI 119 #[.val (.int k), .val (.int c)] [(.int (0 : Int32))])) (fun t_ kt_ => XS.iconst X0.here hx rfl (hb hby d3_118) kt_) ?_
                                refine own_retN X0 hx hlk (t := .boolean) hret (by simp) (hb hby d3_119) (show nar .boolean (0 : Int32) = (0 : Int32) from by decide) (by decide) (by decide) ?_
                                exact ⟨by simp [own_exp, hc1_b1, hc6_b3, hc12_b5, hc18_b7, hc33_b9, hc38_b11, hc44_b13, hc50_b15, hc56_b17, hc62_b19, hc78_b20, hc90_b21, hc96_b24, hc106_b25, hc111_b26], rfl, e0⟩
                          · skip
                            refine own_go (T' := s₁) (g' := (mkF mI 99 #[.val (.int k), .val (.int c)] [])) (fun t_ kt_ => XS.icmpNo X0.here hx rfl (hb hby d3_96) rfl (feq hc96_b24).1 kt_) ?_
                            refine own_go (T' := s₁) (g' := (mkF mI 100 #[.val (.int k), .val (.int c)] [(.int k)])) (fun t_ kt_ => XS.iloadN X0.here hx rfl (hb hby d3_99) rfl kt_) ?_
                            refine own_go (T' := s₁) (g' := (mkF mI 102 #[.val (.int k), .val (.int c)] [(.int (22 : Int32)), (.int k)])) (fun t_ kt_ => XS.bipush X0.here hx rfl (hb hby d3_100) kt_) ?_
                            by_cases hc102_b27 : k = (22 : Int32)
                            · skip
                              refine own_go (T' := s₁) (g' := (mkF mI 105 #[.val (.int k), .val (.int c)] [])) (fun t_ kt_ => XS.icmpNo X0.here hx rfl (hb hby d3_102) rfl (teq hc102_b27).2 kt_) ?_
                              refine own_go (T' := s₁) (g' := (mkF mI 106 #[.val (.int k), .val (.int c)] [(.int c)])) (fun t_ kt_ => XS.iloadN X0.here hx rfl (hb hby d3_105) rfl kt_) ?_
                              by_cases hc106_b28 : c = (0 : Int32)
                              · skip
                                refine own_go (T' := s₁) (g' := (mkF mI 114 #[.val (.int k), .val (.int c)] [])) (fun t_ kt_ => XS.ifYes X0.here hx rfl (pc0 := 106) (pc' := 114) rfl (hb hby d3_106) rfl ((if0 _ _).trans (teq hc106_b28).1) (by decide) (by decide) kt_) ?_
                                refine own_go (T' := s₁) (g' := (mkF mI 115 #[.val (.int k), .val (.int c)] [(.int (1 : Int32))])) (fun t_ kt_ => XS.iconst X0.here hx rfl (hb hby d3_114) kt_) ?_
                                refine own_go (T' := s₁) (g' := (mkF mI 119 #[.val (.int k), .val (.int c)] [(.int (1 : Int32))])) (fun t_ kt_ => XS.goto X0.here hx rfl (pc0 := 115) (pc' := 119) rfl (hb hby d3_115) (by decide) (by decide) kt_) ?_
                                refine own_retN X0 hx hlk (t := .boolean) hret (by simp) (hb hby d3_119) (show nar .boolean (1 : Int32) = (1 : Int32) from by decide) (by decide) (by decide) ?_
                                exact ⟨by simp [own_exp, hc1_b1, hc6_b3, hc12_b5, hc18_b7, hc33_b9, hc38_b11, hc44_b13, hc50_b15, hc56_b17, hc62_b19, hc78_b20, hc90_b21, hc96_b24, hc102_b27, hc106_b28], rfl, e0⟩
                              · skip
                                refine own_go (T' := s₁) (g' := (mkF mI 109 #[.val (.int k), .val (.int c)] [])) (fun t_ kt_ => XS.ifNo X0.here hx rfl (hb hby d3_106) rfl ((if0 _ _).trans (feq hc106_b28).1) kt_) ?_
                                refine own_go (T' := s₁) (g' := (mkF mI 110 #[.val (.int k), .val (.int c)] [(.int c)])) (fun t_ kt_ => XS.iloadN X0.here hx rfl (hb hby d3_109) rfl kt_) ?_
                                refine own_go (T' := s₁) (g' := (mkF mI 111 #[.val (.int k), .val (.int c)] [(.int (1 : Int32)), (.int c)])) (fun t_ kt_ => XS.iconst X0.here hx rfl (hb hby d3_110) kt_) ?_
                                by_cases hc111_b29 : c = (1 : Int32)
                                · skip
                                  refine own_go (T' := s₁) (g' := (mkF mI 114 #[.val (.int k), .val (.int c)] [])) (fun t_ kt_ => XS.icmpNo X0.here hx rfl (hb hby d3_111) rfl (teq hc111_b29).2 kt_) ?_
                                  refine own_go (T' := s₁) (g' := (mkF mI 115 #[.val (.int k), .val (.int c)] [(.int (1 : Int32))])) (fun t_ kt_ => XS.iconst X0.here hx rfl (hb hby d3_114) kt_) ?_
                                  refine own_go (T' := s₁) (g' := (mkF mI 119 #[.val (.int k), .val (.int c)] [(.int (1 : Int32))])) (fun t_ kt_ => XS.goto X0.here hx rfl (pc0 := 115) (pc' := 119) rfl (hb hby d3_115) (by decide) (by decide) kt_) ?_
                                  refine own_retN X0 hx hlk (t := .boolean) hret (by simp) (hb hby d3_119) (show nar .boolean (1 : Int32) = (1 : Int32) from by decide) (by decide) (by decide) ?_
                                  exact ⟨by simp [own_exp, hc1_b1, hc6_b3, hc12_b5, hc18_b7, hc33_b9, hc38_b11, hc44_b13, hc50_b15, hc56_b17, hc62_b19, hc78_b20, hc90_b21, hc96_b24, hc102_b27, hc106_b28, hc111_b29], rfl, e0⟩
                                · skip
                                  refine own_go (T' := s₁) (g' := (mkF mI 118 #[.val (.int k), .val (.int c)] [])) (fun t_ kt_ => XS.icmpYes X0.here hx rfl (pc0 := 111) (pc' := 118) rfl (hb hby d3_111) rfl (feq hc111_b29).2 (by decide) (by decide) kt_) ?_
                                  refine own_go (T' := s₁) (g' := (mkF mI 119 #[.val (.int k), .val (.int c)] [(.int (0 : Int32))])) (fun t_ kt_ => XS.iconst X0.here hx rfl (hb hby d3_118) kt_) ?_
                                  refine own_retN X0 hx hlk (t := .boolean) hret (by simp) (hb hby d3_119) (show nar .boolean (0 : Int32) = (0 : Int32) from by decide) (by decide) (by decide) ?_
                                  exact ⟨by simp [own_exp, hc1_b1, hc6_b3, hc12_b5, hc18_b7, hc33_b9, hc38_b11, hc44_b13, hc50_b15, hc56_b17, hc62_b19, hc78_b20, hc90_b21, hc96_b24, hc102_b27, hc106_b28, hc111_b29], rfl, e0⟩
                            · skip
                              refine own_go (T' := s₁) (g' := (mkF mI 120 #[.val (.int k), .val (.int c)] [])) (fun t_ kt_ => XS.icmpYes X0.here hx rfl (pc0 := 102) (pc' := 120) rfl (hb hby d3_102) rfl (feq hc102_b27).2 (by decide) (by decide) kt_) ?_
                              refine own_go (T' := s₁) (g' := (mkF mI 121 #[.val (.int k), .val (.int c)] [(.int k)])) (fun t_ kt_ => XS.iloadN X0.here hx rfl (hb hby d3_120) rfl kt_) ?_
                              refine own_go (T' := s₁) (g' := (mkF mI 123 #[.val (.int k), .val (.int c)] [(.int (8 : Int32)), (.int k)])) (fun t_ kt_ => XS.bipush X0.here hx rfl (hb hby d3_121) kt_) ?_
                              by_cases hc123_b30 : k = (8 : Int32)
                              · skip
                                refine own_go (T' := s₁) (g' := (mkF mI 126 #[.val (.int k), .val (.int c)] [])) (fun t_ kt_ => XS.icmpNo X0.here hx rfl (hb hby d3_123) rfl (teq hc123_b30).2 kt_) ?_
                                refine own_go (T' := s₁) (g' := (mkF mI 127 #[.val (.int k), .val (.int c)] [(.int c)])) (fun t_ kt_ => XS.iloadN X0.here hx rfl (hb hby d3_126) rfl kt_) ?_
                                refine own_go (T' := s₁) (g' := (mkF mI 128 #[.val (.int k), .val (.int c)] [(.int (2 : Int32)), (.int c)])) (fun t_ kt_ => XS.iconst X0.here hx rfl (hb hby d3_127) kt_) ?_
                                by_cases hc128_b31 : c < (2 : Int32)
                                · skip
                                  refine own_go (T' := s₁) (g' := (mkF mI 135 #[.val (.int k), .val (.int c)] [])) (fun t_ kt_ => XS.icmpYes X0.here hx rfl (pc0 := 128) (pc' := 135) rfl (hb hby d3_128) rfl (tlt hc128_b31).1 (by decide) (by decide) kt_) ?_
                                  refine own_go (T' := s₁) (g' := (mkF mI 136 #[.val (.int k), .val (.int c)] [(.int (0 : Int32))])) (fun t_ kt_ => XS.iconst X0.here hx rfl (hb hby d3_135) kt_) ?_
                                  refine own_retN X0 hx hlk (t := .boolean) hret (by simp) (hb hby d3_136) (show nar .boolean (0 : Int32) = (0 : Int32) from by decide) (by decide) (by decide) ?_
                                  exact ⟨by simp [own_exp, hc1_b1, hc6_b3, hc12_b5, hc18_b7, hc33_b9, hc38_b11, hc44_b13, hc50_b15, hc56_b17, hc62_b19, hc78_b20, hc90_b21, hc96_b24, hc102_b27, hc123_b30, hc128_b31], rfl, e0⟩
                                · skip
                                  refine own_go (T' := s₁) (g' := (mkF mI 131 #[.val (.int k), .val (.int c)] [])) (fun t_ kt_ => XS.icmpNo X0.here hx rfl (hb hby d3_128) rfl (flt hc128_b31).1 kt_) ?_
                                  refine own_go (T' := s₁) (g' := (mkF mI 132 #[.val (.int k), .val (.int c)] [(.int (1 : Int32))])) (fun t_ kt_ => XS.iconst X0.here hx rfl (hb hby d3_131) kt_) ?_
                                  refine own_go (T' := s₁) (g' := (mkF mI 136 #[.val (.int k), .val (.int c)] [(.int (1 : Int32))])) (fun t_ kt_ => XS.goto X0.here hx rfl (pc0 := 132) (pc' := 136) rfl (hb hby d3_132) (by decide) (by decide) kt_) ?_
                                  refine own_retN X0 hx hlk (t := .boolean) hret (by simp) (hb hby d3_136) (show nar .boolean (1 : Int32) = (1 : Int32) from by decide) (by decide) (by decide) ?_
                                  exact ⟨by simp [own_exp, hc1_b1, hc6_b3, hc12_b5, hc18_b7, hc33_b9, hc38_b11, hc44_b13, hc50_b15, hc56_b17, hc62_b19, hc78_b20, hc90_b21, hc96_b24, hc102_b27, hc123_b30, hc128_b31], rfl, e0⟩
                              · skip
                                refine own_go (T' := s₁) (g' := (mkF mI 137 #[.val (.int k), .val (.int c)] [])) (fun t_ kt_ => XS.icmpYes X0.here hx rfl (pc0 := 123) (pc' := 137) rfl (hb hby d3_123) rfl (feq hc123_b30).2 (by decide) (by decide) kt_) ?_
                                refine own_go (T' := s₁) (g' := (mkF mI 138 #[.val (.int k), .val (.int c)] [(.int k)])) (fun t_ kt_ => XS.iloadN X0.here hx rfl (hb hby d3_137) rfl kt_) ?_
                                refine own_go (T' := s₁) (g' := (mkF mI 140 #[.val (.int k), .val (.int c)] [(.int (9 : Int32)), (.int k)])) (fun t_ kt_ => XS.bipush X0.here hx rfl (hb hby d3_138) kt_) ?_
                                by_cases hc140_b32 : k < (9 : Int32)
                                · skip
                                  refine own_go (T' := s₁) (g' := (mkF mI 160 #[.val (.int k), .val (.int c)] [])) (fun t_ kt_ => XS.icmpYes X0.here hx rfl (pc0 := 140) (pc' := 160) rfl (hb hby d3_140) rfl (tlt hc140_b32).1 (by decide) (by decide) kt_) ?_
                                  refine own_go (T' := s₁) (g' := (mkF mI 161 #[.val (.int k), .val (.int c)] [(.int k)])) (fun t_ kt_ => XS.iloadN X0.here hx rfl (hb hby d3_160) rfl kt_) ?_
                                  refine own_go (T' := s₁) (g' := (mkF mI 163 #[.val (.int k), .val (.int c)] [(.int (13 : Int32)), (.int k)])) (fun t_ kt_ => XS.bipush X0.here hx rfl (hb hby d3_161) kt_) ?_
                                  by_cases hc163_b33 : k = (13 : Int32)
                                  · skip
                                    refine own_go (T' := s₁) (g' := (mkF mI 166 #[.val (.int k), .val (.int c)] [])) (fun t_ kt_ => XS.icmpNo X0.here hx rfl (hb hby d3_163) rfl (teq hc163_b33).2 kt_) ?_
                                    refine own_go (T' := s₁) (g' := (mkF mI 167 #[.val (.int k), .val (.int c)] [(.int c)])) (fun t_ kt_ => XS.iloadN X0.here hx rfl (hb hby d3_166) rfl kt_) ?_
                                    refine own_go (T' := s₁) (g' := (mkF mI 168 #[.val (.int k), .val (.int c)] [(.int (2 : Int32)), (.int c)])) (fun t_ kt_ => XS.iconst X0.here hx rfl (hb hby d3_167) kt_) ?_
                                    by_cases hc168_b34 : c = (2 : Int32)
                                    · skip
                                      refine own_go (T' := s₁) (g' := (mkF mI 176 #[.val (.int k), .val (.int c)] [])) (fun t_ kt_ => XS.icmpYes X0.here hx rfl (pc0 := 168) (pc' := 176) rfl (hb hby d3_168) rfl (teq hc168_b34).1 (by decide) (by decide) kt_) ?_
                                      refine own_go (T' := s₁) (g' := (mkF mI 177 #[.val (.int k), .val (.int c)] [(.int (1 : Int32))])) (fun t_ kt_ => XS.iconst X0.here hx rfl (hb hby d3_176) kt_) ?_
                                      refine own_go (T' := s₁) (g' := (mkF mI 181 #[.val (.int k), .val (.int c)] [(.int (1 : Int32))])) (fun t_ kt_ => XS.goto X0.here hx rfl (pc0 := 177) (pc' := 181) rfl (hb hby d3_177) (by decide) (by decide) kt_) ?_
                                      refine own_retN X0 hx hlk (t := .boolean) hret (by simp) (hb hby d3_181) (show nar .boolean (1 : Int32) = (1 : Int32) from by decide) (by decide) (by decide) ?_
                                      exact ⟨by simp [own_exp, hc1_b1, hc6_b3, hc12_b5, hc18_b7, hc33_b9, hc38_b11, hc44_b13, hc50_b15, hc56_b17, hc62_b19, hc78_b20, hc90_b21, hc96_b24, hc102_b27, hc123_b30, hc140_b32, hc163_b33, hc168_b34], rfl, e0⟩
                                    · skip
                                      refine own_go (T' := s₁) (g' := (mkF mI 171 #[.val (.int k), .val (.int c)] [])) (fun t_ kt_ => XS.icmpNo X0.here hx rfl (hb hby d3_168) rfl (feq hc168_b34).1 kt_) ?_
                                      refine own_go (T' := s₁) (g' := (mkF mI 172 #[.val (.int k), .val (.int c)] [(.int c)])) (fun t_ kt_ => XS.iloadN X0.here hx rfl (hb hby d3_171) rfl kt_) ?_
                                      refine own_go (T' := s₁) (g' := (mkF mI 173 #[.val (.int k), .val (.int c)] [(.int (3 : Int32)), (.int c)])) (fun t_ kt_ => XS.iconst X0.here hx rfl (hb hby d3_172) kt_) ?_
                                      by_cases hc173_b35 : c = (3 : Int32)
                                      · skip
                                        refine own_go (T' := s₁) (g' := (mkF mI 176 #[.val (.int k), .val (.int c)] [])) (fun t_ kt_ => XS.icmpNo X0.here hx rfl (hb hby d3_173) rfl (teq hc173_b35).2 kt_) ?_
                                        refine own_go (T' := s₁) (g' := (mkF mI 177 #[.val (.int k), .val (.int c)] [(.int (1 : Int32))])) (fun t_ kt_ => XS.iconst X0.here hx rfl (hb hby d3_176) kt_) ?_
                                        refine own_go (T' := s₁) (g' := (mkF mI 181 #[.val (.int k), .val (.int c)] [(.int (1 : Int32))])) (fun t_ kt_ => XS.goto X0.here hx rfl (pc0 := 177) (pc' := 181) rfl (hb hby d3_177) (by decide) (by decide) kt_) ?_
                                        refine own_retN X0 hx hlk (t := .boolean) hret (by simp) (hb hby d3_181) (show nar .boolean (1 : Int32) = (1 : Int32) from by decide) (by decide) (by decide) ?_
                                        exact ⟨by simp [own_exp, hc1_b1, hc6_b3, hc12_b5, hc18_b7, hc33_b9, hc38_b11, hc44_b13, hc50_b15, hc56_b17, hc62_b19, hc78_b20, hc90_b21, hc96_b24, hc102_b27, hc123_b30, hc140_b32, hc163_b33, hc168_b34, hc173_b35], rfl, e0⟩
                                      · skip
                                        refine own_go (T' := s₁) (g' := (mkF mI 180 #[.val (.int k), .val (.int c)] [])) (fun t_ kt_ => XS.icmpYes X0.here hx rfl (pc0 := 173) (pc' := 180) rfl (hb hby d3_173) rfl (feq hc173_b35).2 (by decide) (by decide) kt_) ?_
                                        refine own_go (T' := s₁) (g' := (mkF mI 181 #[.val (.int k), .val (.int c)] [(.int (0 : Int32))])) (fun t_ kt_ => XS.iconst X0.here hx rfl (hb hby d3_180) kt_) ?_
                                        refine own_retN X0 hx hlk (t := .boolean) hret (by simp) (hb hby d3_181) (show nar .boolean (0 : Int32) = (0 : Int32) from by decide) (by decide) (by decide) ?_
                                        exact ⟨by simp [own_exp, hc1_b1, hc6_b3, hc12_b5, hc18_b7, hc33_b9, hc38_b11, hc44_b13, hc50_b15, hc56_b17, hc62_b19, hc78_b20, hc90_b21, hc96_b24, hc102_b27, hc123_b30, hc140_b32, hc163_b33, hc168_b34, hc173_b35], rfl, e0⟩
                                  · skip
                                    refine own_go (T' := s₁) (g' := (mkF mI 182 #[.val (.int k), .val (.int c)] [])) (fun t_ kt_ => XS.icmpYes X0.here hx rfl (pc0 := 163) (pc' := 182) rfl (hb hby d3_163) rfl (feq hc163_b33).2 (by decide) (by decide) kt_) ?_
                                    refine own_go (T' := s₁) (g' := (mkF mI 183 #[.val (.int k), .val (.int c)] [(.int c)])) (fun t_ kt_ => XS.iloadN X0.here hx rfl (hb hby d3_182) rfl kt_) ?_
                                    refine own_go (T' := s₁) (g' := (mkF mI 184 #[.val (.int k), .val (.int c)] [(.int (3 : Int32)), (.int c)])) (fun t_ kt_ => XS.iconst X0.here hx rfl (hb hby d3_183) kt_) ?_
                                    by_cases hc184_b36 : c = (3 : Int32)
                                    · skip
                                      refine own_go (T' := s₁) (g' := (mkF mI 187 #[.val (.int k), .val (.int c)] [])) (fun t_ kt_ => XS.icmpNo X0.here hx rfl (hb hby d3_184) rfl (teq hc184_b36).2 kt_) ?_
                                      refine own_go (T' := s₁) (g' := (mkF mI 188 #[.val (.int k), .val (.int c)] [(.int (1 : Int32))])) (fun t_ kt_ => XS.iconst X0.here hx rfl (hb hby d3_187) kt_) ?_
                                      refine own_go (T' := s₁) (g' := (mkF mI 192 #[.val (.int k), .val (.int c)] [(.int (1 : Int32))])) (fun t_ kt_ => XS.goto X0.here hx rfl (pc0 := 188) (pc' := 192) rfl (hb hby d3_188) (by decide) (by decide) kt_) ?_
                                      refine own_retN X0 hx hlk (t := .boolean) hret (by simp) (hb hby d3_192) (show nar .boolean (1 : Int32) = (1 : Int32) from by decide) (by decide) (by decide) ?_
                                      exact ⟨by simp [own_exp, hc1_b1, hc6_b3, hc12_b5, hc18_b7, hc33_b9, hc38_b11, hc44_b13, hc50_b15, hc56_b17, hc62_b19, hc78_b20, hc90_b21, hc96_b24, hc102_b27, hc123_b30, hc140_b32, hc163_b33, hc184_b36], rfl, e0⟩
                                    · skip
                                      refine own_go (T' := s₁) (g' := (mkF mI 191 #[.val (.int k), .val (.int c)] [])) (fun t_ kt_ => XS.icmpYes X0.here hx rfl (pc0 := 184) (pc' := 191) rfl (hb hby d3_184) rfl (feq hc184_b36).2 (by decide) (by decide) kt_) ?_
                                      refine own_go (T' := s₁) (g' := (mkF mI 192 #[.val (.int k), .val (.int c)] [(.int (0 : Int32))])) (fun t_ kt_ => XS.iconst X0.here hx rfl (hb hby d3_191) kt_) ?_
                                      refine own_retN X0 hx hlk (t := .boolean) hret (by simp) (hb hby d3_192) (show nar .boolean (0 : Int32) = (0 : Int32) from by decide) (by decide) (by decide) ?_
                                      exact ⟨by simp [own_exp, hc1_b1, hc6_b3, hc12_b5, hc18_b7, hc33_b9, hc38_b11, hc44_b13, hc50_b15, hc56_b17, hc62_b19, hc78_b20, hc90_b21, hc96_b24, hc102_b27, hc123_b30, hc140_b32, hc163_b33, hc184_b36], rfl, e0⟩
                                · skip
                                  refine own_go (T' := s₁) (g' := (mkF mI 143 #[.val (.int k), .val (.int c)] [])) (fun t_ kt_ => XS.icmpNo X0.here hx rfl (hb hby d3_140) rfl (flt hc140_b32).1 kt_) ?_
                                  refine own_go (T' := s₁) (g' := (mkF mI 144 #[.val (.int k), .val (.int c)] [(.int k)])) (fun t_ kt_ => XS.iloadN X0.here hx rfl (hb hby d3_143) rfl kt_) ?_
                                  refine own_go (T' := s₁) (g' := (mkF mI 146 #[.val (.int k), .val (.int c)] [(.int (12 : Int32)), (.int k)])) (fun t_ kt_ => XS.bipush X0.here hx rfl (hb hby d3_144) kt_) ?_
                                  by_cases hc146_b37 : (12 : Int32) < k
                                  · skip
                                    refine own_go (T' := s₁) (g' := (mkF mI 160 #[.val (.int k), .val (.int c)] [])) (fun t_ kt_ => XS.icmpYes X0.here hx rfl (pc0 := 146) (pc' := 160) rfl (hb hby d3_146) rfl (tlt hc146_b37).2.2.1 (by decide) (by decide) kt_) ?_
                                    refine own_go (T' := s₁) (g' := (mkF mI 161 #[.val (.int k), .val (.int c)] [(.int k)])) (fun t_ kt_ => XS.iloadN X0.here hx rfl (hb hby d3_160) rfl kt_) ?_
                                    refine own_go (T' := s₁) (g' := (mkF mI 163 #[.val (.int k), .val (.int c)] [(.int (13 : Int32)), (.int k)])) (fun t_ kt_ => XS.bipush X0.here hx rfl (hb hby d3_161) kt_) ?_
                                    by_cases hc163_b38 : k = (13 : Int32)
                                    · skip
                                      refine own_go (T' := s₁) (g' := (mkF mI 166 #[.val (.int k), .val (.int c)] [])) (fun t_ kt_ => XS.icmpNo X0.here hx rfl (hb hby d3_163) rfl (teq hc163_b38).2 kt_) ?_
                                      refine own_go (T' := s₁) (g' := (mkF mI 167 #[.val (.int k), .val (.int c)] [(.int c)])) (fun t_ kt_ => XS.iloadN X0.here hx rfl (hb hby d3_166) rfl kt_) ?_
                                      refine own_go (T' := s₁) (g' := (mkF mI 168 #[.val (.int k), .val (.int c)] [(.int (2 : Int32)), (.int c)])) (fun t_ kt_ => XS.iconst X0.here hx rfl (hb hby d3_167) kt_) ?_
                                      by_cases hc168_b39 : c = (2 : Int32)
                                      · skip
                                        refine own_go (T' := s₁) (g' := (mkF mI 176 #[.val (.int k), .val (.int c)] [])) (fun t_ kt_ => XS.icmpYes X0.here hx rfl (pc0 := 168) (pc' := 176) rfl (hb hby d3_168) rfl (teq hc168_b39).1 (by decide) (by decide) kt_) ?_
                                        refine own_go (T' := s₁) (g' := (mkF mI 177 #[.val (.int k), .val (.int c)] [(.int (1 : Int32))])) (fun t_ kt_ => XS.iconst X0.here hx rfl (hb hby d3_176) kt_) ?_
                                        refine own_go (T' := s₁) (g' := (mkF mI 181 #[.val (.int k), .val (.int c)] [(.int (1 : Int32))])) (fun t_ kt_ => XS.goto X0.here hx rfl (pc0 := 177) (pc' := 181) rfl (hb hby d3_177) (by decide) (by decide) kt_) ?_
                                        refine own_retN X0 hx hlk (t := .boolean) hret (by simp) (hb hby d3_181) (show nar .boolean (1 : Int32) = (1 : Int32) from by decide) (by decide) (by decide) ?_
                                        exact ⟨by simp [own_exp, hc1_b1, hc6_b3, hc12_b5, hc18_b7, hc33_b9, hc38_b11, hc44_b13, hc50_b15, hc56_b17, hc62_b19, hc78_b20, hc90_b21, hc96_b24, hc102_b27, hc123_b30, hc140_b32, hc146_b37, hc163_b38, hc168_b39], rfl, e0⟩
                                      · skip
                                        refine own_go (T' := s₁) (g' := (mkF mI 171 #[.val (.int k), .val (.int c)] [])) (fun t_ kt_ => XS.icmpNo X0.here hx rfl (hb hby d3_168) rfl (feq hc168_b39).1 kt_) ?_
                                        refine own_go (T' := s₁) (g' := (mkF mI 172 #[.val (.int k), .val (.int c)] [(.int c)])) (fun t_ kt_ => XS.iloadN X0.here hx rfl (hb hby d3_171) rfl kt_) ?_
                                        refine own_go (T' := s₁) (g' := (mkF mI 173 #[.val (.int k), .val (.int c)] [(.int (3 : Int32)), (.int c)])) (fun t_ kt_ => XS.iconst X0.here hx rfl (hb hby d3_172) kt_) ?_
                                        by_cases hc173_b40 : c = (3 : Int32)
                                        · skip
                                          refine own_go (T' := s₁) (g' := (mkF mI 176 #[.val (.int k), .val (.int c)] [])) (fun t_ kt_ => XS.icmpNo X0.here hx rfl (hb hby d3_173) rfl (teq hc173_b40).2 kt_) ?_
                                          refine own_go (T' := s₁) (g' := (mkF mI 177 #[.val (.int k), .val (.int c)] [(.int (1 : Int32))])) (fun t_ kt_ => XS.iconst X0.here hx rfl (hb hby d3_176) kt_) ?_
                                          refine own_go (T' := s₁) (g' := (mkF mI 181 #[.val (.int k), .val (.int c)] [(.int (1 : Int32))])) (fun t_ kt_ => XS.goto X0.here hx rfl (pc0 := 177) (pc' := 181) rfl (hb hby d3_177) (by decide) (by decide) kt_) ?_
                                          refine own_retN X0 hx hlk (t := .boolean) hret (by simp) (hb hby d3_181) (show nar .boolean (1 : Int32) = (1 : Int32) from by decide) (by decide) (by decide) ?_
                                          exact ⟨by simp [own_exp, hc1_b1, hc6_b3, hc12_b5, hc18_b7, hc33_b9, hc38_b11, hc44_b13, hc50_b15, hc56_b17, hc62_b19, hc78_b20, hc90_b21, hc96_b24, hc102_b27, hc123_b30, hc140_b32, hc146_b37, hc163_b38, hc168_b39, hc173_b40], rfl, e0⟩
                                        · skip
                                          refine own_go (T' := s₁) (g' := (mkF mI 180 #[.val (.int k), .val (.int c)] [])) (fun t_ kt_ => XS.icmpYes X0.here hx rfl (pc0 := 173) (pc' := 180) rfl (hb hby d3_173) rfl (feq hc173_b40).2 (by decide) (by decide) kt_) ?_
                                          refine own_go (T' := s₁) (g' := (mkF mI 181 #[.val (.int k), .val (.int c)] [(.int (0 : Int32))])) (fun t_ kt_ => XS.iconst X0.here hx rfl (hb hby d3_180) kt_) ?_
                                          refine own_retN X0 hx hlk (t := .boolean) hret (by simp) (hb hby d3_181) (show nar .boolean (0 : Int32) = (0 : Int32) from by decide) (by decide) (by decide) ?_
                                          exact ⟨by simp [own_exp, hc1_b1, hc6_b3, hc12_b5, hc18_b7, hc33_b9, hc38_b11, hc44_b13, hc50_b15, hc56_b17, hc62_b19, hc78_b20, hc90_b21, hc96_b24, hc102_b27, hc123_b30, hc140_b32, hc146_b37, hc163_b38, hc168_b39, hc173_b40], rfl, e0⟩
                                    · skip
                                      refine own_go (T' := s₁) (g' := (mkF mI 182 #[.val (.int k), .val (.int c)] [])) (fun t_ kt_ => XS.icmpYes X0.here hx rfl (pc0 := 163) (pc' := 182) rfl (hb hby d3_163) rfl (feq hc163_b38).2 (by decide) (by decide) kt_) ?_
                                      refine own_go (T' := s₁) (g' := (mkF mI 183 #[.val (.int k), .val (.int c)] [(.int c)])) (fun t_ kt_ => XS.iloadN X0.here hx rfl (hb hby d3_182) rfl kt_) ?_
                                      refine own_go (T' := s₁) (g' := (mkF mI 184 #[.val (.int k), .val (.int c)] [(.int (3 : Int32)), (.int c)])) (fun t_ kt_ => XS.iconst X0.here hx rfl (hb hby d3_183) kt_) ?_
                                      by_cases hc184_b41 : c = (3 : Int32)
                                      · skip
                                        refine own_go (T' := s₁) (g' := (mkF mI 187 #[.val (.int k), .val (.int c)] [])) (fun t_ kt_ => XS.icmpNo X0.here hx rfl (hb hby d3_184) rfl (teq hc184_b41).2 kt_) ?_
                                        refine own_go (T' := s₁) (g' := (mkF mI 188 #[.val (.int k), .val (.int c)] [(.int (1 : Int32))])) (fun t_ kt_ => XS.iconst X0.here hx rfl (hb hby d3_187) kt_) ?_
                                        refine own_go (T' := s₁) (g' := (mkF mI 192 #[.val (.int k), .val (.int c)] [(.int (1 : Int32))])) (fun t_ kt_ => XS.goto X0.here hx rfl (pc0 := 188) (pc' := 192) rfl (hb hby d3_188) (by decide) (by decide) kt_) ?_
                                        refine own_retN X0 hx hlk (t := .boolean) hret (by simp) (hb hby d3_192) (show nar .boolean (1 : Int32) = (1 : Int32) from by decide) (by decide) (by decide) ?_
                                        exact ⟨by simp [own_exp, hc1_b1, hc6_b3, hc12_b5, hc18_b7, hc33_b9, hc38_b11, hc44_b13, hc50_b15, hc56_b17, hc62_b19, hc78_b20, hc90_b21, hc96_b24, hc102_b27, hc123_b30, hc140_b32, hc146_b37, hc163_b38, hc184_b41], rfl, e0⟩
                                      · skip
                                        refine own_go (T' := s₁) (g' := (mkF mI 191 #[.val (.int k), .val (.int c)] [])) (fun t_ kt_ => XS.icmpYes X0.here hx rfl (pc0 := 184) (pc' := 191) rfl (hb hby d3_184) rfl (feq hc184_b41).2 (by decide) (by decide) kt_) ?_
                                        refine own_go (T' := s₁) (g' := (mkF mI 192 #[.val (.int k), .val (.int c)] [(.int (0 : Int32))])) (fun t_ kt_ => XS.iconst X0.here hx rfl (hb hby d3_191) kt_) ?_
                                        refine own_retN X0 hx hlk (t := .boolean) hret (by simp) (hb hby d3_192) (show nar .boolean (0 : Int32) = (0 : Int32) from by decide) (by decide) (by decide) ?_
                                        exact ⟨by simp [own_exp, hc1_b1, hc6_b3, hc12_b5, hc18_b7, hc33_b9, hc38_b11, hc44_b13, hc50_b15, hc56_b17, hc62_b19, hc78_b20, hc90_b21, hc96_b24, hc102_b27, hc123_b30, hc140_b32, hc146_b37, hc163_b38, hc184_b41], rfl, e0⟩
                                  · skip
                                    refine own_go (T' := s₁) (g' := (mkF mI 149 #[.val (.int k), .val (.int c)] [])) (fun t_ kt_ => XS.icmpNo X0.here hx rfl (hb hby d3_146) rfl (flt hc146_b37).2.2.1 kt_) ?_
                                    refine own_go (T' := s₁) (g' := (mkF mI 150 #[.val (.int k), .val (.int c)] [(.int c)])) (fun t_ kt_ => XS.iloadN X0.here hx rfl (hb hby d3_149) rfl kt_) ?_
                                    refine own_go (T' := s₁) (g' := (mkF mI 151 #[.val (.int k), .val (.int c)] [(.int (2 : Int32)), (.int c)])) (fun t_ kt_ => XS.iconst X0.here hx rfl (hb hby d3_150) kt_) ?_
                                    by_cases hc151_b42 : c = (2 : Int32)
                                    · skip
                                      refine own_go (T' := s₁) (g' := (mkF mI 154 #[.val (.int k), .val (.int c)] [])) (fun t_ kt_ => XS.icmpNo X0.here hx rfl (hb hby d3_151) rfl (teq hc151_b42).2 kt_) ?_
                                      refine own_go (T' := s₁) (g' := (mkF mI 155 #[.val (.int k), .val (.int c)] [(.int (1 : Int32))])) (fun t_ kt_ => XS.iconst X0.here hx rfl (hb hby d3_154) kt_) ?_
                                      refine own_go (T' := s₁) (g' := (mkF mI 159 #[.val (.int k), .val (.int c)] [(.int (1 : Int32))])) (fun t_ kt_ => XS.goto X0.here hx rfl (pc0 := 155) (pc' := 159) rfl (hb hby d3_155) (by decide) (by decide) kt_) ?_
                                      refine own_retN X0 hx hlk (t := .boolean) hret (by simp) (hb hby d3_159) (show nar .boolean (1 : Int32) = (1 : Int32) from by decide) (by decide) (by decide) ?_
                                      exact ⟨by simp [own_exp, hc1_b1, hc6_b3, hc12_b5, hc18_b7, hc33_b9, hc38_b11, hc44_b13, hc50_b15, hc56_b17, hc62_b19, hc78_b20, hc90_b21, hc96_b24, hc102_b27, hc123_b30, hc140_b32, hc146_b37, hc151_b42], rfl, e0⟩
                                    · skip
                                      refine own_go (T' := s₁) (g' := (mkF mI 158 #[.val (.int k), .val (.int c)] [])) (fun t_ kt_ => XS.icmpYes X0.here hx rfl (pc0 := 151) (pc' := 158) rfl (hb hby d3_151) rfl (feq hc151_b42).2 (by decide) (by decide) kt_) ?_
                                      refine own_go (T' := s₁) (g' := (mkF mI 159 #[.val (.int k), .val (.int c)] [(.int (0 : Int32))])) (fun t_ kt_ => XS.iconst X0.here hx rfl (hb hby d3_158) kt_) ?_
                                      refine own_retN X0 hx hlk (t := .boolean) hret (by simp) (hb hby d3_159) (show nar .boolean (0 : Int32) = (0 : Int32) from by decide) (by decide) (by decide) ?_
                                      exact ⟨by simp [own_exp, hc1_b1, hc6_b3, hc12_b5, hc18_b7, hc33_b9, hc38_b11, hc44_b13, hc50_b15, hc56_b17, hc62_b19, hc78_b20, hc90_b21, hc96_b24, hc102_b27, hc123_b30, hc140_b32, hc146_b37, hc151_b42], rfl, e0⟩
                      · skip
                        refine own_go (T' := s₁) (g' := (mkF mI 81 #[.val (.int k), .val (.int c)] [])) (fun t_ kt_ => XS.icmpNo X0.here hx rfl (hb hby d3_78) rfl (flt hc78_b20).1 kt_) ?_
                        refine own_go (T' := s₁) (g' := (mkF mI 82 #[.val (.int k), .val (.int c)] [(.int k)])) (fun t_ kt_ => XS.iloadN X0.here hx rfl (hb hby d3_81) rfl kt_) ?_
                        refine own_go (T' := s₁) (g' := (mkF mI 84 #[.val (.int k), .val (.int c)] [(.int (7 : Int32)), (.int k)])) (fun t_ kt_ => XS.bipush X0.here hx rfl (hb hby d3_82) kt_) ?_
                        by_cases hc84_b43 : (7 : Int32) < k
                        · skip
                          refine own_go (T' := s₁) (g' := (mkF mI 87 #[.val (.int k), .val (.int c)] [])) (fun t_ kt_ => XS.icmpNo X0.here hx rfl (hb hby d3_84) rfl (tlt hc84_b43).2.2.2 kt_) ?_
                          refine own_go (T' := s₁) (g' := (mkF mI 88 #[.val (.int k), .val (.int c)] [(.int k)])) (fun t_ kt_ => XS.iloadN X0.here hx rfl (hb hby d3_87) rfl kt_) ?_
                          refine own_go (T' := s₁) (g' := (mkF mI 90 #[.val (.int k), .val (.int c)] [(.int (14 : Int32)), (.int k)])) (fun t_ kt_ => XS.bipush X0.here hx rfl (hb hby d3_88) kt_) ?_
                          by_cases hc90_b44 : k = (14 : Int32)
                          · skip
                            refine own_go (T' := s₁) (g' := (mkF mI 105 #[.val (.int k), .val (.int c)] [])) (fun t_ kt_ => XS.icmpYes X0.here hx rfl (pc0 := 90) (pc' := 105) rfl (hb hby d3_90) rfl (teq hc90_b44).1 (by decide) (by decide) kt_) ?_
                            refine own_go (T' := s₁) (g' := (mkF mI 106 #[.val (.int k), .val (.int c)] [(.int c)])) (fun t_ kt_ => XS.iloadN X0.here hx rfl (hb hby d3_105) rfl kt_) ?_
                            by_cases hc106_b45 : c = (0 : Int32)
                            · skip
                              refine own_go (T' := s₁) (g' := (mkF mI 114 #[.val (.int k), .val (.int c)] [])) (fun t_ kt_ => XS.ifYes X0.here hx rfl (pc0 := 106) (pc' := 114) rfl (hb hby d3_106) rfl ((if0 _ _).trans (teq hc106_b45).1) (by decide) (by decide) kt_) ?_
                              refine own_go (T' := s₁) (g' := (mkF mI 115 #[.val (.int k), .val (.int c)] [(.int (1 : Int32))])) (fun t_ kt_ => XS.iconst X0.here hx rfl (hb hby d3_114) kt_) ?_
                              refine own_go (T' := s₁) (g' := (mkF mI 119 #[.val (.int k), .val (.int c)] [(.int (1 : Int32))])) (fun t_ kt_ => XS.goto X0.here hx rfl (pc0 := 115) (pc' := 119) rfl (hb hby d3_115) (by decide) (by decide) kt_) ?_
                              refine own_retN X0 hx hlk (t := .boolean) hret (by simp) (hb hby d3_119) (show nar .boolean (1 : Int32) = (1 : Int32) from by decide) (by decide) (by decide) ?_
                              exact ⟨by simp [own_exp, hc1_b1, hc6_b3, hc12_b5, hc18_b7, hc33_b9, hc38_b11, hc44_b13, hc50_b15, hc56_b17, hc62_b19, hc78_b20, hc84_b43, hc90_b44, hc106_b45], rfl, e0⟩
                            · skip
                              refine own_go (T' := s₁) (g' := (mkF mI 109 #[.val (.int k), .val (.int c)] [])) (fun t_ kt_ => XS.ifNo X0.here hx rfl (hb hby d3_106) rfl ((if0 _ _).trans (feq hc106_b45).1) kt_) ?_
                              refine own_go (T' := s₁) (g' := (mkF mI 110 #[.val (.int k), .val (.int c)] [(.int c)])) (fun t_ kt_ => XS.iloadN X0.here hx rfl (hb hby d3_109) rfl kt_) ?_
                              refine own_go (T' := s₁) (g' := (mkF mI 111 #[.val (.int k), .val (.int c)] [(.int (1 : Int32)), (.int c)])) (fun t_ kt_ => XS.iconst X0.here hx rfl (hb hby d3_110) kt_) ?_
                              by_cases hc111_b46 : c = (1 : Int32)
                              · skip
                                refine own_go (T' := s₁) (g' := (mkF mI 114 #[.val (.int k), .val (.int c)] [])) (fun t_ kt_ => XS.icmpNo X0.here hx rfl (hb hby d3_111) rfl (teq hc111_b46).2 kt_) ?_
                                refine own_go (T' := s₁) (g' := (mkF mI 115 #[.val (.int k), .val (.int c)] [(.int (1 : Int32))])) (fun t_ kt_ => XS.iconst X0.here hx rfl (hb hby d3_114) kt_) ?_
                                refine own_go (T' := s₁) (g' := (mkF mI 119 #[.val (.int k), .val (.int c)] [(.int (1 : Int32))])) (fun t_ kt_ => XS.goto X0.here hx rfl (pc0 := 115) (pc' := 119) rfl (hb hby d3_115) (by decide) (by decide) kt_) ?_
                                refine own_retN X0 hx hlk (t := .boolean) hret (by simp) (hb hby d3_119) (show nar .boolean (1 : Int32) = (1 : Int32) from by decide) (by decide) (by decide) ?_
                                exact ⟨by simp [own_exp, hc1_b1, hc6_b3, hc12_b5, hc18_b7, hc33_b9, hc38_b11, hc44_b13, hc50_b15, hc56_b17, hc62_b19, hc78_b20, hc84_b43, hc90_b44, hc106_b45, hc111_b46], rfl, e0⟩
                              · skip
                                refine own_go (T' := s₁) (g' := (mkF mI 118 #[.val (.int k), .val (.int c)] [])) (fun t_ kt_ => XS.icmpYes X0.here hx rfl (pc0 := 111) (pc' := 118) rfl (hb hby d3_111) rfl (feq hc111_b46).2 (by decide) (by decide) kt_) ?_
                                refine own_go (T' := s₁) (g' := (mkF mI 119 #[.val (.int k), .val (.int c)] [(.int (0 : Int32))])) (fun t_ kt_ => XS.iconst X0.here hx rfl (hb hby d3_118) kt_) ?_
                                refine own_retN X0 hx hlk (t := .boolean) hret (by simp) (hb hby d3_119) (show nar .boolean (0 : Int32) = (0 : Int32) from by decide) (by decide) (by decide) ?_
                                exact ⟨by simp [own_exp, hc1_b1, hc6_b3, hc12_b5, hc18_b7, hc33_b9, hc38_b11, hc44_b13, hc50_b15, hc56_b17, hc62_b19, hc78_b20, hc84_b43, hc90_b44, hc106_b45, hc111_b46], rfl, e0⟩
                          · skip
                            refine own_go (T' := s₁) (g' := (mkF mI 93 #[.val (.int k), .val (.int c)] [])) (fun t_ kt_ => XS.icmpNo X0.here hx rfl (hb hby d3_90) rfl (feq hc90_b44).1 kt_) ?_
                            refine own_go (T' := s₁) (g' := (mkF mI 94 #[.val (.int k), .val (.int c)] [(.int k)])) (fun t_ kt_ => XS.iloadN X0.here hx rfl (hb hby d3_93) rfl kt_) ?_
                            refine own_go (T' := s₁) (g' := (mkF mI 96 #[.val (.int k), .val (.int c)] [(.int (15 : Int32)), (.int k)])) (fun t_ kt_ => XS.bipush X0.here hx rfl (hb hby d3_94) kt_) ?_
                            by_cases hc96_b47 : k = (15 : Int32)
                            · skip
                              refine own_go (T' := s₁) (g' := (mkF mI 105 #[.val (.int k), .val (.int c)] [])) (fun t_ kt_ => XS.icmpYes X0.here hx rfl (pc0 := 96) (pc' := 105) rfl (hb hby d3_96) rfl (teq hc96_b47).1 (by decide) (by decide) kt_) ?_
                              refine own_go (T' := s₁) (g' := (mkF mI 106 #[.val (.int k), .val (.int c)] [(.int c)])) (fun t_ kt_ => XS.iloadN X0.here hx rfl (hb hby d3_105) rfl kt_) ?_
                              by_cases hc106_b48 : c = (0 : Int32)
                              · skip
                                refine own_go (T' := s₁) (g' := (mkF mI 114 #[.val (.int k), .val (.int c)] [])) (fun t_ kt_ => XS.ifYes X0.here hx rfl (pc0 := 106) (pc' := 114) rfl (hb hby d3_106) rfl ((if0 _ _).trans (teq hc106_b48).1) (by decide) (by decide) kt_) ?_
                                refine own_go (T' := s₁) (g' := (mkF mI 115 #[.val (.int k), .val (.int c)] [(.int (1 : Int32))])) (fun t_ kt_ => XS.iconst X0.here hx rfl (hb hby d3_114) kt_) ?_
                                refine own_go (T' := s₁) (g' := (mkF mI 119 #[.val (.int k), .val (.int c)] [(.int (1 : Int32))])) (fun t_ kt_ => XS.goto X0.here hx rfl (pc0 := 115) (pc' := 119) rfl (hb hby d3_115) (by decide) (by decide) kt_) ?_
                                refine own_retN X0 hx hlk (t := .boolean) hret (by simp) (hb hby d3_119) (show nar .boolean (1 : Int32) = (1 : Int32) from by decide) (by decide) (by decide) ?_
                                exact ⟨by simp [own_exp, hc1_b1, hc6_b3, hc12_b5, hc18_b7, hc33_b9, hc38_b11, hc44_b13, hc50_b15, hc56_b17, hc62_b19, hc78_b20, hc84_b43, hc90_b44, hc96_b47, hc106_b48], rfl, e0⟩
                              · skip
                                refine own_go (T' := s₁) (g' := (mkF mI 109 #[.val (.int k), .val (.int c)] [])) (fun t_ kt_ => XS.ifNo X0.here hx rfl (hb hby d3_106) rfl ((if0 _ _).trans (feq hc106_b48).1) kt_) ?_
                                refine own_go (T' := s₁) (g' := (mkF mI 110 #[.val (.int k), .val (.int c)] [(.int c)])) (fun t_ kt_ => XS.iloadN X0.here hx rfl (hb hby d3_109) rfl kt_) ?_
                                refine own_go (T' := s₁) (g' := (mkF mI 111 #[.val (.int k), .val (.int c)] [(.int (1 : Int32)), (.int c)])) (fun t_ kt_ => XS.iconst X0.here hx rfl (hb hby d3_110) kt_) ?_
                                by_cases hc111_b49 : c = (1 : Int32)
                                · skip
                                  refine own_go (T' := s₁) (g' := (mkF mI 114 #[.val (.int k), .val (.int c)] [])) (fun t_ kt_ => XS.icmpNo X0.here hx rfl (hb hby d3_111) rfl (teq hc111_b49).2 kt_) ?_
                                  refine own_go (T' := s₁) (g' := (mkF mI 115 #[.val (.int k), .val (.int c)] [(.int (1 : Int32))])) (fun t_ kt_ => XS.iconst X0.here hx rfl (hb hby d3_114) kt_) ?_
                                  refine own_go (T' := s₁) (g' := (mkF mI 119 #[.val (.int k), .val (.int c)] [(.int (1 : Int32))])) (fun t_ kt_ => XS.goto X0.here hx rfl (pc0 := 115) (pc' := 119) rfl (hb hby d3_115) (by decide) (by decide) kt_) ?_
                                  refine own_retN X0 hx hlk (t := .boolean) hret (by simp) (hb hby d3_119) (show nar .boolean (1 : Int32) = (1 : Int32) from by decide) (by decide) (by decide) ?_
                                  exact ⟨by simp [own_exp, hc1_b1, hc6_b3, hc12_b5, hc18_b7, hc33_b9, hc38_b11, hc44_b13, hc50_b15, hc56_b17, hc62_b19, hc78_b20, hc84_b43, hc90_b44, hc96_b47, hc106_b48, hc111_b49], rfl, e0⟩
                                · skip
                                  refine own_go (T' := s₁) (g' := (mkF mI 118 #[.val (.int k), .val (.int c)] [])) (fun t_ kt_ => XS.icmpYes X0.here hx rfl (pc0 := 111) (pc' := 118) rfl (hb hby d3_111) rfl (feq hc111_b49).2 (by decide) (by decide) kt_) ?_
                                  refine own_go (T' := s₁) (g' := (mkF mI 119 #[.val (.int k), .val (.int c)] [(.int (0 : Int32))])) (fun t_ kt_ => XS.iconst X0.here hx rfl (hb hby d3_118) kt_) ?_
                                  refine own_retN X0 hx hlk (t := .boolean) hret (by simp) (hb hby d3_119) (show nar .boolean (0 : Int32) = (0 : Int32) from by decide) (by decide) (by decide) ?_
                                  exact ⟨by simp [own_exp, hc1_b1, hc6_b3, hc12_b5, hc18_b7, hc33_b9, hc38_b11, hc44_b13, hc50_b15, hc56_b17, hc62_b19, hc78_b20, hc84_b43, hc90_b44, hc96_b47, hc106_b48, hc111_b49], rfl, e0⟩
                            · skip
                              refine own_go (T' := s₁) (g' := (mkF mI 99 #[.val (.int k), .val (.int c)] [])) (fun t_ kt_ => XS.icmpNo X0.here hx rfl (hb hby d3_96) rfl (feq hc96_b47).1 kt_) ?_
                              refine own_go (T' := s₁) (g' := (mkF mI 100 #[.val (.int k), .val (.int c)] [(.int k)])) (fun t_ kt_ => XS.iloadN X0.here hx rfl (hb hby d3_99) rfl kt_) ?_
                              refine own_go (T' := s₁) (g' := (mkF mI 102 #[.val (.int k), .val (.int c)] [(.int (22 : Int32)), (.int k)])) (fun t_ kt_ => XS.bipush X0.here hx rfl (hb hby d3_100) kt_) ?_
                              by_cases hc102_b50 : k = (22 : Int32)
                              · skip
                                refine own_go (T' := s₁) (g' := (mkF mI 105 #[.val (.int k), .val (.int c)] [])) (fun t_ kt_ => XS.icmpNo X0.here hx rfl (hb hby d3_102) rfl (teq hc102_b50).2 kt_) ?_
                                refine own_go (T' := s₁) (g' := (mkF mI 106 #[.val (.int k), .val (.int c)] [(.int c)])) (fun t_ kt_ => XS.iloadN X0.here hx rfl (hb hby d3_105) rfl kt_) ?_
                                by_cases hc106_b51 : c = (0 : Int32)
                                · skip
                                  refine own_go (T' := s₁) (g' := (mkF mI 114 #[.val (.int k), .val (.int c)] [])) (fun t_ kt_ => XS.ifYes X0.here hx rfl (pc0 := 106) (pc' := 114) rfl (hb hby d3_106) rfl ((if0 _ _).trans (teq hc106_b51).1) (by decide) (by decide) kt_) ?_
                                  refine own_go (T' := s₁) (g' := (mkF mI 115 #[.val (.int k), .val (.int c)] [(.int (1 : Int32))])) (fun t_ kt_ => XS.iconst X0.here hx rfl (hb hby d3_114) kt_) ?_
                                  refine own_go (T' := s₁) (g' := (mkF mI 119 #[.val (.int k), .val (.int c)] [(.int (1 : Int32))])) (fun t_ kt_ => XS.goto X0.here hx rfl (pc0 := 115) (pc' := 119) rfl (hb hby d3_115) (by decide) (by decide) kt_) ?_
                                  refine own_retN X0 hx hlk (t := .boolean) hret (by simp) (hb hby d3_119) (show nar .boolean (1 : Int32) = (1 : Int32) from by decide) (by decide) (by decide) ?_
                                  exact ⟨by simp [own_exp, hc1_b1, hc6_b3, hc12_b5, hc18_b7, hc33_b9, hc38_b11, hc44_b13, hc50_b15, hc56_b17, hc62_b19, hc78_b20, hc84_b43, hc90_b44, hc96_b47, hc102_b50, hc106_b51], rfl, e0⟩
                                · skip
                                  refine own_go (T' := s₁) (g' := (mkF mI 109 #[.val (.int k), .val (.int c)] [])) (fun t_ kt_ => XS.ifNo X0.here hx rfl (hb hby d3_106) rfl ((if0 _ _).trans (feq hc106_b51).1) kt_) ?_
                                  refine own_go (T' := s₁) (g' := (mkF mI 110 #[.val (.int k), .val (.int c)] [(.int c)])) (fun t_ kt_ => XS.iloadN X0.here hx rfl (hb hby d3_109) rfl kt_) ?_
                                  refine own_go (T' := s₁) (g' := (mkF mI 111 #[.val (.int k), .val (.int c)] [(.int (1 : Int32)), (.int c)])) (fun t_ kt_ => XS.iconst X0.here hx rfl (hb hby d3_110) kt_) ?_
                                  by_cases hc111_b52 : c = (1 : Int32)
                                  · skip
                                    refine own_go (T' := s₁) (g' := (mkF mI 114 #[.val (.int k), .val (.int c)] [])) (fun t_ kt_ => XS.icmpNo X0.here hx rfl (hb hby d3_111) rfl (teq hc111_b52).2 kt_) ?_
                                    refine own_go (T' := s₁) (g' := (mkF mI 115 #[.val (.int k), .val (.int c)] [(.int (1 : Int32))])) (fun t_ kt_ => XS.iconst X0.here hx rfl (hb hby d3_114) kt_) ?_
                                    refine own_go (T' := s₁) (g' := (mkF mI 119 #[.val (.int k), .val (.int c)] [(.int (1 : Int32))])) (fun t_ kt_ => XS.goto X0.here hx rfl (pc0 := 115) (pc' := 119) rfl (hb hby d3_115) (by decide) (by decide) kt_) ?_
                                    refine own_retN X0 hx hlk (t := .boolean) hret (by simp) (hb hby d3_119) (show nar .boolean (1 : Int32) = (1 : Int32) from by decide) (by decide) (by decide) ?_
                                    exact ⟨by simp [own_exp, hc1_b1, hc6_b3, hc12_b5, hc18_b7, hc33_b9, hc38_b11, hc44_b13, hc50_b15, hc56_b17, hc62_b19, hc78_b20, hc84_b43, hc90_b44, hc96_b47, hc102_b50, hc106_b51, hc111_b52], rfl, e0⟩
                                  · skip
                                    refine own_go (T' := s₁) (g' := (mkF mI 118 #[.val (.int k), .val (.int c)] [])) (fun t_ kt_ => XS.icmpYes X0.here hx rfl (pc0 := 111) (pc' := 118) rfl (hb hby d3_111) rfl (feq hc111_b52).2 (by decide) (by decide) kt_) ?_
                                    refine own_go (T' := s₁) (g' := (mkF mI 119 #[.val (.int k), .val (.int c)] [(.int (0 : Int32))])) (fun t_ kt_ => XS.iconst X0.here hx rfl (hb hby d3_118) kt_) ?_
                                    refine own_retN X0 hx hlk (t := .boolean) hret (by simp) (hb hby d3_119) (show nar .boolean (0 : Int32) = (0 : Int32) from by decide) (by decide) (by decide) ?_
                                    exact ⟨by simp [own_exp, hc1_b1, hc6_b3, hc12_b5, hc18_b7, hc33_b9, hc38_b11, hc44_b13, hc50_b15, hc56_b17, hc62_b19, hc78_b20, hc84_b43, hc90_b44, hc96_b47, hc102_b50, hc106_b51, hc111_b52], rfl, e0⟩
                              · skip
                                refine own_go (T' := s₁) (g' := (mkF mI 120 #[.val (.int k), .val (.int c)] [])) (fun t_ kt_ => XS.icmpYes X0.here hx rfl (pc0 := 102) (pc' := 120) rfl (hb hby d3_102) rfl (feq hc102_b50).2 (by decide) (by decide) kt_) ?_
                                refine own_go (T' := s₁) (g' := (mkF mI 121 #[.val (.int k), .val (.int c)] [(.int k)])) (fun t_ kt_ => XS.iloadN X0.here hx rfl (hb hby d3_120) rfl kt_) ?_
                                refine own_go (T' := s₁) (g' := (mkF mI 123 #[.val (.int k), .val (.int c)] [(.int (8 : Int32)), (.int k)])) (fun t_ kt_ => XS.bipush X0.here hx rfl (hb hby d3_121) kt_) ?_
                                by_cases hc123_b53 : k = (8 : Int32)
                                · skip
                                  refine own_go (T' := s₁) (g' := (mkF mI 126 #[.val (.int k), .val (.int c)] [])) (fun t_ kt_ => XS.icmpNo X0.here hx rfl (hb hby d3_123) rfl (teq hc123_b53).2 kt_) ?_
                                  refine own_go (T' := s₁) (g' := (mkF mI 127 #[.val (.int k), .val (.int c)] [(.int c)])) (fun t_ kt_ => XS.iloadN X0.here hx rfl (hb hby d3_126) rfl kt_) ?_
                                  refine own_go (T' := s₁) (g' := (mkF mI 128 #[.val (.int k), .val (.int c)] [(.int (2 : Int32)), (.int c)])) (fun t_ kt_ => XS.iconst X0.here hx rfl (hb hby d3_127) kt_) ?_
                                  by_cases hc128_b54 : c < (2 : Int32)
                                  · skip
                                    refine own_go (T' := s₁) (g' := (mkF mI 135 #[.val (.int k), .val (.int c)] [])) (fun t_ kt_ => XS.icmpYes X0.here hx rfl (pc0 := 128) (pc' := 135) rfl (hb hby d3_128) rfl (tlt hc128_b54).1 (by decide) (by decide) kt_) ?_
                                    refine own_go (T' := s₁) (g' := (mkF mI 136 #[.val (.int k), .val (.int c)] [(.int (0 : Int32))])) (fun t_ kt_ => XS.iconst X0.here hx rfl (hb hby d3_135) kt_) ?_
                                    refine own_retN X0 hx hlk (t := .boolean) hret (by simp) (hb hby d3_136) (show nar .boolean (0 : Int32) = (0 : Int32) from by decide) (by decide) (by decide) ?_
                                    exact ⟨by simp [own_exp, hc1_b1, hc6_b3, hc12_b5, hc18_b7, hc33_b9, hc38_b11, hc44_b13, hc50_b15, hc56_b17, hc62_b19, hc78_b20, hc84_b43, hc90_b44, hc96_b47, hc102_b50, hc123_b53, hc128_b54], rfl, e0⟩
                                  · skip
                                    refine own_go (T' := s₁) (g' := (mkF mI 131 #[.val (.int k), .val (.int c)] [])) (fun t_ kt_ => XS.icmpNo X0.here hx rfl (hb hby d3_128) rfl (flt hc128_b54).1 kt_) ?_
                                    refine own_go (T' := s₁) (g' := (mkF mI 132 #[.val (.int k), .val (.int c)] [(.int (1 : Int32))])) (fun t_ kt_ => XS.iconst X0.here hx rfl (hb hby d3_131) kt_) ?_
                                    refine own_go (T' := s₁) (g' := (mkF mI 136 #[.val (.int k), .val (.int c)] [(.int (1 : Int32))])) (fun t_ kt_ => XS.goto X0.here hx rfl (pc0 := 132) (pc' := 136) rfl (hb hby d3_132) (by decide) (by decide) kt_) ?_
                                    refine own_retN X0 hx hlk (t := .boolean) hret (by simp) (hb hby d3_136) (show nar .boolean (1 : Int32) = (1 : Int32) from by decide) (by decide) (by decide) ?_
                                    exact ⟨by simp [own_exp, hc1_b1, hc6_b3, hc12_b5, hc18_b7, hc33_b9, hc38_b11, hc44_b13, hc50_b15, hc56_b17, hc62_b19, hc78_b20, hc84_b43, hc90_b44, hc96_b47, hc102_b50, hc123_b53, hc128_b54], rfl, e0⟩
                                · skip
                                  refine own_go (T' := s₁) (g' := (mkF mI 137 #[.val (.int k), .val (.int c)] [])) (fun t_ kt_ => XS.icmpYes X0.here hx rfl (pc0 := 123) (pc' := 137) rfl (hb hby d3_123) rfl (feq hc123_b53).2 (by decide) (by decide) kt_) ?_
                                  refine own_go (T' := s₁) (g' := (mkF mI 138 #[.val (.int k), .val (.int c)] [(.int k)])) (fun t_ kt_ => XS.iloadN X0.here hx rfl (hb hby d3_137) rfl kt_) ?_
                                  refine own_go (T' := s₁) (g' := (mkF mI 140 #[.val (.int k), .val (.int c)] [(.int (9 : Int32)), (.int k)])) (fun t_ kt_ => XS.bipush X0.here hx rfl (hb hby d3_138) kt_) ?_
                                  by_cases hc140_b55 : k < (9 : Int32)
                                  · skip
                                    refine own_go (T' := s₁) (g' := (mkF mI 160 #[.val (.int k), .val (.int c)] [])) (fun t_ kt_ => XS.icmpYes X0.here hx rfl (pc0 := 140) (pc' := 160) rfl (hb hby d3_140) rfl (tlt hc140_b55).1 (by decide) (by decide) kt_) ?_
                                    refine own_go (T' := s₁) (g' := (mkF mI 161 #[.val (.int k), .val (.int c)] [(.int k)])) (fun t_ kt_ => XS.iloadN X0.here hx rfl (hb hby d3_160) rfl kt_) ?_
                                    refine own_go (T' := s₁) (g' := (mkF mI 163 #[.val (.int k), .val (.int c)] [(.int (13 : Int32)), (.int k)])) (fun t_ kt_ => XS.bipush X0.here hx rfl (hb hby d3_161) kt_) ?_
                                    by_cases hc163_b56 : k = (13 : Int32)
                                    · skip
                                      refine own_go (T' := s₁) (g' := (mkF mI 166 #[.val (.int k), .val (.int c)] [])) (fun t_ kt_ => XS.icmpNo X0.here hx rfl (hb hby d3_163) rfl (teq hc163_b56).2 kt_) ?_
                                      refine own_go (T' := s₁) (g' := (mkF mI 167 #[.val (.int k), .val (.int c)] [(.int c)])) (fun t_ kt_ => XS.iloadN X0.here hx rfl (hb hby d3_166) rfl kt_) ?_
                                      refine own_go (T' := s₁) (g' := (mkF mI 168 #[.val (.int k), .val (.int c)] [(.int (2 : Int32)), (.int c)])) (fun t_ kt_ => XS.iconst X0.here hx rfl (hb hby d3_167) kt_) ?_
                                      by_cases hc168_b57 : c = (2 : Int32)
                                      · skip
                                        refine own_go (T' := s₁) (g' := (mkF mI 176 #[.val (.int k), .val (.int c)] [])) (fun t_ kt_ => XS.icmpYes X0.here hx rfl (pc0 := 168) (pc' := 176) rfl (hb hby d3_168) rfl (teq hc168_b57).1 (by decide) (by decide) kt_) ?_
                                        refine own_go (T' := s₁) (g' := (mkF mI 177 #[.val (.int k), .val (.int c)] [(.int (1 : Int32))])) (fun t_ kt_ => XS.iconst X0.here hx rfl (hb hby d3_176) kt_) ?_
                                        refine own_go (T' := s₁) (g' := (mkF mI 181 #[.val (.int k), .val (.int c)] [(.int (1 : Int32))])) (fun t_ kt_ => XS.goto X0.here hx rfl (pc0 := 177) (pc' := 181) rfl (hb hby d3_177) (by decide) (by decide) kt_) ?_
                                        refine own_retN X0 hx hlk (t := .boolean) hret (by simp) (hb hby d3_181) (show nar .boolean (1 : Int32) = (1 : Int32) from by decide) (by decide) (by decide) ?_
                                        exact ⟨by simp [own_exp, hc1_b1, hc6_b3, hc12_b5, hc18_b7, hc33_b9, hc38_b11, hc44_b13, hc50_b15, hc56_b17, hc62_b19, hc78_b20, hc84_b43, hc90_b44, hc96_b47, hc102_b50, hc123_b53, hc140_b55, hc163_b56, hc168_b57], rfl, e0⟩
                                      · skip
                                        refine own_go (T' := s₁) (g' := (mkF mI 171 #[.val (.int k), .val (.int c)] [])) (fun t_ kt_ => XS.icmpNo X0.here hx rfl (hb hby d3_168) rfl (feq hc168_b57).1 kt_) ?_
                                        refine own_go (T' := s₁) (g' := (mkF mI 172 #[.val (.int k), .val (.int c)] [(.int c)])) (fun t_ kt_ => XS.iloadN X0.here hx rfl (hb hby d3_171) rfl kt_) ?_
                                        refine own_go (T' := s₁) (g' := (mkF mI 173 #[.val (.int k), .val (.int c)] [(.int (3 : Int32)), (.int c)])) (fun t_ kt_ => XS.iconst X0.here hx rfl (hb hby d3_172) kt_) ?_
                                        by_cases hc173_b58 : c = (3 : Int32)
                                        · skip
                                          refine own_go (T' := s₁) (g' := (mkF mI 176 #[.val (.int k), .val (.int c)] [])) (fun t_ kt_ => XS.icmpNo X0.here hx rfl (hb hby d3_173) rfl (teq hc173_b58).2 kt_) ?_
                                          refine own_go (T' := s₁) (g' := (mkF mI 177 #[.val (.int k), .val (.int c)] [(.int (1 : Int32))])) (fun t_ kt_ => XS.iconst X0.here hx rfl (hb hby d3_176) kt_) ?_
                                          refine own_go (T' := s₁) (g' := (mkF mI 181 #[.val (.int k), .val (.int c)] [(.int (1 : Int32))])) (fun t_ kt_ => XS.goto X0.here hx rfl (pc0 := 177) (pc' := 181) rfl (hb hby d3_177) (by decide) (by decide) kt_) ?_
                                          refine own_retN X0 hx hlk (t := .boolean) hret (by simp) (hb hby d3_181) (show nar .boolean (1 : Int32) = (1 : Int32) from by decide) (by decide) (by decide) ?_
                                          exact ⟨by simp [own_exp, hc1_b1, hc6_b3, hc12_b5, hc18_b7, hc33_b9, hc38_b11, hc44_b13, hc50_b15, hc56_b17, hc62_b19, hc78_b20, hc84_b43, hc90_b44, hc96_b47, hc102_b50, hc123_b53, hc140_b55, hc163_b56, hc168_b57, hc173_b58], rfl, e0⟩
                                        · skip
                                          refine own_go (T' := s₁) (g' := (mkF mI 180 #[.val (.int k), .val (.int c)] [])) (fun t_ kt_ => XS.icmpYes X0.here hx rfl (pc0 := 173) (pc' := 180) rfl (hb hby d3_173) rfl (feq hc173_b58).2 (by decide) (by decide) kt_) ?_
                                          refine own_go (T' := s₁) (g' := (mkF mI 181 #[.val (.int k), .val (.int c)] [(.int (0 : Int32))])) (fun t_ kt_ => XS.iconst X0.here hx rfl (hb hby d3_180) kt_) ?_
                                          refine own_retN X0 hx hlk (t := .boolean) hret (by simp) (hb hby d3_181) (show nar .boolean (0 : Int32) = (0 : Int32) from by decide) (by decide) (by decide) ?_
                                          exact ⟨by simp [own_exp, hc1_b1, hc6_b3, hc12_b5, hc18_b7, hc33_b9, hc38_b11, hc44_b13, hc50_b15, hc56_b17, hc62_b19, hc78_b20, hc84_b43, hc90_b44, hc96_b47, hc102_b50, hc123_b53, hc140_b55, hc163_b56, hc168_b57, hc173_b58], rfl, e0⟩
                                    · skip
                                      refine own_go (T' := s₁) (g' := (mkF mI 182 #[.val (.int k), .val (.int c)] [])) (fun t_ kt_ => XS.icmpYes X0.here hx rfl (pc0 := 163) (pc' := 182) rfl (hb hby d3_163) rfl (feq hc163_b56).2 (by decide) (by decide) kt_) ?_
                                      refine own_go (T' := s₁) (g' := (mkF mI 183 #[.val (.int k), .val (.int c)] [(.int c)])) (fun t_ kt_ => XS.iloadN X0.here hx rfl (hb hby d3_182) rfl kt_) ?_
                                      refine own_go (T' := s₁) (g' := (mkF mI 184 #[.val (.int k), .val (.int c)] [(.int (3 : Int32)), (.int c)])) (fun t_ kt_ => XS.iconst X0.here hx rfl (hb hby d3_183) kt_) ?_
                                      by_cases hc184_b59 : c = (3 : Int32)
                                      · skip
                                        refine own_go (T' := s₁) (g' := (mkF mI 187 #[.val (.int k), .val (.int c)] [])) (fun t_ kt_ => XS.icmpNo X0.here hx rfl (hb hby d3_184) rfl (teq hc184_b59).2 kt_) ?_
                                        refine own_go (T' := s₁) (g' := (mkF mI 188 #[.val (.int k), .val (.int c)] [(.int (1 : Int32))])) (fun t_ kt_ => XS.iconst X0.here hx rfl (hb hby d3_187) kt_) ?_
                                        refine own_go (T' := s₁) (g' := (mkF mI 192 #[.val (.int k), .val (.int c)] [(.int (1 : Int32))])) (fun t_ kt_ => XS.goto X0.here hx rfl (pc0 := 188) (pc' := 192) rfl (hb hby d3_188) (by decide) (by decide) kt_) ?_
                                        refine own_retN X0 hx hlk (t := .boolean) hret (by simp) (hb hby d3_192) (show nar .boolean (1 : Int32) = (1 : Int32) from by decide) (by decide) (by decide) ?_
                                        exact ⟨by simp [own_exp, hc1_b1, hc6_b3, hc12_b5, hc18_b7, hc33_b9, hc38_b11, hc44_b13, hc50_b15, hc56_b17, hc62_b19, hc78_b20, hc84_b43, hc90_b44, hc96_b47, hc102_b50, hc123_b53, hc140_b55, hc163_b56, hc184_b59], rfl, e0⟩
                                      · skip
                                        refine own_go (T' := s₁) (g' := (mkF mI 191 #[.val (.int k), .val (.int c)] [])) (fun t_ kt_ => XS.icmpYes X0.here hx rfl (pc0 := 184) (pc' := 191) rfl (hb hby d3_184) rfl (feq hc184_b59).2 (by decide) (by decide) kt_) ?_
                                        refine own_go (T' := s₁) (g' := (mkF mI 192 #[.val (.int k), .val (.int c)] [(.int (0 : Int32))])) (fun t_ kt_ => XS.iconst X0.here hx rfl (hb hby d3_191) kt_) ?_
                                        refine own_retN X0 hx hlk (t := .boolean) hret (by simp) (hb hby d3_192) (show nar .boolean (0 : Int32) = (0 : Int32) from by decide) (by decide) (by decide) ?_
                                        exact ⟨by simp [own_exp, hc1_b1, hc6_b3, hc12_b5, hc18_b7, hc33_b9, hc38_b11, hc44_b13, hc50_b15, hc56_b17, hc62_b19, hc78_b20, hc84_b43, hc90_b44, hc96_b47, hc102_b50, hc123_b53, hc140_b55, hc163_b56, hc184_b59], rfl, e0⟩
                                  · skip
                                    refine own_go (T' := s₁) (g' := (mkF mI 143 #[.val (.int k), .val (.int c)] [])) (fun t_ kt_ => XS.icmpNo X0.here hx rfl (hb hby d3_140) rfl (flt hc140_b55).1 kt_) ?_
                                    refine own_go (T' := s₁) (g' := (mkF mI 144 #[.val (.int k), .val (.int c)] [(.int k)])) (fun t_ kt_ => XS.iloadN X0.here hx rfl (hb hby d3_143) rfl kt_) ?_
                                    refine own_go (T' := s₁) (g' := (mkF mI 146 #[.val (.int k), .val (.int c)] [(.int (12 : Int32)), (.int k)])) (fun t_ kt_ => XS.bipush X0.here hx rfl (hb hby d3_144) kt_) ?_
                                    by_cases hc146_b60 : (12 : Int32) < k
                                    · skip
                                      refine own_go (T' := s₁) (g' := (mkF mI 160 #[.val (.int k), .val (.int c)] [])) (fun t_ kt_ => XS.icmpYes X0.here hx rfl (pc0 := 146) (pc' := 160) rfl (hb hby d3_146) rfl (tlt hc146_b60).2.2.1 (by decide) (by decide) kt_) ?_
                                      refine own_go (T' := s₁) (g' := (mkF mI 161 #[.val (.int k), .val (.int c)] [(.int k)])) (fun t_ kt_ => XS.iloadN X0.here hx rfl (hb hby d3_160) rfl kt_) ?_
                                      refine own_go (T' := s₁) (g' := (mkF mI 163 #[.val (.int k), .val (.int c)] [(.int (13 : Int32)), (.int k)])) (fun t_ kt_ => XS.bipush X0.here hx rfl (hb hby d3_161) kt_) ?_
                                      by_cases hc163_b61 : k = (13 : Int32)
                                      · skip
                                        refine own_go (T' := s₁) (g' := (mkF mI 166 #[.val (.int k), .val (.int c)] [])) (fun t_ kt_ => XS.icmpNo X0.here hx rfl (hb hby d3_163) rfl (teq hc163_b61).2 kt_) ?_
                                        refine own_go (T' := s₁) (g' := (mkF mI 167 #[.val (.int k), .val (.int c)] [(.int c)])) (fun t_ kt_ => XS.iloadN X0.here hx rfl (hb hby d3_166) rfl kt_) ?_
                                        refine own_go (T' := s₁) (g' := (mkF mI 168 #[.val (.int k), .val (.int c)] [(.int (2 : Int32)), (.int c)])) (fun t_ kt_ => XS.iconst X0.here hx rfl (hb hby d3_167) kt_) ?_
                                        by_cases hc168_b62 : c = (2 : Int32)
                                        · skip
                                          refine own_go (T' := s₁) (g' := (mkF mI 176 #[.val (.int k), .val (.int c)] [])) (fun t_ kt_ => XS.icmpYes X0.here hx rfl (pc0 := 168) (pc' := 176) rfl (hb hby d3_168) rfl (teq hc168_b62).1 (by decide) (by decide) kt_) ?_
                                          refine own_go (T' := s₁) (g' := (mkF mI 177 #[.val (.int k), .val (.int c)] [(.int (1 : Int32))])) (fun t_ kt_ => XS.iconst X0.here hx rfl (hb hby d3_176) kt_) ?_
                                          refine own_go (T' := s₁) (g' := (mkF mI 181 #[.val (.int k), .val (.int c)] [(.int (1 : Int32))])) (fun t_ kt_ => XS.goto X0.here hx rfl (pc0 := 177) (pc' := 181) rfl (hb hby d3_177) (by decide) (by decide) kt_) ?_
                                          refine own_retN X0 hx hlk (t := .boolean) hret (by simp) (hb hby d3_181) (show nar .boolean (1 : Int32) = (1 : Int32) from by decide) (by decide) (by decide) ?_
                                          exact ⟨by simp [own_exp, hc1_b1, hc6_b3, hc12_b5, hc18_b7, hc33_b9, hc38_b11, hc44_b13, hc50_b15, hc56_b17, hc62_b19, hc78_b20, hc84_b43, hc90_b44, hc96_b47, hc102_b50, hc123_b53, hc140_b55, hc146_b60, hc163_b61, hc168_b62], rfl, e0⟩
                                        · skip
                                          refine own_go (T' := s₁) (g' := (mkF mI 171 #[.val (.int k), .val (.int c)] [])) (fun t_ kt_ => XS.icmpNo X0.here hx rfl (hb hby d3_168) rfl (feq hc168_b62).1 kt_) ?_
                                          refine own_go (T' := s₁) (g' := (mkF mI 172 #[.val (.int k), .val (.int c)] [(.int c)])) (fun t_ kt_ => XS.iloadN X0.here hx rfl (hb hby d3_171) rfl kt_) ?_
                                          refine own_go (T' := s₁) (g' := (mkF mI 173 #[.val (.int k), .val (.int c)] [(.int (3 : Int32)), (.int c)])) (fun t_ kt_ => XS.iconst X0.here hx rfl (hb hby d3_172) kt_) ?_
                                          by_cases hc173_b63 : c = (3 : Int32)
                                          · skip
                                            refine own_go (T' := s₁) (g' := (mkF mI 176 #[.val (.int k), .val (.int c)] [])) (fun t_ kt_ => XS.icmpNo X0.here hx rfl (hb hby d3_173) rfl (teq hc173_b63).2 kt_) ?_
                                            refine own_go (T' := s₁) (g' := (mkF mI 177 #[.val (.int k), .val (.int c)] [(.int (1 : Int32))])) (fun t_ kt_ => XS.iconst X0.here hx rfl (hb hby d3_176) kt_) ?_
                                            refine own_go (T' := s₁) (g' := (mkF mI 181 #[.val (.int k), .val (.int c)] [(.int (1 : Int32))])) (fun t_ kt_ => XS.goto X0.here hx rfl (pc0 := 177) (pc' := 181) rfl (hb hby d3_177) (by decide) (by decide) kt_) ?_
                                            refine own_retN X0 hx hlk (t := .boolean) hret (by simp) (hb hby d3_181) (show nar .boolean (1 : Int32) = (1 : Int32) from by decide) (by decide) (by decide) ?_
                                            exact ⟨by simp [own_exp, hc1_b1, hc6_b3, hc12_b5, hc18_b7, hc33_b9, hc38_b11, hc44_b13, hc50_b15, hc56_b17, hc62_b19, hc78_b20, hc84_b43, hc90_b44, hc96_b47, hc102_b50, hc123_b53, hc140_b55, hc146_b60, hc163_b61, hc168_b62, hc173_b63], rfl, e0⟩
                                          · skip
                                            refine own_go (T' := s₁) (g' := (mkF mI 180 #[.val (.int k), .val (.int c)] [])) (fun t_ kt_ => XS.icmpYes X0.here hx rfl (pc0 := 173) (pc' := 180) rfl (hb hby d3_173) rfl (feq hc173_b63).2 (by decide) (by decide) kt_) ?_
                                            refine own_go (T' := s₁) (g' := (mkF mI 181 #[.val (.int k), .val (.int c)] [(.int (0 : Int32))])) (fun t_ kt_ => XS.iconst X0.here hx rfl (hb hby d3_180) kt_) ?_
                                            refine own_retN X0 hx hlk (t := .boolean) hret (by simp) (hb hby d3_181) (show nar .boolean (0 : Int32) = (0 : Int32) from by decide) (by decide) (by decide) ?_
                                            exact ⟨by simp [own_exp, hc1_b1, hc6_b3, hc12_b5, hc18_b7, hc33_b9, hc38_b11, hc44_b13, hc50_b15, hc56_b17, hc62_b19, hc78_b20, hc84_b43, hc90_b44, hc96_b47, hc102_b50, hc123_b53, hc140_b55, hc146_b60, hc163_b61, hc168_b62, hc173_b63], rfl, e0⟩
                                      · skip
                                        refine own_go (T' := s₁) (g' := (mkF mI 182 #[.val (.int k), .val (.int c)] [])) (fun t_ kt_ => XS.icmpYes X0.here hx rfl (pc0 := 163) (pc' := 182) rfl (hb hby d3_163) rfl (feq hc163_b61).2 (by decide) (by decide) kt_) ?_
                                        refine own_go (T' := s₁) (g' := (mkF mI 183 #[.val (.int k), .val (.int c)] [(.int c)])) (fun t_ kt_ => XS.iloadN X0.here hx rfl (hb hby d3_182) rfl kt_) ?_
                                        refine own_go (T' := s₁) (g' := (mkF mI 184 #[.val (.int k), .val (.int c)] [(.int (3 : Int32)), (.int c)])) (fun t_ kt_ => XS.iconst X0.here hx rfl (hb hby d3_183) kt_) ?_
                                        by_cases hc184_b64 : c = (3 : Int32)
                                        · skip
                                          refine own_go (T' := s₁) (g' := (mkF mI 187 #[.val (.int k), .val (.int c)] [])) (fun t_ kt_ => XS.icmpNo X0.here hx rfl (hb hby d3_184) rfl (teq hc184_b64).2 kt_) ?_
                                          refine own_go (T' := s₁) (g' := (mkF mI 188 #[.val (.int k), .val (.int c)] [(.int (1 : Int32))])) (fun t_ kt_ => XS.iconst X0.here hx rfl (hb hby d3_187) kt_) ?_
                                          refine own_go (T' := s₁) (g' := (mkF mI 192 #[.val (.int k), .val (.int c)] [(.int (1 : Int32))])) (fun t_ kt_ => XS.goto X0.here hx rfl (pc0 := 188) (pc' := 192) rfl (hb hby d3_188) (by decide) (by decide) kt_) ?_
                                          refine own_retN X0 hx hlk (t := .boolean) hret (by simp) (hb hby d3_192) (show nar .boolean (1 : Int32) = (1 : Int32) from by decide) (by decide) (by decide) ?_
                                          exact ⟨by simp [own_exp, hc1_b1, hc6_b3, hc12_b5, hc18_b7, hc33_b9, hc38_b11, hc44_b13, hc50_b15, hc56_b17, hc62_b19, hc78_b20, hc84_b43, hc90_b44, hc96_b47, hc102_b50, hc123_b53, hc140_b55, hc146_b60, hc163_b61, hc184_b64], rfl, e0⟩
                                        · skip
                                          refine own_go (T' := s₁) (g' := (mkF mI 191 #[.val (.int k), .val (.int c)] [])) (fun t_ kt_ => XS.icmpYes X0.here hx rfl (pc0 := 184) (pc' := 191) rfl (hb hby d3_184) rfl (feq hc184_b64).2 (by decide) (by decide) kt_) ?_
                                          refine own_go (T' := s₁) (g' := (mkF mI 192 #[.val (.int k), .val (.int c)] [(.int (0 : Int32))])) (fun t_ kt_ => XS.iconst X0.here hx rfl (hb hby d3_191) kt_) ?_
                                          refine own_retN X0 hx hlk (t := .boolean) hret (by simp) (hb hby d3_192) (show nar .boolean (0 : Int32) = (0 : Int32) from by decide) (by decide) (by decide) ?_
                                          exact ⟨by simp [own_exp, hc1_b1, hc6_b3, hc12_b5, hc18_b7, hc33_b9, hc38_b11, hc44_b13, hc50_b15, hc56_b17, hc62_b19, hc78_b20, hc84_b43, hc90_b44, hc96_b47, hc102_b50, hc123_b53, hc140_b55, hc146_b60, hc163_b61, hc184_b64], rfl, e0⟩
                                    · skip
                                      refine own_go (T' := s₁) (g' := (mkF mI 149 #[.val (.int k), .val (.int c)] [])) (fun t_ kt_ => XS.icmpNo X0.here hx rfl (hb hby d3_146) rfl (flt hc146_b60).2.2.1 kt_) ?_
                                      refine own_go (T' := s₁) (g' := (mkF mI 150 #[.val (.int k), .val (.int c)] [(.int c)])) (fun t_ kt_ => XS.iloadN X0.here hx rfl (hb hby d3_149) rfl kt_) ?_
                                      refine own_go (T' := s₁) (g' := (mkF mI 151 #[.val (.int k), .val (.int c)] [(.int (2 : Int32)), (.int c)])) (fun t_ kt_ => XS.iconst X0.here hx rfl (hb hby d3_150) kt_) ?_
                                      by_cases hc151_b65 : c = (2 : Int32)
                                      · skip
                                        refine own_go (T' := s₁) (g' := (mkF mI 154 #[.val (.int k), .val (.int c)] [])) (fun t_ kt_ => XS.icmpNo X0.here hx rfl (hb hby d3_151) rfl (teq hc151_b65).2 kt_) ?_
                                        refine own_go (T' := s₁) (g' := (mkF mI 155 #[.val (.int k), .val (.int c)] [(.int (1 : Int32))])) (fun t_ kt_ => XS.iconst X0.here hx rfl (hb hby d3_154) kt_) ?_
                                        refine own_go (T' := s₁) (g' := (mkF mI 159 #[.val (.int k), .val (.int c)] [(.int (1 : Int32))])) (fun t_ kt_ => XS.goto X0.here hx rfl (pc0 := 155) (pc' := 159) rfl (hb hby d3_155) (by decide) (by decide) kt_) ?_
                                        refine own_retN X0 hx hlk (t := .boolean) hret (by simp) (hb hby d3_159) (show nar .boolean (1 : Int32) = (1 : Int32) from by decide) (by decide) (by decide) ?_
                                        exact ⟨by simp [own_exp, hc1_b1, hc6_b3, hc12_b5, hc18_b7, hc33_b9, hc38_b11, hc44_b13, hc50_b15, hc56_b17, hc62_b19, hc78_b20, hc84_b43, hc90_b44, hc96_b47, hc102_b50, hc123_b53, hc140_b55, hc146_b60, hc151_b65], rfl, e0⟩
                                      · skip
                                        refine own_go (T' := s₁) (g' := (mkF mI 158 #[.val (.int k), .val (.int c)] [])) (fun t_ kt_ => XS.icmpYes X0.here hx rfl (pc0 := 151) (pc' := 158) rfl (hb hby d3_151) rfl (feq hc151_b65).2 (by decide) (by decide) kt_) ?_
                                        refine own_go (T' := s₁) (g' := (mkF mI 159 #[.val (.int k), .val (.int c)] [(.int (0 : Int32))])) (fun t_ kt_ => XS.iconst X0.here hx rfl (hb hby d3_158) kt_) ?_
                                        refine own_retN X0 hx hlk (t := .boolean) hret (by simp) (hb hby d3_159) (show nar .boolean (0 : Int32) = (0 : Int32) from by decide) (by decide) (by decide) ?_
                                        exact ⟨by simp [own_exp, hc1_b1, hc6_b3, hc12_b5, hc18_b7, hc33_b9, hc38_b11, hc44_b13, hc50_b15, hc56_b17, hc62_b19, hc78_b20, hc84_b43, hc90_b44, hc96_b47, hc102_b50, hc123_b53, hc140_b55, hc146_b60, hc151_b65], rfl, e0⟩
                        · skip
                          refine own_go (T' := s₁) (g' := (mkF mI 105 #[.val (.int k), .val (.int c)] [])) (fun t_ kt_ => XS.icmpYes X0.here hx rfl (pc0 := 84) (pc' := 105) rfl (hb hby d3_84) rfl (flt hc84_b43).2.2.2 (by decide) (by decide) kt_) ?_
                          refine own_go (T' := s₁) (g' := (mkF mI 106 #[.val (.int k), .val (.int c)] [(.int c)])) (fun t_ kt_ => XS.iloadN X0.here hx rfl (hb hby d3_105) rfl kt_) ?_
                          by_cases hc106_b66 : c = (0 : Int32)
                          · skip
                            refine own_go (T' := s₁) (g' := (mkF mI 114 #[.val (.int k), .val (.int c)] [])) (fun t_ kt_ => XS.ifYes X0.here hx rfl (pc0 := 106) (pc' := 114) rfl (hb hby d3_106) rfl ((if0 _ _).trans (teq hc106_b66).1) (by decide) (by decide) kt_) ?_
                            refine own_go (T' := s₁) (g' := (mkF mI 115 #[.val (.int k), .val (.int c)] [(.int (1 : Int32))])) (fun t_ kt_ => XS.iconst X0.here hx rfl (hb hby d3_114) kt_) ?_
                            refine own_go (T' := s₁) (g' := (mkF mI 119 #[.val (.int k), .val (.int c)] [(.int (1 : Int32))])) (fun t_ kt_ => XS.goto X0.here hx rfl (pc0 := 115) (pc' := 119) rfl (hb hby d3_115) (by decide) (by decide) kt_) ?_
                            refine own_retN X0 hx hlk (t := .boolean) hret (by simp) (hb hby d3_119) (show nar .boolean (1 : Int32) = (1 : Int32) from by decide) (by decide) (by decide) ?_
                            exact ⟨by simp [own_exp, hc1_b1, hc6_b3, hc12_b5, hc18_b7, hc33_b9, hc38_b11, hc44_b13, hc50_b15, hc56_b17, hc62_b19, hc78_b20, hc84_b43, hc106_b66], rfl, e0⟩
                          · skip
                            refine own_go (T' := s₁) (g' := (mkF mI 109 #[.val (.int k), .val (.int c)] [])) (fun t_ kt_ => XS.ifNo X0.here hx rfl (hb hby d3_106) rfl ((if0 _ _).trans (feq hc106_b66).1) kt_) ?_
                            refine own_go (T' := s₁) (g' := (mkF mI 110 #[.val (.int k), .val (.int c)] [(.int c)])) (fun t_ kt_ => XS.iloadN X0.here hx rfl (hb hby d3_109) rfl kt_) ?_
                            refine own_go (T' := s₁) (g' := (mkF mI 111 #[.val (.int k), .val (.int c)] [(.int (1 : Int32)), (.int c)])) (fun t_ kt_ => XS.iconst X0.here hx rfl (hb hby d3_110) kt_) ?_
                            by_cases hc111_b67 : c = (1 : Int32)
                            · skip
                              refine own_go (T' := s₁) (g' := (mkF mI 114 #[.val (.int k), .val (.int c)] [])) (fun t_ kt_ => XS.icmpNo X0.here hx rfl (hb hby d3_111) rfl (teq hc111_b67).2 kt_) ?_
                              refine own_go (T' := s₁) (g' := (mkF mI 115 #[.val (.int k), .val (.int c)] [(.int (1 : Int32))])) (fun t_ kt_ => XS.iconst X0.here hx rfl (hb hby d3_114) kt_) ?_
                              refine own_go (T' := s₁) (g' := (mkF mI 119 #[.val (.int k), .val (.int c)] [(.int (1 : Int32))])) (fun t_ kt_ => XS.goto X0.here hx rfl (pc0 := 115) (pc' := 119) rfl (hb hby d3_115) (by decide) (by decide) kt_) ?_
                              refine own_retN X0 hx hlk (t := .boolean) hret (by simp) (hb hby d3_119) (show nar .boolean (1 : Int32) = (1 : Int32) from by decide) (by decide) (by decide) ?_
                              exact ⟨by simp [own_exp, hc1_b1, hc6_b3, hc12_b5, hc18_b7, hc33_b9, hc38_b11, hc44_b13, hc50_b15, hc56_b17, hc62_b19, hc78_b20, hc84_b43, hc106_b66, hc111_b67], rfl, e0⟩
                            · skip
                              refine own_go (T' := s₁) (g' := (mkF mI 118 #[.val (.int k), .val (.int c)] [])) (fun t_ kt_ => XS.icmpYes X0.here hx rfl (pc0 := 111) (pc' := 118) rfl (hb hby d3_111) rfl (feq hc111_b67).2 (by decide) (by decide) kt_) ?_
                              refine own_go (T' := s₁) (g' := (mkF mI 119 #[.val (.int k), .val (.int c)] [(.int (0 : Int32))])) (fun t_ kt_ => XS.iconst X0.here hx rfl (hb hby d3_118) kt_) ?_
                              refine own_retN X0 hx hlk (t := .boolean) hret (by simp) (hb hby d3_119) (show nar .boolean (0 : Int32) = (0 : Int32) from by decide) (by decide) (by decide) ?_
                              exact ⟨by simp [own_exp, hc1_b1, hc6_b3, hc12_b5, hc18_b7, hc33_b9, hc38_b11, hc44_b13, hc50_b15, hc56_b17, hc62_b19, hc78_b20, hc84_b43, hc106_b66, hc111_b67], rfl, e0⟩
                    · skip
                      refine own_go (T' := s₁) (g' := (mkF mI 65 #[.val (.int k), .val (.int c)] [])) (fun t_ kt_ => XS.icmpNo X0.here hx rfl (hb hby d3_62) rfl (flt hc62_b19).1 kt_) ?_
                      refine own_go (T' := s₁) (g' := (mkF mI 66 #[.val (.int k), .val (.int c)] [(.int c)])) (fun t_ kt_ => XS.iloadN X0.here hx rfl (hb hby d3_65) rfl kt_) ?_
                      refine own_go (T' := s₁) (g' := (mkF mI 67 #[.val (.int k), .val (.int c)] [(.int (1 : Int32)), (.int c)])) (fun t_ kt_ => XS.iconst X0.here hx rfl (hb hby d3_66) kt_) ?_
                      by_cases hc67_b68 : c = (1 : Int32)
                      · skip
                        refine own_go (T' := s₁) (g' := (mkF mI 70 #[.val (.int k), .val (.int c)] [])) (fun t_ kt_ => XS.icmpNo X0.here hx rfl (hb hby d3_67) rfl (teq hc67_b68).2 kt_) ?_
                        refine own_go (T' := s₁) (g' := (mkF mI 71 #[.val (.int k), .val (.int c)] [(.int (1 : Int32))])) (fun t_ kt_ => XS.iconst X0.here hx rfl (hb hby d3_70) kt_) ?_
                        refine own_go (T' := s₁) (g' := (mkF mI 75 #[.val (.int k), .val (.int c)] [(.int (1 : Int32))])) (fun t_ kt_ => XS.goto X0.here hx rfl (pc0 := 71) (pc' := 75) rfl (hb hby d3_71) (by decide) (by decide) kt_) ?_
                        refine own_retN X0 hx hlk (t := .boolean) hret (by simp) (hb hby d3_75) (show nar .boolean (1 : Int32) = (1 : Int32) from by decide) (by decide) (by decide) ?_
                        exact ⟨by simp [own_exp, hc1_b1, hc6_b3, hc12_b5, hc18_b7, hc33_b9, hc38_b11, hc44_b13, hc50_b15, hc56_b17, hc62_b19, hc67_b68], rfl, e0⟩
                      · skip
                        refine own_go (T' := s₁) (g' := (mkF mI 74 #[.val (.int k), .val (.int c)] [])) (fun t_ kt_ => XS.icmpYes X0.here hx rfl (pc0 := 67) (pc' := 74) rfl (hb hby d3_67) rfl (feq hc67_b68).2 (by decide) (by decide) kt_) ?_
                        refine own_go (T' := s₁) (g' := (mkF mI 75 #[.val (.int k), .val (.int c)] [(.int (0 : Int32))])) (fun t_ kt_ => XS.iconst X0.here hx rfl (hb hby d3_74) kt_) ?_
                        refine own_retN X0 hx hlk (t := .boolean) hret (by simp) (hb hby d3_75) (show nar .boolean (0 : Int32) = (0 : Int32) from by decide) (by decide) (by decide) ?_
                        exact ⟨by simp [own_exp, hc1_b1, hc6_b3, hc12_b5, hc18_b7, hc33_b9, hc38_b11, hc44_b13, hc50_b15, hc56_b17, hc62_b19, hc67_b68], rfl, e0⟩
def own_QK (Z : State) (a0 : Array Value) (h0 : Heap) (k : Int32) (v : Option Value) (h : Heap) (L : List Loc) : Prop := ∃ (a : Addr) (C : String), v = some (.ref a) ∧ L = [] ∧ h = h0 ∧ Exa Z h0 a C ∧ Fld Z h0 a "com/example/gatewright/gatewright/engine/XPathFunction" "fewest" "I" (.int (own_lo k)) ∧ Fld Z h0 a "com/example/gatewright/gatewright/engine/XPathFunction" "most" "I" (.int (own_hi k)) ∧ (Jvm.Cond.selects C (⟨"com/example/gatewright/gatewright/engine/XPathFunction", "takes", "(I)Z"⟩ : MethodName) (⟨"com/example/gatewright/gatewright/engine/XPathFunction", "takes", "(I)Z"⟩ : MethodName)).before a0 Z = true
theorem d1_0 : decode method_4_code 0 = .ok (.iload_n 0, 1) := by decide +kernel
theorem d1_1 : decode method_4_code 1 = .ok (.ifCond .ne 7, 3) := by decide +kernel
theorem d1_4 : decode method_4_code 4 = .ok (.getstatic 27, 3) := by decide +kernel
theorem d1_7 : decode method_4_code 7 = .ok (.areturn, 1) := by decide +kernel
theorem d1_8 : decode method_4_code 8 = .ok (.iload_n 0, 1) := by decide +kernel
theorem d1_9 : decode method_4_code 9 = .ok (.iconst 1, 1) := by decide +kernel
theorem d1_10 : decode method_4_code 10 = .ok (.if_icmp .ne 7, 3) := by decide +kernel
theorem d1_13 : decode method_4_code 13 = .ok (.getstatic 31, 3) := by decide +kernel
theorem d1_16 : decode method_4_code 16 = .ok (.areturn, 1) := by decide +kernel
theorem d1_17 : decode method_4_code 17 = .ok (.iload_n 0, 1) := by decide +kernel
theorem d1_18 : decode method_4_code 18 = .ok (.iconst 2, 1) := by decide +kernel
theorem d1_19 : decode method_4_code 19 = .ok (.if_icmp .ne 7, 3) := by decide +kernel
theorem d1_22 : decode method_4_code 22 = .ok (.getstatic 34, 3) := by decide +kernel
theorem d1_25 : decode method_4_code 25 = .ok (.areturn, 1) := by decide +kernel
theorem d1_26 : decode method_4_code 26 = .ok (.iload_n 0, 1) := by decide +kernel
theorem d1_27 : decode method_4_code 27 = .ok (.iconst 3, 1) := by decide +kernel
theorem d1_28 : decode method_4_code 28 = .ok (.if_icmp .ne 7, 3) := by decide +kernel
theorem d1_31 : decode method_4_code 31 = .ok (.getstatic 37, 3) := by decide +kernel
theorem d1_34 : decode method_4_code 34 = .ok (.areturn, 1) := by decide +kernel
theorem d1_35 : decode method_4_code 35 = .ok (.iload_n 0, 1) := by decide +kernel
theorem d1_36 : decode method_4_code 36 = .ok (.iconst 4, 1) := by decide +kernel
theorem d1_37 : decode method_4_code 37 = .ok (.if_icmp .ne 7, 3) := by decide +kernel
theorem d1_40 : decode method_4_code 40 = .ok (.getstatic 40, 3) := by decide +kernel
theorem d1_43 : decode method_4_code 43 = .ok (.areturn, 1) := by decide +kernel
theorem d1_44 : decode method_4_code 44 = .ok (.iload_n 0, 1) := by decide +kernel
theorem d1_45 : decode method_4_code 45 = .ok (.iconst 5, 1) := by decide +kernel
theorem d1_46 : decode method_4_code 46 = .ok (.if_icmp .ne 7, 3) := by decide +kernel
theorem d1_49 : decode method_4_code 49 = .ok (.getstatic 43, 3) := by decide +kernel
theorem d1_52 : decode method_4_code 52 = .ok (.areturn, 1) := by decide +kernel
theorem d1_53 : decode method_4_code 53 = .ok (.iload_n 0, 1) := by decide +kernel
theorem d1_54 : decode method_4_code 54 = .ok (.bipush 6, 2) := by decide +kernel
theorem d1_56 : decode method_4_code 56 = .ok (.if_icmp .ne 7, 3) := by decide +kernel
theorem d1_59 : decode method_4_code 59 = .ok (.getstatic 46, 3) := by decide +kernel
theorem d1_62 : decode method_4_code 62 = .ok (.areturn, 1) := by decide +kernel
theorem d1_63 : decode method_4_code 63 = .ok (.iload_n 0, 1) := by decide +kernel
theorem d1_64 : decode method_4_code 64 = .ok (.bipush 7, 2) := by decide +kernel
theorem d1_66 : decode method_4_code 66 = .ok (.if_icmp .ne 7, 3) := by decide +kernel
theorem d1_69 : decode method_4_code 69 = .ok (.getstatic 49, 3) := by decide +kernel
theorem d1_72 : decode method_4_code 72 = .ok (.areturn, 1) := by decide +kernel
theorem d1_73 : decode method_4_code 73 = .ok (.iload_n 0, 1) := by decide +kernel
theorem d1_74 : decode method_4_code 74 = .ok (.bipush 8, 2) := by decide +kernel
theorem d1_76 : decode method_4_code 76 = .ok (.if_icmp .ne 7, 3) := by decide +kernel
theorem d1_79 : decode method_4_code 79 = .ok (.getstatic 52, 3) := by decide +kernel
theorem d1_82 : decode method_4_code 82 = .ok (.areturn, 1) := by decide +kernel
theorem d1_83 : decode method_4_code 83 = .ok (.iload_n 0, 1) := by decide +kernel
theorem d1_84 : decode method_4_code 84 = .ok (.bipush 9, 2) := by decide +kernel
theorem d1_86 : decode method_4_code 86 = .ok (.if_icmp .ne 7, 3) := by decide +kernel
theorem d1_89 : decode method_4_code 89 = .ok (.getstatic 55, 3) := by decide +kernel
theorem d1_92 : decode method_4_code 92 = .ok (.areturn, 1) := by decide +kernel
theorem d1_93 : decode method_4_code 93 = .ok (.iload_n 0, 1) := by decide +kernel
theorem d1_94 : decode method_4_code 94 = .ok (.bipush 10, 2) := by decide +kernel
theorem d1_96 : decode method_4_code 96 = .ok (.if_icmp .ne 7, 3) := by decide +kernel
theorem d1_99 : decode method_4_code 99 = .ok (.getstatic 58, 3) := by decide +kernel
theorem d1_102 : decode method_4_code 102 = .ok (.areturn, 1) := by decide +kernel
theorem d1_103 : decode method_4_code 103 = .ok (.iload_n 0, 1) := by decide +kernel
theorem d1_104 : decode method_4_code 104 = .ok (.bipush 11, 2) := by decide +kernel
theorem d1_106 : decode method_4_code 106 = .ok (.if_icmp .ne 7, 3) := by decide +kernel
theorem d1_109 : decode method_4_code 109 = .ok (.getstatic 61, 3) := by decide +kernel
theorem d1_112 : decode method_4_code 112 = .ok (.areturn, 1) := by decide +kernel
theorem d1_113 : decode method_4_code 113 = .ok (.iload_n 0, 1) := by decide +kernel
theorem d1_114 : decode method_4_code 114 = .ok (.bipush 12, 2) := by decide +kernel
theorem d1_116 : decode method_4_code 116 = .ok (.if_icmp .ne 7, 3) := by decide +kernel
theorem d1_119 : decode method_4_code 119 = .ok (.getstatic 64, 3) := by decide +kernel
theorem d1_122 : decode method_4_code 122 = .ok (.areturn, 1) := by decide +kernel
theorem d1_123 : decode method_4_code 123 = .ok (.iload_n 0, 1) := by decide +kernel
theorem d1_124 : decode method_4_code 124 = .ok (.bipush 13, 2) := by decide +kernel
theorem d1_126 : decode method_4_code 126 = .ok (.if_icmp .ne 7, 3) := by decide +kernel
theorem d1_129 : decode method_4_code 129 = .ok (.getstatic 67, 3) := by decide +kernel
theorem d1_132 : decode method_4_code 132 = .ok (.areturn, 1) := by decide +kernel
theorem d1_133 : decode method_4_code 133 = .ok (.iload_n 0, 1) := by decide +kernel
theorem d1_134 : decode method_4_code 134 = .ok (.bipush 14, 2) := by decide +kernel
theorem d1_136 : decode method_4_code 136 = .ok (.if_icmp .ne 7, 3) := by decide +kernel
theorem d1_139 : decode method_4_code 139 = .ok (.getstatic 70, 3) := by decide +kernel
theorem d1_142 : decode method_4_code 142 = .ok (.areturn, 1) := by decide +kernel
theorem d1_143 : decode method_4_code 143 = .ok (.iload_n 0, 1) := by decide +kernel
theorem d1_144 : decode method_4_code 144 = .ok (.bipush 15, 2) := by decide +kernel
theorem d1_146 : decode method_4_code 146 = .ok (.if_icmp .ne 7, 3) := by decide +kernel
theorem d1_149 : decode method_4_code 149 = .ok (.getstatic 73, 3) := by decide +kernel
theorem d1_152 : decode method_4_code 152 = .ok (.areturn, 1) := by decide +kernel
theorem d1_153 : decode method_4_code 153 = .ok (.iload_n 0, 1) := by decide +kernel
theorem d1_154 : decode method_4_code 154 = .ok (.bipush 16, 2) := by decide +kernel
theorem d1_156 : decode method_4_code 156 = .ok (.if_icmp .ne 7, 3) := by decide +kernel
theorem d1_159 : decode method_4_code 159 = .ok (.getstatic 76, 3) := by decide +kernel
theorem d1_162 : decode method_4_code 162 = .ok (.areturn, 1) := by decide +kernel
theorem d1_163 : decode method_4_code 163 = .ok (.iload_n 0, 1) := by decide +kernel
theorem d1_164 : decode method_4_code 164 = .ok (.bipush 17, 2) := by decide +kernel
theorem d1_166 : decode method_4_code 166 = .ok (.if_icmp .ne 7, 3) := by decide +kernel
theorem d1_169 : decode method_4_code 169 = .ok (.getstatic 79, 3) := by decide +kernel
theorem d1_172 : decode method_4_code 172 = .ok (.areturn, 1) := by decide +kernel
theorem d1_173 : decode method_4_code 173 = .ok (.iload_n 0, 1) := by decide +kernel
theorem d1_174 : decode method_4_code 174 = .ok (.bipush 18, 2) := by decide +kernel
theorem d1_176 : decode method_4_code 176 = .ok (.if_icmp .ne 7, 3) := by decide +kernel
theorem d1_179 : decode method_4_code 179 = .ok (.getstatic 82, 3) := by decide +kernel
theorem d1_182 : decode method_4_code 182 = .ok (.areturn, 1) := by decide +kernel
theorem d1_183 : decode method_4_code 183 = .ok (.iload_n 0, 1) := by decide +kernel
theorem d1_184 : decode method_4_code 184 = .ok (.bipush 19, 2) := by decide +kernel
theorem d1_186 : decode method_4_code 186 = .ok (.if_icmp .ne 7, 3) := by decide +kernel
theorem d1_189 : decode method_4_code 189 = .ok (.getstatic 85, 3) := by decide +kernel
theorem d1_192 : decode method_4_code 192 = .ok (.areturn, 1) := by decide +kernel
theorem d1_193 : decode method_4_code 193 = .ok (.iload_n 0, 1) := by decide +kernel
theorem d1_194 : decode method_4_code 194 = .ok (.bipush 20, 2) := by decide +kernel
theorem d1_196 : decode method_4_code 196 = .ok (.if_icmp .ne 7, 3) := by decide +kernel
theorem d1_199 : decode method_4_code 199 = .ok (.getstatic 88, 3) := by decide +kernel
theorem d1_202 : decode method_4_code 202 = .ok (.areturn, 1) := by decide +kernel
theorem d1_203 : decode method_4_code 203 = .ok (.iload_n 0, 1) := by decide +kernel
theorem d1_204 : decode method_4_code 204 = .ok (.bipush 21, 2) := by decide +kernel
theorem d1_206 : decode method_4_code 206 = .ok (.if_icmp .ne 7, 3) := by decide +kernel
theorem d1_209 : decode method_4_code 209 = .ok (.getstatic 91, 3) := by decide +kernel
theorem d1_212 : decode method_4_code 212 = .ok (.areturn, 1) := by decide +kernel
theorem d1_213 : decode method_4_code 213 = .ok (.iload_n 0, 1) := by decide +kernel
theorem d1_214 : decode method_4_code 214 = .ok (.bipush 22, 2) := by decide +kernel
theorem d1_216 : decode method_4_code 216 = .ok (.if_icmp .ne 7, 3) := by decide +kernel
theorem d1_219 : decode method_4_code 219 = .ok (.getstatic 94, 3) := by decide +kernel
theorem d1_222 : decode method_4_code 222 = .ok (.areturn, 1) := by decide +kernel
theorem d1_223 : decode method_4_code 223 = .ok (.iload_n 0, 1) := by decide +kernel
theorem d1_224 : decode method_4_code 224 = .ok (.bipush 23, 2) := by decide +kernel
theorem d1_226 : decode method_4_code 226 = .ok (.if_icmp .ne 7, 3) := by decide +kernel
theorem d1_229 : decode method_4_code 229 = .ok (.getstatic 97, 3) := by decide +kernel
theorem d1_232 : decode method_4_code 232 = .ok (.areturn, 1) := by decide +kernel
theorem d1_233 : decode method_4_code 233 = .ok (.iload_n 0, 1) := by decide +kernel
theorem d1_234 : decode method_4_code 234 = .ok (.bipush 24, 2) := by decide +kernel
theorem d1_236 : decode method_4_code 236 = .ok (.if_icmp .ne 7, 3) := by decide +kernel
theorem d1_239 : decode method_4_code 239 = .ok (.getstatic 100, 3) := by decide +kernel
theorem d1_242 : decode method_4_code 242 = .ok (.areturn, 1) := by decide +kernel
theorem d1_243 : decode method_4_code 243 = .ok (.iload_n 0, 1) := by decide +kernel
theorem d1_244 : decode method_4_code 244 = .ok (.bipush 25, 2) := by decide +kernel
theorem d1_246 : decode method_4_code 246 = .ok (.if_icmp .ne 7, 3) := by decide +kernel
theorem d1_249 : decode method_4_code 249 = .ok (.getstatic 103, 3) := by decide +kernel
theorem d1_252 : decode method_4_code 252 = .ok (.areturn, 1) := by decide +kernel
theorem d1_253 : decode method_4_code 253 = .ok (.getstatic 106, 3) := by decide +kernel
theorem d1_256 : decode method_4_code 256 = .ok (.areturn, 1) := by decide +kernel
theorem rm1_pn : plainFor (⟨"com/example/gatewright/gatewright/engine/XPathFunctionTakesPinLaw", "pick", "(I)Lcom/example/gatewright/gatewright/engine/XPathFunction;"⟩ : MethodName) = true := plainFor_of_name (show plainName "com/example/gatewright/gatewright/engine/XPathFunctionTakesPinLaw" = true by first | (simp [plainName, overriddenIn]; done) | decide +kernel)
theorem rm1_ef (mI : MethodId) (k : Int32) : entryFrame mI #[(.int k)] 1 = mkF mI 0 #[.val (.int k)] [] := by first | (simp [entryFrame, mkF, argsToLocals, Value.category]; done) | rfl
set_option maxRecDepth 65536 in
set_option maxHeartbeats 40000000 in
theorem rm1 (l : Launch) (Z : State) (a0 : Array Value) (hw : ∀ d ∈ tables_1, d.before a0 Z = true) (ws : List Jvm.Cond) (h0 : Heap) (k : Int32) (f0 : Addr) (S_f0 : Sta Z h0 "com/example/gatewright/gatewright/engine/XPathFunction" "LAST" "Lcom/example/gatewright/gatewright/engine/XPathFunction;" (.ref f0)) (E_f0 : Exa Z h0 f0 "com/example/gatewright/gatewright/engine/XPathFunction$1") (F_f0_fewest : Fld Z h0 f0 "com/example/gatewright/gatewright/engine/XPathFunction" "fewest" "I" (.int 0)) (F_f0_most : Fld Z h0 f0 "com/example/gatewright/gatewright/engine/XPathFunction" "most" "I" (.int 0)) (f1 : Addr) (S_f1 : Sta Z h0 "com/example/gatewright/gatewright/engine/XPathFunction" "POSITION" "Lcom/example/gatewright/gatewright/engine/XPathFunction;" (.ref f1)) (E_f1 : Exa Z h0 f1 "com/example/gatewright/gatewright/engine/XPathFunction$2") (F_f1_fewest : Fld Z h0 f1 "com/example/gatewright/gatewright/engine/XPathFunction" "fewest" "I" (.int 0)) (F_f1_most : Fld Z h0 f1 "com/example/gatewright/gatewright/engine/XPathFunction" "most" "I" (.int 0)) (f2 : Addr) (S_f2 : Sta Z h0 "com/example/gatewright/gatewright/engine/XPathFunction" "COUNT" "Lcom/example/gatewright/gatewright/engine/XPathFunction;" (.ref f2)) (E_f2 : Exa Z h0 f2 "com/example/gatewright/gatewright/engine/XPathFunction$3") (F_f2_fewest : Fld Z h0 f2 "com/example/gatewright/gatewright/engine/XPathFunction" "fewest" "I" (.int 1)) (F_f2_most : Fld Z h0 f2 "com/example/gatewright/gatewright/engine/XPathFunction" "most" "I" (.int 1)) (f3 : Addr) (S_f3 : Sta Z h0 "com/example/gatewright/gatewright/engine/XPathFunction" "ID" "Lcom/example/gatewright/gatewright/engine/XPathFunction;" (.ref f3)) (E_f3 : Exa Z h0 f3 "com/example/gatewright/gatewright/engine/XPathFunction$4") (F_f3_fewest : Fld Z h0 f3 "com/example/gatewright/gatewright/engine/XPathFunction" "fewest" "I" (.int 1)) (F_f3_most : Fld Z h0 f3 "com/example/gatewright/gatewright/engine/XPathFunction" "most" "I" (.int 1)) (f4 : Addr) (S_f4 : Sta Z h0 "com/example/gatewright/gatewright/engine/XPathFunction" "LOCAL_NAME" "Lcom/example/gatewright/gatewright/engine/XPathFunction;" (.ref f4)) (E_f4 : Exa Z h0 f4 "com/example/gatewright/gatewright/engine/XPathFunction$5") (F_f4_fewest : Fld Z h0 f4 "com/example/gatewright/gatewright/engine/XPathFunction" "fewest" "I" (.int 0)) (F_f4_most : Fld Z h0 f4 "com/example/gatewright/gatewright/engine/XPathFunction" "most" "I" (.int 1)) (f5 : Addr) (S_f5 : Sta Z h0 "com/example/gatewright/gatewright/engine/XPathFunction" "NAMESPACE_URI" "Lcom/example/gatewright/gatewright/engine/XPathFunction;" (.ref f5)) (E_f5 : Exa Z h0 f5 "com/example/gatewright/gatewright/engine/XPathFunction$6") (F_f5_fewest : Fld Z h0 f5 "com/example/gatewright/gatewright/engine/XPathFunction" "fewest" "I" (.int 0)) (F_f5_most : Fld Z h0 f5 "com/example/gatewright/gatewright/engine/XPathFunction" "most" "I" (.int 1)) (f6 : Addr) (S_f6 : Sta Z h0 "com/example/gatewright/gatewright/engine/XPathFunction" "NAME" "Lcom/example/gatewright/gatewright/engine/XPathFunction;" (.ref f6)) (E_f6 : Exa Z h0 f6 "com/example/gatewright/gatewright/engine/XPathFunction$7") (F_f6_fewest : Fld Z h0 f6 "com/example/gatewright/gatewright/engine/XPathFunction" "fewest" "I" (.int 0)) (F_f6_most : Fld Z h0 f6 "com/example/gatewright/gatewright/engine/XPathFunction" "most" "I" (.int 1)) (f7 : Addr) (S_f7 : Sta Z h0 "com/example/gatewright/gatewright/engine/XPathFunction" "STRING" "Lcom/example/gatewright/gatewright/engine/XPathFunction;" (.ref f7)) (E_f7 : Exa Z h0 f7 "com/example/gatewright/gatewright/engine/XPathFunction$8") (F_f7_fewest : Fld Z h0 f7 "com/example/gatewright/gatewright/engine/XPathFunction" "fewest" "I" (.int 0)) (F_f7_most : Fld Z h0 f7 "com/example/gatewright/gatewright/engine/XPathFunction" "most" "I" (.int 1)) (f8 : Addr) (S_f8 : Sta Z h0 "com/example/gatewright/gatewright/engine/XPathFunction" "CONCAT" "Lcom/example/gatewright/gatewright/engine/XPathFunction;" (.ref f8)) (E_f8 : Exa Z h0 f8 "com/example/gatewright/gatewright/engine/XPathFunction$9") (F_f8_fewest : Fld Z h0 f8 "com/example/gatewright/gatewright/engine/XPathFunction" "fewest" "I" (.int 2)) (F_f8_most : Fld Z h0 f8 "com/example/gatewright/gatewright/engine/XPathFunction" "most" "I" (.int 2147483647)) (f9 : Addr) (S_f9 : Sta Z h0 "com/example/gatewright/gatewright/engine/XPathFunction" "STARTS_WITH" "Lcom/example/gatewright/gatewright/engine/XPathFunction;" (.ref f9)) (E_f9 : Exa Z h0 f9 "com/example/gatewright/gatewright/engine/XPathFunction$10") (F_f9_fewest : Fld Z h0 f9 "com/example/gatewright/gatewright/engine/XPathFunction" "fewest" "I" (.int 2)) (F_f9_most : Fld Z h0 f9 "com/example/gatewright/gatewright/engine/XPathFunction" "most" "I" (.int 2)) (f10 : Addr) (S_f10 : Sta Z h0 "com/example/gatewright/gatewright/engine/XPathFunction" "CONTAINS" "Lcom/example/gatewright/gatewright/engine/XPathFunction;" (.ref f10)) (E_f10 : Exa Z h0 f10 "com/example/gatewright/gatewright/engine/XPathFunction$11") (F_f10_fewest : Fld Z h0 f10 "com/example/gatewright/gatewright/engine/XPathFunction" "fewest" "I" (.int 2)) (F_f10_most : Fld Z h0 f10 "com/example/gatewright/gatewright/engine/XPathFunction" "most" "I" (.int 2)) (f11 : Addr) (S_f11 : Sta Z h0 "com/example/gatewright/gatewright/engine/XPathFunction" "SUBSTRING_BEFORE" "Lcom/example/gatewright/gatewright/engine/XPathFunction;" (.ref f11)) (E_f11 : Exa Z h0 f11 "com/example/gatewright/gatewright/engine/XPathFunction$12") (F_f11_fewest : Fld Z h0 f11 "com/example/gatewright/gatewright/engine/XPathFunction" "fewest" "I" (.int 2)) (F_f11_most : Fld Z h0 f11 "com/example/gatewright/gatewright/engine/XPathFunction" "most" "I" (.int 2)) (f12 : Addr) (S_f12 : Sta Z h0 "com/example/gatewright/gatewright/engine/XPathFunction" "SUBSTRING_AFTER" "Lcom/example/gatewright/gatewright/engine/XPathFunction;" (.ref f12)) (E_f12 : Exa Z h0 f12 "com/example/gatewright/gatewright/engine/XPathFunction$13") (F_f12_fewest : Fld Z h0 f12 "com/example/gatewright/gatewright/engine/XPathFunction" "fewest" "I" (.int 2)) (F_f12_most : Fld Z h0 f12 "com/example/gatewright/gatewright/engine/XPathFunction" "most" "I" (.int 2)) (f13 : Addr) (S_f13 : Sta Z h0 "com/example/gatewright/gatewright/engine/XPathFunction" "SUBSTRING" "Lcom/example/gatewright/gatewright/engine/XPathFunction;" (.ref f13)) (E_f13 : Exa Z h0 f13 "com/example/gatewright/gatewright/engine/XPathFunction$14") (F_f13_fewest : Fld Z h0 f13 "com/example/gatewright/gatewright/engine/XPathFunction" "fewest" "I" (.int 2)) (F_f13_most : Fld Z h0 f13 "com/example/gatewright/gatewright/engine/XPathFunction" "most" "I" (.int 3)) (f14 : Addr) (S_f14 : Sta Z h0 "com/example/gatewright/gatewright/engine/XPathFunction" "STRING_LENGTH" "Lcom/example/gatewright/gatewright/engine/XPathFunction;" (.ref f14)) (E_f14 : Exa Z h0 f14 "com/example/gatewright/gatewright/engine/XPathFunction$15") (F_f14_fewest : Fld Z h0 f14 "com/example/gatewright/gatewright/engine/XPathFunction" "fewest" "I" (.int 0)) (F_f14_most : Fld Z h0 f14 "com/example/gatewright/gatewright/engine/XPathFunction" "most" "I" (.int 1)) (f15 : Addr) (S_f15 : Sta Z h0 "com/example/gatewright/gatewright/engine/XPathFunction" "NORMALIZE_SPACE" "Lcom/example/gatewright/gatewright/engine/XPathFunction;" (.ref f15)) (E_f15 : Exa Z h0 f15 "com/example/gatewright/gatewright/engine/XPathFunction$16") (F_f15_fewest : Fld Z h0 f15 "com/example/gatewright/gatewright/engine/XPathFunction" "fewest" "I" (.int 0)) (F_f15_most : Fld Z h0 f15 "com/example/gatewright/gatewright/engine/XPathFunction" "most" "I" (.int 1)) (f16 : Addr) (S_f16 : Sta Z h0 "com/example/gatewright/gatewright/engine/XPathFunction" "TRANSLATE" "Lcom/example/gatewright/gatewright/engine/XPathFunction;" (.ref f16)) (E_f16 : Exa Z h0 f16 "com/example/gatewright/gatewright/engine/XPathFunction$17") (F_f16_fewest : Fld Z h0 f16 "com/example/gatewright/gatewright/engine/XPathFunction" "fewest" "I" (.int 3)) (F_f16_most : Fld Z h0 f16 "com/example/gatewright/gatewright/engine/XPathFunction" "most" "I" (.int 3)) (f17 : Addr) (S_f17 : Sta Z h0 "com/example/gatewright/gatewright/engine/XPathFunction" "BOOLEAN" "Lcom/example/gatewright/gatewright/engine/XPathFunction;" (.ref f17)) (E_f17 : Exa Z h0 f17 "com/example/gatewright/gatewright/engine/XPathFunction$18") (F_f17_fewest : Fld Z h0 f17 "com/example/gatewright/gatewright/engine/XPathFunction" "fewest" "I" (.int 1)) (F_f17_most : Fld Z h0 f17 "com/example/gatewright/gatewright/engine/XPathFunction" "most" "I" (.int 1)) (f18 : Addr) (S_f18 : Sta Z h0 "com/example/gatewright/gatewright/engine/XPathFunction" "NOT" "Lcom/example/gatewright/gatewright/engine/XPathFunction;" (.ref f18)) (E_f18 : Exa Z h0 f18 "com/example/gatewright/gatewright/engine/XPathFunction$19") (F_f18_fewest : Fld Z h0 f18 "com/example/gatewright/gatewright/engine/XPathFunction" "fewest" "I" (.int 1)) (F_f18_most : Fld Z h0 f18 "com/example/gatewright/gatewright/engine/XPathFunction" "most" "I" (.int 1)) (f19 : Addr) (S_f19 : Sta Z h0 "com/example/gatewright/gatewright/engine/XPathFunction" "TRUE" "Lcom/example/gatewright/gatewright/engine/XPathFunction;" (.ref f19)) (E_f19 : Exa Z h0 f19 "com/example/gatewright/gatewright/engine/XPathFunction$20") (F_f19_fewest : Fld Z h0 f19 "com/example/gatewright/gatewright/engine/XPathFunction" "fewest" "I" (.int 0)) (F_f19_most : Fld Z h0 f19 "com/example/gatewright/gatewright/engine/XPathFunction" "most" "I" (.int 0)) (f20 : Addr) (S_f20 : Sta Z h0 "com/example/gatewright/gatewright/engine/XPathFunction" "FALSE" "Lcom/example/gatewright/gatewright/engine/XPathFunction;" (.ref f20)) (E_f20 : Exa Z h0 f20 "com/example/gatewright/gatewright/engine/XPathFunction$21") (F_f20_fewest : Fld Z h0 f20 "com/example/gatewright/gatewright/engine/XPathFunction" "fewest" "I" (.int 0)) (F_f20_most : Fld Z h0 f20 "com/example/gatewright/gatewright/engine/XPathFunction" "most" "I" (.int 0)) (f21 : Addr) (S_f21 : Sta Z h0 "com/example/gatewright/gatewright/engine/XPathFunction" "LANG" "Lcom/example/gatewright/gatewright/engine/XPathFunction;" (.ref f21)) (E_f21 : Exa Z h0 f21 "com/example/gatewright/gatewright/engine/XPathFunction$22") (F_f21_fewest : Fld Z h0 f21 "com/example/gatewright/gatewright/engine/XPathFunction" "fewest" "I" (.int 1)) (F_f21_most : Fld Z h0 f21 "com/example/gatewright/gatewright/engine/XPathFunction" "most" "I" (.int 1)) (f22 : Addr) (S_f22 : Sta Z h0 "com/example/gatewright/gatewright/engine/XPathFunction" "NUMBER" "Lcom/example/gatewright/gatewright/engine/XPathFunction;" (.ref f22)) (E_f22 : Exa Z h0 f22 "com/example/gatewright/gatewright/engine/XPathFunction$23") (F_f22_fewest : Fld Z h0 f22 "com/example/gatewright/gatewright/engine/XPathFunction" "fewest" "I" (.int 0)) (F_f22_most : Fld Z h0 f22 "com/example/gatewright/gatewright/engine/XPathFunction" "most" "I" (.int 1)) (f23 : Addr) (S_f23 : Sta Z h0 "com/example/gatewright/gatewright/engine/XPathFunction" "SUM" "Lcom/example/gatewright/gatewright/engine/XPathFunction;" (.ref f23)) (E_f23 : Exa Z h0 f23 "com/example/gatewright/gatewright/engine/XPathFunction$24") (F_f23_fewest : Fld Z h0 f23 "com/example/gatewright/gatewright/engine/XPathFunction" "fewest" "I" (.int 1)) (F_f23_most : Fld Z h0 f23 "com/example/gatewright/gatewright/engine/XPathFunction" "most" "I" (.int 1)) (f24 : Addr) (S_f24 : Sta Z h0 "com/example/gatewright/gatewright/engine/XPathFunction" "FLOOR" "Lcom/example/gatewright/gatewright/engine/XPathFunction;" (.ref f24)) (E_f24 : Exa Z h0 f24 "com/example/gatewright/gatewright/engine/XPathFunction$25") (F_f24_fewest : Fld Z h0 f24 "com/example/gatewright/gatewright/engine/XPathFunction" "fewest" "I" (.int 1)) (F_f24_most : Fld Z h0 f24 "com/example/gatewright/gatewright/engine/XPathFunction" "most" "I" (.int 1)) (f25 : Addr) (S_f25 : Sta Z h0 "com/example/gatewright/gatewright/engine/XPathFunction" "CEILING" "Lcom/example/gatewright/gatewright/engine/XPathFunction;" (.ref f25)) (E_f25 : Exa Z h0 f25 "com/example/gatewright/gatewright/engine/XPathFunction$26") (F_f25_fewest : Fld Z h0 f25 "com/example/gatewright/gatewright/engine/XPathFunction" "fewest" "I" (.int 1)) (F_f25_most : Fld Z h0 f25 "com/example/gatewright/gatewright/engine/XPathFunction" "most" "I" (.int 1)) (f26 : Addr) (S_f26 : Sta Z h0 "com/example/gatewright/gatewright/engine/XPathFunction" "ROUND" "Lcom/example/gatewright/gatewright/engine/XPathFunction;" (.ref f26)) (E_f26 : Exa Z h0 f26 "com/example/gatewright/gatewright/engine/XPathFunction$27") (F_f26_fewest : Fld Z h0 f26 "com/example/gatewright/gatewright/engine/XPathFunction" "fewest" "I" (.int 1)) (F_f26_most : Fld Z h0 f26 "com/example/gatewright/gatewright/engine/XPathFunction" "most" "I" (.int 1)) :
    own_Met l Z (⟨"com/example/gatewright/gatewright/engine/XPathFunctionTakesPinLaw", "pick", "(I)Lcom/example/gatewright/gatewright/engine/XPathFunction;"⟩ : MethodName) method_4_code 1 (some (.object "com/example/gatewright/gatewright/engine/XPathFunction")) ws ({ frames := 0, cells := 0, slots := 0, locals := 0 } : Room) #[(.int k)] h0 (own_QK Z a0 h0 k) := by
  refine own_met rm1_pn ?_
  intro pP eE sS mI bB mT cC s₁ hx hby hml hown hnm hret hlk hZ X0 e0
  replace hown : sS.vm.findClass "com/example/gatewright/gatewright/engine/XPathFunctionTakesPinLaw" = some mI.cls := hown
  refine own_cast (rm1_ef mI k) ?_
  refine own_go (T' := s₁) (g' := (mkF mI 1 #[.val (.int k)] [(.int k)])) (fun t_ kt_ => XS.iloadN X0.here hx rfl (hb hby d1_0) rfl kt_) ?_
  by_cases hc1_d1 : k = (0 : Int32)
  · skip
    refine own_go (T' := s₁) (g' := (mkF mI 4 #[.val (.int k)] [])) (fun t_ kt_ => XS.ifNo X0.here hx rfl (hb hby d1_1) rfl ((if0 _ _).trans (teq hc1_d1).2) kt_) ?_
    obtain ⟨Td2, Xd2, ed2, std2⟩ := getS2 X0 hx hZ hown (host := "") (Or.inl (hw _ (List.mem_of_getElem? (i := 5) rfl))) Via.refl e0 S_f0 (g := (mkF mI 4 #[.val (.int k)] [])) rfl (hb hby d1_4)
    refine own_go (T' := Td2) (g' := (mkF mI 7 #[.val (.int k)] [(.ref f0)])) (fun t_ kt_ => std2 _ kt_) ?_
    refine own_retA Xd2 hx hlk hret rfl rfl (hb hby d1_7) (by decide) (by decide) ?_
    exact ⟨f0, "com/example/gatewright/gatewright/engine/XPathFunction$1", rfl, rfl, ed2, E_f0, (show own_lo k = 0 by simp [own_lo, hc1_d1]) ▸ F_f0_fewest, (show own_hi k = 0 by simp [own_hi, hc1_d1]) ▸ F_f0_most, (hw _ (List.mem_of_getElem? (i := 11) rfl))⟩
  · skip
    refine own_go (T' := s₁) (g' := (mkF mI 8 #[.val (.int k)] [])) (fun t_ kt_ => XS.ifYes X0.here hx rfl (pc0 := 1) (pc' := 8) rfl (hb hby d1_1) rfl ((if0 _ _).trans (feq hc1_d1).2) (by decide) (by decide) kt_) ?_
    refine own_go (T' := s₁) (g' := (mkF mI 9 #[.val (.int k)] [(.int k)])) (fun t_ kt_ => XS.iloadN X0.here hx rfl (hb hby d1_8) rfl kt_) ?_
    refine own_go (T' := s₁) (g' := (mkF mI 10 #[.val (.int k)] [(.int (1 : Int32)), (.int k)])) (fun t_ kt_ => XS.iconst X0.here hx rfl (hb hby d1_9) kt_) ?_
    by_cases hc10_d3 : k = (1 : Int32)
    · skip
      refine own_go (T' := s₁) (g' := (mkF mI 13 #[.val (.int k)] [])) (fun t_ kt_ => XS.icmpNo X0.here hx rfl (hb hby d1_10) rfl (teq hc10_d3).2 kt_) ?_
      obtain ⟨Td4, Xd4, ed4, std4⟩ := getS2 X0 hx hZ hown (host := "") (Or.inl (hw _ (List.mem_of_getElem? (i := 21) rfl))) Via.refl e0 S_f1 (g := (mkF mI 13 #[.val (.int k)] [])) rfl (hb hby d1_13)
      refine own_go (T' := Td4) (g' := (mkF mI 16 #[.val (.int k)] [(.ref f1)])) (fun t_ kt_ => std4 _ kt_) ?_
      refine own_retA Xd4 hx hlk hret rfl rfl (hb hby d1_16) (by decide) (by decide) ?_
      exact ⟨f1, "com/example/gatewright/gatewright/engine/XPathFunction$2", rfl, rfl, ed4, E_f1, (show own_lo k = 0 by simp [own_lo, hc1_d1, hc10_d3]) ▸ F_f1_fewest, (show own_hi k = 0 by simp [own_hi, hc1_d1, hc10_d3]) ▸ F_f1_most, (hw _ (List.mem_of_getElem? (i := 23) rfl))⟩
    · skip
      refine own_go (T' := s₁) (g' := (mkF mI 17 #[.val (.int k)] [])) (fun t_ kt_ => XS.icmpYes X0.here hx rfl (pc0 := 10) (pc' := 17) rfl (hb hby d1_10) rfl (feq hc10_d3).2 (by decide) (by decide) kt_) ?_
      refine own_go (T' := s₁) (g' := (mkF mI 18 #[.val (.int k)] [(.int k)])) (fun t_ kt_ => XS.iloadN X0.here hx rfl (hb hby d1_17) rfl kt_) ?_
      refine own_go (T' := s₁) (g' := (mkF mI 19 #[.val (.int k)] [(.int (2 : Int32)), (.int k)])) (fun t_ kt_ => XS.iconst X0.here hx rfl (hb hby d1_18) kt_) ?_
      by_cases hc19_d5 : k = (2 : Int32)
      · skip
        refine own_go (T' := s₁) (g' := (mkF mI 22 #[.val (.int k)] [])) (fun t_ kt_ => XS.icmpNo X0.here hx rfl (hb hby d1_19) rfl (teq hc19_d5).2 kt_) ?_
        obtain ⟨Td6, Xd6, ed6, std6⟩ := getS2 X0 hx hZ hown (host := "") (Or.inl (hw _ (List.mem_of_getElem? (i := 25) rfl))) Via.refl e0 S_f2 (g := (mkF mI 22 #[.val (.int k)] [])) rfl (hb hby d1_22)
        refine own_go (T' := Td6) (g' := (mkF mI 25 #[.val (.int k)] [(.ref f2)])) (fun t_ kt_ => std6 _ kt_) ?_
        refine own_retA Xd6 hx hlk hret rfl rfl (hb hby d1_25) (by decide) (by decide) ?_
        exact ⟨f2, "com/example/gatewright/gatewright/engine/XPathFunction$3", rfl, rfl, ed6, E_f2, (show own_lo k = 1 by simp [own_lo, hc1_d1, hc10_d3, hc19_d5]) ▸ F_f2_fewest, (show own_hi k = 1 by simp [own_hi, hc1_d1, hc10_d3, hc19_d5]) ▸ F_f2_most, (hw _ (List.mem_of_getElem? (i := 27) rfl))⟩
      · skip
        refine own_go (T' := s₁) (g' := (mkF mI 26 #[.val (.int k)] [])) (fun t_ kt_ => XS.icmpYes X0.here hx rfl (pc0 := 19) (pc' := 26) rfl (hb hby d1_19) rfl (feq hc19_d5).2 (by decide) (by decide) kt_) ?_
        refine own_go (T' := s₁) (g' := (mkF mI 27 #[.val (.int k)] [(.int k)])) (fun t_ kt_ => XS.iloadN X0.here hx rfl (hb hby d1_26) rfl kt_) ?_
        refine own_go (T' := s₁) (g' := (mkF mI 28 #[.val (.int k)] [(.int (3 : Int32)), (.int k)])) (fun t_ kt_ => XS.iconst X0.here hx rfl (hb hby d1_27) kt_) ?_
        by_cases hc28_d7 : k = (3 : Int32)
        · skip
          refine own_go (T' := s₁) (g' := (mkF mI 31 #[.val (.int k)] [])) (fun t_ kt_ => XS.icmpNo X0.here hx rfl (hb hby d1_28) rfl (teq hc28_d7).2 kt_) ?_
          obtain ⟨Td8, Xd8, ed8, std8⟩ := getS2 X0 hx hZ hown (host := "") (Or.inl (hw _ (List.mem_of_getElem? (i := 43) rfl))) Via.refl e0 S_f3 (g := (mkF mI 31 #[.val (.int k)] [])) rfl (hb hby d1_31)
          refine own_go (T' := Td8) (g' := (mkF mI 34 #[.val (.int k)] [(.ref f3)])) (fun t_ kt_ => std8 _ kt_) ?_
          refine own_retA Xd8 hx hlk hret rfl rfl (hb hby d1_34) (by decide) (by decide) ?_
          exact ⟨f3, "com/example/gatewright/gatewright/engine/XPathFunction$4", rfl, rfl, ed8, E_f3, (show own_lo k = 1 by simp [own_lo, hc1_d1, hc10_d3, hc19_d5, hc28_d7]) ▸ F_f3_fewest, (show own_hi k = 1 by simp [own_hi, hc1_d1, hc10_d3, hc19_d5, hc28_d7]) ▸ F_f3_most, (hw _ (List.mem_of_getElem? (i := 45) rfl))⟩
        · skip
          refine own_go (T' := s₁) (g' := (mkF mI 35 #[.val (.int k)] [])) (fun t_ kt_ => XS.icmpYes X0.here hx rfl (pc0 := 28) (pc' := 35) rfl (hb hby d1_28) rfl (feq hc28_d7).2 (by decide) (by decide) kt_) ?_
          refine own_go (T' := s₁) (g' := (mkF mI 36 #[.val (.int k)] [(.int k)])) (fun t_ kt_ => XS.iloadN X0.here hx rfl (hb hby d1_35) rfl kt_) ?_
          refine own_go (T' := s₁) (g' := (mkF mI 37 #[.val (.int k)] [(.int (4 : Int32)), (.int k)])) (fun t_ kt_ => XS.iconst X0.here hx rfl (hb hby d1_36) kt_) ?_
          by_cases hc37_d9 : k = (4 : Int32)
          · skip
            refine own_go (T' := s₁) (g' := (mkF mI 40 #[.val (.int k)] [])) (fun t_ kt_ => XS.icmpNo X0.here hx rfl (hb hby d1_37) rfl (teq hc37_d9).2 kt_) ?_
            obtain ⟨Td10, Xd10, ed10, std10⟩ := getS2 X0 hx hZ hown (host := "") (Or.inl (hw _ (List.mem_of_getElem? (i := 111) rfl))) Via.refl e0 S_f4 (g := (mkF mI 40 #[.val (.int k)] [])) rfl (hb hby d1_40)
            refine own_go (T' := Td10) (g' := (mkF mI 43 #[.val (.int k)] [(.ref f4)])) (fun t_ kt_ => std10 _ kt_) ?_
            refine own_retA Xd10 hx hlk hret rfl rfl (hb hby d1_43) (by decide) (by decide) ?_
            exact ⟨f4, "com/example/gatewright/gatewright/engine/XPathFunction$5", rfl, rfl, ed10, E_f4, (show own_lo k = 0 by simp [own_lo, hc1_d1, hc10_d3, hc19_d5, hc28_d7, hc37_d9]) ▸ F_f4_fewest, (show own_hi k = 1 by simp [own_hi, hc1_d1, hc10_d3, hc19_d5, hc28_d7, hc37_d9]) ▸ F_f4_most, (hw _ (List.mem_of_getElem? (i := 113) rfl))⟩
          · skip
            refine own_go (T' := s₁) (g' := (mkF mI 44 #[.val (.int k)] [])) (fun t_ kt_ => XS.icmpYes X0.here hx rfl (pc0 := 37) (pc' := 44) rfl (hb hby d1_37) rfl (feq hc37_d9).2 (by decide) (by decide) kt_) ?_
            refine own_go (T' := s₁) (g' := (mkF mI 45 #[.val (.int k)] [(.int k)])) (fun t_ kt_ => XS.iloadN X0.here hx rfl (hb hby d1_44) rfl kt_) ?_
            refine own_go (T' := s₁) (g' := (mkF mI 46 #[.val (.int k)] [(.int (5 : Int32)), (.int k)])) (fun t_ kt_ => XS.iconst X0.here hx rfl (hb hby d1_45) kt_) ?_
            by_cases hc46_d11 : k = (5 : Int32)
            · skip
              refine own_go (T' := s₁) (g' := (mkF mI 49 #[.val (.int k)] [])) (fun t_ kt_ => XS.icmpNo X0.here hx rfl (hb hby d1_46) rfl (teq hc46_d11).2 kt_) ?_
              obtain ⟨Td12, Xd12, ed12, std12⟩ := getS2 X0 hx hZ hown (host := "") (Or.inl (hw _ (List.mem_of_getElem? (i := 90) rfl))) Via.refl e0 S_f5 (g := (mkF mI 49 #[.val (.int k)] [])) rfl (hb hby d1_49)
              refine own_go (T' := Td12) (g' := (mkF mI 52 #[.val (.int k)] [(.ref f5)])) (fun t_ kt_ => std12 _ kt_) ?_
              refine own_retA Xd12 hx hlk hret rfl rfl (hb hby d1_52) (by decide) (by decide) ?_
              exact ⟨f5, "com/example/gatewright/gatewright/engine/XPathFunction$6", rfl, rfl, ed12, E_f5, (show own_lo k = 0 by simp [own_lo, hc1_d1, hc10_d3, hc19_d5, hc28_d7, hc37_d9, hc46_d11]) ▸ F_f5_fewest, (show own_hi k = 1 by simp [own_hi, hc1_d1, hc10_d3, hc19_d5, hc28_d7, hc37_d9, hc46_d11]) ▸ F_f5_most, (hw _ (List.mem_of_getElem? (i := 92) rfl))⟩
            · skip
              refine own_go (T' := s₁) (g' := (mkF mI 53 #[.val (.int k)] [])) (fun t_ kt_ => XS.icmpYes X0.here hx rfl (pc0 := 46) (pc' := 53) rfl (hb hby d1_46) rfl (feq hc46_d11).2 (by decide) (by decide) kt_) ?_
              refine own_go (T' := s₁) (g' := (mkF mI 54 #[.val (.int k)] [(.int k)])) (fun t_ kt_ => XS.iloadN X0.here hx rfl (hb hby d1_53) rfl kt_) ?_
              refine own_go (T' := s₁) (g' := (mkF mI 56 #[.val (.int k)] [(.int (6 : Int32)), (.int k)])) (fun t_ kt_ => XS.bipush X0.here hx rfl (hb hby d1_54) kt_) ?_
              by_cases hc56_d13 : k = (6 : Int32)
              · skip
                refine own_go (T' := s₁) (g' := (mkF mI 59 #[.val (.int k)] [])) (fun t_ kt_ => XS.icmpNo X0.here hx rfl (hb hby d1_56) rfl (teq hc56_d13).2 kt_) ?_
                obtain ⟨Td14, Xd14, ed14, std14⟩ := getS2 X0 hx hZ hown (host := "") (Or.inl (hw _ (List.mem_of_getElem? (i := 85) rfl))) Via.refl e0 S_f6 (g := (mkF mI 59 #[.val (.int k)] [])) rfl (hb hby d1_59)
                refine own_go (T' := Td14) (g' := (mkF mI 62 #[.val (.int k)] [(.ref f6)])) (fun t_ kt_ => std14 _ kt_) ?_
                refine own_retA Xd14 hx hlk hret rfl rfl (hb hby d1_62) (by decide) (by decide) ?_
                exact ⟨f6, "com/example/gatewright/gatewright/engine/XPathFunction$7", rfl, rfl, ed14, E_f6, (show own_lo k = 0 by simp [own_lo, hc1_d1, hc10_d3, hc19_d5, hc28_d7, hc37_d9, hc46_d11, hc56_d13]) ▸ F_f6_fewest, (show own_hi k = 1 by simp [own_hi, hc1_d1, hc10_d3, hc19_d5, hc28_d7, hc37_d9, hc46_d11, hc56_d13]) ▸ F_f6_most, (hw _ (List.mem_of_getElem? (i := 87) rfl))⟩
              · skip
                refine own_go (T' := s₁) (g' := (mkF mI 63 #[.val (.int k)] [])) (fun t_ kt_ => XS.icmpYes X0.here hx rfl (pc0 := 56) (pc' := 63) rfl (hb hby d1_56) rfl (feq hc56_d13).2 (by decide) (by decide) kt_) ?_
                refine own_go (T' := s₁) (g' := (mkF mI 64 #[.val (.int k)] [(.int k)])) (fun t_ kt_ => XS.iloadN X0.here hx rfl (hb hby d1_63) rfl kt_) ?_
                refine own_go (T' := s₁) (g' := (mkF mI 66 #[.val (.int k)] [(.int (7 : Int32)), (.int k)])) (fun t_ kt_ => XS.bipush X0.here hx rfl (hb hby d1_64) kt_) ?_
                by_cases hc66_d15 : k = (7 : Int32)
                · skip
                  refine own_go (T' := s₁) (g' := (mkF mI 69 #[.val (.int k)] [])) (fun t_ kt_ => XS.icmpNo X0.here hx rfl (hb hby d1_66) rfl (teq hc66_d15).2 kt_) ?_
                  obtain ⟨Td16, Xd16, ed16, std16⟩ := getS2 X0 hx hZ hown (host := "") (Or.inl (hw _ (List.mem_of_getElem? (i := 38) rfl))) Via.refl e0 S_f7 (g := (mkF mI 69 #[.val (.int k)] [])) rfl (hb hby d1_69)
                  refine own_go (T' := Td16) (g' := (mkF mI 72 #[.val (.int k)] [(.ref f7)])) (fun t_ kt_ => std16 _ kt_) ?_
                  refine own_retA Xd16 hx hlk hret rfl rfl (hb hby d1_72) (by decide) (by decide) ?_
                  exact ⟨f7, "com/example/gatewright/gatewright/engine/XPathFunction$8", rfl, rfl, ed16, E_f7, (show own_lo k = 0 by simp [own_lo, hc1_d1, hc10_d3, hc19_d5, hc28_d7, hc37_d9, hc46_d11, hc56_d13, hc66_d15]) ▸ F_f7_fewest, (show own_hi k = 1 by simp [own_hi, hc1_d1, hc10_d3, hc19_d5, hc28_d7, hc37_d9, hc46_d11, hc56_d13, hc66_d15]) ▸ F_f7_most, (hw _ (List.mem_of_getElem? (i := 40) rfl))⟩
                · skip
                  refine own_go (T' := s₁) (g' := (mkF mI 73 #[.val (.int k)] [])) (fun t_ kt_ => XS.icmpYes X0.here hx rfl (pc0 := 66) (pc' := 73) rfl (hb hby d1_66) rfl (feq hc66_d15).2 (by decide) (by decide) kt_) ?_
                  refine own_go (T' := s₁) (g' := (mkF mI 74 #[.val (.int k)] [(.int k)])) (fun t_ kt_ => XS.iloadN X0.here hx rfl (hb hby d1_73) rfl kt_) ?_
                  refine own_go (T' := s₁) (g' := (mkF mI 76 #[.val (.int k)] [(.int (8 : Int32)), (.int k)])) (fun t_ kt_ => XS.bipush X0.here hx rfl (hb hby d1_74) kt_) ?_
                  by_cases hc76_d17 : k = (8 : Int32)
                  · skip
                    refine own_go (T' := s₁) (g' := (mkF mI 79 #[.val (.int k)] [])) (fun t_ kt_ => XS.icmpNo X0.here hx rfl (hb hby d1_76) rfl (teq hc76_d17).2 kt_) ?_
                    obtain ⟨Td18, Xd18, ed18, std18⟩ := getS2 X0 hx hZ hown (host := "") (Or.inl (hw _ (List.mem_of_getElem? (i := 29) rfl))) Via.refl e0 S_f8 (g := (mkF mI 79 #[.val (.int k)] [])) rfl (hb hby d1_79)
                    refine own_go (T' := Td18) (g' := (mkF mI 82 #[.val (.int k)] [(.ref f8)])) (fun t_ kt_ => std18 _ kt_) ?_
                    refine own_retA Xd18 hx hlk hret rfl rfl (hb hby d1_82) (by decide) (by decide) ?_
                    exact ⟨f8, "com/example/gatewright/gatewright/engine/XPathFunction$9", rfl, rfl, ed18, E_f8, (show own_lo k = 2 by simp [own_lo, hc1_d1, hc10_d3, hc19_d5, hc28_d7, hc37_d9, hc46_d11, hc56_d13, hc66_d15, hc76_d17]) ▸ F_f8_fewest, (show own_hi k = 2147483647 by simp [own_hi, hc1_d1, hc10_d3, hc19_d5, hc28_d7, hc37_d9, hc46_d11, hc56_d13, hc66_d15, hc76_d17]) ▸ F_f8_most, (hw _ (List.mem_of_getElem? (i := 31) rfl))⟩
                  · skip
                    refine own_go (T' := s₁) (g' := (mkF mI 83 #[.val (.int k)] [])) (fun t_ kt_ => XS.icmpYes X0.here hx rfl (pc0 := 76) (pc' := 83) rfl (hb hby d1_76) rfl (feq hc76_d17).2 (by decide) (by decide) kt_) ?_
                    refine own_go (T' := s₁) (g' := (mkF mI 84 #[.val (.int k)] [(.int k)])) (fun t_ kt_ => XS.iloadN X0.here hx rfl (hb hby d1_83) rfl kt_) ?_
                    refine own_go (T' := s₁) (g' := (mkF mI 86 #[.val (.int k)] [(.int (9 : Int32)), (.int k)])) (fun t_ kt_ => XS.bipush X0.here hx rfl (hb hby d1_84) kt_) ?_
                    by_cases hc86_d19 : k = (9 : Int32)
                    · skip
                      refine own_go (T' := s₁) (g' := (mkF mI 89 #[.val (.int k)] [])) (fun t_ kt_ => XS.icmpNo X0.here hx rfl (hb hby d1_86) rfl (teq hc86_d19).2 kt_) ?_
                      obtain ⟨Td20, Xd20, ed20, std20⟩ := getS2 X0 hx hZ hown (host := "") (Or.inl (hw _ (List.mem_of_getElem? (i := 107) rfl))) Via.refl e0 S_f9 (g := (mkF mI 89 #[.val (.int k)] [])) rfl (hb hby d1_89)
                      refine own_go (T' := Td20) (g' := (mkF mI 92 #[.val (.int k)] [(.ref f9)])) (fun t_ kt_ => std20 _ kt_) ?_
                      refine own_retA Xd20 hx hlk hret rfl rfl (hb hby d1_92) (by decide) (by decide) ?_
                      exact ⟨f9, "com/example/gatewright/gatewright/engine/XPathFunction$10", rfl, rfl, ed20, E_f9, (show own_lo k = 2 by simp [own_lo, hc1_d1, hc10_d3, hc19_d5, hc28_d7, hc37_d9, hc46_d11, hc56_d13, hc66_d15, hc76_d17, hc86_d19]) ▸ F_f9_fewest, (show own_hi k = 2 by simp [own_hi, hc1_d1, hc10_d3, hc19_d5, hc28_d7, hc37_d9, hc46_d11, hc56_d13, hc66_d15, hc76_d17, hc86_d19]) ▸ F_f9_most, (hw _ (List.mem_of_getElem? (i := 109) rfl))⟩
                    · skip
                      refine own_go (T' := s₁) (g' := (mkF mI 93 #[.val (.int k)] [])) (fun t_ kt_ => XS.icmpYes X0.here hx rfl (pc0 := 86) (pc' := 93) rfl (hb hby d1_86) rfl (feq hc86_d19).2 (by decide) (by decide) kt_) ?_
                      refine own_go (T' := s₁) (g' := (mkF mI 94 #[.val (.int k)] [(.int k)])) (fun t_ kt_ => XS.iloadN X0.here hx rfl (hb hby d1_93) rfl kt_) ?_
                      refine own_go (T' := s₁) (g' := (mkF mI 96 #[.val (.int k)] [(.int (10 : Int32)), (.int k)])) (fun t_ kt_ => XS.bipush X0.here hx rfl (hb hby d1_94) kt_) ?_
                      by_cases hc96_d21 : k = (10 : Int32)
                      · skip
                        refine own_go (T' := s₁) (g' := (mkF mI 99 #[.val (.int k)] [])) (fun t_ kt_ => XS.icmpNo X0.here hx rfl (hb hby d1_96) rfl (teq hc96_d21).2 kt_) ?_
                        obtain ⟨Td22, Xd22, ed22, std22⟩ := getS2 X0 hx hZ hown (host := "") (Or.inl (hw _ (List.mem_of_getElem? (i := 48) rfl))) Via.refl e0 S_f10 (g := (mkF mI 99 #[.val (.int k)] [])) rfl (hb hby d1_99)
                        refine own_go (T' := Td22) (g' := (mkF mI 102 #[.val (.int k)] [(.ref f10)])) (fun t_ kt_ => std22 _ kt_) ?_
                        refine own_retA Xd22 hx hlk hret rfl rfl (hb hby d1_102) (by decide) (by decide) ?_
                        exact ⟨f10, "com/example/gatewright/gatewright/engine/XPathFunction$11", rfl, rfl, ed22, E_f10, (show own_lo k = 2 by simp [own_lo, hc1_d1, hc10_d3, hc19_d5, hc28_d7, hc37_d9, hc46_d11, hc56_d13, hc66_d15, hc76_d17, hc86_d19, hc96_d21]) ▸ F_f10_fewest, (show own_hi k = 2 by simp [own_hi, hc1_d1, hc10_d3, hc19_d5, hc28_d7, hc37_d9, hc46_d11, hc56_d13, hc66_d15, hc76_d17, hc86_d19, hc96_d21]) ▸ F_f10_most, (hw _ (List.mem_of_getElem? (i := 50) rfl))⟩
                      · skip
                        refine own_go (T' := s₁) (g' := (mkF mI 103 #[.val (.int k)] [])) (fun t_ kt_ => XS.icmpYes X0.here hx rfl (pc0 := 96) (pc' := 103) rfl (hb hby d1_96) rfl (feq hc96_d21).2 (by decide) (by decide) kt_) ?_
                        refine own_go (T' := s₁) (g' := (mkF mI 104 #[.val (.int k)] [(.int k)])) (fun t_ kt_ => XS.iloadN X0.here hx rfl (hb hby d1_103) rfl kt_) ?_
                        refine own_go (T' := s₁) (g' := (mkF mI 106 #[.val (.int k)] [(.int (11 : Int32)), (.int k)])) (fun t_ kt_ => XS.bipush X0.here hx rfl (hb hby d1_104) kt_) ?_
                        by_cases hc106_d23 : k = (11 : Int32)
                        · skip
                          refine own_go (T' := s₁) (g' := (mkF mI 109 #[.val (.int k)] [])) (fun t_ kt_ => XS.icmpNo X0.here hx rfl (hb hby d1_106) rfl (teq hc106_d23).2 kt_) ?_
                          obtain ⟨Td24, Xd24, ed24, std24⟩ := getS2 X0 hx hZ hown (host := "") (Or.inl (hw _ (List.mem_of_getElem? (i := 67) rfl))) Via.refl e0 S_f11 (g := (mkF mI 109 #[.val (.int k)] [])) rfl (hb hby d1_109)
                          refine own_go (T' := Td24) (g' := (mkF mI 112 #[.val (.int k)] [(.ref f11)])) (fun t_ kt_ => std24 _ kt_) ?_
                          refine own_retA Xd24 hx hlk hret rfl rfl (hb hby d1_112) (by decide) (by decide) ?_
                          exact ⟨f11, "com/example/gatewright/gatewright/engine/XPathFunction$12", rfl, rfl, ed24, E_f11, (show own_lo k = 2 by simp [own_lo, hc1_d1, hc10_d3, hc19_d5, hc28_d7, hc37_d9, hc46_d11, hc56_d13, hc66_d15, hc76_d17, hc86_d19, hc96_d21, hc106_d23]) ▸ F_f11_fewest, (show own_hi k = 2 by simp [own_hi, hc1_d1, hc10_d3, hc19_d5, hc28_d7, hc37_d9, hc46_d11, hc56_d13, hc66_d15, hc76_d17, hc86_d19, hc96_d21, hc106_d23]) ▸ F_f11_most, (hw _ (List.mem_of_getElem? (i := 69) rfl))⟩
                        · skip
                          refine own_go (T' := s₁) (g' := (mkF mI 113 #[.val (.int k)] [])) (fun t_ kt_ => XS.icmpYes X0.here hx rfl (pc0 := 106) (pc' := 113) rfl (hb hby d1_106) rfl (feq hc106_d23).2 (by decide) (by decide) kt_) ?_
                          refine own_go (T' := s₁) (g' := (mkF mI 114 #[.val (.int k)] [(.int k)])) (fun t_ kt_ => XS.iloadN X0.here hx rfl (hb hby d1_113) rfl kt_) ?_
                          refine own_go (T' := s₁) (g' := (mkF mI 116 #[.val (.int k)] [(.int (12 : Int32)), (.int k)])) (fun t_ kt_ => XS.bipush X0.here hx rfl (hb hby d1_114) kt_) ?_
                          by_cases hc116_d25 : k = (12 : Int32)
                          · skip
                            refine own_go (T' := s₁) (g' := (mkF mI 119 #[.val (.int k)] [])) (fun t_ kt_ => XS.icmpNo X0.here hx rfl (hb hby d1_116) rfl (teq hc116_d25).2 kt_) ?_
                            obtain ⟨Td26, Xd26, ed26, std26⟩ := getS2 X0 hx hZ hown (host := "") (Or.inl (hw _ (List.mem_of_getElem? (i := 116) rfl))) Via.refl e0 S_f12 (g := (mkF mI 119 #[.val (.int k)] [])) rfl (hb hby d1_119)
                            refine own_go (T' := Td26) (g' := (mkF mI 122 #[.val (.int k)] [(.ref f12)])) (fun t_ kt_ => std26 _ kt_) ?_
                            refine own_retA Xd26 hx hlk hret rfl rfl (hb hby d1_122) (by decide) (by decide) ?_
                            exact ⟨f12, "com/example/gatewright/gatewright/engine/XPathFunction$13", rfl, rfl, ed26, E_f12, (show own_lo k = 2 by simp [own_lo, hc1_d1, hc10_d3, hc19_d5, hc28_d7, hc37_d9, hc46_d11, hc56_d13, hc66_d15, hc76_d17, hc86_d19, hc96_d21, hc106_d23, hc116_d25]) ▸ F_f12_fewest, (show own_hi k = 2 by simp [own_hi, hc1_d1, hc10_d3, hc19_d5, hc28_d7, hc37_d9, hc46_d11, hc56_d13, hc66_d15, hc76_d17, hc86_d19, hc96_d21, hc106_d23, hc116_d25]) ▸ F_f12_most, (hw _ (List.mem_of_getElem? (i := 118) rfl))⟩
                          · skip
                            refine own_go (T' := s₁) (g' := (mkF mI 123 #[.val (.int k)] [])) (fun t_ kt_ => XS.icmpYes X0.here hx rfl (pc0 := 116) (pc' := 123) rfl (hb hby d1_116) rfl (feq hc116_d25).2 (by decide) (by decide) kt_) ?_
                            refine own_go (T' := s₁) (g' := (mkF mI 124 #[.val (.int k)] [(.int k)])) (fun t_ kt_ => XS.iloadN X0.here hx rfl (hb hby d1_123) rfl kt_) ?_
                            refine own_go (T' := s₁) (g' := (mkF mI 126 #[.val (.int k)] [(.int (13 : Int32)), (.int k)])) (fun t_ kt_ => XS.bipush X0.here hx rfl (hb hby d1_124) kt_) ?_
                            by_cases hc126_d27 : k = (13 : Int32)
                            · skip
                              refine own_go (T' := s₁) (g' := (mkF mI 129 #[.val (.int k)] [])) (fun t_ kt_ => XS.icmpNo X0.here hx rfl (hb hby d1_126) rfl (teq hc126_d27).2 kt_) ?_
                              obtain ⟨Td28, Xd28, ed28, std28⟩ := getS2 X0 hx hZ hown (host := "") (Or.inl (hw _ (List.mem_of_getElem? (i := 77) rfl))) Via.refl e0 S_f13 (g := (mkF mI 129 #[.val (.int k)] [])) rfl (hb hby d1_129)
                              refine own_go (T' := Td28) (g' := (mkF mI 132 #[.val (.int k)] [(.ref f13)])) (fun t_ kt_ => std28 _ kt_) ?_
                              refine own_retA Xd28 hx hlk hret rfl rfl (hb hby d1_132) (by decide) (by decide) ?_
                              exact ⟨f13, "com/example/gatewright/gatewright/engine/XPathFunction$14", rfl, rfl, ed28, E_f13, (show own_lo k = 2 by simp [own_lo, hc1_d1, hc10_d3, hc19_d5, hc28_d7, hc37_d9, hc46_d11, hc56_d13, hc66_d15, hc76_d17, hc86_d19, hc96_d21, hc106_d23, hc116_d25, hc126_d27]) ▸ F_f13_fewest, (show own_hi k = 3 by simp [own_hi, hc1_d1, hc10_d3, hc19_d5, hc28_d7, hc37_d9, hc46_d11, hc56_d13, hc66_d15, hc76_d17, hc86_d19, hc96_d21, hc106_d23, hc116_d25, hc126_d27]) ▸ F_f13_most, (hw _ (List.mem_of_getElem? (i := 79) rfl))⟩
                            · skip
                              refine own_go (T' := s₁) (g' := (mkF mI 133 #[.val (.int k)] [])) (fun t_ kt_ => XS.icmpYes X0.here hx rfl (pc0 := 126) (pc' := 133) rfl (hb hby d1_126) rfl (feq hc126_d27).2 (by decide) (by decide) kt_) ?_
                              refine own_go (T' := s₁) (g' := (mkF mI 134 #[.val (.int k)] [(.int k)])) (fun t_ kt_ => XS.iloadN X0.here hx rfl (hb hby d1_133) rfl kt_) ?_
                              refine own_go (T' := s₁) (g' := (mkF mI 136 #[.val (.int k)] [(.int (14 : Int32)), (.int k)])) (fun t_ kt_ => XS.bipush X0.here hx rfl (hb hby d1_134) kt_) ?_
                              by_cases hc136_d29 : k = (14 : Int32)
                              · skip
                                refine own_go (T' := s₁) (g' := (mkF mI 139 #[.val (.int k)] [])) (fun t_ kt_ => XS.icmpNo X0.here hx rfl (hb hby d1_136) rfl (teq hc136_d29).2 kt_) ?_
                                obtain ⟨Td30, Xd30, ed30, std30⟩ := getS2 X0 hx hZ hown (host := "") (Or.inl (hw _ (List.mem_of_getElem? (i := 95) rfl))) Via.refl e0 S_f14 (g := (mkF mI 139 #[.val (.int k)] [])) rfl (hb hby d1_139)
                                refine own_go (T' := Td30) (g' := (mkF mI 142 #[.val (.int k)] [(.ref f14)])) (fun t_ kt_ => std30 _ kt_) ?_
                                refine own_retA Xd30 hx hlk hret rfl rfl (hb hby d1_142) (by decide) (by decide) ?_
                                exact ⟨f14, "com/example/gatewright/gatewright/engine/XPathFunction$15", rfl, rfl, ed30, E_f14, (show own_lo k = 0 by simp [own_lo, hc1_d1, hc10_d3, hc19_d5, hc28_d7, hc37_d9, hc46_d11, hc56_d13, hc66_d15, hc76_d17, hc86_d19, hc96_d21, hc106_d23, hc116_d25, hc126_d27, hc136_d29]) ▸ F_f14_fewest, (show own_hi k = 1 by simp [own_hi, hc1_d1, hc10_d3, hc19_d5, hc28_d7, hc37_d9, hc46_d11, hc56_d13, hc66_d15, hc76_d17, hc86_d19, hc96_d21, hc106_d23, hc116_d25, hc126_d27, hc136_d29]) ▸ F_f14_most, (hw _ (List.mem_of_getElem? (i := 97) rfl))⟩
                              · skip
                                refine own_go (T' := s₁) (g' := (mkF mI 143 #[.val (.int k)] [])) (fun t_ kt_ => XS.icmpYes X0.here hx rfl (pc0 := 136) (pc' := 143) rfl (hb hby d1_136) rfl (feq hc136_d29).2 (by decide) (by decide) kt_) ?_
                                refine own_go (T' := s₁) (g' := (mkF mI 144 #[.val (.int k)] [(.int k)])) (fun t_ kt_ => XS.iloadN X0.here hx rfl (hb hby d1_143) rfl kt_) ?_
                                refine own_go (T' := s₁) (g' := (mkF mI 146 #[.val (.int k)] [(.int (15 : Int32)), (.int k)])) (fun t_ kt_ => XS.bipush X0.here hx rfl (hb hby d1_144) kt_) ?_
                                by_cases hc146_d31 : k = (15 : Int32)
                                · skip
                                  refine own_go (T' := s₁) (g' := (mkF mI 149 #[.val (.int k)] [])) (fun t_ kt_ => XS.icmpNo X0.here hx rfl (hb hby d1_146) rfl (teq hc146_d31).2 kt_) ?_
                                  obtain ⟨Td32, Xd32, ed32, std32⟩ := getS2 X0 hx hZ hown (host := "") (Or.inl (hw _ (List.mem_of_getElem? (i := 142) rfl))) Via.refl e0 S_f15 (g := (mkF mI 149 #[.val (.int k)] [])) rfl (hb hby d1_149)
                                  refine own_go (T' := Td32) (g' := (mkF mI 152 #[.val (.int k)] [(.ref f15)])) (fun t_ kt_ => std32 _ kt_) ?_
                                  refine own_retA Xd32 hx hlk hret rfl rfl (hb hby d1_152) (by decide) (by decide) ?_
                                  exact ⟨f15, "com/example/gatewright/gatewright/engine/XPathFunction$16", rfl, rfl, ed32, E_f15, (show own_lo k = 0 by simp [own_lo, hc1_d1, hc10_d3, hc19_d5, hc28_d7, hc37_d9, hc46_d11, hc56_d13, hc66_d15, hc76_d17, hc86_d19, hc96_d21, hc106_d23, hc116_d25, hc126_d27, hc136_d29, hc146_d31]) ▸ F_f15_fewest, (show own_hi k = 1 by simp [own_hi, hc1_d1, hc10_d3, hc19_d5, hc28_d7, hc37_d9, hc46_d11, hc56_d13, hc66_d15, hc76_d17, hc86_d19, hc96_d21, hc106_d23, hc116_d25, hc126_d27, hc136_d29, hc146_d31]) ▸ F_f15_most, (hw _ (List.mem_of_getElem? (i := 144) rfl))⟩
                                · skip
                                  refine own_go (T' := s₁) (g' := (mkF mI 153 #[.val (.int k)] [])) (fun t_ kt_ => XS.icmpYes X0.here hx rfl (pc0 := 146) (pc' := 153) rfl (hb hby d1_146) rfl (feq hc146_d31).2 (by decide) (by decide) kt_) ?_
                                  refine own_go (T' := s₁) (g' := (mkF mI 154 #[.val (.int k)] [(.int k)])) (fun t_ kt_ => XS.iloadN X0.here hx rfl (hb hby d1_153) rfl kt_) ?_
                                  refine own_go (T' := s₁) (g' := (mkF mI 156 #[.val (.int k)] [(.int (16 : Int32)), (.int k)])) (fun t_ kt_ => XS.bipush X0.here hx rfl (hb hby d1_154) kt_) ?_
                                  by_cases hc156_d33 : k = (16 : Int32)
                                  · skip
                                    refine own_go (T' := s₁) (g' := (mkF mI 159 #[.val (.int k)] [])) (fun t_ kt_ => XS.icmpNo X0.here hx rfl (hb hby d1_156) rfl (teq hc156_d33).2 kt_) ?_
                                    obtain ⟨Td34, Xd34, ed34, std34⟩ := getS2 X0 hx hZ hown (host := "") (Or.inl (hw _ (List.mem_of_getElem? (i := 53) rfl))) Via.refl e0 S_f16 (g := (mkF mI 159 #[.val (.int k)] [])) rfl (hb hby d1_159)
                                    refine own_go (T' := Td34) (g' := (mkF mI 162 #[.val (.int k)] [(.ref f16)])) (fun t_ kt_ => std34 _ kt_) ?_
                                    refine own_retA Xd34 hx hlk hret rfl rfl (hb hby d1_162) (by decide) (by decide) ?_
                                    exact ⟨f16, "com/example/gatewright/gatewright/engine/XPathFunction$17", rfl, rfl, ed34, E_f16, (show own_lo k = 3 by simp [own_lo, hc1_d1, hc10_d3, hc19_d5, hc28_d7, hc37_d9, hc46_d11, hc56_d13, hc66_d15, hc76_d17, hc86_d19, hc96_d21, hc106_d23, hc116_d25, hc126_d27, hc136_d29, hc146_d31, hc156_d33]) ▸ F_f16_fewest, (show own_hi k = 3 by simp [own_hi, hc1_d1, hc10_d3, hc19_d5, hc28_d7, hc37_d9, hc46_d11, hc56_d13, hc66_d15, hc76_d17, hc86_d19, hc96_d21, hc106_d23, hc116_d25, hc126_d27, hc136_d29, hc146_d31, hc156_d33]) ▸ F_f16_most, (hw _ (List.mem_of_getElem? (i := 55) rfl))⟩
                                  · skip
                                    refine own_go (T' := s₁) (g' := (mkF mI 163 #[.val (.int k)] [])) (fun t_ kt_ => XS.icmpYes X0.here hx rfl (pc0 := 156) (pc' := 163) rfl (hb hby d1_156) rfl (feq hc156_d33).2 (by decide) (by decide) kt_) ?_
                                    refine own_go (T' := s₁) (g' := (mkF mI 164 #[.val (.int k)] [(.int k)])) (fun t_ kt_ => XS.iloadN X0.here hx rfl (hb hby d1_163) rfl kt_) ?_
                                    refine own_go (T' := s₁) (g' := (mkF mI 166 #[.val (.int k)] [(.int (17 : Int32)), (.int k)])) (fun t_ kt_ => XS.bipush X0.here hx rfl (hb hby d1_164) kt_) ?_
                                    by_cases hc166_d35 : k = (17 : Int32)
                                    · skip
                                      refine own_go (T' := s₁) (g' := (mkF mI 169 #[.val (.int k)] [])) (fun t_ kt_ => XS.icmpNo X0.here hx rfl (hb hby d1_166) rfl (teq hc166_d35).2 kt_) ?_
                                      obtain ⟨Td36, Xd36, ed36, std36⟩ := getS2 X0 hx hZ hown (host := "") (Or.inl (hw _ (List.mem_of_getElem? (i := 58) rfl))) Via.refl e0 S_f17 (g := (mkF mI 169 #[.val (.int k)] [])) rfl (hb hby d1_169)
                                      refine own_go (T' := Td36) (g' := (mkF mI 172 #[.val (.int k)] [(.ref f17)])) (fun t_ kt_ => std36 _ kt_) ?_
                                      refine own_retA Xd36 hx hlk hret rfl rfl (hb hby d1_172) (by decide) (by decide) ?_
                                      exact ⟨f17, "com/example/gatewright/gatewright/engine/XPathFunction$18", rfl, rfl, ed36, E_f17, (show own_lo k = 1 by simp [own_lo, hc1_d1, hc10_d3, hc19_d5, hc28_d7, hc37_d9, hc46_d11, hc56_d13, hc66_d15, hc76_d17, hc86_d19, hc96_d21, hc106_d23, hc116_d25, hc126_d27, hc136_d29, hc146_d31, hc156_d33, hc166_d35]) ▸ F_f17_fewest, (show own_hi k = 1 by simp [own_hi, hc1_d1, hc10_d3, hc19_d5, hc28_d7, hc37_d9, hc46_d11, hc56_d13, hc66_d15, hc76_d17, hc86_d19, hc96_d21, hc106_d23, hc116_d25, hc126_d27, hc136_d29, hc146_d31, hc156_d33, hc166_d35]) ▸ F_f17_most, (hw _ (List.mem_of_getElem? (i := 60) rfl))⟩
                                    · skip
                                      refine own_go (T' := s₁) (g' := (mkF mI 173 #[.val (.int k)] [])) (fun t_ kt_ => XS.icmpYes X0.here hx rfl (pc0 := 166) (pc' := 173) rfl (hb hby d1_166) rfl (feq hc166_d35).2 (by decide) (by decide) kt_) ?_
                                      refine own_go (T' := s₁) (g' := (mkF mI 174 #[.val (.int k)] [(.int k)])) (fun t_ kt_ => XS.iloadN X0.here hx rfl (hb hby d1_173) rfl kt_) ?_
                                      refine own_go (T' := s₁) (g' := (mkF mI 176 #[.val (.int k)] [(.int (18 : Int32)), (.int k)])) (fun t_ kt_ => XS.bipush X0.here hx rfl (hb hby d1_174) kt_) ?_
                                      by_cases hc176_d37 : k = (18 : Int32)
                                      · skip
                                        refine own_go (T' := s₁) (g' := (mkF mI 179 #[.val (.int k)] [])) (fun t_ kt_ => XS.icmpNo X0.here hx rfl (hb hby d1_176) rfl (teq hc176_d37).2 kt_) ?_
                                        obtain ⟨Td38, Xd38, ed38, std38⟩ := getS2 X0 hx hZ hown (host := "") (Or.inl (hw _ (List.mem_of_getElem? (i := 81) rfl))) Via.refl e0 S_f18 (g := (mkF mI 179 #[.val (.int k)] [])) rfl (hb hby d1_179)
                                        refine own_go (T' := Td38) (g' := (mkF mI 182 #[.val (.int k)] [(.ref f18)])) (fun t_ kt_ => std38 _ kt_) ?_
                                        refine own_retA Xd38 hx hlk hret rfl rfl (hb hby d1_182) (by decide) (by decide) ?_
                                        exact ⟨f18, "com/example/gatewright/gatewright/engine/XPathFunction$19", rfl, rfl, ed38, E_f18, (show own_lo k = 1 by simp [own_lo, hc1_d1, hc10_d3, hc19_d5, hc28_d7, hc37_d9, hc46_d11, hc56_d13, hc66_d15, hc76_d17, hc86_d19, hc96_d21, hc106_d23, hc116_d25, hc126_d27, hc136_d29, hc146_d31, hc156_d33, hc166_d35, hc176_d37]) ▸ F_f18_fewest, (show own_hi k = 1 by simp [own_hi, hc1_d1, hc10_d3, hc19_d5, hc28_d7, hc37_d9, hc46_d11, hc56_d13, hc66_d15, hc76_d17, hc86_d19, hc96_d21, hc106_d23, hc116_d25, hc126_d27, hc136_d29, hc146_d31, hc156_d33, hc166_d35, hc176_d37]) ▸ F_f18_most, (hw _ (List.mem_of_getElem? (i := 83) rfl))⟩
                                      · skip
                                        refine own_go (T' := s₁) (g' := (mkF mI 183 #[.val (.int k)] [])) (fun t_ kt_ => XS.icmpYes X0.here hx rfl (pc0 := 176) (pc' := 183) rfl (hb hby d1_176) rfl (feq hc176_d37).2 (by decide) (by decide) kt_) ?_
                                        refine own_go (T' := s₁) (g' := (mkF mI 184 #[.val (.int k)] [(.int k)])) (fun t_ kt_ => XS.iloadN X0.here hx rfl (hb hby d1_183) rfl kt_) ?_
                                        refine own_go (T' := s₁) (g' := (mkF mI 186 #[.val (.int k)] [(.int (19 : Int32)), (.int k)])) (fun t_ kt_ => XS.bipush X0.here hx rfl (hb hby d1_184) kt_) ?_
                                        by_cases hc186_d39 : k = (19 : Int32)
                                        · skip
                                          refine own_go (T' := s₁) (g' := (mkF mI 189 #[.val (.int k)] [])) (fun t_ kt_ => XS.icmpNo X0.here hx rfl (hb hby d1_186) rfl (teq hc186_d39).2 kt_) ?_
                                          obtain ⟨Td40, Xd40, ed40, std40⟩ := getS2 X0 hx hZ hown (host := "") (Or.inl (hw _ (List.mem_of_getElem? (i := 63) rfl))) Via.refl e0 S_f19 (g := (mkF mI 189 #[.val (.int k)] [])) rfl (hb hby d1_189)
                                          refine own_go (T' := Td40) (g' := (mkF mI 192 #[.val (.int k)] [(.ref f19)])) (fun t_ kt_ => std40 _ kt_) ?_
                                          refine own_retA Xd40 hx hlk hret rfl rfl (hb hby d1_192) (by decide) (by decide) ?_
                                          exact ⟨f19, "com/example/gatewright/gatewright/engine/XPathFunction$20", rfl, rfl, ed40, E_f19, (show own_lo k = 0 by simp [own_lo, hc1_d1, hc10_d3, hc19_d5, hc28_d7, hc37_d9, hc46_d11, hc56_d13, hc66_d15, hc76_d17, hc86_d19, hc96_d21, hc106_d23, hc116_d25, hc126_d27, hc136_d29, hc146_d31, hc156_d33, hc166_d35, hc176_d37, hc186_d39]) ▸ F_f19_fewest, (show own_hi k = 0 by simp [own_hi, hc1_d1, hc10_d3, hc19_d5, hc28_d7, hc37_d9, hc46_d11, hc56_d13, hc66_d15, hc76_d17, hc86_d19, hc96_d21, hc106_d23, hc116_d25, hc126_d27, hc136_d29, hc146_d31, hc156_d33, hc166_d35, hc176_d37, hc186_d39]) ▸ F_f19_most, (hw _ (List.mem_of_getElem? (i := 65) rfl))⟩
                                        · skip
                                          refine own_go (T' := s₁) (g' := (mkF mI 193 #[.val (.int k)] [])) (fun t_ kt_ => XS.icmpYes X0.here hx rfl (pc0 := 186) (pc' := 193) rfl (hb hby d1_186) rfl (feq hc186_d39).2 (by decide) (by decide) kt_) ?_
                                          refine own_go (T' := s₁) (g' := (mkF mI 194 #[.val (.int k)] [(.int k)])) (fun t_ kt_ => XS.iloadN X0.here hx rfl (hb hby d1_193) rfl kt_) ?_
                                          refine own_go (T' := s₁) (g' := (mkF mI 196 #[.val (.int k)] [(.int (20 : Int32)), (.int k)])) (fun t_ kt_ => XS.bipush X0.here hx rfl (hb hby d1_194) kt_) ?_
                                          by_cases hc196_d41 : k = (20 : Int32)
                                          · skip
                                            refine own_go (T' := s₁) (g' := (mkF mI 199 #[.val (.int k)] [])) (fun t_ kt_ => XS.icmpNo X0.here hx rfl (hb hby d1_196) rfl (teq hc196_d41).2 kt_) ?_
                                            obtain ⟨Td42, Xd42, ed42, std42⟩ := getS2 X0 hx hZ hown (host := "") (Or.inl (hw _ (List.mem_of_getElem? (i := 99) rfl))) Via.refl e0 S_f20 (g := (mkF mI 199 #[.val (.int k)] [])) rfl (hb hby d1_199)
                                            refine own_go (T' := Td42) (g' := (mkF mI 202 #[.val (.int k)] [(.ref f20)])) (fun t_ kt_ => std42 _ kt_) ?_
                                            refine own_retA Xd42 hx hlk hret rfl rfl (hb hby d1_202) (by decide) (by decide) ?_
                                            exact ⟨f20, "com/example/gatewright/gatewright/engine/XPathFunction$21", rfl, rfl, ed42, E_f20, (show own_lo k = 0 by simp [own_lo, hc1_d1, hc10_d3, hc19_d5, hc28_d7, hc37_d9, hc46_d11, hc56_d13, hc66_d15, hc76_d17, hc86_d19, hc96_d21, hc106_d23, hc116_d25, hc126_d27, hc136_d29, hc146_d31, hc156_d33, hc166_d35, hc176_d37, hc186_d39, hc196_d41]) ▸ F_f20_fewest, (show own_hi k = 0 by simp [own_hi, hc1_d1, hc10_d3, hc19_d5, hc28_d7, hc37_d9, hc46_d11, hc56_d13, hc66_d15, hc76_d17, hc86_d19, hc96_d21, hc106_d23, hc116_d25, hc126_d27, hc136_d29, hc146_d31, hc156_d33, hc166_d35, hc176_d37, hc186_d39, hc196_d41]) ▸ F_f20_most, (hw _ (List.mem_of_getElem? (i := 101) rfl))⟩
                                          · skip
                                            refine own_go (T' := s₁) (g' := (mkF mI 203 #[.val (.int k)] [])) (fun t_ kt_ => XS.icmpYes X0.here hx rfl (pc0 := 196) (pc' := 203) rfl (hb hby d1_196) rfl (feq hc196_d41).2 (by decide) (by decide) kt_) ?_
                                            refine own_go (T' := s₁) (g' := (mkF mI 204 #[.val (.int k)] [(.int k)])) (fun t_ kt_ => XS.iloadN X0.here hx rfl (hb hby d1_203) rfl kt_) ?_
                                            refine own_go (T' := s₁) (g' := (mkF mI 206 #[.val (.int k)] [(.int (21 : Int32)), (.int k)])) (fun t_ kt_ => XS.bipush X0.here hx rfl (hb hby d1_204) kt_) ?_
                                            by_cases hc206_d43 : k = (21 : Int32)
                                            · skip
                                              refine own_go (T' := s₁) (g' := (mkF mI 209 #[.val (.int k)] [])) (fun t_ kt_ => XS.icmpNo X0.here hx rfl (hb hby d1_206) rfl (teq hc206_d43).2 kt_) ?_
                                              obtain ⟨Td44, Xd44, ed44, std44⟩ := getS2 X0 hx hZ hown (host := "") (Or.inl (hw _ (List.mem_of_getElem? (i := 121) rfl))) Via.refl e0 S_f21 (g := (mkF mI 209 #[.val (.int k)] [])) rfl (hb hby d1_209)
                                              refine own_go (T' := Td44) (g' := (mkF mI 212 #[.val (.int k)] [(.ref f21)])) (fun t_ kt_ => std44 _ kt_) ?_
                                              refine own_retA Xd44 hx hlk hret rfl rfl (hb hby d1_212) (by decide) (by decide) ?_
                                              exact ⟨f21, "com/example/gatewright/gatewright/engine/XPathFunction$22", rfl, rfl, ed44, E_f21, (show own_lo k = 1 by simp [own_lo, hc1_d1, hc10_d3, hc19_d5, hc28_d7, hc37_d9, hc46_d11, hc56_d13, hc66_d15, hc76_d17, hc86_d19, hc96_d21, hc106_d23, hc116_d25, hc126_d27, hc136_d29, hc146_d31, hc156_d33, hc166_d35, hc176_d37, hc186_d39, hc196_d41, hc206_d43]) ▸ F_f21_fewest, (show own_hi k = 1 by simp [own_hi, hc1_d1, hc10_d3, hc19_d5, hc28_d7, hc37_d9, hc46_d11, hc56_d13, hc66_d15, hc76_d17, hc86_d19, hc96_d21, hc106_d23, hc116_d25, hc126_d27, hc136_d29, hc146_d31, hc156_d33, hc166_d35, hc176_d37, hc186_d39, hc196_d41, hc206_d43]) ▸ F_f21_most, (hw _ (List.mem_of_getElem? (i := 123) rfl))⟩
                                            · skip
                                              refine own_go (T' := s₁) (g' := (mkF mI 213 #[.val (.int k)] [])) (fun t_ kt_ => XS.icmpYes X0.here hx rfl (pc0 := 206) (pc' := 213) rfl (hb hby d1_206) rfl (feq hc206_d43).2 (by decide) (by decide) kt_) ?_
                                              refine own_go (T' := s₁) (g' := (mkF mI 214 #[.val (.int k)] [(.int k)])) (fun t_ kt_ => XS.iloadN X0.here hx rfl (hb hby d1_213) rfl kt_) ?_
                                              refine own_go (T' := s₁) (g' := (mkF mI 216 #[.val (.int k)] [(.int (22 : Int32)), (.int k)])) (fun t_ kt_ => XS.bipush X0.here hx rfl (hb hby d1_214) kt_) ?_
                                              by_cases hc216_d45 : k = (22 : Int32)
                                              · skip
                                                refine own_go (T' := s₁) (g' := (mkF mI 219 #[.val (.int k)] [])) (fun t_ kt_ => XS.icmpNo X0.here hx rfl (hb hby d1_216) rfl (teq hc216_d45).2 kt_) ?_
                                                obtain ⟨Td46, Xd46, ed46, std46⟩ := getS2 X0 hx hZ hown (host := "") (Or.inl (hw _ (List.mem_of_getElem? (i := 136) rfl))) Via.refl e0 S_f22 (g := (mkF mI 219 #[.val (.int k)] [])) rfl (hb hby d1_219)
                                                refine own_go (T' := Td46) (g' := (mkF mI 222 #[.val (.int k)] [(.ref f22)])) (fun t_ kt_ => std46 _ kt_) ?_
                                                refine own_retA Xd46 hx hlk hret rfl rfl (hb hby d1_222) (by decide) (by decide) ?_
                                                exact ⟨f22, "com/example/gatewright/gatewright/engine/XPathFunction$23", rfl, rfl, ed46, E_f22, (show own_lo k = 0 by simp [own_lo, hc1_d1, hc10_d3, hc19_d5, hc28_d7, hc37_d9, hc46_d11, hc56_d13, hc66_d15, hc76_d17, hc86_d19, hc96_d21, hc106_d23, hc116_d25, hc126_d27, hc136_d29, hc146_d31, hc156_d33, hc166_d35, hc176_d37, hc186_d39, hc196_d41, hc206_d43, hc216_d45]) ▸ F_f22_fewest, (show own_hi k = 1 by simp [own_hi, hc1_d1, hc10_d3, hc19_d5, hc28_d7, hc37_d9, hc46_d11, hc56_d13, hc66_d15, hc76_d17, hc86_d19, hc96_d21, hc106_d23, hc116_d25, hc126_d27, hc136_d29, hc146_d31, hc156_d33, hc166_d35, hc176_d37, hc186_d39, hc196_d41, hc206_d43, hc216_d45]) ▸ F_f22_most, (hw _ (List.mem_of_getElem? (i := 138) rfl))⟩
                                              · skip
                                                refine own_go (T' := s₁) (g' := (mkF mI 223 #[.val (.int k)] [])) (fun t_ kt_ => XS.icmpYes X0.here hx rfl (pc0 := 216) (pc' := 223) rfl (hb hby d1_216) rfl (feq hc216_d45).2 (by decide) (by decide) kt_) ?_
                                                refine own_go (T' := s₁) (g' := (mkF mI 224 #[.val (.int k)] [(.int k)])) (fun t_ kt_ => XS.iloadN X0.here hx rfl (hb hby d1_223) rfl kt_) ?_
                                                refine own_go (T' := s₁) (g' := (mkF mI 226 #[.val (.int k)] [(.int (23 : Int32)), (.int k)])) (fun t_ kt_ => XS.bipush X0.here hx rfl (hb hby d1_224) kt_) ?_
                                                by_cases hc226_d47 : k = (23 : Int32)
                                                · skip
                                                  refine own_go (T' := s₁) (g' := (mkF mI 229 #[.val (.int k)] [])) (fun t_ kt_ => XS.icmpNo X0.here hx rfl (hb hby d1_226) rfl (teq hc226_d47).2 kt_) ?_
                                                  obtain ⟨Td48, Xd48, ed48, std48⟩ := getS2 X0 hx hZ hown (host := "") (Or.inl (hw _ (List.mem_of_getElem? (i := 130) rfl))) Via.refl e0 S_f23 (g := (mkF mI 229 #[.val (.int k)] [])) rfl (hb hby d1_229)
                                                  refine own_go (T' := Td48) (g' := (mkF mI 232 #[.val (.int k)] [(.ref f23)])) (fun t_ kt_ => std48 _ kt_) ?_
                                                  refine own_retA Xd48 hx hlk hret rfl rfl (hb hby d1_232) (by decide) (by decide) ?_
                                                  exact ⟨f23, "com/example/gatewright/gatewright/engine/XPathFunction$24", rfl, rfl, ed48, E_f23, (show own_lo k = 1 by simp [own_lo, hc1_d1, hc10_d3, hc19_d5, hc28_d7, hc37_d9, hc46_d11, hc56_d13, hc66_d15, hc76_d17, hc86_d19, hc96_d21, hc106_d23, hc116_d25, hc126_d27, hc136_d29, hc146_d31, hc156_d33, hc166_d35, hc176_d37, hc186_d39, hc196_d41, hc206_d43, hc216_d45, hc226_d47]) ▸ F_f23_fewest, (show own_hi k = 1 by simp [own_hi, hc1_d1, hc10_d3, hc19_d5, hc28_d7, hc37_d9, hc46_d11, hc56_d13, hc66_d15, hc76_d17, hc86_d19, hc96_d21, hc106_d23, hc116_d25, hc126_d27, hc136_d29, hc146_d31, hc156_d33, hc166_d35, hc176_d37, hc186_d39, hc196_d41, hc206_d43, hc216_d45, hc226_d47]) ▸ F_f23_most, (hw _ (List.mem_of_getElem? (i := 132) rfl))⟩
                                                · skip
                                                  refine own_go (T' := s₁) (g' := (mkF mI 233 #[.val (.int k)] [])) (fun t_ kt_ => XS.icmpYes X0.here hx rfl (pc0 := 226) (pc' := 233) rfl (hb hby d1_226) rfl (feq hc226_d47).2 (by decide) (by decide) kt_) ?_
                                                  refine own_go (T' := s₁) (g' := (mkF mI 234 #[.val (.int k)] [(.int k)])) (fun t_ kt_ => XS.iloadN X0.here hx rfl (hb hby d1_233) rfl kt_) ?_
                                                  refine own_go (T' := s₁) (g' := (mkF mI 236 #[.val (.int k)] [(.int (24 : Int32)), (.int k)])) (fun t_ kt_ => XS.bipush X0.here hx rfl (hb hby d1_234) kt_) ?_
                                                  by_cases hc236_d49 : k = (24 : Int32)
                                                  · skip
                                                    refine own_go (T' := s₁) (g' := (mkF mI 239 #[.val (.int k)] [])) (fun t_ kt_ => XS.icmpNo X0.here hx rfl (hb hby d1_236) rfl (teq hc236_d49).2 kt_) ?_
                                                    obtain ⟨Td50, Xd50, ed50, std50⟩ := getS2 X0 hx hZ hown (host := "") (Or.inl (hw _ (List.mem_of_getElem? (i := 33) rfl))) Via.refl e0 S_f24 (g := (mkF mI 239 #[.val (.int k)] [])) rfl (hb hby d1_239)
                                                    refine own_go (T' := Td50) (g' := (mkF mI 242 #[.val (.int k)] [(.ref f24)])) (fun t_ kt_ => std50 _ kt_) ?_
                                                    refine own_retA Xd50 hx hlk hret rfl rfl (hb hby d1_242) (by decide) (by decide) ?_
                                                    exact ⟨f24, "com/example/gatewright/gatewright/engine/XPathFunction$25", rfl, rfl, ed50, E_f24, (show own_lo k = 1 by simp [own_lo, hc1_d1, hc10_d3, hc19_d5, hc28_d7, hc37_d9, hc46_d11, hc56_d13, hc66_d15, hc76_d17, hc86_d19, hc96_d21, hc106_d23, hc116_d25, hc126_d27, hc136_d29, hc146_d31, hc156_d33, hc166_d35, hc176_d37, hc186_d39, hc196_d41, hc206_d43, hc216_d45, hc226_d47, hc236_d49]) ▸ F_f24_fewest, (show own_hi k = 1 by simp [own_hi, hc1_d1, hc10_d3, hc19_d5, hc28_d7, hc37_d9, hc46_d11, hc56_d13, hc66_d15, hc76_d17, hc86_d19, hc96_d21, hc106_d23, hc116_d25, hc126_d27, hc136_d29, hc146_d31, hc156_d33, hc166_d35, hc176_d37, hc186_d39, hc196_d41, hc206_d43, hc216_d45, hc226_d47, hc236_d49]) ▸ F_f24_most, (hw _ (List.mem_of_getElem? (i := 35) rfl))⟩
                                                  · skip
                                                    refine own_go (T' := s₁) (g' := (mkF mI 243 #[.val (.int k)] [])) (fun t_ kt_ => XS.icmpYes X0.here hx rfl (pc0 := 236) (pc' := 243) rfl (hb hby d1_236) rfl (feq hc236_d49).2 (by decide) (by decide) kt_) ?_
                                                    refine own_go (T' := s₁) (g' := (mkF mI 244 #[.val (.int k)] [(.int k)])) (fun t_ kt_ => XS.iloadN X0.here hx rfl (hb hby d1_243) rfl kt_) ?_
                                                    refine own_go (T' := s₁) (g' := (mkF mI 246 #[.val (.int k)] [(.int (25 : Int32)), (.int k)])) (fun t_ kt_ => XS.bipush X0.here hx rfl (hb hby d1_244) kt_) ?_
                                                    by_cases hc246_d51 : k = (25 : Int32)
                                                    · skip
                                                      refine own_go (T' := s₁) (g' := (mkF mI 249 #[.val (.int k)] [])) (fun t_ kt_ => XS.icmpNo X0.here hx rfl (hb hby d1_246) rfl (teq hc246_d51).2 kt_) ?_
                                                      obtain ⟨Td52, Xd52, ed52, std52⟩ := getS2 X0 hx hZ hown (host := "") (Or.inl (hw _ (List.mem_of_getElem? (i := 72) rfl))) Via.refl e0 S_f25 (g := (mkF mI 249 #[.val (.int k)] [])) rfl (hb hby d1_249)
                                                      refine own_go (T' := Td52) (g' := (mkF mI 252 #[.val (.int k)] [(.ref f25)])) (fun t_ kt_ => std52 _ kt_) ?_
                                                      refine own_retA Xd52 hx hlk hret rfl rfl (hb hby d1_252) (by decide) (by decide) ?_
                                                      exact ⟨f25, "com/example/gatewright/gatewright/engine/XPathFunction$26", rfl, rfl, ed52, E_f25, (show own_lo k = 1 by simp [own_lo, hc1_d1, hc10_d3, hc19_d5, hc28_d7, hc37_d9, hc46_d11, hc56_d13, hc66_d15, hc76_d17, hc86_d19, hc96_d21, hc106_d23, hc116_d25, hc126_d27, hc136_d29, hc146_d31, hc156_d33, hc166_d35, hc176_d37, hc186_d39, hc196_d41, hc206_d43, hc216_d45, hc226_d47, hc236_d49, hc246_d51]) ▸ F_f25_fewest, (show own_hi k = 1 by simp [own_hi, hc1_d1, hc10_d3, hc19_d5, hc28_d7, hc37_d9, hc46_d11, hc56_d13, hc66_d15, hc76_d17, hc86_d19, hc96_d21, hc106_d23, hc116_d25, hc126_d27, hc136_d29, hc146_d31, hc156_d33, hc166_d35, hc176_d37, hc186_d39, hc196_d41, hc206_d43, hc216_d45, hc226_d47, hc236_d49, hc246_d51]) ▸ F_f25_most, (hw _ (List.mem_of_getElem? (i := 74) rfl))⟩
                                                    · skip
                                                      refine own_go (T' := s₁) (g' := (mkF mI 253 #[.val (.int k)] [])) (fun t_ kt_ => XS.icmpYes X0.here hx rfl (pc0 := 246) (pc' := 253) rfl (hb hby d1_246) rfl (feq hc246_d51).2 (by decide) (by decide) kt_) ?_
                                                      obtain ⟨Td53, Xd53, ed53, std53⟩ := getS2 X0 hx hZ hown (host := "") (Or.inl (hw _ (List.mem_of_getElem? (i := 103) rfl))) Via.refl e0 S_f26 (g := (mkF mI 253 #[.val (.int k)] [])) rfl (hb hby d1_253)
                                                      refine own_go (T' := Td53) (g' := (mkF mI 256 #[.val (.int k)] [(.ref f26)])) (fun t_ kt_ => std53 _ kt_) ?_
                                                      refine own_retA Xd53 hx hlk hret rfl rfl (hb hby d1_256) (by decide) (by decide) ?_
                                                      exact ⟨f26, "com/example/gatewright/gatewright/engine/XPathFunction$27", rfl, rfl, ed53, E_f26, (show own_lo k = 1 by simp [own_lo, hc1_d1, hc10_d3, hc19_d5, hc28_d7, hc37_d9, hc46_d11, hc56_d13, hc66_d15, hc76_d17, hc86_d19, hc96_d21, hc106_d23, hc116_d25, hc126_d27, hc136_d29, hc146_d31, hc156_d33, hc166_d35, hc176_d37, hc186_d39, hc196_d41, hc206_d43, hc216_d45, hc226_d47, hc236_d49, hc246_d51]) ▸ F_f26_fewest, (show own_hi k = 1 by simp [own_hi, hc1_d1, hc10_d3, hc19_d5, hc28_d7, hc37_d9, hc46_d11, hc56_d13, hc66_d15, hc76_d17, hc86_d19, hc96_d21, hc106_d23, hc116_d25, hc126_d27, hc136_d29, hc146_d31, hc156_d33, hc166_d35, hc176_d37, hc186_d39, hc196_d41, hc206_d43, hc216_d45, hc226_d47, hc236_d49, hc246_d51]) ▸ F_f26_most, (hw _ (List.mem_of_getElem? (i := 105) rfl))⟩
theorem rm0_pn : plainFor x = true := plainFor_of_name (show plainName "com/example/gatewright/gatewright/engine/XPathFunctionTakesPinLaw" = true by first | (simp [plainName, overriddenIn]; done) | decide +kernel)
theorem rm0_ef (mI : MethodId) (sel : Int32) (count : Int32) (mode : Int32) : entryFrame mI #[(.int sel), (.int count), (.int mode)] maxLocals = mkF mI 0 #[.val (.int sel), .val (.int count), .val (.int mode), .unset, .unset, .unset, .unset] [] := by first | (simp [entryFrame, mkF, argsToLocals, Value.category, maxLocals]; done) | rfl
set_option maxRecDepth 65536 in
set_option maxHeartbeats 40000000 in
theorem rm0 (l : Launch) (Z : State) (a0 : Array Value) (hw : ∀ d ∈ tables_1, d.before a0 Z = true) (ws : List Jvm.Cond) (h0 : Heap) (sel count mode : Int32) (f0 : Addr) (S_f0 : Sta Z h0 "com/example/gatewright/gatewright/engine/XPathFunction" "LAST" "Lcom/example/gatewright/gatewright/engine/XPathFunction;" (.ref f0)) (E_f0 : Exa Z h0 f0 "com/example/gatewright/gatewright/engine/XPathFunction$1") (F_f0_fewest : Fld Z h0 f0 "com/example/gatewright/gatewright/engine/XPathFunction" "fewest" "I" (.int 0)) (F_f0_most : Fld Z h0 f0 "com/example/gatewright/gatewright/engine/XPathFunction" "most" "I" (.int 0)) (f1 : Addr) (S_f1 : Sta Z h0 "com/example/gatewright/gatewright/engine/XPathFunction" "POSITION" "Lcom/example/gatewright/gatewright/engine/XPathFunction;" (.ref f1)) (E_f1 : Exa Z h0 f1 "com/example/gatewright/gatewright/engine/XPathFunction$2") (F_f1_fewest : Fld Z h0 f1 "com/example/gatewright/gatewright/engine/XPathFunction" "fewest" "I" (.int 0)) (F_f1_most : Fld Z h0 f1 "com/example/gatewright/gatewright/engine/XPathFunction" "most" "I" (.int 0)) (f2 : Addr) (S_f2 : Sta Z h0 "com/example/gatewright/gatewright/engine/XPathFunction" "COUNT" "Lcom/example/gatewright/gatewright/engine/XPathFunction;" (.ref f2)) (E_f2 : Exa Z h0 f2 "com/example/gatewright/gatewright/engine/XPathFunction$3") (F_f2_fewest : Fld Z h0 f2 "com/example/gatewright/gatewright/engine/XPathFunction" "fewest" "I" (.int 1)) (F_f2_most : Fld Z h0 f2 "com/example/gatewright/gatewright/engine/XPathFunction" "most" "I" (.int 1)) (f3 : Addr) (S_f3 : Sta Z h0 "com/example/gatewright/gatewright/engine/XPathFunction" "ID" "Lcom/example/gatewright/gatewright/engine/XPathFunction;" (.ref f3)) (E_f3 : Exa Z h0 f3 "com/example/gatewright/gatewright/engine/XPathFunction$4") (F_f3_fewest : Fld Z h0 f3 "com/example/gatewright/gatewright/engine/XPathFunction" "fewest" "I" (.int 1)) (F_f3_most : Fld Z h0 f3 "com/example/gatewright/gatewright/engine/XPathFunction" "most" "I" (.int 1)) (f4 : Addr) (S_f4 : Sta Z h0 "com/example/gatewright/gatewright/engine/XPathFunction" "LOCAL_NAME" "Lcom/example/gatewright/gatewright/engine/XPathFunction;" (.ref f4)) (E_f4 : Exa Z h0 f4 "com/example/gatewright/gatewright/engine/XPathFunction$5") (F_f4_fewest : Fld Z h0 f4 "com/example/gatewright/gatewright/engine/XPathFunction" "fewest" "I" (.int 0)) (F_f4_most : Fld Z h0 f4 "com/example/gatewright/gatewright/engine/XPathFunction" "most" "I" (.int 1)) (f5 : Addr) (S_f5 : Sta Z h0 "com/example/gatewright/gatewright/engine/XPathFunction" "NAMESPACE_URI" "Lcom/example/gatewright/gatewright/engine/XPathFunction;" (.ref f5)) (E_f5 : Exa Z h0 f5 "com/example/gatewright/gatewright/engine/XPathFunction$6") (F_f5_fewest : Fld Z h0 f5 "com/example/gatewright/gatewright/engine/XPathFunction" "fewest" "I" (.int 0)) (F_f5_most : Fld Z h0 f5 "com/example/gatewright/gatewright/engine/XPathFunction" "most" "I" (.int 1)) (f6 : Addr) (S_f6 : Sta Z h0 "com/example/gatewright/gatewright/engine/XPathFunction" "NAME" "Lcom/example/gatewright/gatewright/engine/XPathFunction;" (.ref f6)) (E_f6 : Exa Z h0 f6 "com/example/gatewright/gatewright/engine/XPathFunction$7") (F_f6_fewest : Fld Z h0 f6 "com/example/gatewright/gatewright/engine/XPathFunction" "fewest" "I" (.int 0)) (F_f6_most : Fld Z h0 f6 "com/example/gatewright/gatewright/engine/XPathFunction" "most" "I" (.int 1)) (f7 : Addr) (S_f7 : Sta Z h0 "com/example/gatewright/gatewright/engine/XPathFunction" "STRING" "Lcom/example/gatewright/gatewright/engine/XPathFunction;" (.ref f7)) (E_f7 : Exa Z h0 f7 "com/example/gatewright/gatewright/engine/XPathFunction$8") (F_f7_fewest : Fld Z h0 f7 "com/example/gatewright/gatewright/engine/XPathFunction" "fewest" "I" (.int 0)) (F_f7_most : Fld Z h0 f7 "com/example/gatewright/gatewright/engine/XPathFunction" "most" "I" (.int 1)) (f8 : Addr) (S_f8 : Sta Z h0 "com/example/gatewright/gatewright/engine/XPathFunction" "CONCAT" "Lcom/example/gatewright/gatewright/engine/XPathFunction;" (.ref f8)) (E_f8 : Exa Z h0 f8 "com/example/gatewright/gatewright/engine/XPathFunction$9") (F_f8_fewest : Fld Z h0 f8 "com/example/gatewright/gatewright/engine/XPathFunction" "fewest" "I" (.int 2)) (F_f8_most : Fld Z h0 f8 "com/example/gatewright/gatewright/engine/XPathFunction" "most" "I" (.int 2147483647)) (f9 : Addr) (S_f9 : Sta Z h0 "com/example/gatewright/gatewright/engine/XPathFunction" "STARTS_WITH" "Lcom/example/gatewright/gatewright/engine/XPathFunction;" (.ref f9)) (E_f9 : Exa Z h0 f9 "com/example/gatewright/gatewright/engine/XPathFunction$10") (F_f9_fewest : Fld Z h0 f9 "com/example/gatewright/gatewright/engine/XPathFunction" "fewest" "I" (.int 2)) (F_f9_most : Fld Z h0 f9 "com/example/gatewright/gatewright/engine/XPathFunction" "most" "I" (.int 2)) (f10 : Addr) (S_f10 : Sta Z h0 "com/example/gatewright/gatewright/engine/XPathFunction" "CONTAINS" "Lcom/example/gatewright/gatewright/engine/XPathFunction;" (.ref f10)) (E_f10 : Exa Z h0 f10 "com/example/gatewright/gatewright/engine/XPathFunction$11") (F_f10_fewest : Fld Z h0 f10 "com/example/gatewright/gatewright/engine/XPathFunction" "fewest" "I" (.int 2)) (F_f10_most : Fld Z h0 f10 "com/example/gatewright/gatewright/engine/XPathFunction" "most" "I" (.int 2)) (f11 : Addr) (S_f11 : Sta Z h0 "com/example/gatewright/gatewright/engine/XPathFunction" "SUBSTRING_BEFORE" "Lcom/example/gatewright/gatewright/engine/XPathFunction;" (.ref f11)) (E_f11 : Exa Z h0 f11 "com/example/gatewright/gatewright/engine/XPathFunction$12") (F_f11_fewest : Fld Z h0 f11 "com/example/gatewright/gatewright/engine/XPathFunction" "fewest" "I" (.int 2)) (F_f11_most : Fld Z h0 f11 "com/example/gatewright/gatewright/engine/XPathFunction" "most" "I" (.int 2)) (f12 : Addr) (S_f12 : Sta Z h0 "com/example/gatewright/gatewright/engine/XPathFunction" "SUBSTRING_AFTER" "Lcom/example/gatewright/gatewright/engine/XPathFunction;" (.ref f12)) (E_f12 : Exa Z h0 f12 "com/example/gatewright/gatewright/engine/XPathFunction$13") (F_f12_fewest : Fld Z h0 f12 "com/example/gatewright/gatewright/engine/XPathFunction" "fewest" "I" (.int 2)) (F_f12_most : Fld Z h0 f12 "com/example/gatewright/gatewright/engine/XPathFunction" "most" "I" (.int 2)) (f13 : Addr) (S_f13 : Sta Z h0 "com/example/gatewright/gatewright/engine/XPathFunction" "SUBSTRING" "Lcom/example/gatewright/gatewright/engine/XPathFunction;" (.ref f13)) (E_f13 : Exa Z h0 f13 "com/example/gatewright/gatewright/engine/XPathFunction$14") (F_f13_fewest : Fld Z h0 f13 "com/example/gatewright/gatewright/engine/XPathFunction" "fewest" "I" (.int 2)) (F_f13_most : Fld Z h0 f13 "com/example/gatewright/gatewright/engine/XPathFunction" "most" "I" (.int 3)) (f14 : Addr) (S_f14 : Sta Z h0 "com/example/gatewright/gatewright/engine/XPathFunction" "STRING_LENGTH" "Lcom/example/gatewright/gatewright/engine/XPathFunction;" (.ref f14)) (E_f14 : Exa Z h0 f14 "com/example/gatewright/gatewright/engine/XPathFunction$15") (F_f14_fewest : Fld Z h0 f14 "com/example/gatewright/gatewright/engine/XPathFunction" "fewest" "I" (.int 0)) (F_f14_most : Fld Z h0 f14 "com/example/gatewright/gatewright/engine/XPathFunction" "most" "I" (.int 1)) (f15 : Addr) (S_f15 : Sta Z h0 "com/example/gatewright/gatewright/engine/XPathFunction" "NORMALIZE_SPACE" "Lcom/example/gatewright/gatewright/engine/XPathFunction;" (.ref f15)) (E_f15 : Exa Z h0 f15 "com/example/gatewright/gatewright/engine/XPathFunction$16") (F_f15_fewest : Fld Z h0 f15 "com/example/gatewright/gatewright/engine/XPathFunction" "fewest" "I" (.int 0)) (F_f15_most : Fld Z h0 f15 "com/example/gatewright/gatewright/engine/XPathFunction" "most" "I" (.int 1)) (f16 : Addr) (S_f16 : Sta Z h0 "com/example/gatewright/gatewright/engine/XPathFunction" "TRANSLATE" "Lcom/example/gatewright/gatewright/engine/XPathFunction;" (.ref f16)) (E_f16 : Exa Z h0 f16 "com/example/gatewright/gatewright/engine/XPathFunction$17") (F_f16_fewest : Fld Z h0 f16 "com/example/gatewright/gatewright/engine/XPathFunction" "fewest" "I" (.int 3)) (F_f16_most : Fld Z h0 f16 "com/example/gatewright/gatewright/engine/XPathFunction" "most" "I" (.int 3)) (f17 : Addr) (S_f17 : Sta Z h0 "com/example/gatewright/gatewright/engine/XPathFunction" "BOOLEAN" "Lcom/example/gatewright/gatewright/engine/XPathFunction;" (.ref f17)) (E_f17 : Exa Z h0 f17 "com/example/gatewright/gatewright/engine/XPathFunction$18") (F_f17_fewest : Fld Z h0 f17 "com/example/gatewright/gatewright/engine/XPathFunction" "fewest" "I" (.int 1)) (F_f17_most : Fld Z h0 f17 "com/example/gatewright/gatewright/engine/XPathFunction" "most" "I" (.int 1)) (f18 : Addr) (S_f18 : Sta Z h0 "com/example/gatewright/gatewright/engine/XPathFunction" "NOT" "Lcom/example/gatewright/gatewright/engine/XPathFunction;" (.ref f18)) (E_f18 : Exa Z h0 f18 "com/example/gatewright/gatewright/engine/XPathFunction$19") (F_f18_fewest : Fld Z h0 f18 "com/example/gatewright/gatewright/engine/XPathFunction" "fewest" "I" (.int 1)) (F_f18_most : Fld Z h0 f18 "com/example/gatewright/gatewright/engine/XPathFunction" "most" "I" (.int 1)) (f19 : Addr) (S_f19 : Sta Z h0 "com/example/gatewright/gatewright/engine/XPathFunction" "TRUE" "Lcom/example/gatewright/gatewright/engine/XPathFunction;" (.ref f19)) (E_f19 : Exa Z h0 f19 "com/example/gatewright/gatewright/engine/XPathFunction$20") (F_f19_fewest : Fld Z h0 f19 "com/example/gatewright/gatewright/engine/XPathFunction" "fewest" "I" (.int 0)) (F_f19_most : Fld Z h0 f19 "com/example/gatewright/gatewright/engine/XPathFunction" "most" "I" (.int 0)) (f20 : Addr) (S_f20 : Sta Z h0 "com/example/gatewright/gatewright/engine/XPathFunction" "FALSE" "Lcom/example/gatewright/gatewright/engine/XPathFunction;" (.ref f20)) (E_f20 : Exa Z h0 f20 "com/example/gatewright/gatewright/engine/XPathFunction$21") (F_f20_fewest : Fld Z h0 f20 "com/example/gatewright/gatewright/engine/XPathFunction" "fewest" "I" (.int 0)) (F_f20_most : Fld Z h0 f20 "com/example/gatewright/gatewright/engine/XPathFunction" "most" "I" (.int 0)) (f21 : Addr) (S_f21 : Sta Z h0 "com/example/gatewright/gatewright/engine/XPathFunction" "LANG" "Lcom/example/gatewright/gatewright/engine/XPathFunction;" (.ref f21)) (E_f21 : Exa Z h0 f21 "com/example/gatewright/gatewright/engine/XPathFunction$22") (F_f21_fewest : Fld Z h0 f21 "com/example/gatewright/gatewright/engine/XPathFunction" "fewest" "I" (.int 1)) (F_f21_most : Fld Z h0 f21 "com/example/gatewright/gatewright/engine/XPathFunction" "most" "I" (.int 1)) (f22 : Addr) (S_f22 : Sta Z h0 "com/example/gatewright/gatewright/engine/XPathFunction" "NUMBER" "Lcom/example/gatewright/gatewright/engine/XPathFunction;" (.ref f22)) (E_f22 : Exa Z h0 f22 "com/example/gatewright/gatewright/engine/XPathFunction$23") (F_f22_fewest : Fld Z h0 f22 "com/example/gatewright/gatewright/engine/XPathFunction" "fewest" "I" (.int 0)) (F_f22_most : Fld Z h0 f22 "com/example/gatewright/gatewright/engine/XPathFunction" "most" "I" (.int 1)) (f23 : Addr) (S_f23 : Sta Z h0 "com/example/gatewright/gatewright/engine/XPathFunction" "SUM" "Lcom/example/gatewright/gatewright/engine/XPathFunction;" (.ref f23)) (E_f23 : Exa Z h0 f23 "com/example/gatewright/gatewright/engine/XPathFunction$24") (F_f23_fewest : Fld Z h0 f23 "com/example/gatewright/gatewright/engine/XPathFunction" "fewest" "I" (.int 1)) (F_f23_most : Fld Z h0 f23 "com/example/gatewright/gatewright/engine/XPathFunction" "most" "I" (.int 1)) (f24 : Addr) (S_f24 : Sta Z h0 "com/example/gatewright/gatewright/engine/XPathFunction" "FLOOR" "Lcom/example/gatewright/gatewright/engine/XPathFunction;" (.ref f24)) (E_f24 : Exa Z h0 f24 "com/example/gatewright/gatewright/engine/XPathFunction$25") (F_f24_fewest : Fld Z h0 f24 "com/example/gatewright/gatewright/engine/XPathFunction" "fewest" "I" (.int 1)) (F_f24_most : Fld Z h0 f24 "com/example/gatewright/gatewright/engine/XPathFunction" "most" "I" (.int 1)) (f25 : Addr) (S_f25 : Sta Z h0 "com/example/gatewright/gatewright/engine/XPathFunction" "CEILING" "Lcom/example/gatewright/gatewright/engine/XPathFunction;" (.ref f25)) (E_f25 : Exa Z h0 f25 "com/example/gatewright/gatewright/engine/XPathFunction$26") (F_f25_fewest : Fld Z h0 f25 "com/example/gatewright/gatewright/engine/XPathFunction" "fewest" "I" (.int 1)) (F_f25_most : Fld Z h0 f25 "com/example/gatewright/gatewright/engine/XPathFunction" "most" "I" (.int 1)) (f26 : Addr) (S_f26 : Sta Z h0 "com/example/gatewright/gatewright/engine/XPathFunction" "ROUND" "Lcom/example/gatewright/gatewright/engine/XPathFunction;" (.ref f26)) (E_f26 : Exa Z h0 f26 "com/example/gatewright/gatewright/engine/XPathFunction$27") (F_f26_fewest : Fld Z h0 f26 "com/example/gatewright/gatewright/engine/XPathFunction" "fewest" "I" (.int 1)) (F_f26_most : Fld Z h0 f26 "com/example/gatewright/gatewright/engine/XPathFunction" "most" "I" (.int 1)) :
    own_Met l Z x code maxLocals ret ws room_1 #[(.int sel), (.int count), (.int mode)] h0 (own_QP h0 (some (.int 1))) := by
  refine own_met rm0_pn ?_
  intro pP eE sS mI bB mT cC s₁ hx hby hml hown hnm hret hlk hZ X0 e0
  replace hown : sS.vm.findClass "com/example/gatewright/gatewright/engine/XPathFunctionTakesPinLaw" = some mI.cls := hown
  replace hml : cC.maxLocals = 7 := hml
  replace hret : mT.sig.returnType = (some .boolean) := hret
  refine own_cast (rm0_ef mI sel count mode) ?_
  refine own_go (T' := s₁) (g' := (mkF mI 1 #[.val (.int sel), .val (.int count), .val (.int mode), .unset, .unset, .unset, .unset] [(.int sel)])) (fun t_ kt_ => XS.iloadN X0.here hx rfl (hb hby at_0) rfl kt_) ?_
  refine own_go (T' := s₁) (g' := (mkF mI 3 #[.val (.int sel), .val (.int count), .val (.int mode), .unset, .unset, .unset, .unset] [(.int (2147483647 : Int32)), (.int sel)])) (fun t_ kt_ => ldcI X0 hx hown (mvT hZ (hw _ (List.mem_of_getElem? (i := 0) rfl))) rfl (hb hby at_1) kt_) ?_
  refine own_go (T' := s₁) (g' := (mkF mI 4 #[.val (.int sel), .val (.int count), .val (.int mode), .unset, .unset, .unset, .unset] [(.int (sel &&& (2147483647 : Int32)))])) (fun t_ kt_ => XS.iand X0.here hx rfl (hb hby at_3) rfl kt_) ?_
  refine own_go (T' := s₁) (g' := (mkF mI 6 #[.val (.int sel), .val (.int count), .val (.int mode), .unset, .unset, .unset, .unset] [(.int (27 : Int32)), (.int (sel &&& (2147483647 : Int32)))])) (fun t_ kt_ => XS.bipush X0.here hx rfl (hb hby at_4) kt_) ?_
  refine own_go (T' := s₁) (g' := (mkF mI 7 #[.val (.int sel), .val (.int count), .val (.int mode), .unset, .unset, .unset, .unset] [(.int ((sel &&& (2147483647 : Int32)) % (27 : Int32)))])) (fun t_ kt_ => iremM X0 hx rfl (hb hby at_6) rfl (by decide) kt_) ?_
  refine own_go (T' := s₁) (g' := (mkF mI 8 #[.val (.int sel), .val (.int count), .val (.int mode), .val (.int ((sel &&& (2147483647 : Int32)) % (27 : Int32))), .unset, .unset, .unset] [])) (fun t_ kt_ => XS.istoreN X0.here hx rfl (hb hby at_7) rfl (l' := #[.val (.int sel), .val (.int count), .val (.int mode), .val (.int ((sel &&& (2147483647 : Int32)) % (27 : Int32))), .unset, .unset, .unset]) rfl kt_) ?_
  refine own_go (T' := s₁) (g' := (mkF mI 9 #[.val (.int sel), .val (.int count), .val (.int mode), .val (.int ((sel &&& (2147483647 : Int32)) % (27 : Int32))), .unset, .unset, .unset] [(.int mode)])) (fun t_ kt_ => XS.iloadN X0.here hx rfl (hb hby at_8) rfl kt_) ?_
  refine own_go (T' := s₁) (g' := (mkF mI 10 #[.val (.int sel), .val (.int count), .val (.int mode), .val (.int ((sel &&& (2147483647 : Int32)) % (27 : Int32))), .unset, .unset, .unset] [(.int (3 : Int32)), (.int mode)])) (fun t_ kt_ => XS.iconst X0.here hx rfl (hb hby at_9) kt_) ?_
  refine own_go (T' := s₁) (g' := (mkF mI 11 #[.val (.int sel), .val (.int count), .val (.int mode), .val (.int ((sel &&& (2147483647 : Int32)) % (27 : Int32))), .unset, .unset, .unset] [(.int (mode &&& (3 : Int32)))])) (fun t_ kt_ => XS.iand X0.here hx rfl (hb hby at_10) rfl kt_) ?_
  refine own_go (T' := s₁) (g' := (mkF mI 13 #[.val (.int sel), .val (.int count), .val (.int mode), .val (.int ((sel &&& (2147483647 : Int32)) % (27 : Int32))), .val (.int (mode &&& (3 : Int32))), .unset, .unset] [])) (fun t_ kt_ => XS.istore X0.here hx rfl (hb hby at_11) rfl (l' := #[.val (.int sel), .val (.int count), .val (.int mode), .val (.int ((sel &&& (2147483647 : Int32)) % (27 : Int32))), .val (.int (mode &&& (3 : Int32))), .unset, .unset]) rfl kt_) ?_
  refine own_go (T' := s₁) (g' := (mkF mI 15 #[.val (.int sel), .val (.int count), .val (.int mode), .val (.int ((sel &&& (2147483647 : Int32)) % (27 : Int32))), .val (.int (mode &&& (3 : Int32))), .unset, .unset] [(.int (mode &&& (3 : Int32)))])) (fun t_ kt_ => XS.iload X0.here hx rfl (hb hby at_13) rfl kt_) ?_
  by_cases hc15_e1 : (mode &&& (3 : Int32)) = (0 : Int32)
  · skip
    refine own_go (T' := s₁) (g' := (mkF mI 18 #[.val (.int sel), .val (.int count), .val (.int mode), .val (.int ((sel &&& (2147483647 : Int32)) % (27 : Int32))), .val (.int (mode &&& (3 : Int32))), .unset, .unset] [])) (fun t_ kt_ => XS.ifNo X0.here hx rfl (hb hby at_15) rfl ((if0 _ _).trans (teq hc15_e1).2) kt_) ?_
    refine own_go (T' := s₁) (g' := (mkF mI 19 #[.val (.int sel), .val (.int count), .val (.int mode), .val (.int ((sel &&& (2147483647 : Int32)) % (27 : Int32))), .val (.int (mode &&& (3 : Int32))), .unset, .unset] [(.int count)])) (fun t_ kt_ => XS.iloadN X0.here hx rfl (hb hby at_18) rfl kt_) ?_
    refine own_go (T' := s₁) (g' := (mkF mI 21 #[.val (.int sel), .val (.int count), .val (.int mode), .val (.int ((sel &&& (2147483647 : Int32)) % (27 : Int32))), .val (.int (mode &&& (3 : Int32))), .val (.int count), .unset] [])) (fun t_ kt_ => XS.istore X0.here hx rfl (hb hby at_19) rfl (l' := #[.val (.int sel), .val (.int count), .val (.int mode), .val (.int ((sel &&& (2147483647 : Int32)) % (27 : Int32))), .val (.int (mode &&& (3 : Int32))), .val (.int count), .unset]) rfl kt_) ?_
    refine own_go (T' := s₁) (g' := (mkF mI 58 #[.val (.int sel), .val (.int count), .val (.int mode), .val (.int ((sel &&& (2147483647 : Int32)) % (27 : Int32))), .val (.int (mode &&& (3 : Int32))), .val (.int count), .unset] [])) (fun t_ kt_ => XS.goto X0.here hx rfl (pc0 := 21) (pc' := 58) rfl (hb hby at_21) (by decide) (by decide) kt_) ?_
    refine own_go (T' := s₁) (g' := (mkF mI 59 #[.val (.int sel), .val (.int count), .val (.int mode), .val (.int ((sel &&& (2147483647 : Int32)) % (27 : Int32))), .val (.int (mode &&& (3 : Int32))), .val (.int count), .unset] [(.int ((sel &&& (2147483647 : Int32)) % (27 : Int32)))])) (fun t_ kt_ => XS.iloadN X0.here hx rfl (hb hby at_58) rfl kt_) ?_
    refine own_callS own_closed X0 hx hZ (y := (⟨"com/example/gatewright/gatewright/engine/XPathFunctionTakesPinLaw", "pick", "(I)Lcom/example/gatewright/gatewright/engine/XPathFunction;"⟩ : MethodName)) hown (hw _ (List.mem_of_getElem? (i := 1) rfl)) (hw _ (List.mem_of_getElem? (i := 2) rfl)) (by decide) (rm1 l Z a0 hw [] h0 ((sel &&& (2147483647 : Int32)) % (27 : Int32)) f0 S_f0 E_f0 F_f0_fewest F_f0_most f1 S_f1 E_f1 F_f1_fewest F_f1_most f2 S_f2 E_f2 F_f2_fewest F_f2_most f3 S_f3 E_f3 F_f3_fewest F_f3_most f4 S_f4 E_f4 F_f4_fewest F_f4_most f5 S_f5 E_f5 F_f5_fewest F_f5_most f6 S_f6 E_f6 F_f6_fewest F_f6_most f7 S_f7 E_f7 F_f7_fewest F_f7_most f8 S_f8 E_f8 F_f8_fewest F_f8_most f9 S_f9 E_f9 F_f9_fewest F_f9_most f10 S_f10 E_f10 F_f10_fewest F_f10_most f11 S_f11 E_f11 F_f11_fewest F_f11_most f12 S_f12 E_f12 F_f12_fewest F_f12_most f13 S_f13 E_f13 F_f13_fewest F_f13_most f14 S_f14 E_f14 F_f14_fewest F_f14_most f15 S_f15 E_f15 F_f15_fewest F_f15_most f16 S_f16 E_f16 F_f16_fewest F_f16_most f17 S_f17 E_f17 F_f17_fewest F_f17_most f18 S_f18 E_f18 F_f18_fewest F_f18_most f19 S_f19 E_f19 F_f19_fewest F_f19_most f20 S_f20 E_f20 F_f20_fewest F_f20_most f21 S_f21 E_f21 F_f21_fewest F_f21_most f22 S_f22 E_f22 F_f22_fewest F_f22_most f23 S_f23 E_f23 F_f23_fewest F_f23_most f24 S_f24 E_f24 F_f24_fewest F_f24_most f25 S_f25 E_f25 F_f25_fewest F_f25_most f26 S_f26 E_f26 F_f26_fewest F_f26_most) (hw _ (List.mem_of_getElem? (i := 4) rfl)) (hw _ (List.mem_of_getElem? (i := 3) rfl)) e0 (pc := 59) (Ls := #[.val (.int sel), .val (.int count), .val (.int mode), .val (.int ((sel &&& (2147483647 : Int32)) % (27 : Int32))), .val (.int (mode &&& (3 : Int32))), .val (.int count), .unset]) (argsL := [(.int ((sel &&& (2147483647 : Int32)) % (27 : Int32)))]) (rest := []) (by rw [hml]; rfl) (lenOf pd_0 rfl) (W := 0) (Nat.le_of_eq rfl) (by decide) (by decide) (by decide) (by decide) (hb hby at_59) rfl rfl ?_
    intro Te2 Le2 ve2 Xe2 hQe2
    obtain ⟨ae2, Ce2, rfl, rfl, ee2, Ee2, Fle2, Fme2, wse2⟩ := hQe2
    show own_Ends pP eE bB sS _ _ Te2 (mkF mI 62 #[.val (.int sel), .val (.int count), .val (.int mode), .val (.int ((sel &&& (2147483647 : Int32)) % (27 : Int32))), .val (.int (mode &&& (3 : Int32))), .val (.int count), .unset] [(.ref ae2)])
    refine own_go (T' := Te2) (g' := (mkF mI 64 #[.val (.int sel), .val (.int count), .val (.int mode), .val (.int ((sel &&& (2147483647 : Int32)) % (27 : Int32))), .val (.int (mode &&& (3 : Int32))), .val (.int count), .val (.ref ae2)] [])) (fun t_ kt_ => XS.astore Xe2.here hx rfl (hb hby at_62) rfl rfl (l' := #[.val (.int sel), .val (.int count), .val (.int mode), .val (.int ((sel &&& (2147483647 : Int32)) % (27 : Int32))), .val (.int (mode &&& (3 : Int32))), .val (.int count), .val (.ref ae2)]) rfl kt_) ?_
    refine own_go (T' := Te2) (g' := (mkF mI 66 #[.val (.int sel), .val (.int count), .val (.int mode), .val (.int ((sel &&& (2147483647 : Int32)) % (27 : Int32))), .val (.int (mode &&& (3 : Int32))), .val (.int count), .val (.ref ae2)] [(.ref ae2)])) (fun t_ kt_ => XS.aload Xe2.here hx rfl (hb hby at_64) rfl rfl kt_) ?_
    refine own_go (T' := Te2) (g' := (mkF mI 68 #[.val (.int sel), .val (.int count), .val (.int mode), .val (.int ((sel &&& (2147483647 : Int32)) % (27 : Int32))), .val (.int (mode &&& (3 : Int32))), .val (.int count), .val (.ref ae2)] [(.int count), (.ref ae2)])) (fun t_ kt_ => XS.iload Xe2.here hx rfl (hb hby at_66) rfl kt_) ?_
    refine own_callV own_closed Xe2 hx hZ (y := (⟨"com/example/gatewright/gatewright/engine/XPathFunction", "takes", "(I)Z"⟩ : MethodName)) (z := (⟨"com/example/gatewright/gatewright/engine/XPathFunction", "takes", "(I)Z"⟩ : MethodName)) hown (hw _ (List.mem_of_getElem? (i := 8) rfl)) (hw _ (List.mem_of_getElem? (i := 9) rfl)) wse2 (hw _ (List.mem_of_getElem? (i := 10) rfl)) wse2 rfl (by decide) (rm2 l Z a0 hw [] h0 ae2 count (own_lo ((sel &&& (2147483647 : Int32)) % (27 : Int32))) (own_hi ((sel &&& (2147483647 : Int32)) % (27 : Int32))) Fle2 Fme2) (hw _ (List.mem_of_getElem? (i := 12) rfl)) (hw _ (List.mem_of_getElem? (i := 6) rfl)) ee2 Ee2 (pc := 68) (Ls := #[.val (.int sel), .val (.int count), .val (.int mode), .val (.int ((sel &&& (2147483647 : Int32)) % (27 : Int32))), .val (.int (mode &&& (3 : Int32))), .val (.int count), .val (.ref ae2)]) (argsL := [(.int count)]) (rest := []) (by rw [hml]; rfl) (lenOf pd_1 rfl) (W := 0) (Nat.le_of_eq rfl) (by decide) (by decide) (by decide) (by decide) (hb hby at_68) rfl rfl ?_
    intro Te3 Le3 ve3 Xe3 hQe3
    obtain ⟨rfl, rfl, ee3⟩ := hQe3
    show own_Ends pP eE bB sS _ _ Te3 (mkF mI 71 #[.val (.int sel), .val (.int count), .val (.int mode), .val (.int ((sel &&& (2147483647 : Int32)) % (27 : Int32))), .val (.int (mode &&& (3 : Int32))), .val (.int count), .val (.ref ae2)] [(.int (own_tk (own_lo ((sel &&& (2147483647 : Int32)) % (27 : Int32))) (own_hi ((sel &&& (2147483647 : Int32)) % (27 : Int32))) count))])
    refine own_go (T' := Te3) (g' := (mkF mI 72 #[.val (.int sel), .val (.int count), .val (.int mode), .val (.int ((sel &&& (2147483647 : Int32)) % (27 : Int32))), .val (.int (mode &&& (3 : Int32))), .val (.int count), .val (.ref ae2)] [(.int ((sel &&& (2147483647 : Int32)) % (27 : Int32))), (.int (own_tk (own_lo ((sel &&& (2147483647 : Int32)) % (27 : Int32))) (own_hi ((sel &&& (2147483647 : Int32)) % (27 : Int32))) count))])) (fun t_ kt_ => XS.iloadN Xe3.here hx rfl (hb hby at_71) rfl kt_) ?_
    refine own_go (T' := Te3) (g' := (mkF mI 74 #[.val (.int sel), .val (.int count), .val (.int mode), .val (.int ((sel &&& (2147483647 : Int32)) % (27 : Int32))), .val (.int (mode &&& (3 : Int32))), .val (.int count), .val (.ref ae2)] [(.int count), (.int ((sel &&& (2147483647 : Int32)) % (27 : Int32))), (.int (own_tk (own_lo ((sel &&& (2147483647 : Int32)) % (27 : Int32))) (own_hi ((sel &&& (2147483647 : Int32)) % (27 : Int32))) count))])) (fun t_ kt_ => XS.iload Xe3.here hx rfl (hb hby at_72) rfl kt_) ?_
    refine own_callS own_closed Xe3 hx hZ (y := (⟨"com/example/gatewright/gatewright/engine/XPathFunctionTakesPinLaw", "expected", "(II)Z"⟩ : MethodName)) hown (hw _ (List.mem_of_getElem? (i := 17) rfl)) (hw _ (List.mem_of_getElem? (i := 18) rfl)) (by decide) (rm3 l Z a0 hw [] h0 ((sel &&& (2147483647 : Int32)) % (27 : Int32)) count) (hw _ (List.mem_of_getElem? (i := 19) rfl)) (hw _ (List.mem_of_getElem? (i := 3) rfl)) ee3 (pc := 74) (Ls := #[.val (.int sel), .val (.int count), .val (.int mode), .val (.int ((sel &&& (2147483647 : Int32)) % (27 : Int32))), .val (.int (mode &&& (3 : Int32))), .val (.int count), .val (.ref ae2)]) (argsL := [(.int ((sel &&& (2147483647 : Int32)) % (27 : Int32))), (.int count)]) (rest := [(.int (own_tk (own_lo ((sel &&& (2147483647 : Int32)) % (27 : Int32))) (own_hi ((sel &&& (2147483647 : Int32)) % (27 : Int32))) count))]) (by rw [hml]; rfl) (lenOf pd_2 rfl) (W := 1) (Nat.le_of_eq rfl) (by decide) (by decide) (by decide) (by decide) (hb hby at_74) rfl rfl ?_
    intro Te4 Le4 ve4 Xe4 hQe4
    obtain ⟨rfl, rfl, ee4⟩ := hQe4
    show own_Ends pP eE bB sS _ _ Te4 (mkF mI 77 #[.val (.int sel), .val (.int count), .val (.int mode), .val (.int ((sel &&& (2147483647 : Int32)) % (27 : Int32))), .val (.int (mode &&& (3 : Int32))), .val (.int count), .val (.ref ae2)] [(.int (own_exp ((sel &&& (2147483647 : Int32)) % (27 : Int32)) count)), (.int (own_tk (own_lo ((sel &&& (2147483647 : Int32)) % (27 : Int32))) (own_hi ((sel &&& (2147483647 : Int32)) % (27 : Int32))) count))])
    refine own_go (T' := Te4) (g' := (mkF mI 80 #[.val (.int sel), .val (.int count), .val (.int mode), .val (.int ((sel &&& (2147483647 : Int32)) % (27 : Int32))), .val (.int (mode &&& (3 : Int32))), .val (.int count), .val (.ref ae2)] [])) (fun t_ kt_ => XS.icmpNo Xe4.here hx rfl (hb hby at_77) rfl (teq (own_law _ _ (own_k27 sel) : (own_tk (own_lo ((sel &&& (2147483647 : Int32)) % (27 : Int32))) (own_hi ((sel &&& (2147483647 : Int32)) % (27 : Int32))) count) = (own_exp ((sel &&& (2147483647 : Int32)) % (27 : Int32)) count))).2 kt_) ?_
    refine own_go (T' := Te4) (g' := (mkF mI 81 #[.val (.int sel), .val (.int count), .val (.int mode), .val (.int ((sel &&& (2147483647 : Int32)) % (27 : Int32))), .val (.int (mode &&& (3 : Int32))), .val (.int count), .val (.ref ae2)] [(.int (1 : Int32))])) (fun t_ kt_ => XS.iconst Xe4.here hx rfl (hb hby at_80) kt_) ?_
    refine own_go (T' := Te4) (g' := (mkF mI 85 #[.val (.int sel), .val (.int count), .val (.int mode), .val (.int ((sel &&& (2147483647 : Int32)) % (27 : Int32))), .val (.int (mode &&& (3 : Int32))), .val (.int count), .val (.ref ae2)] [(.int (1 : Int32))])) (fun t_ kt_ => XS.goto Xe4.here hx rfl (pc0 := 81) (pc' := 85) rfl (hb hby at_81) (by decide) (by decide) kt_) ?_
    refine own_retN Xe4 hx hlk (t := .boolean) hret (by simp) (hb hby at_85) (show nar .boolean (1 : Int32) = (1 : Int32) from by decide) (by decide) (by decide) ?_
    exact ⟨rfl, rfl, ee4⟩
  · skip
    refine own_go (T' := s₁) (g' := (mkF mI 24 #[.val (.int sel), .val (.int count), .val (.int mode), .val (.int ((sel &&& (2147483647 : Int32)) % (27 : Int32))), .val (.int (mode &&& (3 : Int32))), .unset, .unset] [])) (fun t_ kt_ => XS.ifYes X0.here hx rfl (pc0 := 15) (pc' := 24) rfl (hb hby at_15) rfl ((if0 _ _).trans (feq hc15_e1).2) (by decide) (by decide) kt_) ?_
    refine own_go (T' := s₁) (g' := (mkF mI 26 #[.val (.int sel), .val (.int count), .val (.int mode), .val (.int ((sel &&& (2147483647 : Int32)) % (27 : Int32))), .val (.int (mode &&& (3 : Int32))), .unset, .unset] [(.int (mode &&& (3 : Int32)))])) (fun t_ kt_ => XS.iload X0.here hx rfl (hb hby at_24) rfl kt_) ?_
    refine own_go (T' := s₁) (g' := (mkF mI 27 #[.val (.int sel), .val (.int count), .val (.int mode), .val (.int ((sel &&& (2147483647 : Int32)) % (27 : Int32))), .val (.int (mode &&& (3 : Int32))), .unset, .unset] [(.int (1 : Int32)), (.int (mode &&& (3 : Int32)))])) (fun t_ kt_ => XS.iconst X0.here hx rfl (hb hby at_26) kt_) ?_
    by_cases hc27_e5 : (mode &&& (3 : Int32)) = (1 : Int32)
    · skip
      refine own_go (T' := s₁) (g' := (mkF mI 30 #[.val (.int sel), .val (.int count), .val (.int mode), .val (.int ((sel &&& (2147483647 : Int32)) % (27 : Int32))), .val (.int (mode &&& (3 : Int32))), .unset, .unset] [])) (fun t_ kt_ => XS.icmpNo X0.here hx rfl (hb hby at_27) rfl (teq hc27_e5).2 kt_) ?_
      refine own_go (T' := s₁) (g' := (mkF mI 31 #[.val (.int sel), .val (.int count), .val (.int mode), .val (.int ((sel &&& (2147483647 : Int32)) % (27 : Int32))), .val (.int (mode &&& (3 : Int32))), .unset, .unset] [(.int count)])) (fun t_ kt_ => XS.iloadN X0.here hx rfl (hb hby at_30) rfl kt_) ?_
      refine own_go (T' := s₁) (g' := (mkF mI 33 #[.val (.int sel), .val (.int count), .val (.int mode), .val (.int ((sel &&& (2147483647 : Int32)) % (27 : Int32))), .val (.int (mode &&& (3 : Int32))), .unset, .unset] [(.int (7 : Int32)), (.int count)])) (fun t_ kt_ => XS.bipush X0.here hx rfl (hb hby at_31) kt_) ?_
      refine own_go (T' := s₁) (g' := (mkF mI 34 #[.val (.int sel), .val (.int count), .val (.int mode), .val (.int ((sel &&& (2147483647 : Int32)) % (27 : Int32))), .val (.int (mode &&& (3 : Int32))), .unset, .unset] [(.int (count &&& (7 : Int32)))])) (fun t_ kt_ => XS.iand X0.here hx rfl (hb hby at_33) rfl kt_) ?_
      refine own_go (T' := s₁) (g' := (mkF mI 35 #[.val (.int sel), .val (.int count), .val (.int mode), .val (.int ((sel &&& (2147483647 : Int32)) % (27 : Int32))), .val (.int (mode &&& (3 : Int32))), .unset, .unset] [(.int (2 : Int32)), (.int (count &&& (7 : Int32)))])) (fun t_ kt_ => XS.iconst X0.here hx rfl (hb hby at_34) kt_) ?_
      refine own_go (T' := s₁) (g' := (mkF mI 36 #[.val (.int sel), .val (.int count), .val (.int mode), .val (.int ((sel &&& (2147483647 : Int32)) % (27 : Int32))), .val (.int (mode &&& (3 : Int32))), .unset, .unset] [(.int ((count &&& (7 : Int32)) - (2 : Int32)))])) (fun t_ kt_ => XS.isub X0.here hx rfl (hb hby at_35) rfl kt_) ?_
      refine own_go (T' := s₁) (g' := (mkF mI 38 #[.val (.int sel), .val (.int count), .val (.int mode), .val (.int ((sel &&& (2147483647 : Int32)) % (27 : Int32))), .val (.int (mode &&& (3 : Int32))), .val (.int ((count &&& (7 : Int32)) - (2 : Int32))), .unset] [])) (fun t_ kt_ => XS.istore X0.here hx rfl (hb hby at_36) rfl (l' := #[.val (.int sel), .val (.int count), .val (.int mode), .val (.int ((sel &&& (2147483647 : Int32)) % (27 : Int32))), .val (.int (mode &&& (3 : Int32))), .val (.int ((count &&& (7 : Int32)) - (2 : Int32))), .unset]) rfl kt_) ?_
      refine own_go (T' := s₁) (g' := (mkF mI 58 #[.val (.int sel), .val (.int count), .val (.int mode), .val (.int ((sel &&& (2147483647 : Int32)) % (27 : Int32))), .val (.int (mode &&& (3 : Int32))), .val (.int ((count &&& (7 : Int32)) - (2 : Int32))), .unset] [])) (fun t_ kt_ => XS.goto X0.here hx rfl (pc0 := 38) (pc' := 58) rfl (hb hby at_38) (by decide) (by decide) kt_) ?_
      refine own_go (T' := s₁) (g' := (mkF mI 59 #[.val (.int sel), .val (.int count), .val (.int mode), .val (.int ((sel &&& (2147483647 : Int32)) % (27 : Int32))), .val (.int (mode &&& (3 : Int32))), .val (.int ((count &&& (7 : Int32)) - (2 : Int32))), .unset] [(.int ((sel &&& (2147483647 : Int32)) % (27 : Int32)))])) (fun t_ kt_ => XS.iloadN X0.here hx rfl (hb hby at_58) rfl kt_) ?_
      refine own_callS own_closed X0 hx hZ (y := (⟨"com/example/gatewright/gatewright/engine/XPathFunctionTakesPinLaw", "pick", "(I)Lcom/example/gatewright/gatewright/engine/XPathFunction;"⟩ : MethodName)) hown (hw _ (List.mem_of_getElem? (i := 1) rfl)) (hw _ (List.mem_of_getElem? (i := 2) rfl)) (by decide) (rm1 l Z a0 hw [] h0 ((sel &&& (2147483647 : Int32)) % (27 : Int32)) f0 S_f0 E_f0 F_f0_fewest F_f0_most f1 S_f1 E_f1 F_f1_fewest F_f1_most f2 S_f2 E_f2 F_f2_fewest F_f2_most f3 S_f3 E_f3 F_f3_fewest F_f3_most f4 S_f4 E_f4 F_f4_fewest F_f4_most f5 S_f5 E_f5 F_f5_fewest F_f5_most f6 S_f6 E_f6 F_f6_fewest F_f6_most f7 S_f7 E_f7 F_f7_fewest F_f7_most f8 S_f8 E_f8 F_f8_fewest F_f8_most f9 S_f9 E_f9 F_f9_fewest F_f9_most f10 S_f10 E_f10 F_f10_fewest F_f10_most f11 S_f11 E_f11 F_f11_fewest F_f11_most f12 S_f12 E_f12 F_f12_fewest F_f12_most f13 S_f13 E_f13 F_f13_fewest F_f13_most f14 S_f14 E_f14 F_f14_fewest F_f14_most f15 S_f15 E_f15 F_f15_fewest F_f15_most f16 S_f16 E_f16 F_f16_fewest F_f16_most f17 S_f17 E_f17 F_f17_fewest F_f17_most f18 S_f18 E_f18 F_f18_fewest F_f18_most f19 S_f19 E_f19 F_f19_fewest F_f19_most f20 S_f20 E_f20 F_f20_fewest F_f20_most f21 S_f21 E_f21 F_f21_fewest F_f21_most f22 S_f22 E_f22 F_f22_fewest F_f22_most f23 S_f23 E_f23 F_f23_fewest F_f23_most f24 S_f24 E_f24 F_f24_fewest F_f24_most f25 S_f25 E_f25 F_f25_fewest F_f25_most f26 S_f26 E_f26 F_f26_fewest F_f26_most) (hw _ (List.mem_of_getElem? (i := 4) rfl)) (hw _ (List.mem_of_getElem? (i := 3) rfl)) e0 (pc := 59) (Ls := #[.val (.int sel), .val (.int count), .val (.int mode), .val (.int ((sel &&& (2147483647 : Int32)) % (27 : Int32))), .val (.int (mode &&& (3 : Int32))), .val (.int ((count &&& (7 : Int32)) - (2 : Int32))), .unset]) (argsL := [(.int ((sel &&& (2147483647 : Int32)) % (27 : Int32)))]) (rest := []) (by rw [hml]; rfl) (lenOf pd_0 rfl) (W := 0) (Nat.le_of_eq rfl) (by decide) (by decide) (by decide) (by decide) (hb hby at_59) rfl rfl ?_
      intro Te6 Le6 ve6 Xe6 hQe6
      obtain ⟨ae6, Ce6, rfl, rfl, ee6, Ee6, Fle6, Fme6, wse6⟩ := hQe6
      show own_Ends pP eE bB sS _ _ Te6 (mkF mI 62 #[.val (.int sel), .val (.int count), .val (.int mode), .val (.int ((sel &&& (2147483647 : Int32)) % (27 : Int32))), .val (.int (mode &&& (3 : Int32))), .val (.int ((count &&& (7 : Int32)) - (2 : Int32))), .unset] [(.ref ae6)])
      refine own_go (T' := Te6) (g' := (mkF mI 64 #[.val (.int sel), .val (.int count), .val (.int mode), .val (.int ((sel &&& (2147483647 : Int32)) % (27 : Int32))), .val (.int (mode &&& (3 : Int32))), .val (.int ((count &&& (7 : Int32)) - (2 : Int32))), .val (.ref ae6)] [])) (fun t_ kt_ => XS.astore Xe6.here hx rfl (hb hby at_62) rfl rfl (l' := #[.val (.int sel), .val (.int count), .val (.int mode), .val (.int ((sel &&& (2147483647 : Int32)) % (27 : Int32))), .val (.int (mode &&& (3 : Int32))), .val (.int ((count &&& (7 : Int32)) - (2 : Int32))), .val (.ref ae6)]) rfl kt_) ?_
      refine own_go (T' := Te6) (g' := (mkF mI 66 #[.val (.int sel), .val (.int count), .val (.int mode), .val (.int ((sel &&& (2147483647 : Int32)) % (27 : Int32))), .val (.int (mode &&& (3 : Int32))), .val (.int ((count &&& (7 : Int32)) - (2 : Int32))), .val (.ref ae6)] [(.ref ae6)])) (fun t_ kt_ => XS.aload Xe6.here hx rfl (hb hby at_64) rfl rfl kt_) ?_
      refine own_go (T' := Te6) (g' := (mkF mI 68 #[.val (.int sel), .val (.int count), .val (.int mode), .val (.int ((sel &&& (2147483647 : Int32)) % (27 : Int32))), .val (.int (mode &&& (3 : Int32))), .val (.int ((count &&& (7 : Int32)) - (2 : Int32))), .val (.ref ae6)] [(.int ((count &&& (7 : Int32)) - (2 : Int32))), (.ref ae6)])) (fun t_ kt_ => XS.iload Xe6.here hx rfl (hb hby at_66) rfl kt_) ?_
      refine own_callV own_closed Xe6 hx hZ (y := (⟨"com/example/gatewright/gatewright/engine/XPathFunction", "takes", "(I)Z"⟩ : MethodName)) (z := (⟨"com/example/gatewright/gatewright/engine/XPathFunction", "takes", "(I)Z"⟩ : MethodName)) hown (hw _ (List.mem_of_getElem? (i := 8) rfl)) (hw _ (List.mem_of_getElem? (i := 9) rfl)) wse6 (hw _ (List.mem_of_getElem? (i := 10) rfl)) wse6 rfl (by decide) (rm2 l Z a0 hw [] h0 ae6 ((count &&& (7 : Int32)) - (2 : Int32)) (own_lo ((sel &&& (2147483647 : Int32)) % (27 : Int32))) (own_hi ((sel &&& (2147483647 : Int32)) % (27 : Int32))) Fle6 Fme6) (hw _ (List.mem_of_getElem? (i := 12) rfl)) (hw _ (List.mem_of_getElem? (i := 6) rfl)) ee6 Ee6 (pc := 68) (Ls := #[.val (.int sel), .val (.int count), .val (.int mode), .val (.int ((sel &&& (2147483647 : Int32)) % (27 : Int32))), .val (.int (mode &&& (3 : Int32))), .val (.int ((count &&& (7 : Int32)) - (2 : Int32))), .val (.ref ae6)]) (argsL := [(.int ((count &&& (7 : Int32)) - (2 : Int32)))]) (rest := []) (by rw [hml]; rfl) (lenOf pd_1 rfl) (W := 0) (Nat.le_of_eq rfl) (by decide) (by decide) (by decide) (by decide) (hb hby at_68) rfl rfl ?_
      intro Te7 Le7 ve7 Xe7 hQe7
      obtain ⟨rfl, rfl, ee7⟩ := hQe7
      show own_Ends pP eE bB sS _ _ Te7 (mkF mI 71 #[.val (.int sel), .val (.int count), .val (.int mode), .val (.int ((sel &&& (2147483647 : Int32)) % (27 : Int32))), .val (.int (mode &&& (3 : Int32))), .val (.int ((count &&& (7 : Int32)) - (2 : Int32))), .val (.ref ae6)] [(.int (own_tk (own_lo ((sel &&& (2147483647 : Int32)) % (27 : Int32))) (own_hi ((sel &&& (2147483647 : Int32)) % (27 : Int32))) ((count &&& (7 : Int32)) - (2 : Int32))))])
      refine own_go (T' := Te7) (g' := (mkF mI 72 #[.val (.int sel), .val (.int count), .val (.int mode), .val (.int ((sel &&& (2147483647 : Int32)) % (27 : Int32))), .val (.int (mode &&& (3 : Int32))), .val (.int ((count &&& (7 : Int32)) - (2 : Int32))), .val (.ref ae6)] [(.int ((sel &&& (2147483647 : Int32)) % (27 : Int32))), (.int (own_tk (own_lo ((sel &&& (2147483647 : Int32)) % (27 : Int32))) (own_hi ((sel &&& (2147483647 : Int32)) % (27 : Int32))) ((count &&& (7 : Int32)) - (2 : Int32))))])) (fun t_ kt_ => XS.iloadN Xe7.here hx rfl (hb hby at_71) rfl kt_) ?_
      refine own_go (T' := Te7) (g' := (mkF mI 74 #[.val (.int sel), .val (.int count), .val (.int mode), .val (.int ((sel &&& (2147483647 : Int32)) % (27 : Int32))), .val (.int (mode &&& (3 : Int32))), .val (.int ((count &&& (7 : Int32)) - (2 : Int32))), .val (.ref ae6)] [(.int ((count &&& (7 : Int32)) - (2 : Int32))), (.int ((sel &&& (2147483647 : Int32)) % (27 : Int32))), (.int (own_tk (own_lo ((sel &&& (2147483647 : Int32)) % (27 : Int32))) (own_hi ((sel &&& (2147483647 : Int32)) % (27 : Int32))) ((count &&& (7 : Int32)) - (2 : Int32))))])) (fun t_ kt_ => XS.iload Xe7.here hx rfl (hb hby at_72) rfl kt_) ?_
      refine own_callS own_closed Xe7 hx hZ (y := (⟨"com/example/gatewright/gatewright/engine/XPathFunctionTakesPinLaw", "expected", "(II)Z"⟩ : MethodName)) hown (hw _ (List.mem_of_getElem? (i := 17) rfl)) (hw _ (List.mem_of_getElem? (i := 18) rfl)) (by decide) (rm3 l Z a0 hw [] h0 ((sel &&& (2147483647 : Int32)) % (27 : Int32)) ((count &&& (7 : Int32)) - (2 : Int32))) (hw _ (List.mem_of_getElem? (i := 19) rfl)) (hw _ (List.mem_of_getElem? (i := 3) rfl)) ee7 (pc := 74) (Ls := #[.val (.int sel), .val (.int count), .val (.int mode), .val (.int ((sel &&& (2147483647 : Int32)) % (27 : Int32))), .val (.int (mode &&& (3 : Int32))), .val (.int ((count &&& (7 : Int32)) - (2 : Int32))), .val (.ref ae6)]) (argsL := [(.int ((sel &&& (2147483647 : Int32)) % (27 : Int32))), (.int ((count &&& (7 : Int32)) - (2 : Int32)))]) (rest := [(.int (own_tk (own_lo ((sel &&& (2147483647 : Int32)) % (27 : Int32))) (own_hi ((sel &&& (2147483647 : Int32)) % (27 : Int32))) ((count &&& (7 : Int32)) - (2 : Int32))))]) (by rw [hml]; rfl) (lenOf pd_2 rfl) (W := 1) (Nat.le_of_eq rfl) (by decide) (by decide) (by decide) (by decide) (hb hby at_74) rfl rfl ?_
      intro Te8 Le8 ve8 Xe8 hQe8
      obtain ⟨rfl, rfl, ee8⟩ := hQe8
      show own_Ends pP eE bB sS _ _ Te8 (mkF mI 77 #[.val (.int sel), .val (.int count), .val (.int mode), .val (.int ((sel &&& (2147483647 : Int32)) % (27 : Int32))), .val (.int (mode &&& (3 : Int32))), .val (.int ((count &&& (7 : Int32)) - (2 : Int32))), .val (.ref ae6)] [(.int (own_exp ((sel &&& (2147483647 : Int32)) % (27 : Int32)) ((count &&& (7 : Int32)) - (2 : Int32)))), (.int (own_tk (own_lo ((sel &&& (2147483647 : Int32)) % (27 : Int32))) (own_hi ((sel &&& (2147483647 : Int32)) % (27 : Int32))) ((count &&& (7 : Int32)) - (2 : Int32))))])
      refine own_go (T' := Te8) (g' := (mkF mI 80 #[.val (.int sel), .val (.int count), .val (.int mode), .val (.int ((sel &&& (2147483647 : Int32)) % (27 : Int32))), .val (.int (mode &&& (3 : Int32))), .val (.int ((count &&& (7 : Int32)) - (2 : Int32))), .val (.ref ae6)] [])) (fun t_ kt_ => XS.icmpNo Xe8.here hx rfl (hb hby at_77) rfl (teq (own_law _ _ (own_k27 sel) : (own_tk (own_lo ((sel &&& (2147483647 : Int32)) % (27 : Int32))) (own_hi ((sel &&& (2147483647 : Int32)) % (27 : Int32))) ((count &&& (7 : Int32)) - (2 : Int32))) = (own_exp ((sel &&& (2147483647 : Int32)) % (27 : Int32)) ((count &&& (7 : Int32)) - (2 : Int32))))).2 kt_) ?_
      refine own_go (T' := Te8) (g' := (mkF mI 81 #[.val (.int sel), .val (.int count), .val (.int mode), .val (.int ((sel &&& (2147483647 : Int32)) % (27 : Int32))), .val (.int (mode &&& (3 : Int32))), .val (.int ((count &&& (7 : Int32)) - (2 : Int32))), .val (.ref ae6)] [(.int (1 : Int32))])) (fun t_ kt_ => XS.iconst Xe8.here hx rfl (hb hby at_80) kt_) ?_
      refine own_go (T' := Te8) (g' := (mkF mI 85 #[.val (.int sel), .val (.int count), .val (.int mode), .val (.int ((sel &&& (2147483647 : Int32)) % (27 : Int32))), .val (.int (mode &&& (3 : Int32))), .val (.int ((count &&& (7 : Int32)) - (2 : Int32))), .val (.ref ae6)] [(.int (1 : Int32))])) (fun t_ kt_ => XS.goto Xe8.here hx rfl (pc0 := 81) (pc' := 85) rfl (hb hby at_81) (by decide) (by decide) kt_) ?_
      refine own_retN Xe8 hx hlk (t := .boolean) hret (by simp) (hb hby at_85) (show nar .boolean (1 : Int32) = (1 : Int32) from by decide) (by decide) (by decide) ?_
      exact ⟨rfl, rfl, ee8⟩
    · skip
      refine own_go (T' := s₁) (g' := (mkF mI 41 #[.val (.int sel), .val (.int count), .val (.int mode), .val (.int ((sel &&& (2147483647 : Int32)) % (27 : Int32))), .val (.int (mode &&& (3 : Int32))), .unset, .unset] [])) (fun t_ kt_ => XS.icmpYes X0.here hx rfl (pc0 := 27) (pc' := 41) rfl (hb hby at_27) rfl (feq hc27_e5).2 (by decide) (by decide) kt_) ?_
      refine own_go (T' := s₁) (g' := (mkF mI 43 #[.val (.int sel), .val (.int count), .val (.int mode), .val (.int ((sel &&& (2147483647 : Int32)) % (27 : Int32))), .val (.int (mode &&& (3 : Int32))), .unset, .unset] [(.int (mode &&& (3 : Int32)))])) (fun t_ kt_ => XS.iload X0.here hx rfl (hb hby at_41) rfl kt_) ?_
      refine own_go (T' := s₁) (g' := (mkF mI 44 #[.val (.int sel), .val (.int count), .val (.int mode), .val (.int ((sel &&& (2147483647 : Int32)) % (27 : Int32))), .val (.int (mode &&& (3 : Int32))), .unset, .unset] [(.int (2 : Int32)), (.int (mode &&& (3 : Int32)))])) (fun t_ kt_ => XS.iconst X0.here hx rfl (hb hby at_43) kt_) ?_
      by_cases hc44_e9 : (mode &&& (3 : Int32)) = (2 : Int32)
      · skip
        refine own_go (T' := s₁) (g' := (mkF mI 47 #[.val (.int sel), .val (.int count), .val (.int mode), .val (.int ((sel &&& (2147483647 : Int32)) % (27 : Int32))), .val (.int (mode &&& (3 : Int32))), .unset, .unset] [])) (fun t_ kt_ => XS.icmpNo X0.here hx rfl (hb hby at_44) rfl (teq hc44_e9).2 kt_) ?_
        refine own_go (T' := s₁) (g' := (mkF mI 49 #[.val (.int sel), .val (.int count), .val (.int mode), .val (.int ((sel &&& (2147483647 : Int32)) % (27 : Int32))), .val (.int (mode &&& (3 : Int32))), .unset, .unset] [(.int (2147483647 : Int32))])) (fun t_ kt_ => ldcI X0 hx hown (mvT hZ (hw _ (List.mem_of_getElem? (i := 0) rfl))) rfl (hb hby at_47) kt_) ?_
        refine own_go (T' := s₁) (g' := (mkF mI 51 #[.val (.int sel), .val (.int count), .val (.int mode), .val (.int ((sel &&& (2147483647 : Int32)) % (27 : Int32))), .val (.int (mode &&& (3 : Int32))), .val (.int (2147483647 : Int32)), .unset] [])) (fun t_ kt_ => XS.istore X0.here hx rfl (hb hby at_49) rfl (l' := #[.val (.int sel), .val (.int count), .val (.int mode), .val (.int ((sel &&& (2147483647 : Int32)) % (27 : Int32))), .val (.int (mode &&& (3 : Int32))), .val (.int (2147483647 : Int32)), .unset]) rfl kt_) ?_
        refine own_go (T' := s₁) (g' := (mkF mI 58 #[.val (.int sel), .val (.int count), .val (.int mode), .val (.int ((sel &&& (2147483647 : Int32)) % (27 : Int32))), .val (.int (mode &&& (3 : Int32))), .val (.int (2147483647 : Int32)), .unset] [])) (fun t_ kt_ => XS.goto X0.here hx rfl (pc0 := 51) (pc' := 58) rfl (hb hby at_51) (by decide) (by decide) kt_) ?_
        refine own_go (T' := s₁) (g' := (mkF mI 59 #[.val (.int sel), .val (.int count), .val (.int mode), .val (.int ((sel &&& (2147483647 : Int32)) % (27 : Int32))), .val (.int (mode &&& (3 : Int32))), .val (.int (2147483647 : Int32)), .unset] [(.int ((sel &&& (2147483647 : Int32)) % (27 : Int32)))])) (fun t_ kt_ => XS.iloadN X0.here hx rfl (hb hby at_58) rfl kt_) ?_
        refine own_callS own_closed X0 hx hZ (y := (⟨"com/example/gatewright/gatewright/engine/XPathFunctionTakesPinLaw", "pick", "(I)Lcom/example/gatewright/gatewright/engine/XPathFunction;"⟩ : MethodName)) hown (hw _ (List.mem_of_getElem? (i := 1) rfl)) (hw _ (List.mem_of_getElem? (i := 2) rfl)) (by decide) (rm1 l Z a0 hw [] h0 ((sel &&& (2147483647 : Int32)) % (27 : Int32)) f0 S_f0 E_f0 F_f0_fewest F_f0_most f1 S_f1 E_f1 F_f1_fewest F_f1_most f2 S_f2 E_f2 F_f2_fewest F_f2_most f3 S_f3 E_f3 F_f3_fewest F_f3_most f4 S_f4 E_f4 F_f4_fewest F_f4_most f5 S_f5 E_f5 F_f5_fewest F_f5_most f6 S_f6 E_f6 F_f6_fewest F_f6_most f7 S_f7 E_f7 F_f7_fewest F_f7_most f8 S_f8 E_f8 F_f8_fewest F_f8_most f9 S_f9 E_f9 F_f9_fewest F_f9_most f10 S_f10 E_f10 F_f10_fewest F_f10_most f11 S_f11 E_f11 F_f11_fewest F_f11_most f12 S_f12 E_f12 F_f12_fewest F_f12_most f13 S_f13 E_f13 F_f13_fewest F_f13_most f14 S_f14 E_f14 F_f14_fewest F_f14_most f15 S_f15 E_f15 F_f15_fewest F_f15_most f16 S_f16 E_f16 F_f16_fewest F_f16_most f17 S_f17 E_f17 F_f17_fewest F_f17_most f18 S_f18 E_f18 F_f18_fewest F_f18_most f19 S_f19 E_f19 F_f19_fewest F_f19_most f20 S_f20 E_f20 F_f20_fewest F_f20_most f21 S_f21 E_f21 F_f21_fewest F_f21_most f22 S_f22 E_f22 F_f22_fewest F_f22_most f23 S_f23 E_f23 F_f23_fewest F_f23_most f24 S_f24 E_f24 F_f24_fewest F_f24_most f25 S_f25 E_f25 F_f25_fewest F_f25_most f26 S_f26 E_f26 F_f26_fewest F_f26_most) (hw _ (List.mem_of_getElem? (i := 4) rfl)) (hw _ (List.mem_of_getElem? (i := 3) rfl)) e0 (pc := 59) (Ls := #[.val (.int sel), .val (.int count), .val (.int mode), .val (.int ((sel &&& (2147483647 : Int32)) % (27 : Int32))), .val (.int (mode &&& (3 : Int32))), .val (.int (2147483647 : Int32)), .unset]) (argsL := [(.int ((sel &&& (2147483647 : Int32)) % (27 : Int32)))]) (rest := []) (by rw [hml]; rfl) (lenOf pd_0 rfl) (W := 0) (Nat.le_of_eq rfl) (by decide) (by decide) (by decide) (by decide) (hb hby at_59) rfl rfl ?_
        intro Te10 Le10 ve10 Xe10 hQe10
        obtain ⟨ae10, Ce10, rfl, rfl, ee10, Ee10, Fle10, Fme10, wse10⟩ := hQe10
        show own_Ends pP eE bB sS _ _ Te10 (mkF mI 62 #[.val (.int sel), .val (.int count), .val (.int mode), .val (.int ((sel &&& (2147483647 : Int32)) % (27 : Int32))), .val (.int (mode &&& (3 : Int32))), .val (.int (2147483647 : Int32)), .unset] [(.ref ae10)])
        refine own_go (T' := Te10) (g' := (mkF mI 64 #[.val (.int sel), .val (.int count), .val (.int mode), .val (.int ((sel &&& (2147483647 : Int32)) % (27 : Int32))), .val (.int (mode &&& (3 : Int32))), .val (.int (2147483647 : Int32)), .val (.ref ae10)] [])) (fun t_ kt_ => XS.astore Xe10.here hx rfl (hb hby at_62) rfl rfl (l' := #[.val (.int sel), .val (.int count), .val (.int mode), .val (.int ((sel &&& (2147483647 : Int32)) % (27 : Int32))), .val (.int (mode &&& (3 : Int32))), .val (.int (2147483647 : Int32)), .val (.ref ae10)]) rfl kt_) ?_
        refine own_go (T' := Te10) (g' := (mkF mI 66 #[.val (.int sel), .val (.int count), .val (.int mode), .val (.int ((sel &&& (2147483647 : Int32)) % (27 : Int32))), .val (.int (mode &&& (3 : Int32))), .val (.int (2147483647 : Int32)), .val (.ref ae10)] [(.ref ae10)])) (fun t_ kt_ => XS.aload Xe10.here hx rfl (hb hby at_64) rfl rfl kt_) ?_
        refine own_go (T' := Te10) (g' := (mkF mI 68 #[.val (.int sel), .val (.int count), .val (.int mode), .val (.int ((sel &&& (2147483647 : Int32)) % (27 : Int32))), .val (.int (mode &&& (3 : Int32))), .val (.int (2147483647 : Int32)), .val (.ref ae10)] [(.int (2147483647 : Int32)), (.ref ae10)])) (fun t_ kt_ => XS.iload Xe10.here hx rfl (hb hby at_66) rfl kt_) ?_
        refine own_callV own_closed Xe10 hx hZ (y := (⟨"com/example/gatewright/gatewright/engine/XPathFunction", "takes", "(I)Z"⟩ : MethodName)) (z := (⟨"com/example/gatewright/gatewright/engine/XPathFunction", "takes", "(I)Z"⟩ : MethodName)) hown (hw _ (List.mem_of_getElem? (i := 8) rfl)) (hw _ (List.mem_of_getElem? (i := 9) rfl)) wse10 (hw _ (List.mem_of_getElem? (i := 10) rfl)) wse10 rfl (by decide) (rm2 l Z a0 hw [] h0 ae10 (2147483647 : Int32) (own_lo ((sel &&& (2147483647 : Int32)) % (27 : Int32))) (own_hi ((sel &&& (2147483647 : Int32)) % (27 : Int32))) Fle10 Fme10) (hw _ (List.mem_of_getElem? (i := 12) rfl)) (hw _ (List.mem_of_getElem? (i := 6) rfl)) ee10 Ee10 (pc := 68) (Ls := #[.val (.int sel), .val (.int count), .val (.int mode), .val (.int ((sel &&& (2147483647 : Int32)) % (27 : Int32))), .val (.int (mode &&& (3 : Int32))), .val (.int (2147483647 : Int32)), .val (.ref ae10)]) (argsL := [(.int (2147483647 : Int32))]) (rest := []) (by rw [hml]; rfl) (lenOf pd_1 rfl) (W := 0) (Nat.le_of_eq rfl) (by decide) (by decide) (by decide) (by decide) (hb hby at_68) rfl rfl ?_
        intro Te11 Le11 ve11 Xe11 hQe11
        obtain ⟨rfl, rfl, ee11⟩ := hQe11
        show own_Ends pP eE bB sS _ _ Te11 (mkF mI 71 #[.val (.int sel), .val (.int count), .val (.int mode), .val (.int ((sel &&& (2147483647 : Int32)) % (27 : Int32))), .val (.int (mode &&& (3 : Int32))), .val (.int (2147483647 : Int32)), .val (.ref ae10)] [(.int (own_tk (own_lo ((sel &&& (2147483647 : Int32)) % (27 : Int32))) (own_hi ((sel &&& (2147483647 : Int32)) % (27 : Int32))) (2147483647 : Int32)))])
        refine own_go (T' := Te11) (g' := (mkF mI 72 #[.val (.int sel), .val (.int count), .val (.int mode), .val (.int ((sel &&& (2147483647 : Int32)) % (27 : Int32))), .val (.int (mode &&& (3 : Int32))), .val (.int (2147483647 : Int32)), .val (.ref ae10)] [(.int ((sel &&& (2147483647 : Int32)) % (27 : Int32))), (.int (own_tk (own_lo ((sel &&& (2147483647 : Int32)) % (27 : Int32))) (own_hi ((sel &&& (2147483647 : Int32)) % (27 : Int32))) (2147483647 : Int32)))])) (fun t_ kt_ => XS.iloadN Xe11.here hx rfl (hb hby at_71) rfl kt_) ?_
        refine own_go (T' := Te11) (g' := (mkF mI 74 #[.val (.int sel), .val (.int count), .val (.int mode), .val (.int ((sel &&& (2147483647 : Int32)) % (27 : Int32))), .val (.int (mode &&& (3 : Int32))), .val (.int (2147483647 : Int32)), .val (.ref ae10)] [(.int (2147483647 : Int32)), (.int ((sel &&& (2147483647 : Int32)) % (27 : Int32))), (.int (own_tk (own_lo ((sel &&& (2147483647 : Int32)) % (27 : Int32))) (own_hi ((sel &&& (2147483647 : Int32)) % (27 : Int32))) (2147483647 : Int32)))])) (fun t_ kt_ => XS.iload Xe11.here hx rfl (hb hby at_72) rfl kt_) ?_
        refine own_callS own_closed Xe11 hx hZ (y := (⟨"com/example/gatewright/gatewright/engine/XPathFunctionTakesPinLaw", "expected", "(II)Z"⟩ : MethodName)) hown (hw _ (List.mem_of_getElem? (i := 17) rfl)) (hw _ (List.mem_of_getElem? (i := 18) rfl)) (by decide) (rm3 l Z a0 hw [] h0 ((sel &&& (2147483647 : Int32)) % (27 : Int32)) (2147483647 : Int32)) (hw _ (List.mem_of_getElem? (i := 19) rfl)) (hw _ (List.mem_of_getElem? (i := 3) rfl)) ee11 (pc := 74) (Ls := #[.val (.int sel), .val (.int count), .val (.int mode), .val (.int ((sel &&& (2147483647 : Int32)) % (27 : Int32))), .val (.int (mode &&& (3 : Int32))), .val (.int (2147483647 : Int32)), .val (.ref ae10)]) (argsL := [(.int ((sel &&& (2147483647 : Int32)) % (27 : Int32))), (.int (2147483647 : Int32))]) (rest := [(.int (own_tk (own_lo ((sel &&& (2147483647 : Int32)) % (27 : Int32))) (own_hi ((sel &&& (2147483647 : Int32)) % (27 : Int32))) (2147483647 : Int32)))]) (by rw [hml]; rfl) (lenOf pd_2 rfl) (W := 1) (Nat.le_of_eq rfl) (by decide) (by decide) (by decide) (by decide) (hb hby at_74) rfl rfl ?_
        intro Te12 Le12 ve12 Xe12 hQe12
        obtain ⟨rfl, rfl, ee12⟩ := hQe12
        show own_Ends pP eE bB sS _ _ Te12 (mkF mI 77 #[.val (.int sel), .val (.int count), .val (.int mode), .val (.int ((sel &&& (2147483647 : Int32)) % (27 : Int32))), .val (.int (mode &&& (3 : Int32))), .val (.int (2147483647 : Int32)), .val (.ref ae10)] [(.int (own_exp ((sel &&& (2147483647 : Int32)) % (27 : Int32)) (2147483647 : Int32))), (.int (own_tk (own_lo ((sel &&& (2147483647 : Int32)) % (27 : Int32))) (own_hi ((sel &&& (2147483647 : Int32)) % (27 : Int32))) (2147483647 : Int32)))])
        refine own_go (T' := Te12) (g' := (mkF mI 80 #[.val (.int sel), .val (.int count), .val (.int mode), .val (.int ((sel &&& (2147483647 : Int32)) % (27 : Int32))), .val (.int (mode &&& (3 : Int32))), .val (.int (2147483647 : Int32)), .val (.ref ae10)] [])) (fun t_ kt_ => XS.icmpNo Xe12.here hx rfl (hb hby at_77) rfl (teq (own_law _ _ (own_k27 sel) : (own_tk (own_lo ((sel &&& (2147483647 : Int32)) % (27 : Int32))) (own_hi ((sel &&& (2147483647 : Int32)) % (27 : Int32))) (2147483647 : Int32)) = (own_exp ((sel &&& (2147483647 : Int32)) % (27 : Int32)) (2147483647 : Int32)))).2 kt_) ?_
        refine own_go (T' := Te12) (g' := (mkF mI 81 #[.val (.int sel), .val (.int count), .val (.int mode), .val (.int ((sel &&& (2147483647 : Int32)) % (27 : Int32))), .val (.int (mode &&& (3 : Int32))), .val (.int (2147483647 : Int32)), .val (.ref ae10)] [(.int (1 : Int32))])) (fun t_ kt_ => XS.iconst Xe12.here hx rfl (hb hby at_80) kt_) ?_
        refine own_go (T' := Te12) (g' := (mkF mI 85 #[.val (.int sel), .val (.int count), .val (.int mode), .val (.int ((sel &&& (2147483647 : Int32)) % (27 : Int32))), .val (.int (mode &&& (3 : Int32))), .val (.int (2147483647 : Int32)), .val (.ref ae10)] [(.int (1 : Int32))])) (fun t_ kt_ => XS.goto Xe12.here hx rfl (pc0 := 81) (pc' := 85) rfl (hb hby at_81) (by decide) (by decide) kt_) ?_
        refine own_retN Xe12 hx hlk (t := .boolean) hret (by simp) (hb hby at_85) (show nar .boolean (1 : Int32) = (1 : Int32) from by decide) (by decide) (by decide) ?_
        exact ⟨rfl, rfl, ee12⟩
      · skip
        refine own_go (T' := s₁) (g' := (mkF mI 54 #[.val (.int sel), .val (.int count), .val (.int mode), .val (.int ((sel &&& (2147483647 : Int32)) % (27 : Int32))), .val (.int (mode &&& (3 : Int32))), .unset, .unset] [])) (fun t_ kt_ => XS.icmpYes X0.here hx rfl (pc0 := 44) (pc' := 54) rfl (hb hby at_44) rfl (feq hc44_e9).2 (by decide) (by decide) kt_) ?_
        refine own_go (T' := s₁) (g' := (mkF mI 56 #[.val (.int sel), .val (.int count), .val (.int mode), .val (.int ((sel &&& (2147483647 : Int32)) % (27 : Int32))), .val (.int (mode &&& (3 : Int32))), .unset, .unset] [(.int (-2147483648 : Int32))])) (fun t_ kt_ => ldcI X0 hx hown (mvT hZ (hw _ (List.mem_of_getElem? (i := 20) rfl))) rfl (hb hby at_54) kt_) ?_
        refine own_go (T' := s₁) (g' := (mkF mI 58 #[.val (.int sel), .val (.int count), .val (.int mode), .val (.int ((sel &&& (2147483647 : Int32)) % (27 : Int32))), .val (.int (mode &&& (3 : Int32))), .val (.int (-2147483648 : Int32)), .unset] [])) (fun t_ kt_ => XS.istore X0.here hx rfl (hb hby at_56) rfl (l' := #[.val (.int sel), .val (.int count), .val (.int mode), .val (.int ((sel &&& (2147483647 : Int32)) % (27 : Int32))), .val (.int (mode &&& (3 : Int32))), .val (.int (-2147483648 : Int32)), .unset]) rfl kt_) ?_
        refine own_go (T' := s₁) (g' := (mkF mI 59 #[.val (.int sel), .val (.int count), .val (.int mode), .val (.int ((sel &&& (2147483647 : Int32)) % (27 : Int32))), .val (.int (mode &&& (3 : Int32))), .val (.int (-2147483648 : Int32)), .unset] [(.int ((sel &&& (2147483647 : Int32)) % (27 : Int32)))])) (fun t_ kt_ => XS.iloadN X0.here hx rfl (hb hby at_58) rfl kt_) ?_
        refine own_callS own_closed X0 hx hZ (y := (⟨"com/example/gatewright/gatewright/engine/XPathFunctionTakesPinLaw", "pick", "(I)Lcom/example/gatewright/gatewright/engine/XPathFunction;"⟩ : MethodName)) hown (hw _ (List.mem_of_getElem? (i := 1) rfl)) (hw _ (List.mem_of_getElem? (i := 2) rfl)) (by decide) (rm1 l Z a0 hw [] h0 ((sel &&& (2147483647 : Int32)) % (27 : Int32)) f0 S_f0 E_f0 F_f0_fewest F_f0_most f1 S_f1 E_f1 F_f1_fewest F_f1_most f2 S_f2 E_f2 F_f2_fewest F_f2_most f3 S_f3 E_f3 F_f3_fewest F_f3_most f4 S_f4 E_f4 F_f4_fewest F_f4_most f5 S_f5 E_f5 F_f5_fewest F_f5_most f6 S_f6 E_f6 F_f6_fewest F_f6_most f7 S_f7 E_f7 F_f7_fewest F_f7_most f8 S_f8 E_f8 F_f8_fewest F_f8_most f9 S_f9 E_f9 F_f9_fewest F_f9_most f10 S_f10 E_f10 F_f10_fewest F_f10_most f11 S_f11 E_f11 F_f11_fewest F_f11_most f12 S_f12 E_f12 F_f12_fewest F_f12_most f13 S_f13 E_f13 F_f13_fewest F_f13_most f14 S_f14 E_f14 F_f14_fewest F_f14_most f15 S_f15 E_f15 F_f15_fewest F_f15_most f16 S_f16 E_f16 F_f16_fewest F_f16_most f17 S_f17 E_f17 F_f17_fewest F_f17_most f18 S_f18 E_f18 F_f18_fewest F_f18_most f19 S_f19 E_f19 F_f19_fewest F_f19_most f20 S_f20 E_f20 F_f20_fewest F_f20_most f21 S_f21 E_f21 F_f21_fewest F_f21_most f22 S_f22 E_f22 F_f22_fewest F_f22_most f23 S_f23 E_f23 F_f23_fewest F_f23_most f24 S_f24 E_f24 F_f24_fewest F_f24_most f25 S_f25 E_f25 F_f25_fewest F_f25_most f26 S_f26 E_f26 F_f26_fewest F_f26_most) (hw _ (List.mem_of_getElem? (i := 4) rfl)) (hw _ (List.mem_of_getElem? (i := 3) rfl)) e0 (pc := 59) (Ls := #[.val (.int sel), .val (.int count), .val (.int mode), .val (.int ((sel &&& (2147483647 : Int32)) % (27 : Int32))), .val (.int (mode &&& (3 : Int32))), .val (.int (-2147483648 : Int32)), .unset]) (argsL := [(.int ((sel &&& (2147483647 : Int32)) % (27 : Int32)))]) (rest := []) (by rw [hml]; rfl) (lenOf pd_0 rfl) (W := 0) (Nat.le_of_eq rfl) (by decide) (by decide) (by decide) (by decide) (hb hby at_59) rfl rfl ?_
        intro Te13 Le13 ve13 Xe13 hQe13
        obtain ⟨ae13, Ce13, rfl, rfl, ee13, Ee13, Fle13, Fme13, wse13⟩ := hQe13
        show own_Ends pP eE bB sS _ _ Te13 (mkF mI 62 #[.val (.int sel), .val (.int count), .val (.int mode), .val (.int ((sel &&& (2147483647 : Int32)) % (27 : Int32))), .val (.int (mode &&& (3 : Int32))), .val (.int (-2147483648 : Int32)), .unset] [(.ref ae13)])
        refine own_go (T' := Te13) (g' := (mkF mI 64 #[.val (.int sel), .val (.int count), .val (.int mode), .val (.int ((sel &&& (2147483647 : Int32)) % (27 : Int32))), .val (.int (mode &&& (3 : Int32))), .val (.int (-2147483648 : Int32)), .val (.ref ae13)] [])) (fun t_ kt_ => XS.astore Xe13.here hx rfl (hb hby at_62) rfl rfl (l' := #[.val (.int sel), .val (.int count), .val (.int mode), .val (.int ((sel &&& (2147483647 : Int32)) % (27 : Int32))), .val (.int (mode &&& (3 : Int32))), .val (.int (-2147483648 : Int32)), .val (.ref ae13)]) rfl kt_) ?_
        refine own_go (T' := Te13) (g' := (mkF mI 66 #[.val (.int sel), .val (.int count), .val (.int mode), .val (.int ((sel &&& (2147483647 : Int32)) % (27 : Int32))), .val (.int (mode &&& (3 : Int32))), .val (.int (-2147483648 : Int32)), .val (.ref ae13)] [(.ref ae13)])) (fun t_ kt_ => XS.aload Xe13.here hx rfl (hb hby at_64) rfl rfl kt_) ?_
        refine own_go (T' := Te13) (g' := (mkF mI 68 #[.val (.int sel), .val (.int count), .val (.int mode), .val (.int ((sel &&& (2147483647 : Int32)) % (27 : Int32))), .val (.int (mode &&& (3 : Int32))), .val (.int (-2147483648 : Int32)), .val (.ref ae13)] [(.int (-2147483648 : Int32)), (.ref ae13)])) (fun t_ kt_ => XS.iload Xe13.here hx rfl (hb hby at_66) rfl kt_) ?_
        refine own_callV own_closed Xe13 hx hZ (y := (⟨"com/example/gatewright/gatewright/engine/XPathFunction", "takes", "(I)Z"⟩ : MethodName)) (z := (⟨"com/example/gatewright/gatewright/engine/XPathFunction", "takes", "(I)Z"⟩ : MethodName)) hown (hw _ (List.mem_of_getElem? (i := 8) rfl)) (hw _ (List.mem_of_getElem? (i := 9) rfl)) wse13 (hw _ (List.mem_of_getElem? (i := 10) rfl)) wse13 rfl (by decide) (rm2 l Z a0 hw [] h0 ae13 (-2147483648 : Int32) (own_lo ((sel &&& (2147483647 : Int32)) % (27 : Int32))) (own_hi ((sel &&& (2147483647 : Int32)) % (27 : Int32))) Fle13 Fme13) (hw _ (List.mem_of_getElem? (i := 12) rfl)) (hw _ (List.mem_of_getElem? (i := 6) rfl)) ee13 Ee13 (pc := 68) (Ls := #[.val (.int sel), .val (.int count), .val (.int mode), .val (.int ((sel &&& (2147483647 : Int32)) % (27 : Int32))), .val (.int (mode &&& (3 : Int32))), .val (.int (-2147483648 : Int32)), .val (.ref ae13)]) (argsL := [(.int (-2147483648 : Int32))]) (rest := []) (by rw [hml]; rfl) (lenOf pd_1 rfl) (W := 0) (Nat.le_of_eq rfl) (by decide) (by decide) (by decide) (by decide) (hb hby at_68) rfl rfl ?_
        intro Te14 Le14 ve14 Xe14 hQe14
        obtain ⟨rfl, rfl, ee14⟩ := hQe14
        show own_Ends pP eE bB sS _ _ Te14 (mkF mI 71 #[.val (.int sel), .val (.int count), .val (.int mode), .val (.int ((sel &&& (2147483647 : Int32)) % (27 : Int32))), .val (.int (mode &&& (3 : Int32))), .val (.int (-2147483648 : Int32)), .val (.ref ae13)] [(.int (own_tk (own_lo ((sel &&& (2147483647 : Int32)) % (27 : Int32))) (own_hi ((sel &&& (2147483647 : Int32)) % (27 : Int32))) (-2147483648 : Int32)))])
        refine own_go (T' := Te14) (g' := (mkF mI 72 #[.val (.int sel), .val (.int count), .val (.int mode), .val (.int ((sel &&& (2147483647 : Int32)) % (27 : Int32))), .val (.int (mode &&& (3 : Int32))), .val (.int (-2147483648 : Int32)), .val (.ref ae13)] [(.int ((sel &&& (2147483647 : Int32)) % (27 : Int32))), (.int (own_tk (own_lo ((sel &&& (2147483647 : Int32)) % (27 : Int32))) (own_hi ((sel &&& (2147483647 : Int32)) % (27 : Int32))) (-2147483648 : Int32)))])) (fun t_ kt_ => XS.iloadN Xe14.here hx rfl (hb hby at_71) rfl kt_) ?_
        refine own_go (T' := Te14) (g' := (mkF mI 74 #[.val (.int sel), .val (.int count), .val (.int mode), .val (.int ((sel &&& (2147483647 : Int32)) % (27 : Int32))), .val (.int (mode &&& (3 : Int32))), .val (.int (-2147483648 : Int32)), .val (.ref ae13)] [(.int (-2147483648 : Int32)), (.int ((sel &&& (2147483647 : Int32)) % (27 : Int32))), (.int (own_tk (own_lo ((sel &&& (2147483647 : Int32)) % (27 : Int32))) (own_hi ((sel &&& (2147483647 : Int32)) % (27 : Int32))) (-2147483648 : Int32)))])) (fun t_ kt_ => XS.iload Xe14.here hx rfl (hb hby at_72) rfl kt_) ?_
        refine own_callS own_closed Xe14 hx hZ (y := (⟨"com/example/gatewright/gatewright/engine/XPathFunctionTakesPinLaw", "expected", "(II)Z"⟩ : MethodName)) hown (hw _ (List.mem_of_getElem? (i := 17) rfl)) (hw _ (List.mem_of_getElem? (i := 18) rfl)) (by decide) (rm3 l Z a0 hw [] h0 ((sel &&& (2147483647 : Int32)) % (27 : Int32)) (-2147483648 : Int32)) (hw _ (List.mem_of_getElem? (i := 19) rfl)) (hw _ (List.mem_of_getElem? (i := 3) rfl)) ee14 (pc := 74) (Ls := #[.val (.int sel), .val (.int count), .val (.int mode), .val (.int ((sel &&& (2147483647 : Int32)) % (27 : Int32))), .val (.int (mode &&& (3 : Int32))), .val (.int (-2147483648 : Int32)), .val (.ref ae13)]) (argsL := [(.int ((sel &&& (2147483647 : Int32)) % (27 : Int32))), (.int (-2147483648 : Int32))]) (rest := [(.int (own_tk (own_lo ((sel &&& (2147483647 : Int32)) % (27 : Int32))) (own_hi ((sel &&& (2147483647 : Int32)) % (27 : Int32))) (-2147483648 : Int32)))]) (by rw [hml]; rfl) (lenOf pd_2 rfl) (W := 1) (Nat.le_of_eq rfl) (by decide) (by decide) (by decide) (by decide) (hb hby at_74) rfl rfl ?_
        intro Te15 Le15 ve15 Xe15 hQe15
        obtain ⟨rfl, rfl, ee15⟩ := hQe15
        show own_Ends pP eE bB sS _ _ Te15 (mkF mI 77 #[.val (.int sel), .val (.int count), .val (.int mode), .val (.int ((sel &&& (2147483647 : Int32)) % (27 : Int32))), .val (.int (mode &&& (3 : Int32))), .val (.int (-2147483648 : Int32)), .val (.ref ae13)] [(.int (own_exp ((sel &&& (2147483647 : Int32)) % (27 : Int32)) (-2147483648 : Int32))), (.int (own_tk (own_lo ((sel &&& (2147483647 : Int32)) % (27 : Int32))) (own_hi ((sel &&& (2147483647 : Int32)) % (27 : Int32))) (-2147483648 : Int32)))])
        refine own_go (T' := Te15) (g' := (mkF mI 80 #[.val (.int sel), .val (.int count), .val (.int mode), .val (.int ((sel &&& (2147483647 : Int32)) % (27 : Int32))), .val (.int (mode &&& (3 : Int32))), .val (.int (-2147483648 : Int32)), .val (.ref ae13)] [])) (fun t_ kt_ => XS.icmpNo Xe15.here hx rfl (hb hby at_77) rfl (teq (own_law _ _ (own_k27 sel) : (own_tk (own_lo ((sel &&& (2147483647 : Int32)) % (27 : Int32))) (own_hi ((sel &&& (2147483647 : Int32)) % (27 : Int32))) (-2147483648 : Int32)) = (own_exp ((sel &&& (2147483647 : Int32)) % (27 : Int32)) (-2147483648 : Int32)))).2 kt_) ?_
        refine own_go (T' := Te15) (g' := (mkF mI 81 #[.val (.int sel), .val (.int count), .val (.int mode), .val (.int ((sel &&& (2147483647 : Int32)) % (27 : Int32))), .val (.int (mode &&& (3 : Int32))), .val (.int (-2147483648 : Int32)), .val (.ref ae13)] [(.int (1 : Int32))])) (fun t_ kt_ => XS.iconst Xe15.here hx rfl (hb hby at_80) kt_) ?_
        refine own_go (T' := Te15) (g' := (mkF mI 85 #[.val (.int sel), .val (.int count), .val (.int mode), .val (.int ((sel &&& (2147483647 : Int32)) % (27 : Int32))), .val (.int (mode &&& (3 : Int32))), .val (.int (-2147483648 : Int32)), .val (.ref ae13)] [(.int (1 : Int32))])) (fun t_ kt_ => XS.goto Xe15.here hx rfl (pc0 := 81) (pc' := 85) rfl (hb hby at_81) (by decide) (by decide) kt_) ?_
        refine own_retN Xe15 hx hlk (t := .boolean) hret (by simp) (hb hby at_85) (show nar .boolean (1 : Int32) = (1 : Int32) from by decide) (by decide) (by decide) ?_
        exact ⟨rfl, rfl, ee15⟩
set_option maxRecDepth 65536 in
set_option maxHeartbeats 40000000 in
theorem comes_1 {Post : Tables → Env → Array Value → State → Outcome → State → Prop} (hpost : ∀ tb e args s v u, (limb_1_1.after args s (.returned v) u = true ∧ limb_1_2.after args s (.returned v) u = true ∧ True) → FrameEnd s (.returned v) u (Jvm.fieldLocs frame_1_writes args s ++ Jvm.arrayLocs frame_1_arrays args s ++ Jvm.staticLocs frame_1_statics s) 0 0 → Post tb e args s (.returned v) u) :
    ArmFor flags0 classFile x code maxLocals ret World_1 tables_1 room_1 Calls_1 rest_1 Pre_1 Post := by
  intro l hfl _ _ p e ha hc hk s m args below hf hA hF happ hP
  obtain ⟨hcalls, hrest, hpre⟩ := hP
  obtain ⟨-, -, -, hnamed, -, -, -, hat⟩ := (Spec.applies_iff hf).mp happ
  obtain ⟨hg, hn⟩ := and_e (Cond.before_iff.mp (show (Jvm.Cond.and given_1 narrow_1).before args s = true from hpre))
  obtain ⟨hg0, hgr0⟩ := and_e hg
  obtain ⟨hg1, hgr1⟩ := and_e hgr0
  obtain ⟨hg2, hgr2⟩ := and_e hgr1
  obtain ⟨w0, w1, w2, rfl⟩ : ∃ w0 w1 w2 : Value, args = #[w0, w1, w2] := by
    have hs : args.size = 3 := by simpa [Cond.value, given_1] using hg0
    obtain ⟨L⟩ := args
    match L, hs with
    | [w0, w1, w2], _ => exact ⟨w0, w1, w2, rfl⟩
  have hw := fun d (hd : d ∈ tables_1) => atoms_spec (ws := Jvm.Cond.code x code maxLocals ret :: tables_1) hat d (List.mem_cons_of_mem _ hd)
  have hfit : Fit s := fun {y c} hc i hi => by
    obtain ⟨ha, rfl⟩ := Array.getElem?_eq_some_iff.mp hc
    have q := List.all_eq_true.mp ((Array.all_eq_true_iff_forall_mem.mp hF) _ (Array.getElem_mem ha)) i (List.mem_range.mpr hi)
    simpa [Array.getElem?_eq_getElem hi] using q
  obtain ⟨i0, ei0⟩ := is_v hg1
  obtain rfl : w0 = (.int i0) := Option.some.inj ei0
  obtain ⟨i1, ei1⟩ := is_v hg2
  obtain rfl : w1 = (.int i1) := Option.some.inj ei1
  obtain ⟨i2, ei2⟩ := is_v hgr2
  obtain rfl : w2 = (.int i2) := Option.some.inj ei2
  obtain ⟨n0, nr0⟩ := and_e hn
  obtain ⟨n1, nr1⟩ := and_e nr0
  obtain ⟨n2, nr2⟩ := and_e nr1
  obtain ⟨n3, nr3⟩ := and_e nr2
  obtain ⟨n4, nr4⟩ := and_e nr3
  obtain ⟨n5, nr5⟩ := and_e nr4
  obtain ⟨n6, nr6⟩ := and_e nr5
  obtain ⟨n7, nr7⟩ := and_e nr6
  obtain ⟨n8, nr8⟩ := and_e nr7
  obtain ⟨n9, nr9⟩ := and_e nr8
  obtain ⟨n10, nr10⟩ := and_e nr9
  obtain ⟨n11, nr11⟩ := and_e nr10
  obtain ⟨n12, nr12⟩ := and_e nr11
  obtain ⟨n13, nr13⟩ := and_e nr12
  obtain ⟨n14, nr14⟩ := and_e nr13
  obtain ⟨n15, nr15⟩ := and_e nr14
  obtain ⟨n16, nr16⟩ := and_e nr15
  obtain ⟨n17, nr17⟩ := and_e nr16
  obtain ⟨n18, nr18⟩ := and_e nr17
  obtain ⟨n19, nr19⟩ := and_e nr18
  obtain ⟨n20, nr20⟩ := and_e nr19
  obtain ⟨n21, nr21⟩ := and_e nr20
  obtain ⟨n22, nr22⟩ := and_e nr21
  obtain ⟨n23, nr23⟩ := and_e nr22
  obtain ⟨n24, nr24⟩ := and_e nr23
  obtain ⟨n25, nr25⟩ := and_e nr24
  obtain ⟨n26, nr26⟩ := and_e nr25
  obtain ⟨n27, nr27⟩ := and_e nr26
  obtain ⟨n28, nr28⟩ := and_e nr27
  obtain ⟨n29, nr29⟩ := and_e nr28
  obtain ⟨n30, nr30⟩ := and_e nr29
  obtain ⟨n31, nr31⟩ := and_e nr30
  obtain ⟨n32, nr32⟩ := and_e nr31
  obtain ⟨n33, nr33⟩ := and_e nr32
  obtain ⟨n34, nr34⟩ := and_e nr33
  obtain ⟨n35, nr35⟩ := and_e nr34
  obtain ⟨n36, nr36⟩ := and_e nr35
  obtain ⟨n37, nr37⟩ := and_e nr36
  obtain ⟨n38, nr38⟩ := and_e nr37
  obtain ⟨n39, nr39⟩ := and_e nr38
  obtain ⟨n40, nr40⟩ := and_e nr39
  obtain ⟨n41, nr41⟩ := and_e nr40
  obtain ⟨n42, nr42⟩ := and_e nr41
  obtain ⟨n43, nr43⟩ := and_e nr42
  obtain ⟨n44, nr44⟩ := and_e nr43
  obtain ⟨n45, nr45⟩ := and_e nr44
  obtain ⟨n46, nr46⟩ := and_e nr45
  obtain ⟨n47, nr47⟩ := and_e nr46
  obtain ⟨n48, nr48⟩ := and_e nr47
  obtain ⟨n49, nr49⟩ := and_e nr48
  obtain ⟨n50, nr50⟩ := and_e nr49
  obtain ⟨n51, nr51⟩ := and_e nr50
  obtain ⟨n52, nr52⟩ := and_e nr51
  obtain ⟨n53, nr53⟩ := and_e nr52
  obtain ⟨n54, nr54⟩ := and_e nr53
  obtain ⟨n55, nr55⟩ := and_e nr54
  obtain ⟨n56, nr56⟩ := and_e nr55
  obtain ⟨n57, nr57⟩ := and_e nr56
  obtain ⟨n58, nr58⟩ := and_e nr57
  obtain ⟨n59, nr59⟩ := and_e nr58
  obtain ⟨n60, nr60⟩ := and_e nr59
  obtain ⟨n61, nr61⟩ := and_e nr60
  obtain ⟨n62, nr62⟩ := and_e nr61
  obtain ⟨n63, nr63⟩ := and_e nr62
  obtain ⟨n64, nr64⟩ := and_e nr63
  obtain ⟨n65, nr65⟩ := and_e nr64
  obtain ⟨n66, nr66⟩ := and_e nr65
  obtain ⟨n67, nr67⟩ := and_e nr66
  obtain ⟨n68, nr68⟩ := and_e nr67
  obtain ⟨n69, nr69⟩ := and_e nr68
  obtain ⟨n70, nr70⟩ := and_e nr69
  obtain ⟨n71, nr71⟩ := and_e nr70
  obtain ⟨n72, nr72⟩ := and_e nr71
  obtain ⟨n73, nr73⟩ := and_e nr72
  obtain ⟨n74, nr74⟩ := and_e nr73
  obtain ⟨n75, nr75⟩ := and_e nr74
  obtain ⟨n76, nr76⟩ := and_e nr75
  obtain ⟨n77, nr77⟩ := and_e nr76
  obtain ⟨n78, nr78⟩ := and_e nr77
  obtain ⟨n79, nr79⟩ := and_e nr78
  have n80 := nr79
  obtain ⟨f0, ev_f0⟩ := exa_v n0
  have E_f0 := Exa.start ev_f0 n0
  have S_f0 := Sta.start ev_f0 (Or.inr ⟨(hw _ (List.mem_of_getElem? (i := 6) rfl)), (hw _ (List.mem_of_getElem? (i := 7) rfl))⟩)
  obtain ⟨f1, ev_f1⟩ := exa_v n3
  have E_f1 := Exa.start ev_f1 n3
  have S_f1 := Sta.start ev_f1 (Or.inr ⟨(hw _ (List.mem_of_getElem? (i := 6) rfl)), (hw _ (List.mem_of_getElem? (i := 22) rfl))⟩)
  obtain ⟨f2, ev_f2⟩ := exa_v n5
  have E_f2 := Exa.start ev_f2 n5
  have S_f2 := Sta.start ev_f2 (Or.inr ⟨(hw _ (List.mem_of_getElem? (i := 6) rfl)), (hw _ (List.mem_of_getElem? (i := 26) rfl))⟩)
  obtain ⟨f8, ev_f8⟩ := exa_v n7
  have E_f8 := Exa.start ev_f8 n7
  have S_f8 := Sta.start ev_f8 (Or.inr ⟨(hw _ (List.mem_of_getElem? (i := 6) rfl)), (hw _ (List.mem_of_getElem? (i := 30) rfl))⟩)
  obtain ⟨f24, ev_f24⟩ := exa_v n9
  have E_f24 := Exa.start ev_f24 n9
  have S_f24 := Sta.start ev_f24 (Or.inr ⟨(hw _ (List.mem_of_getElem? (i := 6) rfl)), (hw _ (List.mem_of_getElem? (i := 34) rfl))⟩)
  obtain ⟨f7, ev_f7⟩ := exa_v n12
  have E_f7 := Exa.start ev_f7 n12
  have S_f7 := Sta.start ev_f7 (Or.inr ⟨(hw _ (List.mem_of_getElem? (i := 6) rfl)), (hw _ (List.mem_of_getElem? (i := 39) rfl))⟩)
  obtain ⟨f3, ev_f3⟩ := exa_v n15
  have E_f3 := Exa.start ev_f3 n15
  have S_f3 := Sta.start ev_f3 (Or.inr ⟨(hw _ (List.mem_of_getElem? (i := 6) rfl)), (hw _ (List.mem_of_getElem? (i := 44) rfl))⟩)
  obtain ⟨f10, ev_f10⟩ := exa_v n18
  have E_f10 := Exa.start ev_f10 n18
  have S_f10 := Sta.start ev_f10 (Or.inr ⟨(hw _ (List.mem_of_getElem? (i := 6) rfl)), (hw _ (List.mem_of_getElem? (i := 49) rfl))⟩)
  obtain ⟨f16, ev_f16⟩ := exa_v n21
  have E_f16 := Exa.start ev_f16 n21
  have S_f16 := Sta.start ev_f16 (Or.inr ⟨(hw _ (List.mem_of_getElem? (i := 6) rfl)), (hw _ (List.mem_of_getElem? (i := 54) rfl))⟩)
  obtain ⟨f17, ev_f17⟩ := exa_v n24
  have E_f17 := Exa.start ev_f17 n24
  have S_f17 := Sta.start ev_f17 (Or.inr ⟨(hw _ (List.mem_of_getElem? (i := 6) rfl)), (hw _ (List.mem_of_getElem? (i := 59) rfl))⟩)
  obtain ⟨f19, ev_f19⟩ := exa_v n27
  have E_f19 := Exa.start ev_f19 n27
  have S_f19 := Sta.start ev_f19 (Or.inr ⟨(hw _ (List.mem_of_getElem? (i := 6) rfl)), (hw _ (List.mem_of_getElem? (i := 64) rfl))⟩)
  obtain ⟨f11, ev_f11⟩ := exa_v n29
  have E_f11 := Exa.start ev_f11 n29
  have S_f11 := Sta.start ev_f11 (Or.inr ⟨(hw _ (List.mem_of_getElem? (i := 6) rfl)), (hw _ (List.mem_of_getElem? (i := 68) rfl))⟩)
  obtain ⟨f25, ev_f25⟩ := exa_v n32
  have E_f25 := Exa.start ev_f25 n32
  have S_f25 := Sta.start ev_f25 (Or.inr ⟨(hw _ (List.mem_of_getElem? (i := 6) rfl)), (hw _ (List.mem_of_getElem? (i := 73) rfl))⟩)
  obtain ⟨f13, ev_f13⟩ := exa_v n35
  have E_f13 := Exa.start ev_f13 n35
  have S_f13 := Sta.start ev_f13 (Or.inr ⟨(hw _ (List.mem_of_getElem? (i := 6) rfl)), (hw _ (List.mem_of_getElem? (i := 78) rfl))⟩)
  obtain ⟨f18, ev_f18⟩ := exa_v n37
  have E_f18 := Exa.start ev_f18 n37
  have S_f18 := Sta.start ev_f18 (Or.inr ⟨(hw _ (List.mem_of_getElem? (i := 6) rfl)), (hw _ (List.mem_of_getElem? (i := 82) rfl))⟩)
  obtain ⟨f6, ev_f6⟩ := exa_v n39
  have E_f6 := Exa.start ev_f6 n39
  have S_f6 := Sta.start ev_f6 (Or.inr ⟨(hw _ (List.mem_of_getElem? (i := 6) rfl)), (hw _ (List.mem_of_getElem? (i := 86) rfl))⟩)
  obtain ⟨f5, ev_f5⟩ := exa_v n42
  have E_f5 := Exa.start ev_f5 n42
  have S_f5 := Sta.start ev_f5 (Or.inr ⟨(hw _ (List.mem_of_getElem? (i := 6) rfl)), (hw _ (List.mem_of_getElem? (i := 91) rfl))⟩)
  obtain ⟨f14, ev_f14⟩ := exa_v n45
  have E_f14 := Exa.start ev_f14 n45
  have S_f14 := Sta.start ev_f14 (Or.inr ⟨(hw _ (List.mem_of_getElem? (i := 6) rfl)), (hw _ (List.mem_of_getElem? (i := 96) rfl))⟩)
  obtain ⟨f20, ev_f20⟩ := exa_v n47
  have E_f20 := Exa.start ev_f20 n47
  have S_f20 := Sta.start ev_f20 (Or.inr ⟨(hw _ (List.mem_of_getElem? (i := 6) rfl)), (hw _ (List.mem_of_getElem? (i := 100) rfl))⟩)
  obtain ⟨f26, ev_f26⟩ := exa_v n49
  have E_f26 := Exa.start ev_f26 n49
  have S_f26 := Sta.start ev_f26 (Or.inr ⟨(hw _ (List.mem_of_getElem? (i := 6) rfl)), (hw _ (List.mem_of_getElem? (i := 104) rfl))⟩)
  obtain ⟨f9, ev_f9⟩ := exa_v n51
  have E_f9 := Exa.start ev_f9 n51
  have S_f9 := Sta.start ev_f9 (Or.inr ⟨(hw _ (List.mem_of_getElem? (i := 6) rfl)), (hw _ (List.mem_of_getElem? (i := 108) rfl))⟩)
  obtain ⟨f4, ev_f4⟩ := exa_v n53
  have E_f4 := Exa.start ev_f4 n53
  have S_f4 := Sta.start ev_f4 (Or.inr ⟨(hw _ (List.mem_of_getElem? (i := 6) rfl)), (hw _ (List.mem_of_getElem? (i := 112) rfl))⟩)
  obtain ⟨f12, ev_f12⟩ := exa_v n56
  have E_f12 := Exa.start ev_f12 n56
  have S_f12 := Sta.start ev_f12 (Or.inr ⟨(hw _ (List.mem_of_getElem? (i := 6) rfl)), (hw _ (List.mem_of_getElem? (i := 117) rfl))⟩)
  obtain ⟨f21, ev_f21⟩ := exa_v n59
  have E_f21 := Exa.start ev_f21 n59
  have S_f21 := Sta.start ev_f21 (Or.inr ⟨(hw _ (List.mem_of_getElem? (i := 6) rfl)), (hw _ (List.mem_of_getElem? (i := 122) rfl))⟩)
  obtain ⟨f23, ev_f23⟩ := exa_v n66
  have E_f23 := Exa.start ev_f23 n66
  have S_f23 := Sta.start ev_f23 (Or.inr ⟨(hw _ (List.mem_of_getElem? (i := 6) rfl)), (hw _ (List.mem_of_getElem? (i := 131) rfl))⟩)
  obtain ⟨f22, ev_f22⟩ := exa_v n70
  have E_f22 := Exa.start ev_f22 n70
  have S_f22 := Sta.start ev_f22 (Or.inr ⟨(hw _ (List.mem_of_getElem? (i := 6) rfl)), (hw _ (List.mem_of_getElem? (i := 137) rfl))⟩)
  obtain ⟨f15, ev_f15⟩ := exa_v n74
  have E_f15 := Exa.start ev_f15 n74
  have S_f15 := Sta.start ev_f15 (Or.inr ⟨(hw _ (List.mem_of_getElem? (i := 6) rfl)), (hw _ (List.mem_of_getElem? (i := 143) rfl))⟩)
  have F_f0_fewest := own_fldI ev_f0 n1
  have F_f0_most := own_fldI ev_f0 n2
  have F_f1_fewest := own_fldI ev_f1 n4
  have F_f2_fewest := own_fldI ev_f2 n6
  have F_f8_fewest := own_fldI ev_f8 n8
  have F_f24_fewest := own_fldI ev_f24 n10
  have F_f24_most := own_fldI ev_f24 n11
  have F_f7_fewest := own_fldI ev_f7 n13
  have F_f7_most := own_fldI ev_f7 n14
  have F_f3_fewest := own_fldI ev_f3 n16
  have F_f3_most := own_fldI ev_f3 n17
  have F_f10_fewest := own_fldI ev_f10 n19
  have F_f10_most := own_fldI ev_f10 n20
  have F_f16_fewest := own_fldI ev_f16 n22
  have F_f16_most := own_fldI ev_f16 n23
  have F_f17_fewest := own_fldI ev_f17 n25
  have F_f1_most := own_fldI ev_f1 n26
  have F_f19_fewest := own_fldI ev_f19 n28
  have F_f11_fewest := own_fldI ev_f11 n30
  have F_f2_most := own_fldI ev_f2 n31
  have F_f25_fewest := own_fldI ev_f25 n33
  have F_f25_most := own_fldI ev_f25 n34
  have F_f13_fewest := own_fldI ev_f13 n36
  have F_f18_fewest := own_fldI ev_f18 n38
  have F_f6_fewest := own_fldI ev_f6 n40
  have F_f6_most := own_fldI ev_f6 n41
  have F_f5_fewest := own_fldI ev_f5 n43
  have F_f5_most := own_fldI ev_f5 n44
  have F_f14_fewest := own_fldI ev_f14 n46
  have F_f20_fewest := own_fldI ev_f20 n48
  have F_f26_fewest := own_fldI ev_f26 n50
  have F_f9_fewest := own_fldI ev_f9 n52
  have F_f4_fewest := own_fldI ev_f4 n54
  have F_f4_most := own_fldI ev_f4 n55
  have F_f12_fewest := own_fldI ev_f12 n57
  have F_f12_most := own_fldI ev_f12 n58
  have F_f21_fewest := own_fldI ev_f21 n60
  have F_f21_most := own_fldI ev_f21 n61
  have F_f18_most := own_fldI ev_f18 n62
  have F_f26_most := own_fldI ev_f26 n63
  have F_f11_most := own_fldI ev_f11 n64
  have F_f8_most := own_fldI ev_f8 n65
  have F_f23_fewest := own_fldI ev_f23 n67
  have F_f20_most := own_fldI ev_f20 n68
  have F_f13_most := own_fldI ev_f13 n69
  have F_f22_fewest := own_fldI ev_f22 n71
  have F_f22_most := own_fldI ev_f22 n72
  have F_f14_most := own_fldI ev_f14 n73
  have F_f15_fewest := own_fldI ev_f15 n75
  have F_f15_most := own_fldI ev_f15 n76
  have F_f9_most := own_fldI ev_f9 n77
  have F_f17_most := own_fldI ev_f17 n78
  have F_f19_most := own_fldI ev_f19 n79
  have F_f23_most := own_fldI ev_f23 n80
  obtain ⟨n, o, h1, h2, h3, _, L, rfl, ⟨rfl, rfl, -⟩, hq⟩ := rm0 l s _ hw tables_1 s.heap i0 i1 i2 f0 S_f0 E_f0 F_f0_fewest F_f0_most f1 S_f1 E_f1 F_f1_fewest F_f1_most f2 S_f2 E_f2 F_f2_fewest F_f2_most f3 S_f3 E_f3 F_f3_fewest F_f3_most f4 S_f4 E_f4 F_f4_fewest F_f4_most f5 S_f5 E_f5 F_f5_fewest F_f5_most f6 S_f6 E_f6 F_f6_fewest F_f6_most f7 S_f7 E_f7 F_f7_fewest F_f7_most f8 S_f8 E_f8 F_f8_fewest F_f8_most f9 S_f9 E_f9 F_f9_fewest F_f9_most f10 S_f10 E_f10 F_f10_fewest F_f10_most f11 S_f11 E_f11 F_f11_fewest F_f11_most f12 S_f12 E_f12 F_f12_fewest F_f12_most f13 S_f13 E_f13 F_f13_fewest F_f13_most f14 S_f14 E_f14 F_f14_fewest F_f14_most f15 S_f15 E_f15 F_f15_fewest F_f15_most f16 S_f16 E_f16 F_f16_fewest F_f16_most f17 S_f17 E_f17 F_f17_fewest F_f17_most f18 S_f18 E_f18 F_f18_fewest F_f18_most f19 S_f19 E_f19 F_f19_fewest F_f19_most f20 S_f20 E_f20 F_f20_fewest F_f20_most f21 S_f21 E_f21 F_f21_fewest F_f21_most f22 S_f22 E_f22 F_f22_fewest F_f22_most f23 S_f23 E_f23 F_f23_fewest F_f23_most f24 S_f24 E_f24 F_f24_fewest F_f24_most f25 S_f25 E_f25 F_f25_fewest F_f25_most f26 S_f26 E_f26 F_f26_fewest F_f26_most p e ha hc hk s m _ below hf ((Spec.applies_iff_loose hf).mp happ).1 ⟨rfl, State.Warmed39.refl s, rfl⟩ trivial
  exact ⟨n, _, h1, h2, h3, hpost _ _ _ _ _ _ ⟨Cond.after_iff.mpr rfl, Cond.after_iff.mpr (eq_i res_at (Term.int_eval (1)) rfl), trivial⟩ ⟨hq.1, hq.2.1, (hq.2.2.sift fun y hy => nomatch hy).mono (by decide) (by decide)⟩⟩
theorem main_1_1 : Claimed_1_1 := comes_1 fun _ _ _ _ _ _ h hF => ⟨h.1, hF⟩
theorem main_1_2 : Claimed_1_2 := comes_1 fun _ _ _ _ _ _ h hF => ⟨h.2.1, hF⟩
end Jvm.Pilot.@@N@@
namespace Jvm.Pilot.@@N@@
open Jvm Jvm.ClassFile Sem Op Lib Jvm.Free Jvm.Stand Jvm.Pilot.@@N@@.Jvm.D
/-! MADE BY PROGRAM (witnessworld.py) out of the Statement's table words and the real class files: 39 classes; the members and pool entries that the words name. The judged class is class 1, her method 1. -/
namespace start1
open Jvm.ClassFile
def u (s : String) : CpInfo := .utf8 (stringToUtf16 s)
/-- a pool by its gaps: so many unusable entries, then the entry; so many at the end -/
def gap : Nat → List CpInfo → List CpInfo
  | 0, r => r
  | n + 1, r => .unusable :: gap n r
def poolList (es : List (Nat × CpInfo)) (last : Nat) : List CpInfo := es.foldr (fun e r => gap e.1 (e.2 :: r)) (gap last [])
def pool (es : List (Nat × CpInfo)) (last : Nat) : Array CpInfo := ⟨poolList es last⟩
def fileOf (pool : Array CpInfo) (this : Nat) (attrs : Array Attribute := #[]) (ms : Array MethodInfo := #[]) (fl : Nat := 33) (sup : Nat := 0) (ifs : Array Nat := #[]) (fds : Array FieldInfo := #[]) : ClassFile where
  minorVersion := 0
  majorVersion := 65
  constantPool := pool
  accessFlags := fl
  thisClass := this
  superClass := sup
  interfaces := ifs
  fields := fds
  methods := ms
  attributes := attrs
def plain (name : String) (sup : Option ClassId) : Class where
  name := name
  kind := .ordinary
  loader := none
  accessFlags := 33
  super := sup
  interfaces := #[]
  cf := none
  fields := #[]
  methods := #[]
  instanceTypes := #[]
  staticTypes := #[]
  resolved := #[]
  callSites := []
  init := .initialized
  statics := none
  mirror := none

def pool0 : Array CpInfo := pool [(5, u "<init>"), (0, u "()V"), (1, .class_ 10), (1, u "java/lang/Object")] 113

def k0m0 : Method := { name := "<init>", desc := "()V", sig := { parameters := [], returnType := none }, accessFlags := 1, code := none }
/-- java/lang/Object -/
def k0 : Class := { plain "java/lang/Object" none with
  accessFlags := 33
  interfaces := #[]
  cf := some (fileOf pool0 8 #[] #[{ accessFlags := 1, nameIndex := 5, descriptorIndex := 6, attributes := #[] }] 33 0 #[] #[])
  fields := #[]
  methods := #[k0m0]
  instanceTypes := #[]
  staticTypes := #[]
  resolved := Array.replicate 124 none
  statics := none }

def pool1 : Array CpInfo := pool [(2, .class_ 4), (1, u "java/lang/Object"), (0, u "<init>"), (0, u "()V"), (0, .integer 2147483647), (2, .integer 2147483648), (0, .methodref 12 13), (0, .class_ 14), (0, .nameAndType 15 16), (0, u "com/example/gatewright/gatewright/engine/XPathFunctionTakesPinLaw"), (0, u "pick"), (0, u "(I)Lcom/example/gatewright/gatewright/engine/XPathFunction;"), (0, .methodref 18 19), (0, .class_ 20), (0, .nameAndType 21 22), (0, u "com/example/gatewright/gatewright/engine/XPathFunction"), (0, u "takes"), (0, u "(I)Z"), (0, .methodref 12 24), (0, .nameAndType 25 26), (0, u "expected"), (0, u "(II)Z"), (0, .fieldref 18 28), (0, .nameAndType 29 30), (0, u "LAST"), (0, u "Lcom/example/gatewright/gatewright/engine/XPathFunction;"), (0, .fieldref 18 32), (0, .nameAndType 33 30), (0, u "POSITION"), (0, .fieldref 18 35), (0, .nameAndType 36 30), (0, u "COUNT"), (0, .fieldref 18 38), (0, .nameAndType 39 30), (0, u "ID"), (0, .fieldref 18 41), (0, .nameAndType 42 30), (0, u "LOCAL_NAME"), (0, .fieldref 18 44), (0, .nameAndType 45 30), (0, u "NAMESPACE_URI"), (0, .fieldref 18 47), (0, .nameAndType 48 30), (0, u "NAME"), (0, .fieldref 18 50), (0, .nameAndType 51 30), (0, u "STRING"), (0, .fieldref 18 53), (0, .nameAndType 54 30), (0, u "CONCAT"), (0, .fieldref 18 56), (0, .nameAndType 57 30), (0, u "STARTS_WITH"), (0, .fieldref 18 59), (0, .nameAndType 60 30), (0, u "CONTAINS"), (0, .fieldref 18 62), (0, .nameAndType 63 30), (0, u "SUBSTRING_BEFORE"), (0, .fieldref 18 65), (0, .nameAndType 66 30), (0, u "SUBSTRING_AFTER"), (0, .fieldref 18 68), (0, .nameAndType 69 30), (0, u "SUBSTRING"), (0, .fieldref 18 71), (0, .nameAndType 72 30), (0, u "STRING_LENGTH"), (0, .fieldref 18 74), (0, .nameAndType 75 30), (0, u "NORMALIZE_SPACE"), (0, .fieldref 18 77), (0, .nameAndType 78 30), (0, u "TRANSLATE"), (0, .fieldref 18 80), (0, .nameAndType 81 30), (0, u "BOOLEAN"), (0, .fieldref 18 83), (0, .nameAndType 84 30), (0, u "NOT"), (0, .fieldref 18 86), (0, .nameAndType 87 30), (0, u "TRUE"), (0, .fieldref 18 89), (0, .nameAndType 90 30), (0, u "FALSE"), (0, .fieldref 18 92), (0, .nameAndType 93 30), (0, u "LANG"), (0, .fieldref 18 95), (0, .nameAndType 96 30), (0, u "NUMBER"), (0, .fieldref 18 98), (0, .nameAndType 99 30), (0, u "SUM"), (0, .fieldref 18 101), (0, .nameAndType 102 30), (0, u "FLOOR"), (0, .fieldref 18 104), (0, .nameAndType 105 30), (0, u "CEILING"), (0, .fieldref 18 107), (0, .nameAndType 108 30), (0, u "ROUND"), (2, u "law"), (0, u "(III)Z")] 3

def k1m0 : Method := { name := "<init>", desc := "()V", sig := { parameters := [], returnType := none }, accessFlags := 2, code := none }
def k1c1 : Code := { maxStack := 3, maxLocals := 7, code := code, exceptionTable := #[], attributes := #[] }
def k1m1 : Method := { name := "law", desc := "(III)Z", sig := { parameters := [.int, .int, .int], returnType := some .boolean }, accessFlags := 9, code := some k1c1 }
def k1c2 : Code := { maxStack := 2, maxLocals := 2, code := method_3_code, exceptionTable := #[], attributes := #[] }
def k1m2 : Method := { name := "expected", desc := "(II)Z", sig := { parameters := [.int, .int], returnType := some .boolean }, accessFlags := 10, code := some k1c2 }
def k1c3 : Code := { maxStack := 2, maxLocals := 1, code := method_4_code, exceptionTable := #[], attributes := #[] }
def k1m3 : Method := { name := "pick", desc := "(I)Lcom/example/gatewright/gatewright/engine/XPathFunction;", sig := { parameters := [.int], returnType := some (.object "com/example/gatewright/gatewright/engine/XPathFunction") }, accessFlags := 10, code := some k1c3 }
/-- com/example/gatewright/gatewright/engine/XPathFunctionTakesPinLaw -/
def k1 : Class := { plain "com/example/gatewright/gatewright/engine/XPathFunctionTakesPinLaw" (some 0) with
  accessFlags := 49
  interfaces := #[]
  cf := some (fileOf pool1 12 #[] #[{ accessFlags := 2, nameIndex := 5, descriptorIndex := 6, attributes := #[] }, { accessFlags := 9, nameIndex := 111, descriptorIndex := 112, attributes := #[] }, { accessFlags := 10, nameIndex := 25, descriptorIndex := 26, attributes := #[] }, { accessFlags := 10, nameIndex := 15, descriptorIndex := 16, attributes := #[] }] 49 2 #[] #[])
  fields := #[]
  methods := #[k1m0, k1m1, k1m2, k1m3]
  instanceTypes := #[]
  staticTypes := #[]
  resolved := Array.replicate 116 none
  statics := none }

def pool2 : Array CpInfo := pool [(1, .class_ 2), (0, u "java/lang/constant/Constable"), (0, .class_ 4), (0, u "java/lang/Object")] 6

/-- java/lang/constant/Constable -/
def k2 : Class := { plain "java/lang/constant/Constable" (some 0) with
  accessFlags := 1537
  interfaces := #[]
  cf := some (fileOf pool2 1 #[] #[] 1537 3 #[] #[])
  fields := #[]
  methods := #[]
  instanceTypes := #[]
  staticTypes := #[]
  resolved := Array.replicate 11 none
  statics := none }

def pool3 : Array CpInfo := pool [(1, .class_ 2), (0, u "java/lang/Comparable"), (0, .class_ 4), (0, u "java/lang/Object")] 7

/-- java/lang/Comparable -/
def k3 : Class := { plain "java/lang/Comparable" (some 0) with
  accessFlags := 1537
  interfaces := #[]
  cf := some (fileOf pool3 1 #[] #[] 1537 3 #[] #[])
  fields := #[]
  methods := #[]
  instanceTypes := #[]
  staticTypes := #[]
  resolved := Array.replicate 12 none
  statics := none }

def pool4 : Array CpInfo := pool [(1, .class_ 2), (0, u "java/io/Serializable"), (0, .class_ 4), (0, u "java/lang/Object")] 2

/-- java/io/Serializable -/
def k4 : Class := { plain "java/io/Serializable" (some 0) with
  accessFlags := 1537
  interfaces := #[]
  cf := some (fileOf pool4 1 #[] #[] 1537 3 #[] #[])
  fields := #[]
  methods := #[]
  instanceTypes := #[]
  staticTypes := #[]
  resolved := Array.replicate 7 none
  statics := none }

def pool5 : Array CpInfo := pool [(2, .class_ 4), (1, u "java/lang/Enum"), (0, u "name"), (0, u "Ljava/lang/String;"), (2, u "ordinal"), (0, u "I"), (1, .class_ 14), (1, u "java/lang/Object"), (4, u "hash"), (86, .class_ 108), (1, u "java/lang/Enum$EnumDesc"), (2, .class_ 112), (0, u "java/lang/constant/Constable"), (0, .class_ 114), (0, u "java/lang/Comparable"), (0, .class_ 116), (0, u "java/io/Serializable")] 87

/-- java/lang/Enum -/
def k5 : Class := { plain "java/lang/Enum" (some 0) with
  accessFlags := 1057
  interfaces := #[2, 3, 4]
  cf := some (fileOf pool5 2 #[.nestMembers #[106]] #[] 1057 12 #[111, 113, 115] #[{ accessFlags := 18, nameIndex := 5, descriptorIndex := 6, attributes := #[] }, { accessFlags := 18, nameIndex := 9, descriptorIndex := 10, attributes := #[] }, { accessFlags := 2, nameIndex := 19, descriptorIndex := 10, attributes := #[] }])
  fields := #[{ name := "name", type := (.object "java/lang/String"), accessFlags := 18, slot := 0, constantValue := 0 }, { name := "ordinal", type := .int, accessFlags := 18, slot := 1, constantValue := 0 }, { name := "hash", type := .int, accessFlags := 2, slot := 2, constantValue := 0 }]
  methods := #[]
  instanceTypes := #[(.object "java/lang/String"), .int, .int]
  staticTypes := #[]
  resolved := Array.replicate 204 none
  statics := none }

def pool6 : Array CpInfo := pool [(1, .class_ 2), (0, u "com/example/gatewright/gatewright/engine/XPathFunction"), (2, u "LAST"), (0, u "Lcom/example/gatewright/gatewright/engine/XPathFunction;"), (2, u "POSITION"), (2, u "COUNT"), (2, u "ID"), (2, u "LOCAL_NAME"), (2, u "NAMESPACE_URI"), (2, u "NAME"), (2, u "STRING"), (2, u "CONCAT"), (2, u "STARTS_WITH"), (2, u "CONTAINS"), (2, u "SUBSTRING_BEFORE"), (2, u "SUBSTRING_AFTER"), (2, u "SUBSTRING"), (2, u "STRING_LENGTH"), (2, u "NORMALIZE_SPACE"), (2, u "TRANSLATE"), (2, u "BOOLEAN"), (2, u "NOT"), (2, u "TRUE"), (2, u "FALSE"), (2, u "LANG"), (2, u "NUMBER"), (2, u "SUM"), (2, u "FLOOR"), (2, u "CEILING"), (2, u "ROUND"), (2, u "$VALUES"), (0, u "[Lcom/example/gatewright/gatewright/engine/XPathFunction;"), (6, .class_ 97), (1, u "java/lang/Enum"), (8, u "functionName"), (0, u "Ljava/lang/String;"), (0, .fieldref 1 109), (0, .nameAndType 110 111), (0, u "fewest"), (0, u "I"), (0, .fieldref 1 113), (0, .nameAndType 114 111), (0, u "most"), (2, u "BY_NAME"), (0, u "Ljava/util/Map;"), (77, u "NUMBER_FORM"), (0, u "Ljava/util/regex/Pattern;"), (157, .class_ 356), (0, u "com/example/gatewright/gatewright/engine/XPathFunction$1"), (6, .class_ 364), (0, u "com/example/gatewright/gatewright/engine/XPathFunction$2"), (4, .class_ 370), (0, u "com/example/gatewright/gatewright/engine/XPathFunction$3"), (4, .class_ 376), (0, u "com/example/gatewright/gatewright/engine/XPathFunction$4"), (4, .class_ 382), (0, u "com/example/gatewright/gatewright/engine/XPathFunction$5"), (4, .class_ 388), (0, u "com/example/gatewright/gatewright/engine/XPathFunction$6"), (4, .class_ 394), (0, u "com/example/gatewright/gatewright/engine/XPathFunction$7"), (4, .class_ 400), (0, u "com/example/gatewright/gatewright/engine/XPathFunction$8"), (4, .class_ 406), (0, u "com/example/gatewright/gatewright/engine/XPathFunction$9"), (7, .class_ 415), (0, u "com/example/gatewright/gatewright/engine/XPathFunction$10"), (4, .class_ 421), (0, u "com/example/gatewright/gatewright/engine/XPathFunction$11"), (4, .class_ 427), (0, u "com/example/gatewright/gatewright/engine/XPathFunction$12"), (4, .class_ 433), (0, u "com/example/gatewright/gatewright/engine/XPathFunction$13"), (4, .class_ 439), (0, u "com/example/gatewright/gatewright/engine/XPathFunction$14"), (4, .class_ 445), (0, u "com/example/gatewright/gatewright/engine/XPathFunction$15"), (4, .class_ 451), (0, u "com/example/gatewright/gatewright/engine/XPathFunction$16"), (4, .class_ 457), (0, u "com/example/gatewright/gatewright/engine/XPathFunction$17"), (4, .class_ 463), (0, u "com/example/gatewright/gatewright/engine/XPathFunction$18"), (4, .class_ 469), (0, u "com/example/gatewright/gatewright/engine/XPathFunction$19"), (4, .class_ 475), (0, u "com/example/gatewright/gatewright/engine/XPathFunction$20"), (4, .class_ 481), (0, u "com/example/gatewright/gatewright/engine/XPathFunction$21"), (4, .class_ 487), (0, u "com/example/gatewright/gatewright/engine/XPathFunction$22"), (4, .class_ 493), (0, u "com/example/gatewright/gatewright/engine/XPathFunction$23"), (4, .class_ 499), (0, u "com/example/gatewright/gatewright/engine/XPathFunction$24"), (4, .class_ 505), (0, u "com/example/gatewright/gatewright/engine/XPathFunction$25"), (3, .class_ 510), (0, u "com/example/gatewright/gatewright/engine/XPathFunction$26"), (4, .class_ 516), (0, u "com/example/gatewright/gatewright/engine/XPathFunction$27"), (18, u "EVERY_INTEGER"), (0, u "D"), (1, u "MOST_DIGITS"), (8, u "takes"), (0, u "(I)Z")] 31

def k6c0 : Code := { maxStack := 2, maxLocals := 2, code := prog_75_method_6_code, exceptionTable := #[], attributes := #[] }
def k6m0 : Method := { name := "takes", desc := "(I)Z", sig := { parameters := [.int], returnType := some .boolean }, accessFlags := 0, code := some k6c0 }
/-- com/example/gatewright/gatewright/engine/XPathFunction -/
def k6 : Class := { plain "com/example/gatewright/gatewright/engine/XPathFunction" (some 5) with
  accessFlags := 17440
  interfaces := #[]
  cf := some (fileOf pool6 1 #[.nestMembers #[515, 509, 504, 498, 492, 486, 480, 474, 468, 462, 456, 450, 444, 438, 432, 426, 420, 414, 405, 399, 393, 387, 381, 375, 369, 363, 355]] #[{ accessFlags := 0, nameIndex := 547, descriptorIndex := 548, attributes := #[] }] 17440 95 #[] #[{ accessFlags := 16409, nameIndex := 5, descriptorIndex := 6, attributes := #[] }, { accessFlags := 16409, nameIndex := 9, descriptorIndex := 6, attributes := #[] }, { accessFlags := 16409, nameIndex := 12, descriptorIndex := 6, attributes := #[] }, { accessFlags := 16409, nameIndex := 15, descriptorIndex := 6, attributes := #[] }, { accessFlags := 16409, nameIndex := 18, descriptorIndex := 6, attributes := #[] }, { accessFlags := 16409, nameIndex := 21, descriptorIndex := 6, attributes := #[] }, { accessFlags := 16409, nameIndex := 24, descriptorIndex := 6, attributes := #[] }, { accessFlags := 16409, nameIndex := 27, descriptorIndex := 6, attributes := #[] }, { accessFlags := 16409, nameIndex := 30, descriptorIndex := 6, attributes := #[] }, { accessFlags := 16409, nameIndex := 33, descriptorIndex := 6, attributes := #[] }, { accessFlags := 16409, nameIndex := 36, descriptorIndex := 6, attributes := #[] }, { accessFlags := 16409, nameIndex := 39, descriptorIndex := 6, attributes := #[] }, { accessFlags := 16409, nameIndex := 42, descriptorIndex := 6, attributes := #[] }, { accessFlags := 16409, nameIndex := 45, descriptorIndex := 6, attributes := #[] }, { accessFlags := 16409, nameIndex := 48, descriptorIndex := 6, attributes := #[] }, { accessFlags := 16409, nameIndex := 51, descriptorIndex := 6, attributes := #[] }, { accessFlags := 16409, nameIndex := 54, descriptorIndex := 6, attributes := #[] }, { accessFlags := 16409, nameIndex := 57, descriptorIndex := 6, attributes := #[] }, { accessFlags := 16409, nameIndex := 60, descriptorIndex := 6, attributes := #[] }, { accessFlags := 16409, nameIndex := 63, descriptorIndex := 6, attributes := #[] }, { accessFlags := 16409, nameIndex := 66, descriptorIndex := 6, attributes := #[] }, { accessFlags := 16409, nameIndex := 69, descriptorIndex := 6, attributes := #[] }, { accessFlags := 16409, nameIndex := 72, descriptorIndex := 6, attributes := #[] }, { accessFlags := 16409, nameIndex := 75, descriptorIndex := 6, attributes := #[] }, { accessFlags := 16409, nameIndex := 78, descriptorIndex := 6, attributes := #[] }, { accessFlags := 16409, nameIndex := 81, descriptorIndex := 6, attributes := #[] }, { accessFlags := 16409, nameIndex := 84, descriptorIndex := 6, attributes := #[] }, { accessFlags := 26, nameIndex := 196, descriptorIndex := 197, attributes := #[] }, { accessFlags := 26, nameIndex := 117, descriptorIndex := 118, attributes := #[] }, { accessFlags := 26, nameIndex := 535, descriptorIndex := 536, attributes := #[] }, { accessFlags := 26, nameIndex := 538, descriptorIndex := 111, attributes := #[] }, { accessFlags := 18, nameIndex := 106, descriptorIndex := 107, attributes := #[] }, { accessFlags := 18, nameIndex := 110, descriptorIndex := 111, attributes := #[] }, { accessFlags := 18, nameIndex := 114, descriptorIndex := 111, attributes := #[] }, { accessFlags := 4122, nameIndex := 87, descriptorIndex := 88, attributes := #[] }])
  fields := #[{ name := "LAST", type := (.object "com/example/gatewright/gatewright/engine/XPathFunction"), accessFlags := 16409, slot := 0, constantValue := 0 }, { name := "POSITION", type := (.object "com/example/gatewright/gatewright/engine/XPathFunction"), accessFlags := 16409, slot := 1, constantValue := 0 }, { name := "COUNT", type := (.object "com/example/gatewright/gatewright/engine/XPathFunction"), accessFlags := 16409, slot := 2, constantValue := 0 }, { name := "ID", type := (.object "com/example/gatewright/gatewright/engine/XPathFunction"), accessFlags := 16409, slot := 3, constantValue := 0 }, { name := "LOCAL_NAME", type := (.object "com/example/gatewright/gatewright/engine/XPathFunction"), accessFlags := 16409, slot := 4, constantValue := 0 }, { name := "NAMESPACE_URI", type := (.object "com/example/gatewright/gatewright/engine/XPathFunction"), accessFlags := 16409, slot := 5, constantValue := 0 }, { name := "NAME", type := (.object "com/example/gatewright/gatewright/engine/XPathFunction"), accessFlags := 16409, slot := 6, constantValue := 0 }, { name := "STRING", type := (.object "com/example/gatewright/gatewright/engine/XPathFunction"), accessFlags := 16409, slot := 7, constantValue := 0 }, { name := "CONCAT", type := (.object "com/example/gatewright/gatewright/engine/XPathFunction"), accessFlags := 16409, slot := 8, constantValue := 0 }, { name := "STARTS_WITH", type := (.object "com/example/gatewright/gatewright/engine/XPathFunction"), accessFlags := 16409, slot := 9, constantValue := 0 }, { name := "CONTAINS", type := (.object "com/example/gatewright/gatewright/engine/XPathFunction"), accessFlags := 16409, slot := 10, constantValue := 0 }, { name := "SUBSTRING_BEFORE", type := (.object "com/example/gatewright/gatewright/engine/XPathFunction"), accessFlags := 16409, slot := 11, constantValue := 0 }, { name := "SUBSTRING_AFTER", type := (.object "com/example/gatewright/gatewright/engine/XPathFunction"), accessFlags := 16409, slot := 12, constantValue := 0 }, { name := "SUBSTRING", type := (.object "com/example/gatewright/gatewright/engine/XPathFunction"), accessFlags := 16409, slot := 13, constantValue := 0 }, { name := "STRING_LENGTH", type := (.object "com/example/gatewright/gatewright/engine/XPathFunction"), accessFlags := 16409, slot := 14, constantValue := 0 }, { name := "NORMALIZE_SPACE", type := (.object "com/example/gatewright/gatewright/engine/XPathFunction"), accessFlags := 16409, slot := 15, constantValue := 0 }, { name := "TRANSLATE", type := (.object "com/example/gatewright/gatewright/engine/XPathFunction"), accessFlags := 16409, slot := 16, constantValue := 0 }, { name := "BOOLEAN", type := (.object "com/example/gatewright/gatewright/engine/XPathFunction"), accessFlags := 16409, slot := 17, constantValue := 0 }, { name := "NOT", type := (.object "com/example/gatewright/gatewright/engine/XPathFunction"), accessFlags := 16409, slot := 18, constantValue := 0 }, { name := "TRUE", type := (.object "com/example/gatewright/gatewright/engine/XPathFunction"), accessFlags := 16409, slot := 19, constantValue := 0 }, { name := "FALSE", type := (.object "com/example/gatewright/gatewright/engine/XPathFunction"), accessFlags := 16409, slot := 20, constantValue := 0 }, { name := "LANG", type := (.object "com/example/gatewright/gatewright/engine/XPathFunction"), accessFlags := 16409, slot := 21, constantValue := 0 }, { name := "NUMBER", type := (.object "com/example/gatewright/gatewright/engine/XPathFunction"), accessFlags := 16409, slot := 22, constantValue := 0 }, { name := "SUM", type := (.object "com/example/gatewright/gatewright/engine/XPathFunction"), accessFlags := 16409, slot := 23, constantValue := 0 }, { name := "FLOOR", type := (.object "com/example/gatewright/gatewright/engine/XPathFunction"), accessFlags := 16409, slot := 24, constantValue := 0 }, { name := "CEILING", type := (.object "com/example/gatewright/gatewright/engine/XPathFunction"), accessFlags := 16409, slot := 25, constantValue := 0 }, { name := "ROUND", type := (.object "com/example/gatewright/gatewright/engine/XPathFunction"), accessFlags := 16409, slot := 26, constantValue := 0 }, { name := "NUMBER_FORM", type := (.object "java/util/regex/Pattern"), accessFlags := 26, slot := 27, constantValue := 0 }, { name := "BY_NAME", type := (.object "java/util/Map"), accessFlags := 26, slot := 28, constantValue := 0 }, { name := "EVERY_INTEGER", type := .double, accessFlags := 26, slot := 29, constantValue := 0 }, { name := "MOST_DIGITS", type := .int, accessFlags := 26, slot := 30, constantValue := 0 }, { name := "functionName", type := (.object "java/lang/String"), accessFlags := 18, slot := 3, constantValue := 0 }, { name := "fewest", type := .int, accessFlags := 18, slot := 4, constantValue := 0 }, { name := "most", type := .int, accessFlags := 18, slot := 5, constantValue := 0 }, { name := "$VALUES", type := (.array (.object "com/example/gatewright/gatewright/engine/XPathFunction")), accessFlags := 4122, slot := 31, constantValue := 0 }]
  methods := #[k6m0]
  instanceTypes := #[(.object "java/lang/String"), .int, .int, (.object "java/lang/String"), .int, .int]
  staticTypes := #[(.object "com/example/gatewright/gatewright/engine/XPathFunction"), (.object "com/example/gatewright/gatewright/engine/XPathFunction"), (.object "com/example/gatewright/gatewright/engine/XPathFunction"), (.object "com/example/gatewright/gatewright/engine/XPathFunction"), (.object "com/example/gatewright/gatewright/engine/XPathFunction"), (.object "com/example/gatewright/gatewright/engine/XPathFunction"), (.object "com/example/gatewright/gatewright/engine/XPathFunction"), (.object "com/example/gatewright/gatewright/engine/XPathFunction"), (.object "com/example/gatewright/gatewright/engine/XPathFunction"), (.object "com/example/gatewright/gatewright/engine/XPathFunction"), (.object "com/example/gatewright/gatewright/engine/XPathFunction"), (.object "com/example/gatewright/gatewright/engine/XPathFunction"), (.object "com/example/gatewright/gatewright/engine/XPathFunction"), (.object "com/example/gatewright/gatewright/engine/XPathFunction"), (.object "com/example/gatewright/gatewright/engine/XPathFunction"), (.object "com/example/gatewright/gatewright/engine/XPathFunction"), (.object "com/example/gatewright/gatewright/engine/XPathFunction"), (.object "com/example/gatewright/gatewright/engine/XPathFunction"), (.object "com/example/gatewright/gatewright/engine/XPathFunction"), (.object "com/example/gatewright/gatewright/engine/XPathFunction"), (.object "com/example/gatewright/gatewright/engine/XPathFunction"), (.object "com/example/gatewright/gatewright/engine/XPathFunction"), (.object "com/example/gatewright/gatewright/engine/XPathFunction"), (.object "com/example/gatewright/gatewright/engine/XPathFunction"), (.object "com/example/gatewright/gatewright/engine/XPathFunction"), (.object "com/example/gatewright/gatewright/engine/XPathFunction"), (.object "com/example/gatewright/gatewright/engine/XPathFunction"), (.object "java/util/regex/Pattern"), (.object "java/util/Map"), .double, .int, (.array (.object "com/example/gatewright/gatewright/engine/XPathFunction"))]
  resolved := Array.replicate 580 none
  statics := some 0 }

def pool7 : Array CpInfo := pool [(2, .class_ 4), (1, u "com/example/gatewright/gatewright/engine/XPathFunction"), (14, .class_ 20), (0, u "com/example/gatewright/gatewright/engine/XPathFunction$1")] 15

/-- com/example/gatewright/gatewright/engine/XPathFunction$1 -/
def k7 : Class := { plain "com/example/gatewright/gatewright/engine/XPathFunction$1" (some 6) with
  accessFlags := 16432
  interfaces := #[]
  cf := some (fileOf pool7 19 #[.nestHost 2] #[] 16432 2 #[] #[])
  fields := #[]
  methods := #[]
  instanceTypes := #[(.object "java/lang/String"), .int, .int, (.object "java/lang/String"), .int, .int]
  staticTypes := #[]
  resolved := Array.replicate 36 none
  statics := none }

def pool8 : Array CpInfo := pool [(2, .class_ 4), (1, u "com/example/gatewright/gatewright/engine/XPathFunction"), (14, .class_ 20), (0, u "com/example/gatewright/gatewright/engine/XPathFunction$2")] 15

/-- com/example/gatewright/gatewright/engine/XPathFunction$2 -/
def k8 : Class := { plain "com/example/gatewright/gatewright/engine/XPathFunction$2" (some 6) with
  accessFlags := 16432
  interfaces := #[]
  cf := some (fileOf pool8 19 #[.nestHost 2] #[] 16432 2 #[] #[])
  fields := #[]
  methods := #[]
  instanceTypes := #[(.object "java/lang/String"), .int, .int, (.object "java/lang/String"), .int, .int]
  staticTypes := #[]
  resolved := Array.replicate 36 none
  statics := none }

def pool9 : Array CpInfo := pool [(2, .class_ 4), (1, u "com/example/gatewright/gatewright/engine/XPathFunction"), (3, .class_ 10), (1, u "com/example/gatewright/gatewright/engine/XPathFunction$3")] 41

/-- com/example/gatewright/gatewright/engine/XPathFunction$3 -/
def k9 : Class := { plain "com/example/gatewright/gatewright/engine/XPathFunction$3" (some 6) with
  accessFlags := 16432
  interfaces := #[]
  cf := some (fileOf pool9 8 #[.nestHost 2] #[] 16432 2 #[] #[])
  fields := #[]
  methods := #[]
  instanceTypes := #[(.object "java/lang/String"), .int, .int, (.object "java/lang/String"), .int, .int]
  staticTypes := #[]
  resolved := Array.replicate 52 none
  statics := none }

def pool10 : Array CpInfo := pool [(2, .class_ 4), (1, u "com/example/gatewright/gatewright/engine/XPathFunction"), (24, .class_ 31), (1, u "com/example/gatewright/gatewright/engine/XPathFunction$9")] 28

/-- com/example/gatewright/gatewright/engine/XPathFunction$9 -/
def k10 : Class := { plain "com/example/gatewright/gatewright/engine/XPathFunction$9" (some 6) with
  accessFlags := 16432
  interfaces := #[]
  cf := some (fileOf pool10 29 #[.nestHost 2] #[] 16432 2 #[] #[])
  fields := #[]
  methods := #[]
  instanceTypes := #[(.object "java/lang/String"), .int, .int, (.object "java/lang/String"), .int, .int]
  staticTypes := #[]
  resolved := Array.replicate 60 none
  statics := none }

def pool11 : Array CpInfo := pool [(2, .class_ 4), (1, u "com/example/gatewright/gatewright/engine/XPathFunction"), (9, .class_ 16), (1, u "com/example/gatewright/gatewright/engine/XPathFunction$25")] 31

/-- com/example/gatewright/gatewright/engine/XPathFunction$25 -/
def k11 : Class := { plain "com/example/gatewright/gatewright/engine/XPathFunction$25" (some 6) with
  accessFlags := 16432
  interfaces := #[]
  cf := some (fileOf pool11 14 #[.nestHost 2] #[] 16432 2 #[] #[])
  fields := #[]
  methods := #[]
  instanceTypes := #[(.object "java/lang/String"), .int, .int, (.object "java/lang/String"), .int, .int]
  staticTypes := #[]
  resolved := Array.replicate 48 none
  statics := none }

def pool12 : Array CpInfo := pool [(2, .class_ 4), (1, u "com/example/gatewright/gatewright/engine/XPathFunction"), (6, .class_ 12), (0, u "com/example/gatewright/gatewright/engine/XPathFunction$8")] 17

/-- com/example/gatewright/gatewright/engine/XPathFunction$8 -/
def k12 : Class := { plain "com/example/gatewright/gatewright/engine/XPathFunction$8" (some 6) with
  accessFlags := 16432
  interfaces := #[]
  cf := some (fileOf pool12 11 #[.nestHost 2] #[] 16432 2 #[] #[])
  fields := #[]
  methods := #[]
  instanceTypes := #[(.object "java/lang/String"), .int, .int, (.object "java/lang/String"), .int, .int]
  staticTypes := #[]
  resolved := Array.replicate 30 none
  statics := none }

def pool13 : Array CpInfo := pool [(2, .class_ 4), (1, u "com/example/gatewright/gatewright/engine/XPathFunction"), (14, .class_ 20), (0, u "com/example/gatewright/gatewright/engine/XPathFunction$4")] 16

/-- com/example/gatewright/gatewright/engine/XPathFunction$4 -/
def k13 : Class := { plain "com/example/gatewright/gatewright/engine/XPathFunction$4" (some 6) with
  accessFlags := 16432
  interfaces := #[]
  cf := some (fileOf pool13 19 #[.nestHost 2] #[] 16432 2 #[] #[])
  fields := #[]
  methods := #[]
  instanceTypes := #[(.object "java/lang/String"), .int, .int, (.object "java/lang/String"), .int, .int]
  staticTypes := #[]
  resolved := Array.replicate 37 none
  statics := none }

def pool14 : Array CpInfo := pool [(2, .class_ 4), (1, u "com/example/gatewright/gatewright/engine/XPathFunction"), (18, .class_ 24), (0, u "com/example/gatewright/gatewright/engine/XPathFunction$11")] 17

/-- com/example/gatewright/gatewright/engine/XPathFunction$11 -/
def k14 : Class := { plain "com/example/gatewright/gatewright/engine/XPathFunction$11" (some 6) with
  accessFlags := 16432
  interfaces := #[]
  cf := some (fileOf pool14 23 #[.nestHost 2] #[] 16432 2 #[] #[])
  fields := #[]
  methods := #[]
  instanceTypes := #[(.object "java/lang/String"), .int, .int, (.object "java/lang/String"), .int, .int]
  staticTypes := #[]
  resolved := Array.replicate 42 none
  statics := none }

def pool15 : Array CpInfo := pool [(2, .class_ 4), (1, u "com/example/gatewright/gatewright/engine/XPathFunction"), (54, .class_ 60), (0, u "com/example/gatewright/gatewright/engine/XPathFunction$17")] 22

/-- com/example/gatewright/gatewright/engine/XPathFunction$17 -/
def k15 : Class := { plain "com/example/gatewright/gatewright/engine/XPathFunction$17" (some 6) with
  accessFlags := 16432
  interfaces := #[]
  cf := some (fileOf pool15 59 #[.nestHost 2] #[] 16432 2 #[] #[])
  fields := #[]
  methods := #[]
  instanceTypes := #[(.object "java/lang/String"), .int, .int, (.object "java/lang/String"), .int, .int]
  staticTypes := #[]
  resolved := Array.replicate 83 none
  statics := none }

def pool16 : Array CpInfo := pool [(2, .class_ 4), (1, u "com/example/gatewright/gatewright/engine/XPathFunction"), (9, .class_ 16), (1, u "com/example/gatewright/gatewright/engine/XPathFunction$18")] 25

/-- com/example/gatewright/gatewright/engine/XPathFunction$18 -/
def k16 : Class := { plain "com/example/gatewright/gatewright/engine/XPathFunction$18" (some 6) with
  accessFlags := 16432
  interfaces := #[]
  cf := some (fileOf pool16 14 #[.nestHost 2] #[] 16432 2 #[] #[])
  fields := #[]
  methods := #[]
  instanceTypes := #[(.object "java/lang/String"), .int, .int, (.object "java/lang/String"), .int, .int]
  staticTypes := #[]
  resolved := Array.replicate 42 none
  statics := none }

def pool17 : Array CpInfo := pool [(2, .class_ 4), (1, u "com/example/gatewright/gatewright/engine/XPathFunction"), (8, .class_ 14), (0, u "com/example/gatewright/gatewright/engine/XPathFunction$20")] 17

/-- com/example/gatewright/gatewright/engine/XPathFunction$20 -/
def k17 : Class := { plain "com/example/gatewright/gatewright/engine/XPathFunction$20" (some 6) with
  accessFlags := 16432
  interfaces := #[]
  cf := some (fileOf pool17 13 #[.nestHost 2] #[] 16432 2 #[] #[])
  fields := #[]
  methods := #[]
  instanceTypes := #[(.object "java/lang/String"), .int, .int, (.object "java/lang/String"), .int, .int]
  staticTypes := #[]
  resolved := Array.replicate 32 none
  statics := none }

def pool18 : Array CpInfo := pool [(2, .class_ 4), (1, u "com/example/gatewright/gatewright/engine/XPathFunction"), (18, .class_ 24), (0, u "com/example/gatewright/gatewright/engine/XPathFunction$12")] 20

/-- com/example/gatewright/gatewright/engine/XPathFunction$12 -/
def k18 : Class := { plain "com/example/gatewright/gatewright/engine/XPathFunction$12" (some 6) with
  accessFlags := 16432
  interfaces := #[]
  cf := some (fileOf pool18 23 #[.nestHost 2] #[] 16432 2 #[] #[])
  fields := #[]
  methods := #[]
  instanceTypes := #[(.object "java/lang/String"), .int, .int, (.object "java/lang/String"), .int, .int]
  staticTypes := #[]
  resolved := Array.replicate 45 none
  statics := none }

def pool19 : Array CpInfo := pool [(2, .class_ 4), (1, u "com/example/gatewright/gatewright/engine/XPathFunction"), (9, .class_ 16), (1, u "com/example/gatewright/gatewright/engine/XPathFunction$26")] 31

/-- com/example/gatewright/gatewright/engine/XPathFunction$26 -/
def k19 : Class := { plain "com/example/gatewright/gatewright/engine/XPathFunction$26" (some 6) with
  accessFlags := 16432
  interfaces := #[]
  cf := some (fileOf pool19 14 #[.nestHost 2] #[] 16432 2 #[] #[])
  fields := #[]
  methods := #[]
  instanceTypes := #[(.object "java/lang/String"), .int, .int, (.object "java/lang/String"), .int, .int]
  staticTypes := #[]
  resolved := Array.replicate 48 none
  statics := none }

def pool20 : Array CpInfo := pool [(2, .class_ 4), (1, u "com/example/gatewright/gatewright/engine/XPathFunction"), (13, .class_ 20), (1, u "com/example/gatewright/gatewright/engine/XPathFunction$14")] 58

/-- com/example/gatewright/gatewright/engine/XPathFunction$14 -/
def k20 : Class := { plain "com/example/gatewright/gatewright/engine/XPathFunction$14" (some 6) with
  accessFlags := 16432
  interfaces := #[]
  cf := some (fileOf pool20 18 #[.nestHost 2] #[] 16432 2 #[] #[])
  fields := #[]
  methods := #[]
  instanceTypes := #[(.object "java/lang/String"), .int, .int, (.object "java/lang/String"), .int, .int]
  staticTypes := #[]
  resolved := Array.replicate 79 none
  statics := none }

def pool21 : Array CpInfo := pool [(2, .class_ 4), (1, u "com/example/gatewright/gatewright/engine/XPathFunction"), (9, .class_ 16), (1, u "com/example/gatewright/gatewright/engine/XPathFunction$19")] 26

/-- com/example/gatewright/gatewright/engine/XPathFunction$19 -/
def k21 : Class := { plain "com/example/gatewright/gatewright/engine/XPathFunction$19" (some 6) with
  accessFlags := 16432
  interfaces := #[]
  cf := some (fileOf pool21 14 #[.nestHost 2] #[] 16432 2 #[] #[])
  fields := #[]
  methods := #[]
  instanceTypes := #[(.object "java/lang/String"), .int, .int, (.object "java/lang/String"), .int, .int]
  staticTypes := #[]
  resolved := Array.replicate 43 none
  statics := none }

def pool22 : Array CpInfo := pool [(2, .class_ 4), (1, u "com/example/gatewright/gatewright/engine/XPathFunction"), (3, .class_ 10), (1, u "com/example/gatewright/gatewright/engine/XPathFunction$7")] 60

/-- com/example/gatewright/gatewright/engine/XPathFunction$7 -/
def k22 : Class := { plain "com/example/gatewright/gatewright/engine/XPathFunction$7" (some 6) with
  accessFlags := 16432
  interfaces := #[]
  cf := some (fileOf pool22 8 #[.nestHost 2] #[] 16432 2 #[] #[])
  fields := #[]
  methods := #[]
  instanceTypes := #[(.object "java/lang/String"), .int, .int, (.object "java/lang/String"), .int, .int]
  staticTypes := #[]
  resolved := Array.replicate 71 none
  statics := none }

def pool23 : Array CpInfo := pool [(2, .class_ 4), (1, u "com/example/gatewright/gatewright/engine/XPathFunction"), (3, .class_ 10), (1, u "com/example/gatewright/gatewright/engine/XPathFunction$6")] 60

/-- com/example/gatewright/gatewright/engine/XPathFunction$6 -/
def k23 : Class := { plain "com/example/gatewright/gatewright/engine/XPathFunction$6" (some 6) with
  accessFlags := 16432
  interfaces := #[]
  cf := some (fileOf pool23 8 #[.nestHost 2] #[] 16432 2 #[] #[])
  fields := #[]
  methods := #[]
  instanceTypes := #[(.object "java/lang/String"), .int, .int, (.object "java/lang/String"), .int, .int]
  staticTypes := #[]
  resolved := Array.replicate 71 none
  statics := none }

def pool24 : Array CpInfo := pool [(2, .class_ 4), (1, u "com/example/gatewright/gatewright/engine/XPathFunction"), (22, .class_ 28), (0, u "com/example/gatewright/gatewright/engine/XPathFunction$15")] 17

/-- com/example/gatewright/gatewright/engine/XPathFunction$15 -/
def k24 : Class := { plain "com/example/gatewright/gatewright/engine/XPathFunction$15" (some 6) with
  accessFlags := 16432
  interfaces := #[]
  cf := some (fileOf pool24 27 #[.nestHost 2] #[] 16432 2 #[] #[])
  fields := #[]
  methods := #[]
  instanceTypes := #[(.object "java/lang/String"), .int, .int, (.object "java/lang/String"), .int, .int]
  staticTypes := #[]
  resolved := Array.replicate 46 none
  statics := none }

def pool25 : Array CpInfo := pool [(2, .class_ 4), (1, u "com/example/gatewright/gatewright/engine/XPathFunction"), (8, .class_ 14), (0, u "com/example/gatewright/gatewright/engine/XPathFunction$21")] 17

/-- com/example/gatewright/gatewright/engine/XPathFunction$21 -/
def k25 : Class := { plain "com/example/gatewright/gatewright/engine/XPathFunction$21" (some 6) with
  accessFlags := 16432
  interfaces := #[]
  cf := some (fileOf pool25 13 #[.nestHost 2] #[] 16432 2 #[] #[])
  fields := #[]
  methods := #[]
  instanceTypes := #[(.object "java/lang/String"), .int, .int, (.object "java/lang/String"), .int, .int]
  staticTypes := #[]
  resolved := Array.replicate 32 none
  statics := none }

def pool26 : Array CpInfo := pool [(2, .class_ 4), (1, u "com/example/gatewright/gatewright/engine/XPathFunction"), (9, .class_ 16), (1, u "com/example/gatewright/gatewright/engine/XPathFunction$27")] 29

/-- com/example/gatewright/gatewright/engine/XPathFunction$27 -/
def k26 : Class := { plain "com/example/gatewright/gatewright/engine/XPathFunction$27" (some 6) with
  accessFlags := 16432
  interfaces := #[]
  cf := some (fileOf pool26 14 #[.nestHost 2] #[] 16432 2 #[] #[])
  fields := #[]
  methods := #[]
  instanceTypes := #[(.object "java/lang/String"), .int, .int, (.object "java/lang/String"), .int, .int]
  staticTypes := #[]
  resolved := Array.replicate 46 none
  statics := none }

def pool27 : Array CpInfo := pool [(2, .class_ 4), (1, u "com/example/gatewright/gatewright/engine/XPathFunction"), (18, .class_ 24), (0, u "com/example/gatewright/gatewright/engine/XPathFunction$10")] 17

/-- com/example/gatewright/gatewright/engine/XPathFunction$10 -/
def k27 : Class := { plain "com/example/gatewright/gatewright/engine/XPathFunction$10" (some 6) with
  accessFlags := 16432
  interfaces := #[]
  cf := some (fileOf pool27 23 #[.nestHost 2] #[] 16432 2 #[] #[])
  fields := #[]
  methods := #[]
  instanceTypes := #[(.object "java/lang/String"), .int, .int, (.object "java/lang/String"), .int, .int]
  staticTypes := #[]
  resolved := Array.replicate 42 none
  statics := none }

def pool28 : Array CpInfo := pool [(2, .class_ 4), (1, u "com/example/gatewright/gatewright/engine/XPathFunction"), (3, .class_ 10), (1, u "com/example/gatewright/gatewright/engine/XPathFunction$5")] 60

/-- com/example/gatewright/gatewright/engine/XPathFunction$5 -/
def k28 : Class := { plain "com/example/gatewright/gatewright/engine/XPathFunction$5" (some 6) with
  accessFlags := 16432
  interfaces := #[]
  cf := some (fileOf pool28 8 #[.nestHost 2] #[] 16432 2 #[] #[])
  fields := #[]
  methods := #[]
  instanceTypes := #[(.object "java/lang/String"), .int, .int, (.object "java/lang/String"), .int, .int]
  staticTypes := #[]
  resolved := Array.replicate 71 none
  statics := none }

def pool29 : Array CpInfo := pool [(2, .class_ 4), (1, u "com/example/gatewright/gatewright/engine/XPathFunction"), (22, .class_ 28), (0, u "com/example/gatewright/gatewright/engine/XPathFunction$13")] 20

/-- com/example/gatewright/gatewright/engine/XPathFunction$13 -/
def k29 : Class := { plain "com/example/gatewright/gatewright/engine/XPathFunction$13" (some 6) with
  accessFlags := 16432
  interfaces := #[]
  cf := some (fileOf pool29 27 #[.nestHost 2] #[] 16432 2 #[] #[])
  fields := #[]
  methods := #[]
  instanceTypes := #[(.object "java/lang/String"), .int, .int, (.object "java/lang/String"), .int, .int]
  staticTypes := #[]
  resolved := Array.replicate 49 none
  statics := none }

def pool30 : Array CpInfo := pool [(2, .class_ 4), (1, u "com/example/gatewright/gatewright/engine/XPathFunction"), (58, .class_ 64), (0, u "com/example/gatewright/gatewright/engine/XPathFunction$22")] 18

/-- com/example/gatewright/gatewright/engine/XPathFunction$22 -/
def k30 : Class := { plain "com/example/gatewright/gatewright/engine/XPathFunction$22" (some 6) with
  accessFlags := 16432
  interfaces := #[]
  cf := some (fileOf pool30 63 #[.nestHost 2] #[] 16432 2 #[] #[])
  fields := #[]
  methods := #[]
  instanceTypes := #[(.object "java/lang/String"), .int, .int, (.object "java/lang/String"), .int, .int]
  staticTypes := #[]
  resolved := Array.replicate 83 none
  statics := none }

def pool31 : Array CpInfo := pool [(2, .class_ 4), (1, u "com/example/gatewright/gatewright/engine/XPathFunction"), (3, .class_ 10), (1, u "com/example/gatewright/gatewright/engine/XPathFunction$24")] 66

/-- com/example/gatewright/gatewright/engine/XPathFunction$24 -/
def k31 : Class := { plain "com/example/gatewright/gatewright/engine/XPathFunction$24" (some 6) with
  accessFlags := 16432
  interfaces := #[]
  cf := some (fileOf pool31 8 #[.nestHost 2] #[] 16432 2 #[] #[])
  fields := #[]
  methods := #[]
  instanceTypes := #[(.object "java/lang/String"), .int, .int, (.object "java/lang/String"), .int, .int]
  staticTypes := #[]
  resolved := Array.replicate 77 none
  statics := none }

def pool32 : Array CpInfo := pool [(2, .class_ 4), (1, u "com/example/gatewright/gatewright/engine/XPathFunction"), (25, .class_ 32), (1, u "com/example/gatewright/gatewright/engine/XPathFunction$23")] 28

/-- com/example/gatewright/gatewright/engine/XPathFunction$23 -/
def k32 : Class := { plain "com/example/gatewright/gatewright/engine/XPathFunction$23" (some 6) with
  accessFlags := 16432
  interfaces := #[]
  cf := some (fileOf pool32 30 #[.nestHost 2] #[] 16432 2 #[] #[])
  fields := #[]
  methods := #[]
  instanceTypes := #[(.object "java/lang/String"), .int, .int, (.object "java/lang/String"), .int, .int]
  staticTypes := #[]
  resolved := Array.replicate 61 none
  statics := none }

def pool33 : Array CpInfo := pool [(2, .class_ 4), (1, u "com/example/gatewright/gatewright/engine/XPathFunction"), (12, .class_ 18), (0, u "com/example/gatewright/gatewright/engine/XPathFunction$16")] 17

/-- com/example/gatewright/gatewright/engine/XPathFunction$16 -/
def k33 : Class := { plain "com/example/gatewright/gatewright/engine/XPathFunction$16" (some 6) with
  accessFlags := 16432
  interfaces := #[]
  cf := some (fileOf pool33 17 #[.nestHost 2] #[] 16432 2 #[] #[])
  fields := #[]
  methods := #[]
  instanceTypes := #[(.object "java/lang/String"), .int, .int, (.object "java/lang/String"), .int, .int]
  staticTypes := #[]
  resolved := Array.replicate 36 none
  statics := none }

def pool34 : Array CpInfo := pool [(1, u "java/lang/Cloneable"), (0, .class_ 1), (0, u "java/lang/Object"), (0, .class_ 3)] 3

/-- java/lang/Cloneable -/
def k34 : Class := { plain "java/lang/Cloneable" (some 0) with
  accessFlags := 1537
  interfaces := #[]
  cf := some (fileOf pool34 2 #[] #[] 1537 4 #[] #[])
  fields := #[]
  methods := #[]
  instanceTypes := #[]
  staticTypes := #[]
  resolved := Array.replicate 8 none
  statics := none }

/-- the primitive byte -/
def k35 : Class := { plain "byte" none with kind := .primitive 'B', accessFlags := 0x411 }
/-- [B -/
def k36 : Class := { plain "[B" (some 0) with kind := .array 35 .byte, interfaces := #[34, 4], accessFlags := 1041 }

/-- the primitive int -/
def k37 : Class := { plain "int" none with kind := .primitive 'I', accessFlags := 0x411 }
/-- [I -/
def k38 : Class := { plain "[I" (some 0) with kind := .array 37 .int, interfaces := #[34, 4], accessFlags := 1041 }

def heap : Heap := #[{ cls := 6, slots := #[.ref 1, .ref 2, .ref 3, .ref 7, .ref 22, .ref 17, .ref 16, .ref 6, .ref 4, .ref 21, .ref 8, .ref 12, .ref 23, .ref 14, .ref 18, .ref 27, .ref 9, .ref 10, .ref 15, .ref 11, .ref 19, .ref 24, .ref 26, .ref 25, .ref 5, .ref 13, .ref 20, .null, .null, .double 0, .int 0, .null], vm := .statics 6 },
  { cls := 7, slots := #[.null, .int 0, .int 0, .null, .int 0, .int 0], vm := .none },
  { cls := 8, slots := #[.null, .int 1, .int 0, .null, .int 0, .int 0], vm := .none },
  { cls := 9, slots := #[.null, .int 2, .int 0, .null, .int 1, .int 1], vm := .none },
  { cls := 10, slots := #[.null, .int 3, .int 0, .null, .int 2, .int 2147483647], vm := .none },
  { cls := 11, slots := #[.null, .int 4, .int 0, .null, .int 1, .int 1], vm := .none },
  { cls := 12, slots := #[.null, .int 5, .int 0, .null, .int 0, .int 1], vm := .none },
  { cls := 13, slots := #[.null, .int 6, .int 0, .null, .int 1, .int 1], vm := .none },
  { cls := 14, slots := #[.null, .int 7, .int 0, .null, .int 2, .int 2], vm := .none },
  { cls := 15, slots := #[.null, .int 8, .int 0, .null, .int 3, .int 3], vm := .none },
  { cls := 16, slots := #[.null, .int 9, .int 0, .null, .int 1, .int 1], vm := .none },
  { cls := 17, slots := #[.null, .int 10, .int 0, .null, .int 0, .int 0], vm := .none },
  { cls := 18, slots := #[.null, .int 11, .int 0, .null, .int 2, .int 2], vm := .none },
  { cls := 19, slots := #[.null, .int 12, .int 0, .null, .int 1, .int 1], vm := .none },
  { cls := 20, slots := #[.null, .int 13, .int 0, .null, .int 2, .int 3], vm := .none },
  { cls := 21, slots := #[.null, .int 14, .int 0, .null, .int 1, .int 1], vm := .none },
  { cls := 22, slots := #[.null, .int 15, .int 0, .null, .int 0, .int 1], vm := .none },
  { cls := 23, slots := #[.null, .int 16, .int 0, .null, .int 0, .int 1], vm := .none },
  { cls := 24, slots := #[.null, .int 17, .int 0, .null, .int 0, .int 1], vm := .none },
  { cls := 25, slots := #[.null, .int 18, .int 0, .null, .int 0, .int 0], vm := .none },
  { cls := 26, slots := #[.null, .int 19, .int 0, .null, .int 1, .int 1], vm := .none },
  { cls := 27, slots := #[.null, .int 20, .int 0, .null, .int 2, .int 2], vm := .none },
  { cls := 28, slots := #[.null, .int 21, .int 0, .null, .int 0, .int 1], vm := .none },
  { cls := 29, slots := #[.null, .int 22, .int 0, .null, .int 2, .int 2], vm := .none },
  { cls := 30, slots := #[.null, .int 23, .int 0, .null, .int 1, .int 1], vm := .none },
  { cls := 31, slots := #[.null, .int 24, .int 0, .null, .int 1, .int 1], vm := .none },
  { cls := 32, slots := #[.null, .int 25, .int 0, .null, .int 0, .int 1], vm := .none },
  { cls := 33, slots := #[.null, .int 26, .int 0, .null, .int 0, .int 1], vm := .none }]
def classes : Array Class := #[k0, k1, k2, k3, k4, k5, k6, k7, k8, k9, k10, k11, k12, k13, k14, k15, k16, k17, k18, k19, k20, k21, k22, k23, k24, k25, k26, k27, k28, k29, k30, k31, k32, k33, k34, k35, k36, k37, k38]
def interned : List (Array UInt16 × Addr) := []
def slotsUsed : Nat := 194
def theMethod : MethodId := ⟨1, 1⟩
def args0 : Array Value := #[.int 5, .int 3, .int 1]
def aboutOver (below : List Frame) : State where
  vm := { classes := classes, interned := interned.toArray }
  heap := heap
  slotsUsed := slotsUsed
  threads := #[{ frames := .invoking theMethod args0 :: below }]
def below0 : List Frame := [.native { method := ⟨0, 0⟩, args := #[] }]
def about1 : State := aboutOver below0
def p0 : Program := .bare "" "" ""
def e0 : Env := launch0.env 0 0 0
theorem w_frames : about1.frames = Frame.invoking theMethod args0 :: below0 := rfl
set_option maxRecDepth 65536 in
theorem w_args : argsFit about1.vm theMethod args0 = true := by decide +kernel
set_option maxRecDepth 65536 in
theorem w_heap : heapFits about1 = true := by decide +kernel
set_option maxRecDepth 65536 in
theorem w_runnable : about1.curStatus? = some .runnable := by decide +kernel
set_option maxRecDepth 65536 in
theorem w_alone : about1.alone = true := by decide +kernel
set_option maxRecDepth 65536 in
theorem w_named : about1.methodNamed? x = some theMethod := by decide +kernel
set_option maxRecDepth 65536 in
theorem w_hears : about1.hears theMethod below0 = true := by decide +kernel
set_option maxRecDepth 65536 in
theorem w_ripe : about1.ripe theMethod args0 below0 = true := by decide +kernel
theorem w_running : about1.status = .running := rfl
set_option maxRecDepth 65536 in
theorem w_room : about1.hasRoom e0.platform room_1 = true :=
  launch0.hasRoom_least _ room_1 (by decide +kernel) (by decide +kernel) (by decide +kernel) (by decide +kernel) (by decide +kernel) (by decide +kernel)
theorem allAtoms_all (ts : List Jvm.Cond) (a : Array Jvm.Value) (st : Jvm.State) : (allAtoms ts).before a st = ts.all (fun c => c.before a st) := by
  induction ts with
  | nil => rfl
  | cons c t ih =>
    show (Jvm.Cond.and c (allAtoms t)).before a st = _
    rw [Jvm.Cond.before_and, ih, List.all_cons]
def words1 : List Jvm.Cond := Jvm.Cond.code x code maxLocals ret :: tables_1
/-- a 'code' word, met by the world's own term for the bytes: nothing is compared byte by byte -/
theorem code_word {y : MethodName} {bytes : ByteArray} {mx : Nat} {rt : Option FieldType} {a : Array Value} {s : State} {m : MethodId} {meth : Method} {c : Code} (h1 : s.methodNamed? y = some m) (h2 : s.vm.method? m = some meth) (h3 : meth.code = some c) (h4 : c.code = bytes)
    (h5 : (c.maxLocals == mx && c.exceptionTable.isEmpty && decide (c.maxStack ≤ mostOperands) && decide (meth.sig.returnType = rt) && !meth.locks && decide (parseMethodDescriptor y.desc = some meth.sig)) = true) : (Jvm.Cond.code y bytes mx rt).before a s = true := by
  simp only [Bool.and_eq_true, beq_iff_eq, Bool.not_eq_true', decide_eq_true_eq] at h5
  obtain ⟨⟨⟨⟨⟨g1, g2⟩, g3⟩, g4⟩, g5⟩, g6⟩ := h5
  simp [Cond.before, Cond.holds, Cond.value, h1, h2, h3, h4, g1, g2, g3, g4, g5, g6]
def isCode : Jvm.Cond → Bool
  | .code _ _ _ _ => true
  | _ => false
theorem all_split {L : List Jvm.Cond} {P : Jvm.Cond → Bool} (h1 : L.all (fun c => isCode c || P c) = true) (h2 : ∀ c ∈ L.filter isCode, P c = true) : L.all P = true := by
  refine List.all_eq_true.mpr fun c hc => ?_
  have h := List.all_eq_true.mp h1 c hc
  rcases Bool.eq_false_or_eq_true (isCode c) with hi | hi
  · exact h2 c (List.mem_filter.mpr ⟨hc, hi⟩)
  · simpa [hi] using h
set_option maxRecDepth 65536 in
theorem w_c0 : (Jvm.Cond.code x code maxLocals ret).before args0 about1 = true := code_word (m := ⟨1, 1⟩) (meth := k1m1) (c := k1c1) (by decide +kernel) rfl rfl rfl (by decide +kernel)
set_option maxRecDepth 65536 in
theorem w_c1 : (Jvm.Cond.code ({ cls := "com/example/gatewright/gatewright/engine/XPathFunctionTakesPinLaw", name := "pick", desc := "(I)Lcom/example/gatewright/gatewright/engine/XPathFunction;" } : Jvm.MethodName) method_4_code (1 : Nat) (Option.some (Jvm.ClassFile.FieldType.object "com/example/gatewright/gatewright/engine/XPathFunction"))).before args0 about1 = true := code_word (m := ⟨1, 3⟩) (meth := k1m3) (c := k1c3) (by decide +kernel) rfl rfl rfl (by decide +kernel)
set_option maxRecDepth 65536 in
theorem w_c2 : (Jvm.Cond.code ({ cls := "com/example/gatewright/gatewright/engine/XPathFunction", name := "takes", desc := "(I)Z" } : Jvm.MethodName) prog_75_method_6_code (2 : Nat) (Option.some Jvm.ClassFile.FieldType.boolean)).before args0 about1 = true := code_word (m := ⟨6, 0⟩) (meth := k6m0) (c := k6c0) (by decide +kernel) rfl rfl rfl (by decide +kernel)
set_option maxRecDepth 65536 in
theorem w_c3 : (Jvm.Cond.code ({ cls := "com/example/gatewright/gatewright/engine/XPathFunctionTakesPinLaw", name := "expected", desc := "(II)Z" } : Jvm.MethodName) method_3_code (2 : Nat) (Option.some Jvm.ClassFile.FieldType.boolean)).before args0 about1 = true := code_word (m := ⟨1, 2⟩) (meth := k1m2) (c := k1c2) (by decide +kernel) rfl rfl rfl (by decide +kernel)
def codes1 : List Jvm.Cond := [Jvm.Cond.code x code maxLocals ret, Jvm.Cond.code ({ cls := "com/example/gatewright/gatewright/engine/XPathFunctionTakesPinLaw", name := "pick", desc := "(I)Lcom/example/gatewright/gatewright/engine/XPathFunction;" } : Jvm.MethodName) method_4_code (1 : Nat) (Option.some (Jvm.ClassFile.FieldType.object "com/example/gatewright/gatewright/engine/XPathFunction")), Jvm.Cond.code ({ cls := "com/example/gatewright/gatewright/engine/XPathFunction", name := "takes", desc := "(I)Z" } : Jvm.MethodName) prog_75_method_6_code (2 : Nat) (Option.some Jvm.ClassFile.FieldType.boolean), Jvm.Cond.code ({ cls := "com/example/gatewright/gatewright/engine/XPathFunctionTakesPinLaw", name := "expected", desc := "(II)Z" } : Jvm.MethodName) method_3_code (2 : Nat) (Option.some Jvm.ClassFile.FieldType.boolean)]
set_option maxRecDepth 65536 in
theorem codes_eq : words1.filter isCode = codes1 := rfl
theorem w_codes : ∀ c ∈ words1.filter isCode, c.before args0 about1 = true := by
  rw [codes_eq]
  intro c hc
  simp only [codes1, List.mem_cons, List.not_mem_nil, or_false] at hc
  rcases hc with rfl | rfl | rfl | rfl
  · exact w_c0
  · exact w_c1
  · exact w_c2
  · exact w_c3
set_option maxRecDepth 65536 in
theorem w_t1 : (words1.take 24).all (fun c => isCode c || c.before args0 about1) = true := by decide +kernel
set_option maxRecDepth 65536 in
theorem w_t2 : ((words1.drop 24).take 24).all (fun c => isCode c || c.before args0 about1) = true := by decide +kernel
set_option maxRecDepth 65536 in
theorem w_t3 : (((words1.drop 24).drop 24).take 24).all (fun c => isCode c || c.before args0 about1) = true := by decide +kernel
set_option maxRecDepth 65536 in
theorem w_t4 : ((((words1.drop 24).drop 24).drop 24).take 24).all (fun c => isCode c || c.before args0 about1) = true := by decide +kernel
set_option maxRecDepth 65536 in
theorem w_t5 : (((((words1.drop 24).drop 24).drop 24).drop 24).take 24).all (fun c => isCode c || c.before args0 about1) = true := by decide +kernel
set_option maxRecDepth 65536 in
theorem w_t6 : ((((((words1.drop 24).drop 24).drop 24).drop 24).drop 24).take 24).all (fun c => isCode c || c.before args0 about1) = true := by decide +kernel
set_option maxRecDepth 65536 in
theorem w_t7 : ((((((words1.drop 24).drop 24).drop 24).drop 24).drop 24).drop 24).all (fun c => isCode c || c.before args0 about1) = true := by decide +kernel
theorem w_tables : (allAtoms (Jvm.Cond.code x code maxLocals ret :: tables_1)).before args0 about1 = true := by
  rw [allAtoms_all]
  show words1.all (fun c => c.before args0 about1) = true
  refine all_split ?_ w_codes
  rw [← List.take_append_drop 24 words1, List.all_append, w_t1, ← List.take_append_drop 24 (words1.drop 24), List.all_append, w_t2, ← List.take_append_drop 24 ((words1.drop 24).drop 24), List.all_append, w_t3, ← List.take_append_drop 24 (((words1.drop 24).drop 24).drop 24), List.all_append, w_t4, ← List.take_append_drop 24 ((((words1.drop 24).drop 24).drop 24).drop 24), List.all_append, w_t5, ← List.take_append_drop 24 (((((words1.drop 24).drop 24).drop 24).drop 24).drop 24), List.all_append, w_t6, w_t7]
  rfl
set_option maxRecDepth 65536 in
theorem w_case : (Jvm.Cond.and given_1 narrow_1).before args0 about1 = true := by decide +kernel
theorem w_applies : (headSpec (Jvm.Cond.code x code maxLocals ret :: tables_1) room_1).applies x e0.platform about1 = true :=
  (Spec.applies_iff w_frames).mpr ⟨w_running, w_runnable, w_alone, w_named, w_hears, w_ripe, w_room, w_tables⟩
theorem atStart : AtStart classFile x code maxLocals ret World_1 tables_1 room_1 Calls_1 rest_1 Pre_1 launch0 p0 e0 about1 theMethod args0 below0 :=
  ⟨lists_1, trivial, launch0.admits_env _ _ _, launch0.least_env, fairChoices_fair.cas, fairChoices_fair.clock, w_frames, w_args, w_heap, w_applies, trivial, trivial, w_case⟩
end start1
theorem witness_1 : WitnessClaimed_1 := ⟨start1.p0, start1.e0, start1.about1, start1.theMethod, start1.args0, start1.below0, start1.atStart⟩
end Jvm.Pilot.@@N@@
