import JvmDerived
import JvmDerived.Pilot.@@N@@Statement
import JvmDerived.Pilot.@@N@@Code
set_option linter.unusedVariables false
set_option linter.unusedSimpArgs false
namespace Jvm.Pilot.@@N@@
open Jvm Jvm.ClassFile Sem Op Lib Jvm.Free Jvm.Stand Jvm.LawKit Jvm.RoadKit Bundle Jvm.Pilot.@@N@@.Jvm.D
/-! own layer: a walk in continuation style. own_Ends: from T with the frame g on top the run comes to an end of which G holds. -/
def own_Fin (below : List Frame) (s : State) (k n : Nat) (Q : Option Value → Heap → List Loc → Prop) (t : State) : Prop :=
  t.status = .running ∧ ∃ o, Ended t below o ∧ ∃ v L, o = .returned v ∧ Q v t.heap L ∧ FrameEnd s o t L k n
def own_Ends (p : Program) (e : Env) (below : List Frame) (G : State → Prop) (T : State) (g : JFrame) : Prop := ∃ t, Steps p.tables e below (T.setTop g) t ∧ G t
theorem own_via {p : Program} {e : Env} {below : List Frame} {G : State → Prop} {T T' : State} {g g' : JFrame} (h : ∀ t, Steps p.tables e below (T'.setTop g') t → Steps p.tables e below (T.setTop g) t) (k : own_Ends p e below G T' g') : own_Ends p e below G T g := by
  obtain ⟨t, a, b⟩ := k; exact ⟨t, h t a, b⟩
abbrev own_Con (l : Launch) (Z : State) (y : MethodName) (code : ByteArray) (ml : Nat) (ret : Option FieldType) (ws : List Jvm.Cond) (rm : Room) (as : Array Value) (h0 : Heap) (Q : Option Value → Heap → List Loc → Prop) : Prop :=
  MetFree l y (head1 (Jvm.Cond.code y code ml ret :: ws) rm) (fun a U => a = as ∧ Z.Warmed39 U.vm ∧ U.heap = h0) (fun _ _ _ _ _ => True) (fun _ U o U' => ∃ v L, o = .returned v ∧ Q v U'.heap L ∧ FrameEnd U o U' L rm.cells rm.slots)
theorem own_body {l : Launch} {Z : State} {y : MethodName} {code : ByteArray} {ml : Nat} {ret : Option FieldType} {ws : List Jvm.Cond} {rm : Room} {as : Array Value} {h0 : Heap} {Q : Option Value → Heap → List Loc → Prop} (hpl : plainFor y = true)
    (H : ∀ (p : Program) (e : Env) (s : State) (m : MethodId) (below : List Frame) (meth : Method) (c : Code) (T : State), p.tables.exec = Jvm.exec → c.code = code → c.maxLocals = ml → s.vm.findClass y.cls = some m.cls → meth.name = y.name → meth.sig.returnType = ret → meth.locks = false → Z.Warmed39 s.vm → Stand p l e rm s m as below meth c T [] 0 0 → T.heap = h0 → own_Ends p e below (own_Fin below s rm.cells rm.slots Q) T (entryFrame m as ml)) : own_Con l Z y code ml ret ws rm as h0 Q := by
  refine MetFree.of_bodySF hpl hisR ?_
  intro p e s m args below meth c s₁ Bd hml0 hP hK
  obtain ⟨rfl, hZ, hh⟩ := hP
  obtain ⟨t, h1, h2, o, h3, h4⟩ := H p e s m below meth c s₁ Bd.exec Bd.bytes hml0 (findClass_of_methodNamed Bd.named) (name_of_methodNamed Bd.named Bd.method).1 Bd.returns Bd.notSynchronized hZ (Stand.of_body Bd) (by rw [← hh, Bd.state]; rfl)
  exact ⟨t, o, h1, h2, h3, h4⟩
section OwnStand
variable {p : Program} {l : Launch} {e : Env} {R : Room} {s : State} {m : MethodId} {args : Array Value} {below : List Frame} {meth : Method} {c : Code} {T : State} {locs : List Loc} {cells slots : Nat} {Z : State} {a0 : Array Value} {h : Heap}
theorem own_leaf (X : Stand p l e R s m args below meth c T locs cells slots) (hlk : meth.locks = false) {v : Option Value} (hv : meth.sig.returnType = none → v = none) {g : JFrame} {k n : Nat} {Q : Option Value → Heap → List Loc → Prop}
    (hst : ∀ fs, (∀ (f : JFrame) (acts : List Action), f.method = m → f.locked = none → f.entered = [] → (doReturn e (T.setTop f) acts v).1 = T.setFrames fs) → Steps p.tables e below (T.setTop g) (T.setFrames fs))
    (hQ : Q v T.heap locs) (hk : cells ≤ k) (hn : slots ≤ n) : own_Ends p e below (own_Fin below s k n Q) T g := by
  obtain ⟨fs, hr, hrun, hended, hW, hsame⟩ := X.leave (v := v) hv hlk
  exact ⟨_, hst fs hr, hrun, _, hended, _, _, rfl, hQ, ⟨_, rfl⟩, hW, hsame.mono hk hn⟩
theorem own_retZ (X : Stand p l e R s m args below meth c T locs cells slots) (hx : p.tables.exec = Jvm.exec) (hret : meth.sig.returnType = some .boolean) (hlk : meth.locks = false) {pc : Nat} {Ls : Array Slot} {z : Int32} {rest : List Value} (hd : decode c.code pc = .ok (.ireturn, 1)) (hz : nar .boolean z = z) {k n : Nat} {Q : Option Value → Heap → List Loc → Prop}
    (hQ : Q (some (.int z)) T.heap locs) (hk : cells ≤ k) (hn : slots ≤ n) : own_Ends p e below (own_Fin below s k n Q) T (mkF m pc Ls (.int z :: rest)) :=
  own_leaf X hlk (fun h => by rw [hret] at h; cases h) (fun fs hl => retN X hx hret (by simp) hd (by rw [hz]; exact hl)) hQ hk hn
theorem own_retI (X : Stand p l e R s m args below meth c T locs cells slots) (hx : p.tables.exec = Jvm.exec) (hret : meth.sig.returnType = some .int) (hlk : meth.locks = false) {pc : Nat} {Ls : Array Slot} {z : Int32} {rest : List Value} (hd : decode c.code pc = .ok (.ireturn, 1)) {k n : Nat} {Q : Option Value → Heap → List Loc → Prop}
    (hQ : Q (some (.int z)) T.heap locs) (hk : cells ≤ k) (hn : slots ≤ n) : own_Ends p e below (own_Fin below s k n Q) T (mkF m pc Ls (.int z :: rest)) :=
  own_leaf X hlk (fun h => by rw [hret] at h; cases h) (fun fs hl => retOut X hx hret rfl (Or.inl ⟨rfl, Or.inl rfl, z, rfl⟩) hd hl) hQ hk hn
theorem own_retJ (X : Stand p l e R s m args below meth c T locs cells slots) (hx : p.tables.exec = Jvm.exec) (hret : meth.sig.returnType = some .long) (hlk : meth.locks = false) {pc : Nat} {Ls : Array Slot} {z : Int64} {rest : List Value} (hd : decode c.code pc = .ok (.lreturn, 1)) {k n : Nat} {Q : Option Value → Heap → List Loc → Prop}
    (hQ : Q (some (.long z)) T.heap locs) (hk : cells ≤ k) (hn : slots ≤ n) : own_Ends p e below (own_Fin below s k n Q) T (mkF m pc Ls (.long z :: rest)) :=
  own_leaf X hlk (fun h => by rw [hret] at h; cases h) (fun fs hl => retOut X hx hret rfl (Or.inr (Or.inl ⟨rfl, rfl, z, rfl⟩)) hd hl) hQ hk hn
theorem own_retA (X : Stand p l e R s m args below meth c T locs cells slots) (hx : p.tables.exec = Jvm.exec) {t : FieldType} (hret : meth.sig.returnType = some t) (ht : t.isReference = true) (hlk : meth.locks = false) {pc : Nat} {Ls : Array Slot} {z : Value} (hz : z.isRef = true) (hn' : narrow t z = z) {rest : List Value} (hd : decode c.code pc = .ok (.areturn, 1)) {k n : Nat} {Q : Option Value → Heap → List Loc → Prop}
    (hQ : Q (some z) T.heap locs) (hk : cells ≤ k) (hn : slots ≤ n) : own_Ends p e below (own_Fin below s k n Q) T (mkF m pc Ls (z :: rest)) :=
  own_leaf X hlk (fun h => by rw [hret] at h; cases h) (fun fs hl => retOut X hx hret hn' (Or.inr (Or.inr (Or.inr (Or.inr ⟨rfl, ht, hz⟩)))) hd hl) hQ hk hn
theorem own_retV (X : Stand p l e R s m args below meth c T locs cells slots) (hx : p.tables.exec = Jvm.exec) (hret : meth.sig.returnType = none) (hlk : meth.locks = false) {pc : Nat} {Ls : Array Slot} (hd : decode c.code pc = .ok (.return_, 1)) {k n : Nat} {Q : Option Value → Heap → List Loc → Prop}
    (hQ : Q none T.heap locs) (hk : cells ≤ k) (hn : slots ≤ n) : own_Ends p e below (own_Fin below s k n Q) T (mkF m pc Ls []) :=
  own_leaf X hlk (fun _ => rfl) (fun fs hl => X.returnOut hx hret hd hl) hQ hk hn
theorem own_callS (X : Stand p l e R s m args below meth c T locs cells slots) (hx : p.tables.exec = Jvm.exec) (hZ : Z.Warmed39 s.vm) {own : String} {index : Nat} {y : MethodName} {bytes : ByteArray} {ml : Nat} {ret : Option FieldType} {rm : Room} {Q : Option Value → Heap → List Loc → Prop} {W : Nat} (hown : s.vm.findClass own = some m.cls)
    (w1 : (Jvm.Cond.methodLink own index y).before a0 Z = true) (w2 : (Jvm.Cond.static y).before a0 Z = true) (w3 : (Jvm.Cond.initialized y.cls).before a0 Z = true) (w4 : (Jvm.Cond.code y bytes ml ret).before a0 Z = true) (hy : y.cls ≠ "java/lang/invoke/MethodHandle" ∧ y.cls ≠ "java/lang/invoke/VarHandle") {argsL rest : List Value}
    (hM : own_Con l Z y bytes ml ret [] rm argsL.toArray h Q) (hf : rm.frames + 1 ≤ R.frames) (hl : W + (ml + 11) + rm.locals ≤ R.locals) (hc : cells + rm.cells ≤ R.cells) (hn : slots + rm.slots ≤ R.slots) (eT : T.heap = h)
    {g : JFrame} (hg : g.method = m) (hsize : g.locals.size = c.maxLocals) (hlen : ∀ sig, parseMethodDescriptor y.desc = some sig → argsL.length = sig.parameters.length) (hstack : g.stack = argsL.reverse ++ rest) (hW : 2 * g.monitorRoom + (rest.map fun v => v.category).sum ≤ W) (hd : decode c.code g.pc = .ok (.invokestatic index, 3)) :
    ∃ v T' L, Stand p l e R s m args below meth c T' (locs ++ L) (cells + rm.cells) (slots + rm.slots) ∧ Q v T'.heap L ∧ ∀ t, Steps p.tables e below (T'.setTop { g with pc := g.pc + 3, stack := v.toList ++ rest }) t → Steps p.tables e below (T.setTop g) t := by
  obtain ⟨v, vm₁, ⟨T', L', k', n'⟩, -, X', ⟨L, hQ, e1, e2, e3⟩, st⟩ := Jvm.LawKit.callS X hx (y := y) hown (mvT hZ w1) (mvT hZ w2) (mvT hZ w3) (mvT hZ w4) hy (backOf (W := W) hM hZ w4 w3 hf hl) hg hsize (argsL := argsL) (rest := rest) hlen hstack hW hd (fun _ _ => ⟨rfl, eT, hc, hn⟩)
  dsimp only [Pt.U, Pt.locs, Pt.cells, Pt.slots] at X' e1 e2 e3 st hQ
  subst e1 e2 e3
  exact ⟨v, T', L, X', hQ, st⟩
theorem own_callV (X : Stand p l e R s m args below meth c T locs cells slots) (hx : p.tables.exec = Jvm.exec) (hZ : Z.Warmed39 s.vm) {own C : String} {index : Nat} {y z : MethodName} {bytes : ByteArray} {ml : Nat} {ret : Option FieldType} {rm : Room} {Q : Option Value → Heap → List Loc → Prop} {W : Nat} (hown : s.vm.findClass own = some m.cls)
    (w1 : (Jvm.Cond.methodLink own index y).before a0 Z = true) (w2 : (Jvm.Cond.declares y).before a0 Z = true) (nf : NotFace s y) (w3 : (Jvm.Cond.selects C y z).before a0 Z = true) (w4 : (Jvm.Cond.instanceMethod z).before a0 Z = true) (wz : (Jvm.Cond.initialized z.cls).before a0 Z = true) (wc : (Jvm.Cond.code z bytes ml ret).before a0 Z = true) (hy : y.cls ≠ "java/lang/invoke/MethodHandle" ∧ y.cls ≠ "java/lang/invoke/VarHandle") {b : Addr} {argsL rest : List Value}
    (hM : own_Con l Z z bytes ml ret [] rm (.ref b :: argsL).toArray h Q) (hf : rm.frames + 1 ≤ R.frames) (hl : W + (ml + 11) + rm.locals ≤ R.locals) (hc : cells + rm.cells ≤ R.cells) (hn : slots + rm.slots ≤ R.slots) (eT : T.heap = h) (E : Exa Z h b C)
    {g : JFrame} (hg : g.method = m) (hsize : g.locals.size = c.maxLocals) (hlen : ∀ sig, parseMethodDescriptor y.desc = some sig → argsL.length = sig.parameters.length) (hstack : g.stack = argsL.reverse ++ .ref b :: rest) (hW : 2 * g.monitorRoom + (rest.map fun v => v.category).sum ≤ W) (hd : decode c.code g.pc = .ok (.invokevirtual index, 3)) :
    ∃ v T' L, Stand p l e R s m args below meth c T' (locs ++ L) (cells + rm.cells) (slots + rm.slots) ∧ Q v T'.heap L ∧ ∀ t, Steps p.tables e below (T'.setTop { g with pc := g.pc + 3, stack := v.toList ++ rest }) t → Steps p.tables e below (T.setTop g) t := by
  obtain ⟨cq, kq, q1, q2, q3⟩ := isOf hZ eT E
  obtain ⟨v, vm₁, ⟨T', L', k', n'⟩, -, X', ⟨L, hQ, e1, e2, e3⟩, st⟩ := X.virtualBack hx (y := y) (z := z) hown (mvT hZ w1) (mvT hZ w2) nf (mvT hZ w3) (mvT hZ w4) hy (backOf (W := W) hM hZ wc wz hf hl) q1 q3 hg hsize (Steps.refl _) (argsL := argsL) (rest := rest) hlen hstack hW hd (fun _ _ => ⟨rfl, eT, hc, hn⟩)
  dsimp only [Pt.U, Pt.locs, Pt.cells, Pt.slots] at X' e1 e2 e3 st hQ
  subst e1 e2 e3
  exact ⟨v, T', L, X', hQ, fun t k => st.trans k⟩
theorem own_callI (X : Stand p l e R s m args below meth c T locs cells slots) (hx : p.tables.exec = Jvm.exec) (hZ : Z.Warmed39 s.vm) {own : String} {index : Nat} {y : MethodName} (hy1 : y.name = "<init>") {bytes : ByteArray} {ml : Nat} {rm : Room} {Q : Option Value → Heap → List Loc → Prop} {W : Nat} (hown : s.vm.findClass own = some m.cls)
    (w1 : (Jvm.Cond.methodLink own index y).before a0 Z = true) (w2 : (Jvm.Cond.instanceMethod y).before a0 Z = true) (wz : (Jvm.Cond.initialized y.cls).before a0 Z = true) (wc : (Jvm.Cond.code y bytes ml none).before a0 Z = true) (hy : y.cls ≠ "java/lang/invoke/MethodHandle" ∧ y.cls ≠ "java/lang/invoke/VarHandle") {b : Addr} {argsL rest : List Value}
    (hM : own_Con l Z y bytes ml none [] rm (.ref b :: argsL).toArray h Q) (hf : rm.frames + 1 ≤ R.frames) (hl : W + (ml + 11) + rm.locals ≤ R.locals) (hc : cells + rm.cells ≤ R.cells) (hn : slots + rm.slots ≤ R.slots) (eT : T.heap = h)
    {g : JFrame} (hg : g.method = m) (hsize : g.locals.size = c.maxLocals) (hlen : ∀ sig, parseMethodDescriptor y.desc = some sig → argsL.length = sig.parameters.length) (hstack : g.stack = argsL.reverse ++ .ref b :: rest) (hW : 2 * g.monitorRoom + (rest.map fun v => v.category).sum ≤ W) (hd : decode c.code g.pc = .ok (.invokespecial index, 3)) :
    ∃ v T' L, Stand p l e R s m args below meth c T' (locs ++ L) (cells + rm.cells) (slots + rm.slots) ∧ Q v T'.heap L ∧ ∀ t, Steps p.tables e below (T'.setTop { g with pc := g.pc + 3, stack := v.toList ++ rest }) t → Steps p.tables e below (T.setTop g) t := by
  obtain ⟨v, vm₁, ⟨T', L', k', n'⟩, -, X', ⟨L, hQ, e1, e2, e3⟩, st⟩ := X.specialBack hx (y := y) hy1 hown (mvT hZ w1) (mvT hZ w2) (mvT hZ wc) hy (backOf (W := W) hM hZ wc wz hf hl) hg hsize (Steps.refl _) (a := b) (argsL := argsL) (rest := rest) hlen hstack hW hd (fun _ _ => ⟨rfl, eT, hc, hn⟩)
  dsimp only [Pt.U, Pt.locs, Pt.cells, Pt.slots] at X' e1 e2 e3 st hQ
  subst e1 e2 e3
  exact ⟨v, T', L, X', hQ, fun t k => st.trans k⟩
theorem own_callU (X : Stand p l e R s m args below meth c T locs cells slots) (hx : p.tables.exec = Jvm.exec) (hZ : Z.Warmed39 s.vm) {own C owner : String} {index : Nat} {y z : MethodName} {bytes : ByteArray} {ml : Nat} {ret : Option FieldType} {rm : Room} {Q : Option Value → Heap → List Loc → Prop} {W : Nat} (hown : s.vm.findClass own = some m.cls)
    (w1 : (Jvm.Cond.methodLink own index y).before a0 Z = true) (w2 : (Jvm.Cond.sameMethod y.cls owner y.name y.desc).before a0 Z = true) (w2' : (Jvm.Cond.declares ⟨owner, y.name, y.desc⟩).before a0 Z = true) (w3 : (Jvm.Cond.selects C y z).before a0 Z = true) (w4 : (Jvm.Cond.instanceMethod z).before a0 Z = true) (wz : (Jvm.Cond.initialized z.cls).before a0 Z = true) (wc : (Jvm.Cond.code z bytes ml ret).before a0 Z = true) (hy : owner ≠ "java/lang/invoke/MethodHandle" ∧ owner ≠ "java/lang/invoke/VarHandle") {b : Addr} {argsL rest : List Value}
    (hM : own_Con l Z z bytes ml ret [] rm (.ref b :: argsL).toArray h Q) (hf : rm.frames + 1 ≤ R.frames) (hl : W + (ml + 11) + rm.locals ≤ R.locals) (hc : cells + rm.cells ≤ R.cells) (hn : slots + rm.slots ≤ R.slots) (eT : T.heap = h) (E : Exa Z h b C)
    {g : JFrame} (hg : g.method = m) (hsize : g.locals.size = c.maxLocals) (hlen : ∀ sig, parseMethodDescriptor y.desc = some sig → argsL.length = sig.parameters.length) (hstack : g.stack = argsL.reverse ++ .ref b :: rest) (hW : 2 * g.monitorRoom + (rest.map fun v => v.category).sum ≤ W) (hd : decode c.code g.pc = .ok (.invokevirtual index, 3)) :
    ∃ v T' L, Stand p l e R s m args below meth c T' (locs ++ L) (cells + rm.cells) (slots + rm.slots) ∧ Q v T'.heap L ∧ ∀ t, Steps p.tables e below (T'.setTop { g with pc := g.pc + 3, stack := v.toList ++ rest }) t → Steps p.tables e below (T.setTop g) t := by
  obtain ⟨cq, kq, q1, q2, q3⟩ := isOf hZ eT E
  obtain ⟨v, vm₁, ⟨T', L', k', n'⟩, -, X', ⟨L, hQ, e1, e2, e3⟩, st⟩ := X.virtualBackUp hx (x := y) (y := z) hown (mvT hZ w1) (mvT hZ w2) (mvT hZ w2') hy (mvT hZ w3) (mvT hZ w4) (backOf (W := W) hM hZ wc wz hf hl) q1 q3 hg hsize (Steps.refl _) (argsL := argsL) (rest := rest) hlen hstack hW hd (fun _ _ => ⟨rfl, eT, hc, hn⟩)
  dsimp only [Pt.U, Pt.locs, Pt.cells, Pt.slots] at X' e1 e2 e3 st hQ
  subst e1 e2 e3
  exact ⟨v, T', L, X', hQ, fun t k => st.trans k⟩
/-- a callee that writes nothing and makes nothing: it returns r -/
abbrev own_Pure (l : Launch) (Z : State) (y : MethodName) (code : ByteArray) (ml : Nat) (ret : Option FieldType) (ws : List Jvm.Cond) (rm : Room) (as : Array Value) (h0 : Heap) (r : Option Value) : Prop := own_Con l Z y code ml ret ws rm as h0 (fun v h L => v = r ∧ L = [] ∧ h = h0)
theorem own_pure {c0 : Code} {T' : State} {v r : Option Value} {L : List Loc} {kc ks : Nat} (X : Stand p l e R s m args below meth c0 T' (locs ++ L) (cells + kc) (slots + ks)) (h1 : kc = 0) (h2 : ks = 0) (hL : L = []) : Stand p l e R s m args below meth c0 T' locs cells slots := by
  subst h1 h2 hL; rw [List.append_nil] at X; exact X
end OwnStand
theorem own_stat {s : State} {args : Array Value} {C C' f d : String} (hx : (Jvm.Cond.exactly (.static C f d) C').value args s none s [] = some true) (wi : (Jvm.Cond.initialized C).before args s = true) (wl : (Jvm.Cond.laysStatic C f d).before args s = true) :
    ∃ x, (Term.static C f d).eval args s none [] s = some (.ref x) ∧ Sta s s.heap C f d (.ref x) ∧ Exa s s.heap x C' := by
  obtain ⟨x, ev⟩ := exa_v hx
  exact ⟨x, ev, Sta.start ev (Or.inr ⟨wi, wl⟩), Exa.start ev hx⟩
theorem own_ord {s : State} {args : Array Value} {t : Term} {x : Addr} {C n d : String} {k : Int32} (ev : t.eval args s none [] s = some (.ref x)) (hk : (Jvm.Cond.eq (.field t C n d) (.int k)).value args s none s [] = some true) : Fld s s.heap x C n d (.int k) := by
  refine Fld.start ((fld_at ev).symm.trans ?_)
  obtain ⟨u, v, h1, h2, -, h4⟩ := cmp_v (Or.inl hk)
  obtain rfl : v = .int k := (Option.some.inj ((Term.int_eval k).symm.trans h2)).symm
  obtain ⟨z, rfl⟩ := h4
  simp [Cond.value, h1, h2] at hk
  subst hk
  exact h1
theorem own_ne {x y : Nat} (h : x < y ∨ y < x) : x ≠ y := by omega
theorem own_nat {y : Int32} {c : Nat} (h0 : 0 ≤ y.toInt) (h1 : y.toInt < c) : ∃ n : Nat, n < c ∧ y = Int32.ofNat n := by
  have := y.toInt_lt
  exact ⟨y.toInt.toNat, by omega, Int32.toInt_inj.mp (by rw [toInt_of (c := y.toInt.toNat) rfl (by omega)]; omega)⟩
theorem own_ofNat {n : Nat} (h : n < 2 ^ 31) : (Int32.ofNat n).toInt = n := toInt_of rfl h

def own_Ax (Z : State) (h : Heap) (b : Nat → Addr) : Prop := Sta Z h "com/example/treadle/treadle/xpath/Axis" "CHILD" "Lcom/example/treadle/treadle/xpath/Axis;" (.ref (b 0)) ∧ Sta Z h "com/example/treadle/treadle/xpath/Axis" "DESCENDANT" "Lcom/example/treadle/treadle/xpath/Axis;" (.ref (b 1)) ∧ Sta Z h "com/example/treadle/treadle/xpath/Axis" "ATTRIBUTE" "Lcom/example/treadle/treadle/xpath/Axis;" (.ref (b 2)) ∧ Sta Z h "com/example/treadle/treadle/xpath/Axis" "SELF" "Lcom/example/treadle/treadle/xpath/Axis;" (.ref (b 3)) ∧ Sta Z h "com/example/treadle/treadle/xpath/Axis" "DESCENDANT_OR_SELF" "Lcom/example/treadle/treadle/xpath/Axis;" (.ref (b 4)) ∧ Sta Z h "com/example/treadle/treadle/xpath/Axis" "FOLLOWING_SIBLING" "Lcom/example/treadle/treadle/xpath/Axis;" (.ref (b 5)) ∧ Sta Z h "com/example/treadle/treadle/xpath/Axis" "FOLLOWING" "Lcom/example/treadle/treadle/xpath/Axis;" (.ref (b 6)) ∧ Sta Z h "com/example/treadle/treadle/xpath/Axis" "NAMESPACE" "Lcom/example/treadle/treadle/xpath/Axis;" (.ref (b 7)) ∧ Sta Z h "com/example/treadle/treadle/xpath/Axis" "PARENT" "Lcom/example/treadle/treadle/xpath/Axis;" (.ref (b 8)) ∧ Sta Z h "com/example/treadle/treadle/xpath/Axis" "ANCESTOR" "Lcom/example/treadle/treadle/xpath/Axis;" (.ref (b 9)) ∧ Sta Z h "com/example/treadle/treadle/xpath/Axis" "PRECEDING_SIBLING" "Lcom/example/treadle/treadle/xpath/Axis;" (.ref (b 10)) ∧ Sta Z h "com/example/treadle/treadle/xpath/Axis" "PRECEDING" "Lcom/example/treadle/treadle/xpath/Axis;" (.ref (b 11)) ∧ Sta Z h "com/example/treadle/treadle/xpath/Axis" "ANCESTOR_OR_SELF" "Lcom/example/treadle/treadle/xpath/Axis;" (.ref (b 12))
def own_pick (b : Nat → Addr) (x : Int32) : Addr := if x = 0 then b 0 else if x = 1 then b 1 else if x = 2 then b 2 else if x = 3 then b 3 else if x = 4 then b 4 else if x = 5 then b 5 else if x = 6 then b 6 else if x = 7 then b 7 else if x = 8 then b 8 else if x = 9 then b 9 else if x = 10 then b 10 else if x = 11 then b 11 else b 12
def own_rv (b : Nat → Addr) (r : Addr) : Int32 := if r = b 8 then 1 else if r = b 9 then 1 else if r = b 12 then 1 else if r = b 10 then 1 else if r = b 11 then 1 else 0
theorem own_pickn (b : Nat → Addr) : ∀ n, n < 13 → own_pick b (Int32.ofNat n) = b n
  | 0, _ => rfl
  | 1, _ => rfl
  | 2, _ => rfl
  | 3, _ => rfl
  | 4, _ => rfl
  | 5, _ => rfl
  | 6, _ => rfl
  | 7, _ => rfl
  | 8, _ => rfl
  | 9, _ => rfl
  | 10, _ => rfl
  | 11, _ => rfl
  | 12, _ => rfl
  | n + 13, h => absurd h (by omega)
theorem own_inj {i j : Nat} (hi : i < 13) (hj : j < 13) (e : Int32.ofNat i = Int32.ofNat j) : i = j := by
  have h1 := own_ofNat (n := i) (by omega)
  rw [e, own_ofNat (by omega)] at h1
  omega
def own_Dis (b : Nat → Addr) : Prop := ∀ i j, i < 13 → j < 13 → b i = b j → i = j
theorem own_rv0 {b : Nat → Addr} (D : own_Dis b) {n : Nat} (hn : n < 8) : own_rv b (b n) = 0 := by
  have q : ∀ j, j < 13 → j ≠ n → ¬ b n = b j := fun j hj hne e => hne (D n j (by omega) hj e).symm
  rw [own_rv, if_neg (q 8 (by omega) (by omega)), if_neg (q 9 (by omega) (by omega)), if_neg (q 12 (by omega) (by omega)), if_neg (q 10 (by omega) (by omega)), if_neg (q 11 (by omega) (by omega))]
theorem own_rv1 {b : Nat → Addr} {n : Nat} (h8 : 8 ≤ n) (hn : n < 13) : own_rv b (b n) = 1 := by
  have h : n = 8 ∨ n = 9 ∨ n = 10 ∨ n = 11 ∨ n = 12 := by omega
  rcases h with rfl | rfl | rfl | rfl | rfl <;> simp [own_rv]
theorem own_lt8 {n : Nat} (hn : n < 13) : Int32.ofNat n < 8 ↔ n < 8 := by
  rw [Int32.lt_iff_toInt_lt, own_ofNat (by omega)]
  show (n : Int) < 8 ↔ _
  omega
theorem pd_0 : parseMethodDescriptor "(I)Lcom/example/treadle/treadle/xpath/Axis;" = some ⟨[.int], some (.object "com/example/treadle/treadle/xpath/Axis")⟩ := by decide +kernel
theorem pd_1 : parseMethodDescriptor "()Z" = some ⟨[], some .boolean⟩ := by decide +kernel
theorem d1_0 : decode method_2_code 0 = .ok (.iload_n 0, 1) := by decide +kernel
theorem d1_1 : decode method_2_code 1 = .ok (.ifCond .ne 7, 3) := by decide +kernel
theorem d1_4 : decode method_2_code 4 = .ok (.getstatic 7, 3) := by decide +kernel
theorem d1_7 : decode method_2_code 7 = .ok (.areturn, 1) := by decide +kernel
theorem d1_8 : decode method_2_code 8 = .ok (.iload_n 0, 1) := by decide +kernel
theorem d1_9 : decode method_2_code 9 = .ok (.iconst 1, 1) := by decide +kernel
theorem d1_10 : decode method_2_code 10 = .ok (.if_icmp .ne 7, 3) := by decide +kernel
theorem d1_13 : decode method_2_code 13 = .ok (.getstatic 13, 3) := by decide +kernel
theorem d1_16 : decode method_2_code 16 = .ok (.areturn, 1) := by decide +kernel
theorem d1_17 : decode method_2_code 17 = .ok (.iload_n 0, 1) := by decide +kernel
theorem d1_18 : decode method_2_code 18 = .ok (.iconst 2, 1) := by decide +kernel
theorem d1_19 : decode method_2_code 19 = .ok (.if_icmp .ne 7, 3) := by decide +kernel
theorem d1_22 : decode method_2_code 22 = .ok (.getstatic 16, 3) := by decide +kernel
theorem d1_25 : decode method_2_code 25 = .ok (.areturn, 1) := by decide +kernel
theorem d1_26 : decode method_2_code 26 = .ok (.iload_n 0, 1) := by decide +kernel
theorem d1_27 : decode method_2_code 27 = .ok (.iconst 3, 1) := by decide +kernel
theorem d1_28 : decode method_2_code 28 = .ok (.if_icmp .ne 7, 3) := by decide +kernel
theorem d1_31 : decode method_2_code 31 = .ok (.getstatic 19, 3) := by decide +kernel
theorem d1_34 : decode method_2_code 34 = .ok (.areturn, 1) := by decide +kernel
theorem d1_35 : decode method_2_code 35 = .ok (.iload_n 0, 1) := by decide +kernel
theorem d1_36 : decode method_2_code 36 = .ok (.iconst 4, 1) := by decide +kernel
theorem d1_37 : decode method_2_code 37 = .ok (.if_icmp .ne 7, 3) := by decide +kernel
theorem d1_40 : decode method_2_code 40 = .ok (.getstatic 22, 3) := by decide +kernel
theorem d1_43 : decode method_2_code 43 = .ok (.areturn, 1) := by decide +kernel
theorem d1_44 : decode method_2_code 44 = .ok (.iload_n 0, 1) := by decide +kernel
theorem d1_45 : decode method_2_code 45 = .ok (.iconst 5, 1) := by decide +kernel
theorem d1_46 : decode method_2_code 46 = .ok (.if_icmp .ne 7, 3) := by decide +kernel
theorem d1_49 : decode method_2_code 49 = .ok (.getstatic 25, 3) := by decide +kernel
theorem d1_52 : decode method_2_code 52 = .ok (.areturn, 1) := by decide +kernel
theorem d1_53 : decode method_2_code 53 = .ok (.iload_n 0, 1) := by decide +kernel
theorem d1_54 : decode method_2_code 54 = .ok (.bipush 6, 2) := by decide +kernel
theorem d1_56 : decode method_2_code 56 = .ok (.if_icmp .ne 7, 3) := by decide +kernel
theorem d1_59 : decode method_2_code 59 = .ok (.getstatic 28, 3) := by decide +kernel
theorem d1_62 : decode method_2_code 62 = .ok (.areturn, 1) := by decide +kernel
theorem d1_63 : decode method_2_code 63 = .ok (.iload_n 0, 1) := by decide +kernel
theorem d1_64 : decode method_2_code 64 = .ok (.bipush 7, 2) := by decide +kernel
theorem d1_66 : decode method_2_code 66 = .ok (.if_icmp .ne 7, 3) := by decide +kernel
theorem d1_69 : decode method_2_code 69 = .ok (.getstatic 31, 3) := by decide +kernel
theorem d1_72 : decode method_2_code 72 = .ok (.areturn, 1) := by decide +kernel
theorem d1_73 : decode method_2_code 73 = .ok (.iload_n 0, 1) := by decide +kernel
theorem d1_74 : decode method_2_code 74 = .ok (.bipush 8, 2) := by decide +kernel
theorem d1_76 : decode method_2_code 76 = .ok (.if_icmp .ne 7, 3) := by decide +kernel
theorem d1_79 : decode method_2_code 79 = .ok (.getstatic 34, 3) := by decide +kernel
theorem d1_82 : decode method_2_code 82 = .ok (.areturn, 1) := by decide +kernel
theorem d1_83 : decode method_2_code 83 = .ok (.iload_n 0, 1) := by decide +kernel
theorem d1_84 : decode method_2_code 84 = .ok (.bipush 9, 2) := by decide +kernel
theorem d1_86 : decode method_2_code 86 = .ok (.if_icmp .ne 7, 3) := by decide +kernel
theorem d1_89 : decode method_2_code 89 = .ok (.getstatic 37, 3) := by decide +kernel
theorem d1_92 : decode method_2_code 92 = .ok (.areturn, 1) := by decide +kernel
theorem d1_93 : decode method_2_code 93 = .ok (.iload_n 0, 1) := by decide +kernel
theorem d1_94 : decode method_2_code 94 = .ok (.bipush 10, 2) := by decide +kernel
theorem d1_96 : decode method_2_code 96 = .ok (.if_icmp .ne 7, 3) := by decide +kernel
theorem d1_99 : decode method_2_code 99 = .ok (.getstatic 40, 3) := by decide +kernel
theorem d1_102 : decode method_2_code 102 = .ok (.areturn, 1) := by decide +kernel
theorem d1_103 : decode method_2_code 103 = .ok (.iload_n 0, 1) := by decide +kernel
theorem d1_104 : decode method_2_code 104 = .ok (.bipush 11, 2) := by decide +kernel
theorem d1_106 : decode method_2_code 106 = .ok (.if_icmp .ne 7, 3) := by decide +kernel
theorem d1_109 : decode method_2_code 109 = .ok (.getstatic 43, 3) := by decide +kernel
theorem d1_112 : decode method_2_code 112 = .ok (.areturn, 1) := by decide +kernel
theorem d1_113 : decode method_2_code 113 = .ok (.getstatic 46, 3) := by decide +kernel
theorem d1_116 : decode method_2_code 116 = .ok (.areturn, 1) := by decide +kernel
theorem pn_1 : plainName "com/example/treadle/treadle/xpath/AxisIsReversePinLaw" = true := by first | (simp [plainName, overriddenIn]; done) | decide +kernel
theorem ef_1 (m : MethodId) (x0 : Int32) : entryFrame m #[(.int x0)] 1 = mkF m 0 #[.val (.int x0)] [] := by first | (simp [entryFrame, mkF, argsToLocals, Value.category]; done) | rfl
set_option maxRecDepth 65536 in
set_option maxHeartbeats 40000000 in
theorem rm1 (l : Launch) (Z : State) (a0 : Array Value) (hw : ∀ d ∈ tables_1, d.before a0 Z = true) (ws : List Jvm.Cond) (p1 : Int32) (h0 : Heap) (b : Nat → Addr) (S : own_Ax Z h0 b) :
    own_Pure l Z (⟨"com/example/treadle/treadle/xpath/AxisIsReversePinLaw", "axis", "(I)Lcom/example/treadle/treadle/xpath/Axis;"⟩ : MethodName) method_2_code 1 (some (.object "com/example/treadle/treadle/xpath/Axis")) ws ({ frames := 0, cells := 0, slots := 0, locals := 0 } : Room) #[(.int p1)] h0 (some (.ref (own_pick b p1))) := by
  obtain ⟨S0, S1, S2, S3, S4, S5, S6, S7, S8, S9, S10, S11, S12⟩ := S
  refine own_body (plainFor_of_name pn_1) ?_
  intro p e s m below meth c T0 hx hby hml hown hnm hret hlk hZ X0 e0
  replace hown : s.vm.findClass "com/example/treadle/treadle/xpath/AxisIsReversePinLaw" = some m.cls := hown
  replace hret : meth.sig.returnType = (some (.object "com/example/treadle/treadle/xpath/Axis")) := hret
  replace hnm : meth.name = "axis" := hnm
  rw [ef_1 m p1]
  refine own_via (T' := T0) (g' := (mkF m 1 #[.val (.int p1)] [(.int p1)])) (fun _ kt => XS.iloadN X0.here hx rfl (hb hby d1_0) rfl kt) ?_
  by_cases hc1_1 : p1 = (0 : Int32)
  · refine own_via (T' := T0) (g' := (mkF m 4 #[.val (.int p1)] [])) (fun _ kt => XS.ifNo X0.here hx rfl (hb hby d1_1) rfl ((if0 _ _).trans (teq hc1_1).2) kt) ?_
    obtain ⟨T2, X2, e2, st2⟩ := getS2 X0 hx hZ hown (host := "") (Or.inl (hw _ (List.mem_of_getElem? (i := 5) rfl))) Via.refl e0 S0 (g := (mkF m 4 #[.val (.int p1)] [])) rfl (hb hby d1_4)
    refine own_via (T' := T2) (g' := (mkF m 7 #[.val (.int p1)] [(.ref (b 0))])) (fun _ kt => st2 _ kt) ?_
    exact own_retA X2 hx hret rfl hlk rfl rfl (hb hby d1_7) ⟨by rw [own_pick, if_pos hc1_1], rfl, e2⟩ (by decide) (by decide)
  · refine own_via (T' := T0) (g' := (mkF m 8 #[.val (.int p1)] [])) (fun _ kt => XS.ifYes X0.here hx rfl (pc0 := 1) (pc' := 8) rfl (hb hby d1_1) rfl ((if0 _ _).trans (feq hc1_1).2) (by decide) (by decide) kt) ?_
    refine own_via (T' := T0) (g' := (mkF m 9 #[.val (.int p1)] [(.int p1)])) (fun _ kt => XS.iloadN X0.here hx rfl (hb hby d1_8) rfl kt) ?_
    refine own_via (T' := T0) (g' := (mkF m 10 #[.val (.int p1)] [(.int (1 : Int32)), (.int p1)])) (fun _ kt => XS.iconst X0.here hx rfl (hb hby d1_9) kt) ?_
    by_cases hc10_3 : p1 = (1 : Int32)
    · refine own_via (T' := T0) (g' := (mkF m 13 #[.val (.int p1)] [])) (fun _ kt => XS.icmpNo X0.here hx rfl (hb hby d1_10) rfl (teq hc10_3).2 kt) ?_
      obtain ⟨T4, X4, e4, st4⟩ := getS2 X0 hx hZ hown (host := "") (Or.inl (hw _ (List.mem_of_getElem? (i := 35) rfl))) Via.refl e0 S1 (g := (mkF m 13 #[.val (.int p1)] [])) rfl (hb hby d1_13)
      refine own_via (T' := T4) (g' := (mkF m 16 #[.val (.int p1)] [(.ref (b 1))])) (fun _ kt => st4 _ kt) ?_
      exact own_retA X4 hx hret rfl hlk rfl rfl (hb hby d1_16) ⟨by rw [own_pick, if_neg hc1_1, if_pos hc10_3], rfl, e4⟩ (by decide) (by decide)
    · refine own_via (T' := T0) (g' := (mkF m 17 #[.val (.int p1)] [])) (fun _ kt => XS.icmpYes X0.here hx rfl (pc0 := 10) (pc' := 17) rfl (hb hby d1_10) rfl (feq hc10_3).2 (by decide) (by decide) kt) ?_
      refine own_via (T' := T0) (g' := (mkF m 18 #[.val (.int p1)] [(.int p1)])) (fun _ kt => XS.iloadN X0.here hx rfl (hb hby d1_17) rfl kt) ?_
      refine own_via (T' := T0) (g' := (mkF m 19 #[.val (.int p1)] [(.int (2 : Int32)), (.int p1)])) (fun _ kt => XS.iconst X0.here hx rfl (hb hby d1_18) kt) ?_
      by_cases hc19_5 : p1 = (2 : Int32)
      · refine own_via (T' := T0) (g' := (mkF m 22 #[.val (.int p1)] [])) (fun _ kt => XS.icmpNo X0.here hx rfl (hb hby d1_19) rfl (teq hc19_5).2 kt) ?_
        obtain ⟨T6, X6, e6, st6⟩ := getS2 X0 hx hZ hown (host := "") (Or.inl (hw _ (List.mem_of_getElem? (i := 32) rfl))) Via.refl e0 S2 (g := (mkF m 22 #[.val (.int p1)] [])) rfl (hb hby d1_22)
        refine own_via (T' := T6) (g' := (mkF m 25 #[.val (.int p1)] [(.ref (b 2))])) (fun _ kt => st6 _ kt) ?_
        exact own_retA X6 hx hret rfl hlk rfl rfl (hb hby d1_25) ⟨by rw [own_pick, if_neg hc1_1, if_neg hc10_3, if_pos hc19_5], rfl, e6⟩ (by decide) (by decide)
      · refine own_via (T' := T0) (g' := (mkF m 26 #[.val (.int p1)] [])) (fun _ kt => XS.icmpYes X0.here hx rfl (pc0 := 19) (pc' := 26) rfl (hb hby d1_19) rfl (feq hc19_5).2 (by decide) (by decide) kt) ?_
        refine own_via (T' := T0) (g' := (mkF m 27 #[.val (.int p1)] [(.int p1)])) (fun _ kt => XS.iloadN X0.here hx rfl (hb hby d1_26) rfl kt) ?_
        refine own_via (T' := T0) (g' := (mkF m 28 #[.val (.int p1)] [(.int (3 : Int32)), (.int p1)])) (fun _ kt => XS.iconst X0.here hx rfl (hb hby d1_27) kt) ?_
        by_cases hc28_7 : p1 = (3 : Int32)
        · refine own_via (T' := T0) (g' := (mkF m 31 #[.val (.int p1)] [])) (fun _ kt => XS.icmpNo X0.here hx rfl (hb hby d1_28) rfl (teq hc28_7).2 kt) ?_
          obtain ⟨T8, X8, e8, st8⟩ := getS2 X0 hx hZ hown (host := "") (Or.inl (hw _ (List.mem_of_getElem? (i := 23) rfl))) Via.refl e0 S3 (g := (mkF m 31 #[.val (.int p1)] [])) rfl (hb hby d1_31)
          refine own_via (T' := T8) (g' := (mkF m 34 #[.val (.int p1)] [(.ref (b 3))])) (fun _ kt => st8 _ kt) ?_
          exact own_retA X8 hx hret rfl hlk rfl rfl (hb hby d1_34) ⟨by rw [own_pick, if_neg hc1_1, if_neg hc10_3, if_neg hc19_5, if_pos hc28_7], rfl, e8⟩ (by decide) (by decide)
        · refine own_via (T' := T0) (g' := (mkF m 35 #[.val (.int p1)] [])) (fun _ kt => XS.icmpYes X0.here hx rfl (pc0 := 28) (pc' := 35) rfl (hb hby d1_28) rfl (feq hc28_7).2 (by decide) (by decide) kt) ?_
          refine own_via (T' := T0) (g' := (mkF m 36 #[.val (.int p1)] [(.int p1)])) (fun _ kt => XS.iloadN X0.here hx rfl (hb hby d1_35) rfl kt) ?_
          refine own_via (T' := T0) (g' := (mkF m 37 #[.val (.int p1)] [(.int (4 : Int32)), (.int p1)])) (fun _ kt => XS.iconst X0.here hx rfl (hb hby d1_36) kt) ?_
          by_cases hc37_9 : p1 = (4 : Int32)
          · refine own_via (T' := T0) (g' := (mkF m 40 #[.val (.int p1)] [])) (fun _ kt => XS.icmpNo X0.here hx rfl (hb hby d1_37) rfl (teq hc37_9).2 kt) ?_
            obtain ⟨T10, X10, e10, st10⟩ := getS2 X0 hx hZ hown (host := "") (Or.inl (hw _ (List.mem_of_getElem? (i := 40) rfl))) Via.refl e0 S4 (g := (mkF m 40 #[.val (.int p1)] [])) rfl (hb hby d1_40)
            refine own_via (T' := T10) (g' := (mkF m 43 #[.val (.int p1)] [(.ref (b 4))])) (fun _ kt => st10 _ kt) ?_
            exact own_retA X10 hx hret rfl hlk rfl rfl (hb hby d1_43) ⟨by rw [own_pick, if_neg hc1_1, if_neg hc10_3, if_neg hc19_5, if_neg hc28_7, if_pos hc37_9], rfl, e10⟩ (by decide) (by decide)
          · refine own_via (T' := T0) (g' := (mkF m 44 #[.val (.int p1)] [])) (fun _ kt => XS.icmpYes X0.here hx rfl (pc0 := 37) (pc' := 44) rfl (hb hby d1_37) rfl (feq hc37_9).2 (by decide) (by decide) kt) ?_
            refine own_via (T' := T0) (g' := (mkF m 45 #[.val (.int p1)] [(.int p1)])) (fun _ kt => XS.iloadN X0.here hx rfl (hb hby d1_44) rfl kt) ?_
            refine own_via (T' := T0) (g' := (mkF m 46 #[.val (.int p1)] [(.int (5 : Int32)), (.int p1)])) (fun _ kt => XS.iconst X0.here hx rfl (hb hby d1_45) kt) ?_
            by_cases hc46_11 : p1 = (5 : Int32)
            · refine own_via (T' := T0) (g' := (mkF m 49 #[.val (.int p1)] [])) (fun _ kt => XS.icmpNo X0.here hx rfl (hb hby d1_46) rfl (teq hc46_11).2 kt) ?_
              obtain ⟨T12, X12, e12, st12⟩ := getS2 X0 hx hZ hown (host := "") (Or.inl (hw _ (List.mem_of_getElem? (i := 27) rfl))) Via.refl e0 S5 (g := (mkF m 49 #[.val (.int p1)] [])) rfl (hb hby d1_49)
              refine own_via (T' := T12) (g' := (mkF m 52 #[.val (.int p1)] [(.ref (b 5))])) (fun _ kt => st12 _ kt) ?_
              exact own_retA X12 hx hret rfl hlk rfl rfl (hb hby d1_52) ⟨by rw [own_pick, if_neg hc1_1, if_neg hc10_3, if_neg hc19_5, if_neg hc28_7, if_neg hc37_9, if_pos hc46_11], rfl, e12⟩ (by decide) (by decide)
            · refine own_via (T' := T0) (g' := (mkF m 53 #[.val (.int p1)] [])) (fun _ kt => XS.icmpYes X0.here hx rfl (pc0 := 46) (pc' := 53) rfl (hb hby d1_46) rfl (feq hc46_11).2 (by decide) (by decide) kt) ?_
              refine own_via (T' := T0) (g' := (mkF m 54 #[.val (.int p1)] [(.int p1)])) (fun _ kt => XS.iloadN X0.here hx rfl (hb hby d1_53) rfl kt) ?_
              refine own_via (T' := T0) (g' := (mkF m 56 #[.val (.int p1)] [(.int (6 : Int32)), (.int p1)])) (fun _ kt => XS.bipush X0.here hx rfl (hb hby d1_54) kt) ?_
              by_cases hc56_13 : p1 = (6 : Int32)
              · refine own_via (T' := T0) (g' := (mkF m 59 #[.val (.int p1)] [])) (fun _ kt => XS.icmpNo X0.here hx rfl (hb hby d1_56) rfl (teq hc56_13).2 kt) ?_
                obtain ⟨T14, X14, e14, st14⟩ := getS2 X0 hx hZ hown (host := "") (Or.inl (hw _ (List.mem_of_getElem? (i := 25) rfl))) Via.refl e0 S6 (g := (mkF m 59 #[.val (.int p1)] [])) rfl (hb hby d1_59)
                refine own_via (T' := T14) (g' := (mkF m 62 #[.val (.int p1)] [(.ref (b 6))])) (fun _ kt => st14 _ kt) ?_
                exact own_retA X14 hx hret rfl hlk rfl rfl (hb hby d1_62) ⟨by rw [own_pick, if_neg hc1_1, if_neg hc10_3, if_neg hc19_5, if_neg hc28_7, if_neg hc37_9, if_neg hc46_11, if_pos hc56_13], rfl, e14⟩ (by decide) (by decide)
              · refine own_via (T' := T0) (g' := (mkF m 63 #[.val (.int p1)] [])) (fun _ kt => XS.icmpYes X0.here hx rfl (pc0 := 56) (pc' := 63) rfl (hb hby d1_56) rfl (feq hc56_13).2 (by decide) (by decide) kt) ?_
                refine own_via (T' := T0) (g' := (mkF m 64 #[.val (.int p1)] [(.int p1)])) (fun _ kt => XS.iloadN X0.here hx rfl (hb hby d1_63) rfl kt) ?_
                refine own_via (T' := T0) (g' := (mkF m 66 #[.val (.int p1)] [(.int (7 : Int32)), (.int p1)])) (fun _ kt => XS.bipush X0.here hx rfl (hb hby d1_64) kt) ?_
                by_cases hc66_15 : p1 = (7 : Int32)
                · refine own_via (T' := T0) (g' := (mkF m 69 #[.val (.int p1)] [])) (fun _ kt => XS.icmpNo X0.here hx rfl (hb hby d1_66) rfl (teq hc66_15).2 kt) ?_
                  obtain ⟨T16, X16, e16, st16⟩ := getS2 X0 hx hZ hown (host := "") (Or.inl (hw _ (List.mem_of_getElem? (i := 29) rfl))) Via.refl e0 S7 (g := (mkF m 69 #[.val (.int p1)] [])) rfl (hb hby d1_69)
                  refine own_via (T' := T16) (g' := (mkF m 72 #[.val (.int p1)] [(.ref (b 7))])) (fun _ kt => st16 _ kt) ?_
                  exact own_retA X16 hx hret rfl hlk rfl rfl (hb hby d1_72) ⟨by rw [own_pick, if_neg hc1_1, if_neg hc10_3, if_neg hc19_5, if_neg hc28_7, if_neg hc37_9, if_neg hc46_11, if_neg hc56_13, if_pos hc66_15], rfl, e16⟩ (by decide) (by decide)
                · refine own_via (T' := T0) (g' := (mkF m 73 #[.val (.int p1)] [])) (fun _ kt => XS.icmpYes X0.here hx rfl (pc0 := 66) (pc' := 73) rfl (hb hby d1_66) rfl (feq hc66_15).2 (by decide) (by decide) kt) ?_
                  refine own_via (T' := T0) (g' := (mkF m 74 #[.val (.int p1)] [(.int p1)])) (fun _ kt => XS.iloadN X0.here hx rfl (hb hby d1_73) rfl kt) ?_
                  refine own_via (T' := T0) (g' := (mkF m 76 #[.val (.int p1)] [(.int (8 : Int32)), (.int p1)])) (fun _ kt => XS.bipush X0.here hx rfl (hb hby d1_74) kt) ?_
                  by_cases hc76_17 : p1 = (8 : Int32)
                  · refine own_via (T' := T0) (g' := (mkF m 79 #[.val (.int p1)] [])) (fun _ kt => XS.icmpNo X0.here hx rfl (hb hby d1_76) rfl (teq hc76_17).2 kt) ?_
                    obtain ⟨T18, X18, e18, st18⟩ := getS2 X0 hx hZ hown (host := "") (Or.inl (hw _ (List.mem_of_getElem? (i := 37) rfl))) Via.refl e0 S8 (g := (mkF m 79 #[.val (.int p1)] [])) rfl (hb hby d1_79)
                    refine own_via (T' := T18) (g' := (mkF m 82 #[.val (.int p1)] [(.ref (b 8))])) (fun _ kt => st18 _ kt) ?_
                    exact own_retA X18 hx hret rfl hlk rfl rfl (hb hby d1_82) ⟨by rw [own_pick, if_neg hc1_1, if_neg hc10_3, if_neg hc19_5, if_neg hc28_7, if_neg hc37_9, if_neg hc46_11, if_neg hc56_13, if_neg hc66_15, if_pos hc76_17], rfl, e18⟩ (by decide) (by decide)
                  · refine own_via (T' := T0) (g' := (mkF m 83 #[.val (.int p1)] [])) (fun _ kt => XS.icmpYes X0.here hx rfl (pc0 := 76) (pc' := 83) rfl (hb hby d1_76) rfl (feq hc76_17).2 (by decide) (by decide) kt) ?_
                    refine own_via (T' := T0) (g' := (mkF m 84 #[.val (.int p1)] [(.int p1)])) (fun _ kt => XS.iloadN X0.here hx rfl (hb hby d1_83) rfl kt) ?_
                    refine own_via (T' := T0) (g' := (mkF m 86 #[.val (.int p1)] [(.int (9 : Int32)), (.int p1)])) (fun _ kt => XS.bipush X0.here hx rfl (hb hby d1_84) kt) ?_
                    by_cases hc86_19 : p1 = (9 : Int32)
                    · refine own_via (T' := T0) (g' := (mkF m 89 #[.val (.int p1)] [])) (fun _ kt => XS.icmpNo X0.here hx rfl (hb hby d1_86) rfl (teq hc86_19).2 kt) ?_
                      obtain ⟨T20, X20, e20, st20⟩ := getS2 X0 hx hZ hown (host := "") (Or.inl (hw _ (List.mem_of_getElem? (i := 31) rfl))) Via.refl e0 S9 (g := (mkF m 89 #[.val (.int p1)] [])) rfl (hb hby d1_89)
                      refine own_via (T' := T20) (g' := (mkF m 92 #[.val (.int p1)] [(.ref (b 9))])) (fun _ kt => st20 _ kt) ?_
                      exact own_retA X20 hx hret rfl hlk rfl rfl (hb hby d1_92) ⟨by rw [own_pick, if_neg hc1_1, if_neg hc10_3, if_neg hc19_5, if_neg hc28_7, if_neg hc37_9, if_neg hc46_11, if_neg hc56_13, if_neg hc66_15, if_neg hc76_17, if_pos hc86_19], rfl, e20⟩ (by decide) (by decide)
                    · refine own_via (T' := T0) (g' := (mkF m 93 #[.val (.int p1)] [])) (fun _ kt => XS.icmpYes X0.here hx rfl (pc0 := 86) (pc' := 93) rfl (hb hby d1_86) rfl (feq hc86_19).2 (by decide) (by decide) kt) ?_
                      refine own_via (T' := T0) (g' := (mkF m 94 #[.val (.int p1)] [(.int p1)])) (fun _ kt => XS.iloadN X0.here hx rfl (hb hby d1_93) rfl kt) ?_
                      refine own_via (T' := T0) (g' := (mkF m 96 #[.val (.int p1)] [(.int (10 : Int32)), (.int p1)])) (fun _ kt => XS.bipush X0.here hx rfl (hb hby d1_94) kt) ?_
                      by_cases hc96_21 : p1 = (10 : Int32)
                      · refine own_via (T' := T0) (g' := (mkF m 99 #[.val (.int p1)] [])) (fun _ kt => XS.icmpNo X0.here hx rfl (hb hby d1_96) rfl (teq hc96_21).2 kt) ?_
                        obtain ⟨T22, X22, e22, st22⟩ := getS2 X0 hx hZ hown (host := "") (Or.inl (hw _ (List.mem_of_getElem? (i := 38) rfl))) Via.refl e0 S10 (g := (mkF m 99 #[.val (.int p1)] [])) rfl (hb hby d1_99)
                        refine own_via (T' := T22) (g' := (mkF m 102 #[.val (.int p1)] [(.ref (b 10))])) (fun _ kt => st22 _ kt) ?_
                        exact own_retA X22 hx hret rfl hlk rfl rfl (hb hby d1_102) ⟨by rw [own_pick, if_neg hc1_1, if_neg hc10_3, if_neg hc19_5, if_neg hc28_7, if_neg hc37_9, if_neg hc46_11, if_neg hc56_13, if_neg hc66_15, if_neg hc76_17, if_neg hc86_19, if_pos hc96_21], rfl, e22⟩ (by decide) (by decide)
                      · refine own_via (T' := T0) (g' := (mkF m 103 #[.val (.int p1)] [])) (fun _ kt => XS.icmpYes X0.here hx rfl (pc0 := 96) (pc' := 103) rfl (hb hby d1_96) rfl (feq hc96_21).2 (by decide) (by decide) kt) ?_
                        refine own_via (T' := T0) (g' := (mkF m 104 #[.val (.int p1)] [(.int p1)])) (fun _ kt => XS.iloadN X0.here hx rfl (hb hby d1_103) rfl kt) ?_
                        refine own_via (T' := T0) (g' := (mkF m 106 #[.val (.int p1)] [(.int (11 : Int32)), (.int p1)])) (fun _ kt => XS.bipush X0.here hx rfl (hb hby d1_104) kt) ?_
                        by_cases hc106_23 : p1 = (11 : Int32)
                        · refine own_via (T' := T0) (g' := (mkF m 109 #[.val (.int p1)] [])) (fun _ kt => XS.icmpNo X0.here hx rfl (hb hby d1_106) rfl (teq hc106_23).2 kt) ?_
                          obtain ⟨T24, X24, e24, st24⟩ := getS2 X0 hx hZ hown (host := "") (Or.inl (hw _ (List.mem_of_getElem? (i := 34) rfl))) Via.refl e0 S11 (g := (mkF m 109 #[.val (.int p1)] [])) rfl (hb hby d1_109)
                          refine own_via (T' := T24) (g' := (mkF m 112 #[.val (.int p1)] [(.ref (b 11))])) (fun _ kt => st24 _ kt) ?_
                          exact own_retA X24 hx hret rfl hlk rfl rfl (hb hby d1_112) ⟨by rw [own_pick, if_neg hc1_1, if_neg hc10_3, if_neg hc19_5, if_neg hc28_7, if_neg hc37_9, if_neg hc46_11, if_neg hc56_13, if_neg hc66_15, if_neg hc76_17, if_neg hc86_19, if_neg hc96_21, if_pos hc106_23], rfl, e24⟩ (by decide) (by decide)
                        · refine own_via (T' := T0) (g' := (mkF m 113 #[.val (.int p1)] [])) (fun _ kt => XS.icmpYes X0.here hx rfl (pc0 := 106) (pc' := 113) rfl (hb hby d1_106) rfl (feq hc106_23).2 (by decide) (by decide) kt) ?_
                          obtain ⟨T25, X25, e25, st25⟩ := getS2 X0 hx hZ hown (host := "") (Or.inl (hw _ (List.mem_of_getElem? (i := 39) rfl))) Via.refl e0 S12 (g := (mkF m 113 #[.val (.int p1)] [])) rfl (hb hby d1_113)
                          refine own_via (T' := T25) (g' := (mkF m 116 #[.val (.int p1)] [(.ref (b 12))])) (fun _ kt => st25 _ kt) ?_
                          exact own_retA X25 hx hret rfl hlk rfl rfl (hb hby d1_116) ⟨by rw [own_pick, if_neg hc1_1, if_neg hc10_3, if_neg hc19_5, if_neg hc28_7, if_neg hc37_9, if_neg hc46_11, if_neg hc56_13, if_neg hc66_15, if_neg hc76_17, if_neg hc86_19, if_neg hc96_21, if_neg hc106_23], rfl, e25⟩ (by decide) (by decide)
theorem d2_0 : decode prog_65_method_7_code 0 = .ok (.aload_n 0, 1) := by decide +kernel
theorem d2_1 : decode prog_65_method_7_code 1 = .ok (.getstatic 28, 3) := by decide +kernel
theorem d2_4 : decode prog_65_method_7_code 4 = .ok (.if_acmp .eq 31, 3) := by decide +kernel
theorem d2_7 : decode prog_65_method_7_code 7 = .ok (.aload_n 0, 1) := by decide +kernel
theorem d2_8 : decode prog_65_method_7_code 8 = .ok (.getstatic 31, 3) := by decide +kernel
theorem d2_11 : decode prog_65_method_7_code 11 = .ok (.if_acmp .eq 24, 3) := by decide +kernel
theorem d2_14 : decode prog_65_method_7_code 14 = .ok (.aload_n 0, 1) := by decide +kernel
theorem d2_15 : decode prog_65_method_7_code 15 = .ok (.getstatic 40, 3) := by decide +kernel
theorem d2_18 : decode prog_65_method_7_code 18 = .ok (.if_acmp .eq 17, 3) := by decide +kernel
theorem d2_21 : decode prog_65_method_7_code 21 = .ok (.aload_n 0, 1) := by decide +kernel
theorem d2_22 : decode prog_65_method_7_code 22 = .ok (.getstatic 34, 3) := by decide +kernel
theorem d2_25 : decode prog_65_method_7_code 25 = .ok (.if_acmp .eq 10, 3) := by decide +kernel
theorem d2_28 : decode prog_65_method_7_code 28 = .ok (.aload_n 0, 1) := by decide +kernel
theorem d2_29 : decode prog_65_method_7_code 29 = .ok (.getstatic 37, 3) := by decide +kernel
theorem d2_32 : decode prog_65_method_7_code 32 = .ok (.if_acmp .ne 7, 3) := by decide +kernel
theorem d2_35 : decode prog_65_method_7_code 35 = .ok (.iconst 1, 1) := by decide +kernel
theorem d2_36 : decode prog_65_method_7_code 36 = .ok (.goto 4, 3) := by decide +kernel
theorem d2_39 : decode prog_65_method_7_code 39 = .ok (.iconst 0, 1) := by decide +kernel
theorem d2_40 : decode prog_65_method_7_code 40 = .ok (.ireturn, 1) := by decide +kernel
theorem pn_2 : plainName "com/example/treadle/treadle/xpath/Axis" = true := by first | (simp [plainName, overriddenIn]; done) | decide +kernel
theorem ef_2 (m : MethodId) (x0 : Addr) : entryFrame m #[(.ref x0)] 1 = mkF m 0 #[.val (.ref x0)] [] := by first | (simp [entryFrame, mkF, argsToLocals, Value.category]; done) | rfl
set_option maxRecDepth 65536 in
set_option maxHeartbeats 40000000 in
theorem rm2 (l : Launch) (Z : State) (a0 : Array Value) (hw : ∀ d ∈ tables_1, d.before a0 Z = true) (ws : List Jvm.Cond) (r : Addr) (h0 : Heap) (b : Nat → Addr) (S : own_Ax Z h0 b) :
    own_Pure l Z (⟨"com/example/treadle/treadle/xpath/Axis", "isReverse", "()Z"⟩ : MethodName) prog_65_method_7_code 1 (some .boolean) ws ({ frames := 0, cells := 0, slots := 0, locals := 0 } : Room) #[(.ref r)] h0 (some (.int (own_rv b r))) := by
  obtain ⟨S0, S1, S2, S3, S4, S5, S6, S7, S8, S9, S10, S11, S12⟩ := S
  refine own_body (plainFor_of_name pn_2) ?_
  intro p e s m below meth c T0 hx hby hml hown hnm hret hlk hZ X0 e0
  replace hown : s.vm.findClass "com/example/treadle/treadle/xpath/Axis" = some m.cls := hown
  replace hret : meth.sig.returnType = (some .boolean) := hret
  replace hnm : meth.name = "isReverse" := hnm
  rw [ef_2 m r]
  refine own_via (T' := T0) (g' := (mkF m 1 #[.val (.ref r)] [(.ref r)])) (fun _ kt => XS.aloadN X0.here hx rfl (hb hby d2_0) rfl rfl kt) ?_
  obtain ⟨T1, X1, e1, st1⟩ := getS2 X0 hx hZ hown (host := "") (Or.inl (hw _ (List.mem_of_getElem? (i := 13) rfl))) Via.refl e0 S8 (g := (mkF m 1 #[.val (.ref r)] [(.ref r)])) rfl (hb hby d2_1)
  refine own_via (T' := T1) (g' := (mkF m 4 #[.val (.ref r)] [(.ref (b 8)), (.ref r)])) (fun _ kt => st1 _ kt) ?_
  by_cases ha4_2 : r = (b 8)
  · refine own_via (T' := T1) (g' := (mkF m 35 #[.val (.ref r)] [])) (fun _ kt => Jvm.RoadKit.acmp (g := (mkF m 4 #[.val (.ref r)] [(.ref (b 8)), (.ref r)])) X1 hx rfl rfl rfl (pc0 := 4) (pc' := 35) (same := true) rfl (hb hby d2_4) rfl (decide_eq_true (congrArg Value.ref ha4_2)) (by decide) (by decide) kt) ?_
    refine own_via (T' := T1) (g' := (mkF m 36 #[.val (.ref r)] [(.int (1 : Int32))])) (fun _ kt => XS.iconst X1.here hx rfl (hb hby d2_35) kt) ?_
    refine own_via (T' := T1) (g' := (mkF m 40 #[.val (.ref r)] [(.int (1 : Int32))])) (fun _ kt => XS.goto X1.here hx rfl (pc0 := 36) (pc' := 40) rfl (hb hby d2_36) (by decide) (by decide) kt) ?_
    exact own_retZ X1 hx hret hlk (hb hby d2_40) (by decide) ⟨by rw [own_rv, if_pos ha4_2], rfl, e1⟩ (by decide) (by decide)
  · refine own_via (T' := T1) (g' := (mkF m 7 #[.val (.ref r)] [])) (fun _ kt => Jvm.RoadKit.acmp (g := (mkF m 4 #[.val (.ref r)] [(.ref (b 8)), (.ref r)])) X1 hx rfl rfl rfl (pc0 := 4) (pc' := 7) (same := false) rfl (hb hby d2_4) rfl (decide_eq_false fun q => ha4_2 (Value.ref.inj q)) (by decide) (by decide) kt) ?_
    refine own_via (T' := T1) (g' := (mkF m 8 #[.val (.ref r)] [(.ref r)])) (fun _ kt => XS.aloadN X1.here hx rfl (hb hby d2_7) rfl rfl kt) ?_
    obtain ⟨T3, X3, e3, st3⟩ := getS2 X1 hx hZ hown (host := "") (Or.inl (hw _ (List.mem_of_getElem? (i := 15) rfl))) Via.refl e1 S9 (g := (mkF m 8 #[.val (.ref r)] [(.ref r)])) rfl (hb hby d2_8)
    refine own_via (T' := T3) (g' := (mkF m 11 #[.val (.ref r)] [(.ref (b 9)), (.ref r)])) (fun _ kt => st3 _ kt) ?_
    by_cases ha11_4 : r = (b 9)
    · refine own_via (T' := T3) (g' := (mkF m 35 #[.val (.ref r)] [])) (fun _ kt => Jvm.RoadKit.acmp (g := (mkF m 11 #[.val (.ref r)] [(.ref (b 9)), (.ref r)])) X3 hx rfl rfl rfl (pc0 := 11) (pc' := 35) (same := true) rfl (hb hby d2_11) rfl (decide_eq_true (congrArg Value.ref ha11_4)) (by decide) (by decide) kt) ?_
      refine own_via (T' := T3) (g' := (mkF m 36 #[.val (.ref r)] [(.int (1 : Int32))])) (fun _ kt => XS.iconst X3.here hx rfl (hb hby d2_35) kt) ?_
      refine own_via (T' := T3) (g' := (mkF m 40 #[.val (.ref r)] [(.int (1 : Int32))])) (fun _ kt => XS.goto X3.here hx rfl (pc0 := 36) (pc' := 40) rfl (hb hby d2_36) (by decide) (by decide) kt) ?_
      exact own_retZ X3 hx hret hlk (hb hby d2_40) (by decide) ⟨by rw [own_rv, if_neg ha4_2, if_pos ha11_4], rfl, e3⟩ (by decide) (by decide)
    · refine own_via (T' := T3) (g' := (mkF m 14 #[.val (.ref r)] [])) (fun _ kt => Jvm.RoadKit.acmp (g := (mkF m 11 #[.val (.ref r)] [(.ref (b 9)), (.ref r)])) X3 hx rfl rfl rfl (pc0 := 11) (pc' := 14) (same := false) rfl (hb hby d2_11) rfl (decide_eq_false fun q => ha11_4 (Value.ref.inj q)) (by decide) (by decide) kt) ?_
      refine own_via (T' := T3) (g' := (mkF m 15 #[.val (.ref r)] [(.ref r)])) (fun _ kt => XS.aloadN X3.here hx rfl (hb hby d2_14) rfl rfl kt) ?_
      obtain ⟨T5, X5, e5, st5⟩ := getS2 X3 hx hZ hown (host := "") (Or.inl (hw _ (List.mem_of_getElem? (i := 17) rfl))) Via.refl e3 S12 (g := (mkF m 15 #[.val (.ref r)] [(.ref r)])) rfl (hb hby d2_15)
      refine own_via (T' := T5) (g' := (mkF m 18 #[.val (.ref r)] [(.ref (b 12)), (.ref r)])) (fun _ kt => st5 _ kt) ?_
      by_cases ha18_6 : r = (b 12)
      · refine own_via (T' := T5) (g' := (mkF m 35 #[.val (.ref r)] [])) (fun _ kt => Jvm.RoadKit.acmp (g := (mkF m 18 #[.val (.ref r)] [(.ref (b 12)), (.ref r)])) X5 hx rfl rfl rfl (pc0 := 18) (pc' := 35) (same := true) rfl (hb hby d2_18) rfl (decide_eq_true (congrArg Value.ref ha18_6)) (by decide) (by decide) kt) ?_
        refine own_via (T' := T5) (g' := (mkF m 36 #[.val (.ref r)] [(.int (1 : Int32))])) (fun _ kt => XS.iconst X5.here hx rfl (hb hby d2_35) kt) ?_
        refine own_via (T' := T5) (g' := (mkF m 40 #[.val (.ref r)] [(.int (1 : Int32))])) (fun _ kt => XS.goto X5.here hx rfl (pc0 := 36) (pc' := 40) rfl (hb hby d2_36) (by decide) (by decide) kt) ?_
        exact own_retZ X5 hx hret hlk (hb hby d2_40) (by decide) ⟨by rw [own_rv, if_neg ha4_2, if_neg ha11_4, if_pos ha18_6], rfl, e5⟩ (by decide) (by decide)
      · refine own_via (T' := T5) (g' := (mkF m 21 #[.val (.ref r)] [])) (fun _ kt => Jvm.RoadKit.acmp (g := (mkF m 18 #[.val (.ref r)] [(.ref (b 12)), (.ref r)])) X5 hx rfl rfl rfl (pc0 := 18) (pc' := 21) (same := false) rfl (hb hby d2_18) rfl (decide_eq_false fun q => ha18_6 (Value.ref.inj q)) (by decide) (by decide) kt) ?_
        refine own_via (T' := T5) (g' := (mkF m 22 #[.val (.ref r)] [(.ref r)])) (fun _ kt => XS.aloadN X5.here hx rfl (hb hby d2_21) rfl rfl kt) ?_
        obtain ⟨T7, X7, e7, st7⟩ := getS2 X5 hx hZ hown (host := "") (Or.inl (hw _ (List.mem_of_getElem? (i := 19) rfl))) Via.refl e5 S10 (g := (mkF m 22 #[.val (.ref r)] [(.ref r)])) rfl (hb hby d2_22)
        refine own_via (T' := T7) (g' := (mkF m 25 #[.val (.ref r)] [(.ref (b 10)), (.ref r)])) (fun _ kt => st7 _ kt) ?_
        by_cases ha25_8 : r = (b 10)
        · refine own_via (T' := T7) (g' := (mkF m 35 #[.val (.ref r)] [])) (fun _ kt => Jvm.RoadKit.acmp (g := (mkF m 25 #[.val (.ref r)] [(.ref (b 10)), (.ref r)])) X7 hx rfl rfl rfl (pc0 := 25) (pc' := 35) (same := true) rfl (hb hby d2_25) rfl (decide_eq_true (congrArg Value.ref ha25_8)) (by decide) (by decide) kt) ?_
          refine own_via (T' := T7) (g' := (mkF m 36 #[.val (.ref r)] [(.int (1 : Int32))])) (fun _ kt => XS.iconst X7.here hx rfl (hb hby d2_35) kt) ?_
          refine own_via (T' := T7) (g' := (mkF m 40 #[.val (.ref r)] [(.int (1 : Int32))])) (fun _ kt => XS.goto X7.here hx rfl (pc0 := 36) (pc' := 40) rfl (hb hby d2_36) (by decide) (by decide) kt) ?_
          exact own_retZ X7 hx hret hlk (hb hby d2_40) (by decide) ⟨by rw [own_rv, if_neg ha4_2, if_neg ha11_4, if_neg ha18_6, if_pos ha25_8], rfl, e7⟩ (by decide) (by decide)
        · refine own_via (T' := T7) (g' := (mkF m 28 #[.val (.ref r)] [])) (fun _ kt => Jvm.RoadKit.acmp (g := (mkF m 25 #[.val (.ref r)] [(.ref (b 10)), (.ref r)])) X7 hx rfl rfl rfl (pc0 := 25) (pc' := 28) (same := false) rfl (hb hby d2_25) rfl (decide_eq_false fun q => ha25_8 (Value.ref.inj q)) (by decide) (by decide) kt) ?_
          refine own_via (T' := T7) (g' := (mkF m 29 #[.val (.ref r)] [(.ref r)])) (fun _ kt => XS.aloadN X7.here hx rfl (hb hby d2_28) rfl rfl kt) ?_
          obtain ⟨T9, X9, e9, st9⟩ := getS2 X7 hx hZ hown (host := "") (Or.inl (hw _ (List.mem_of_getElem? (i := 21) rfl))) Via.refl e7 S11 (g := (mkF m 29 #[.val (.ref r)] [(.ref r)])) rfl (hb hby d2_29)
          refine own_via (T' := T9) (g' := (mkF m 32 #[.val (.ref r)] [(.ref (b 11)), (.ref r)])) (fun _ kt => st9 _ kt) ?_
          by_cases ha32_10 : r = (b 11)
          · refine own_via (T' := T9) (g' := (mkF m 35 #[.val (.ref r)] [])) (fun _ kt => Jvm.RoadKit.acmp (g := (mkF m 32 #[.val (.ref r)] [(.ref (b 11)), (.ref r)])) X9 hx rfl rfl rfl (pc0 := 32) (pc' := 35) (same := true) rfl (hb hby d2_32) rfl (decide_eq_true (congrArg Value.ref ha32_10)) (by decide) (by decide) kt) ?_
            refine own_via (T' := T9) (g' := (mkF m 36 #[.val (.ref r)] [(.int (1 : Int32))])) (fun _ kt => XS.iconst X9.here hx rfl (hb hby d2_35) kt) ?_
            refine own_via (T' := T9) (g' := (mkF m 40 #[.val (.ref r)] [(.int (1 : Int32))])) (fun _ kt => XS.goto X9.here hx rfl (pc0 := 36) (pc' := 40) rfl (hb hby d2_36) (by decide) (by decide) kt) ?_
            exact own_retZ X9 hx hret hlk (hb hby d2_40) (by decide) ⟨by rw [own_rv, if_neg ha4_2, if_neg ha11_4, if_neg ha18_6, if_neg ha25_8, if_pos ha32_10], rfl, e9⟩ (by decide) (by decide)
          · refine own_via (T' := T9) (g' := (mkF m 39 #[.val (.ref r)] [])) (fun _ kt => Jvm.RoadKit.acmp (g := (mkF m 32 #[.val (.ref r)] [(.ref (b 11)), (.ref r)])) X9 hx rfl rfl rfl (pc0 := 32) (pc' := 39) (same := false) rfl (hb hby d2_32) rfl (decide_eq_false fun q => ha32_10 (Value.ref.inj q)) (by decide) (by decide) kt) ?_
            refine own_via (T' := T9) (g' := (mkF m 40 #[.val (.ref r)] [(.int (0 : Int32))])) (fun _ kt => XS.iconst X9.here hx rfl (hb hby d2_39) kt) ?_
            exact own_retZ X9 hx hret hlk (hb hby d2_40) (by decide) ⟨by rw [own_rv, if_neg ha4_2, if_neg ha11_4, if_neg ha18_6, if_neg ha25_8, if_neg ha32_10], rfl, e9⟩ (by decide) (by decide)
theorem own_rem (x : Int32) : 0 ≤ ((x &&& (2147483647 : Int32)) % (13 : Int32)).toInt ∧ ((x &&& (2147483647 : Int32)) % (13 : Int32)).toInt < (13 : Nat) := by
  have h := c_and x 2147483647 (by decide)
  have q := (c_irem (x &&& 2147483647) 13 13 rfl).1 h.1
  rw [q]; omega
theorem pn_0 : plainName "com/example/treadle/treadle/xpath/AxisIsReversePinLaw" = true := by first | (simp [plainName, overriddenIn]; done) | decide +kernel
theorem ef_0 (m : MethodId) (x0 : Int32) : entryFrame m #[(.int x0)] maxLocals = mkF m 0 #[.val (.int x0), .unset, .unset, .unset] [] := by first | (simp [entryFrame, mkF, argsToLocals, Value.category, maxLocals]; done) | rfl
set_option maxRecDepth 65536 in
set_option maxHeartbeats 40000000 in
theorem rm0 (l : Launch) (Z : State) (a0 : Array Value) (hw : ∀ d ∈ tables_1, d.before a0 Z = true) (ws : List Jvm.Cond) (p1 : Int32) (h0 : Heap) (n0 : Nat) (b : Nat → Addr) (S : own_Ax Z h0 b) (E : ∀ n, n < 13 → Exa Z h0 (b n) "com/example/treadle/treadle/xpath/Axis") (D : own_Dis b) :
    own_Con l Z x code maxLocals ret ws room_1 #[(.int p1)] h0 (fun v h L => v = some (.int 1) ∧ Fr n0 L) := by
  refine own_body (plainFor_of_name pn_0) ?_
  intro p e s m below meth c T0 hx hby hml hown hnm hret hlk hZ X0 e0
  replace hown : s.vm.findClass "com/example/treadle/treadle/xpath/AxisIsReversePinLaw" = some m.cls := hown
  replace hret : meth.sig.returnType = (some .boolean) := hret
  replace hnm : meth.name = "law" := hnm
  rw [ef_0 m p1]
  refine own_via (T' := T0) (g' := (mkF m 1 #[.val (.int p1), .unset, .unset, .unset] [(.int p1)])) (fun _ kt => XS.iloadN X0.here hx rfl (hb hby at_0) rfl kt) ?_
  refine own_via (T' := T0) (g' := (mkF m 3 #[.val (.int p1), .unset, .unset, .unset] [(.int (2147483647 : Int32)), (.int p1)])) (fun _ kt => X0.ldcInt hx hown (mvT hZ (hw _ (List.mem_of_getElem? (i := 0) rfl))) (g := (mkF m 1 #[.val (.int p1), .unset, .unset, .unset] [(.int p1)])) rfl (hb hby at_1) _ kt) ?_
  refine own_via (T' := T0) (g' := (mkF m 4 #[.val (.int p1), .unset, .unset, .unset] [(.int (p1 &&& (2147483647 : Int32)))])) (fun _ kt => XS.iand X0.here hx rfl (hb hby at_3) rfl kt) ?_
  refine own_via (T' := T0) (g' := (mkF m 6 #[.val (.int p1), .unset, .unset, .unset] [(.int (13 : Int32)), (.int (p1 &&& (2147483647 : Int32)))])) (fun _ kt => XS.bipush X0.here hx rfl (hb hby at_4) kt) ?_
  refine own_via (T' := T0) (g' := (mkF m 7 #[.val (.int p1), .unset, .unset, .unset] [(.int ((p1 &&& (2147483647 : Int32)) % (13 : Int32)))])) (fun _ kt => Jvm.RoadKit.iremM X0 hx rfl (hb hby at_6) rfl (by decide) kt) ?_
  obtain ⟨n, hn, hz⟩ : ∃ n : Nat, n < 13 ∧ ((p1 &&& (2147483647 : Int32)) % (13 : Int32)) = Int32.ofNat n := own_nat (c := 13) (own_rem p1).1 (own_rem p1).2
  rw [hz]
  refine own_via (T' := T0) (g' := (mkF m 8 #[.val (.int p1), .val (.int (Int32.ofNat n)), .unset, .unset] [])) (fun _ kt => XS.istoreN X0.here hx rfl (hb hby at_7) rfl (l' := #[.val (.int p1), .val (.int (Int32.ofNat n)), .unset, .unset]) rfl kt) ?_
  refine own_via (T' := T0) (g' := (mkF m 9 #[.val (.int p1), .val (.int (Int32.ofNat n)), .unset, .unset] [(.int (Int32.ofNat n))])) (fun _ kt => XS.iloadN X0.here hx rfl (hb hby at_8) rfl kt) ?_
  obtain ⟨v1, T1, L1, X1, hQ1, st1⟩ := own_callS X0 hx hZ (y := (⟨"com/example/treadle/treadle/xpath/AxisIsReversePinLaw", "axis", "(I)Lcom/example/treadle/treadle/xpath/Axis;"⟩ : MethodName)) hown (hw _ (List.mem_of_getElem? (i := 1) rfl)) (hw _ (List.mem_of_getElem? (i := 2) rfl)) (hw _ (List.mem_of_getElem? (i := 3) rfl)) (hw _ (List.mem_of_getElem? (i := 4) rfl)) (by decide) (W := 0) (argsL := [(.int (Int32.ofNat n))]) (rest := []) (by have q := rm1 l Z a0 hw [] (Int32.ofNat n) h0 b S; rw [own_pickn b n hn] at q; exact q) (by decide) (by decide) (by decide) (by decide) e0 (g := (mkF m 9 #[.val (.int p1), .val (.int (Int32.ofNat n)), .unset, .unset] [(.int (Int32.ofNat n))])) rfl (by rw [hml]; rfl) (lenOf pd_0 rfl) rfl (by show 2 * 0 + _ ≤ _; exact Nat.le_of_eq rfl) (hb hby at_9)
  obtain ⟨rfl, hL1, e1⟩ := hQ1
  replace X1 := own_pure (v := none) (r := none) X1 rfl rfl hL1
  refine own_via (T' := T1) (g' := (mkF m 12 #[.val (.int p1), .val (.int (Int32.ofNat n)), .unset, .unset] [(.ref (b n))])) (fun _ kt => st1 _ kt) ?_
  refine own_via (T' := T1) (g' := (mkF m 13 #[.val (.int p1), .val (.int (Int32.ofNat n)), .val (.ref (b n)), .unset] [])) (fun _ kt => XS.astoreN X1.here hx rfl (hb hby at_12) rfl rfl (l' := #[.val (.int p1), .val (.int (Int32.ofNat n)), .val (.ref (b n)), .unset]) rfl kt) ?_
  refine own_via (T' := T1) (g' := (mkF m 14 #[.val (.int p1), .val (.int (Int32.ofNat n)), .val (.ref (b n)), .unset] [(.int (Int32.ofNat n))])) (fun _ kt => XS.iloadN X1.here hx rfl (hb hby at_13) rfl kt) ?_
  refine own_via (T' := T1) (g' := (mkF m 16 #[.val (.int p1), .val (.int (Int32.ofNat n)), .val (.ref (b n)), .unset] [(.int (8 : Int32)), (.int (Int32.ofNat n))])) (fun _ kt => XS.bipush X1.here hx rfl (hb hby at_14) kt) ?_
  by_cases hc16_2 : (Int32.ofNat n) < (8 : Int32)
  · refine own_via (T' := T1) (g' := (mkF m 23 #[.val (.int p1), .val (.int (Int32.ofNat n)), .val (.ref (b n)), .unset] [])) (fun _ kt => XS.icmpYes X1.here hx rfl (pc0 := 16) (pc' := 23) rfl (hb hby at_16) rfl (tlt hc16_2).1 (by decide) (by decide) kt) ?_
    refine own_via (T' := T1) (g' := (mkF m 24 #[.val (.int p1), .val (.int (Int32.ofNat n)), .val (.ref (b n)), .unset] [(.int (0 : Int32))])) (fun _ kt => XS.iconst X1.here hx rfl (hb hby at_23) kt) ?_
    refine own_via (T' := T1) (g' := (mkF m 25 #[.val (.int p1), .val (.int (Int32.ofNat n)), .val (.ref (b n)), .val (.int (0 : Int32))] [])) (fun _ kt => XS.istoreN X1.here hx rfl (hb hby at_24) rfl (l' := #[.val (.int p1), .val (.int (Int32.ofNat n)), .val (.ref (b n)), .val (.int (0 : Int32))]) rfl kt) ?_
    refine own_via (T' := T1) (g' := (mkF m 26 #[.val (.int p1), .val (.int (Int32.ofNat n)), .val (.ref (b n)), .val (.int (0 : Int32))] [(.ref (b n))])) (fun _ kt => XS.aloadN X1.here hx rfl (hb hby at_25) rfl rfl kt) ?_
    obtain ⟨v3, T3, L3, X3, hQ3, st3⟩ := own_callV X1 hx hZ (y := (⟨"com/example/treadle/treadle/xpath/Axis", "isReverse", "()Z"⟩ : MethodName)) (z := (⟨"com/example/treadle/treadle/xpath/Axis", "isReverse", "()Z"⟩ : MethodName)) hown (hw _ (List.mem_of_getElem? (i := 8) rfl)) (hw _ (List.mem_of_getElem? (i := 9) rfl)) (notFace_of_selects (args := #[]) (mvT hZ (hw _ (List.mem_of_getElem? (i := 11) rfl)))) (hw _ (List.mem_of_getElem? (i := 11) rfl)) (hw _ (List.mem_of_getElem? (i := 10) rfl)) (hw _ (List.mem_of_getElem? (i := 6) rfl)) (hw _ (List.mem_of_getElem? (i := 12) rfl)) (by decide) (b := (b n)) (W := 0) (argsL := []) (rest := []) (rm2 l Z a0 hw [] (b n) h0 b S) (by decide) (by decide) (by decide) (by decide) e1 (E n hn) (g := (mkF m 26 #[.val (.int p1), .val (.int (Int32.ofNat n)), .val (.ref (b n)), .val (.int (0 : Int32))] [(.ref (b n))])) rfl (by rw [hml]; rfl) (lenOf pd_1 rfl) rfl (by show 2 * 0 + _ ≤ _; exact Nat.le_of_eq rfl) (hb hby at_26)
    obtain ⟨rfl, hL3, e3⟩ := hQ3
    replace X3 := own_pure (v := none) (r := none) X3 rfl rfl hL3
    refine own_via (T' := T3) (g' := (mkF m 29 #[.val (.int p1), .val (.int (Int32.ofNat n)), .val (.ref (b n)), .val (.int (0 : Int32))] [(.int (own_rv b (b n)))])) (fun _ kt => st3 _ kt) ?_
    refine own_via (T' := T3) (g' := (mkF m 30 #[.val (.int p1), .val (.int (Int32.ofNat n)), .val (.ref (b n)), .val (.int (0 : Int32))] [(.int (0 : Int32)), (.int (own_rv b (b n)))])) (fun _ kt => XS.iloadN X3.here hx rfl (hb hby at_29) rfl kt) ?_
    have hq : own_rv b (b n) = (0 : Int32) := own_rv0 D ((own_lt8 hn).mp hc16_2)
    refine own_via (T' := T3) (g' := (mkF m 33 #[.val (.int p1), .val (.int (Int32.ofNat n)), .val (.ref (b n)), .val (.int (0 : Int32))] [])) (fun _ kt => XS.icmpNo X3.here hx rfl (hb hby at_30) rfl (teq hq).2 kt) ?_
    refine own_via (T' := T3) (g' := (mkF m 34 #[.val (.int p1), .val (.int (Int32.ofNat n)), .val (.ref (b n)), .val (.int (0 : Int32))] [(.int (1 : Int32))])) (fun _ kt => XS.iconst X3.here hx rfl (hb hby at_33) kt) ?_
    refine own_via (T' := T3) (g' := (mkF m 38 #[.val (.int p1), .val (.int (Int32.ofNat n)), .val (.ref (b n)), .val (.int (0 : Int32))] [(.int (1 : Int32))])) (fun _ kt => XS.goto X3.here hx rfl (pc0 := 34) (pc' := 38) rfl (hb hby at_34) (by decide) (by decide) kt) ?_
    exact own_retZ X3 hx hret hlk (hb hby at_38) (by decide) ⟨rfl, Fr.nil _⟩ (by decide) (by decide)
  · refine own_via (T' := T1) (g' := (mkF m 19 #[.val (.int p1), .val (.int (Int32.ofNat n)), .val (.ref (b n)), .unset] [])) (fun _ kt => XS.icmpNo X1.here hx rfl (hb hby at_16) rfl (flt hc16_2).1 kt) ?_
    refine own_via (T' := T1) (g' := (mkF m 20 #[.val (.int p1), .val (.int (Int32.ofNat n)), .val (.ref (b n)), .unset] [(.int (1 : Int32))])) (fun _ kt => XS.iconst X1.here hx rfl (hb hby at_19) kt) ?_
    refine own_via (T' := T1) (g' := (mkF m 24 #[.val (.int p1), .val (.int (Int32.ofNat n)), .val (.ref (b n)), .unset] [(.int (1 : Int32))])) (fun _ kt => XS.goto X1.here hx rfl (pc0 := 20) (pc' := 24) rfl (hb hby at_20) (by decide) (by decide) kt) ?_
    refine own_via (T' := T1) (g' := (mkF m 25 #[.val (.int p1), .val (.int (Int32.ofNat n)), .val (.ref (b n)), .val (.int (1 : Int32))] [])) (fun _ kt => XS.istoreN X1.here hx rfl (hb hby at_24) rfl (l' := #[.val (.int p1), .val (.int (Int32.ofNat n)), .val (.ref (b n)), .val (.int (1 : Int32))]) rfl kt) ?_
    refine own_via (T' := T1) (g' := (mkF m 26 #[.val (.int p1), .val (.int (Int32.ofNat n)), .val (.ref (b n)), .val (.int (1 : Int32))] [(.ref (b n))])) (fun _ kt => XS.aloadN X1.here hx rfl (hb hby at_25) rfl rfl kt) ?_
    obtain ⟨v4, T4, L4, X4, hQ4, st4⟩ := own_callV X1 hx hZ (y := (⟨"com/example/treadle/treadle/xpath/Axis", "isReverse", "()Z"⟩ : MethodName)) (z := (⟨"com/example/treadle/treadle/xpath/Axis", "isReverse", "()Z"⟩ : MethodName)) hown (hw _ (List.mem_of_getElem? (i := 8) rfl)) (hw _ (List.mem_of_getElem? (i := 9) rfl)) (notFace_of_selects (args := #[]) (mvT hZ (hw _ (List.mem_of_getElem? (i := 11) rfl)))) (hw _ (List.mem_of_getElem? (i := 11) rfl)) (hw _ (List.mem_of_getElem? (i := 10) rfl)) (hw _ (List.mem_of_getElem? (i := 6) rfl)) (hw _ (List.mem_of_getElem? (i := 12) rfl)) (by decide) (b := (b n)) (W := 0) (argsL := []) (rest := []) (rm2 l Z a0 hw [] (b n) h0 b S) (by decide) (by decide) (by decide) (by decide) e1 (E n hn) (g := (mkF m 26 #[.val (.int p1), .val (.int (Int32.ofNat n)), .val (.ref (b n)), .val (.int (1 : Int32))] [(.ref (b n))])) rfl (by rw [hml]; rfl) (lenOf pd_1 rfl) rfl (by show 2 * 0 + _ ≤ _; exact Nat.le_of_eq rfl) (hb hby at_26)
    obtain ⟨rfl, hL4, e4⟩ := hQ4
    replace X4 := own_pure (v := none) (r := none) X4 rfl rfl hL4
    refine own_via (T' := T4) (g' := (mkF m 29 #[.val (.int p1), .val (.int (Int32.ofNat n)), .val (.ref (b n)), .val (.int (1 : Int32))] [(.int (own_rv b (b n)))])) (fun _ kt => st4 _ kt) ?_
    refine own_via (T' := T4) (g' := (mkF m 30 #[.val (.int p1), .val (.int (Int32.ofNat n)), .val (.ref (b n)), .val (.int (1 : Int32))] [(.int (1 : Int32)), (.int (own_rv b (b n)))])) (fun _ kt => XS.iloadN X4.here hx rfl (hb hby at_29) rfl kt) ?_
    have hq : own_rv b (b n) = (1 : Int32) := own_rv1 (Nat.le_of_not_lt fun q => hc16_2 ((own_lt8 hn).mpr q)) hn
    refine own_via (T' := T4) (g' := (mkF m 33 #[.val (.int p1), .val (.int (Int32.ofNat n)), .val (.ref (b n)), .val (.int (1 : Int32))] [])) (fun _ kt => XS.icmpNo X4.here hx rfl (hb hby at_30) rfl (teq hq).2 kt) ?_
    refine own_via (T' := T4) (g' := (mkF m 34 #[.val (.int p1), .val (.int (Int32.ofNat n)), .val (.ref (b n)), .val (.int (1 : Int32))] [(.int (1 : Int32))])) (fun _ kt => XS.iconst X4.here hx rfl (hb hby at_33) kt) ?_
    refine own_via (T' := T4) (g' := (mkF m 38 #[.val (.int p1), .val (.int (Int32.ofNat n)), .val (.ref (b n)), .val (.int (1 : Int32))] [(.int (1 : Int32))])) (fun _ kt => XS.goto X4.here hx rfl (pc0 := 34) (pc' := 38) rfl (hb hby at_34) (by decide) (by decide) kt) ?_
    exact own_retZ X4 hx hret hlk (hb hby at_38) (by decide) ⟨rfl, Fr.nil _⟩ (by decide) (by decide)
set_option maxRecDepth 65536 in
set_option maxHeartbeats 40000000 in
theorem comes_1 {Post : Tables → Env → Array Value → State → Outcome → State → Prop} (hpost : ∀ tb e args s v u, (limb_1_1.after args s (.returned v) u = true ∧ limb_1_2.after args s (.returned v) u = true ∧ True) → FrameEnd s (.returned v) u (Jvm.fieldLocs frame_1_writes args s ++ Jvm.arrayLocs frame_1_arrays args s ++ Jvm.staticLocs frame_1_statics s) 0 0 → Post tb e args s (.returned v) u) :
    ArmFor flags0 classFile x code maxLocals ret World_1 tables_1 room_1 Calls_1 rest_1 Pre_1 Post := by
  intro l hfl _ _ p e ha hc hk s m args below hf hA hF happ hP
  obtain ⟨hcalls, hrest, hpre⟩ := hP
  obtain ⟨-, -, -, hnamed, -, -, -, hat⟩ := (Spec.applies_iff hf).mp happ
  obtain ⟨hg, hn⟩ := and_e (Cond.before_iff.mp (show (Jvm.Cond.and given_1 narrow_1).before args s = true from hpre))
  obtain ⟨gc, g0⟩ := and_e hg
  obtain ⟨w0, rfl⟩ : ∃ w0 : Value, args = #[w0] := by
    have hs : args.size = 1 := by simpa [Cond.value, given_1] using gc
    obtain ⟨L⟩ := args
    match L, hs with
    | [w0], _ => exact ⟨w0, rfl⟩
  have hw := fun d (hd : d ∈ tables_1) => atoms_spec (ws := Jvm.Cond.code x code maxLocals ret :: tables_1) hat d (List.mem_cons_of_mem _ hd)
  have hfit : Fit s := fun {y c} hc i hi => by
    obtain ⟨ha, rfl⟩ := Array.getElem?_eq_some_iff.mp hc
    have q := List.all_eq_true.mp ((Array.all_eq_true_iff_forall_mem.mp hF) _ (Array.getElem_mem ha)) i (List.mem_range.mpr hi)
    simpa [Array.getElem?_eq_getElem hi] using q
  obtain ⟨i0, ei0⟩ := is_v g0
  obtain rfl : w0 = (.int i0) := Option.some.inj ei0
  obtain ⟨c0, nn0⟩ := and_e hn
  obtain ⟨x0, ev0, S0, E0⟩ := own_stat c0 (hw _ (List.mem_of_getElem? (i := 6) rfl)) (hw _ (List.mem_of_getElem? (i := 7) rfl))
  obtain ⟨c1, nn1⟩ := and_e nn0
  obtain ⟨x8, ev8, S8, E8⟩ := own_stat c1 (hw _ (List.mem_of_getElem? (i := 6) rfl)) (hw _ (List.mem_of_getElem? (i := 14) rfl))
  obtain ⟨c2, nn2⟩ := and_e nn1
  have F0 := own_ord ev0 c2
  obtain ⟨c3, nn3⟩ := and_e nn2
  have F8 := own_ord ev8 c3
  obtain ⟨c4, nn4⟩ := and_e nn3
  obtain ⟨x9, ev9, S9, E9⟩ := own_stat c4 (hw _ (List.mem_of_getElem? (i := 6) rfl)) (hw _ (List.mem_of_getElem? (i := 16) rfl))
  obtain ⟨c5, nn5⟩ := and_e nn4
  have F9 := own_ord ev9 c5
  obtain ⟨c6, nn6⟩ := and_e nn5
  obtain ⟨x12, ev12, S12, E12⟩ := own_stat c6 (hw _ (List.mem_of_getElem? (i := 6) rfl)) (hw _ (List.mem_of_getElem? (i := 18) rfl))
  obtain ⟨c7, nn7⟩ := and_e nn6
  have F12 := own_ord ev12 c7
  obtain ⟨c8, nn8⟩ := and_e nn7
  obtain ⟨x10, ev10, S10, E10⟩ := own_stat c8 (hw _ (List.mem_of_getElem? (i := 6) rfl)) (hw _ (List.mem_of_getElem? (i := 20) rfl))
  obtain ⟨c9, nn9⟩ := and_e nn8
  have F10 := own_ord ev10 c9
  obtain ⟨c10, nn10⟩ := and_e nn9
  obtain ⟨x11, ev11, S11, E11⟩ := own_stat c10 (hw _ (List.mem_of_getElem? (i := 6) rfl)) (hw _ (List.mem_of_getElem? (i := 22) rfl))
  obtain ⟨c11, nn11⟩ := and_e nn10
  have F11 := own_ord ev11 c11
  obtain ⟨c12, nn12⟩ := and_e nn11
  obtain ⟨x3, ev3, S3, E3⟩ := own_stat c12 (hw _ (List.mem_of_getElem? (i := 6) rfl)) (hw _ (List.mem_of_getElem? (i := 24) rfl))
  obtain ⟨c13, nn13⟩ := and_e nn12
  have F3 := own_ord ev3 c13
  obtain ⟨c14, nn14⟩ := and_e nn13
  obtain ⟨x6, ev6, S6, E6⟩ := own_stat c14 (hw _ (List.mem_of_getElem? (i := 6) rfl)) (hw _ (List.mem_of_getElem? (i := 26) rfl))
  obtain ⟨c15, nn15⟩ := and_e nn14
  have F6 := own_ord ev6 c15
  obtain ⟨c16, nn16⟩ := and_e nn15
  obtain ⟨x5, ev5, S5, E5⟩ := own_stat c16 (hw _ (List.mem_of_getElem? (i := 6) rfl)) (hw _ (List.mem_of_getElem? (i := 28) rfl))
  obtain ⟨c17, nn17⟩ := and_e nn16
  have F5 := own_ord ev5 c17
  obtain ⟨c18, nn18⟩ := and_e nn17
  obtain ⟨x7, ev7, S7, E7⟩ := own_stat c18 (hw _ (List.mem_of_getElem? (i := 6) rfl)) (hw _ (List.mem_of_getElem? (i := 30) rfl))
  obtain ⟨c19, nn19⟩ := and_e nn18
  have F7 := own_ord ev7 c19
  obtain ⟨c20, nn20⟩ := and_e nn19
  obtain ⟨x2, ev2, S2, E2⟩ := own_stat c20 (hw _ (List.mem_of_getElem? (i := 6) rfl)) (hw _ (List.mem_of_getElem? (i := 33) rfl))
  obtain ⟨c21, nn21⟩ := and_e nn20
  have F2 := own_ord ev2 c21
  obtain ⟨c22, nn22⟩ := and_e nn21
  obtain ⟨x1, ev1, S1, E1⟩ := own_stat c22 (hw _ (List.mem_of_getElem? (i := 6) rfl)) (hw _ (List.mem_of_getElem? (i := 36) rfl))
  obtain ⟨c23, nn23⟩ := and_e nn22
  have F1 := own_ord ev1 c23
  obtain ⟨c24, nn24⟩ := and_e nn23
  obtain ⟨x4, ev4, S4, E4⟩ := own_stat c24 (hw _ (List.mem_of_getElem? (i := 6) rfl)) (hw _ (List.mem_of_getElem? (i := 41) rfl))
  have F4 := own_ord ev4 nn24
  let b : Nat → Addr := fun i => [x0, x1, x2, x3, x4, x5, x6, x7, x8, x9, x10, x11, x12].getD i 0
  have E : ∀ n, n < 13 → Exa s s.heap (b n) "com/example/treadle/treadle/xpath/Axis" := fun n hn => match n, hn with
    | 0, _ => E0
    | 1, _ => E1
    | 2, _ => E2
    | 3, _ => E3
    | 4, _ => E4
    | 5, _ => E5
    | 6, _ => E6
    | 7, _ => E7
    | 8, _ => E8
    | 9, _ => E9
    | 10, _ => E10
    | 11, _ => E11
    | 12, _ => E12
    | n + 13, h => absurd h (by omega)
  have F : ∀ n, n < 13 → Fld s s.heap (b n) "java/lang/Enum" "ordinal" "I" (.int (Int32.ofNat n)) := fun n hn => match n, hn with
    | 0, _ => F0
    | 1, _ => F1
    | 2, _ => F2
    | 3, _ => F3
    | 4, _ => F4
    | 5, _ => F5
    | 6, _ => F6
    | 7, _ => F7
    | 8, _ => F8
    | 9, _ => F9
    | 10, _ => F10
    | 11, _ => F11
    | 12, _ => F12
    | n + 13, h => absurd h (by omega)
  have D : own_Dis b := fun i j hi hj e => Classical.byContradiction fun hne => (F i hi).ne (F j hj) (fun q => hne (own_inj hi hj (Value.int.inj q))) e
  have S : own_Ax s s.heap b := ⟨S0, S1, S2, S3, S4, S5, S6, S7, S8, S9, S10, S11, S12⟩
  obtain ⟨n, o, h1, h2, h3, _, L, rfl, ⟨rfl, N⟩, hq⟩ := rm0 l s _ hw tables_1 i0 s.heap s.heap.size b S E D p e ha hc hk s m _ below hf ((Spec.applies_iff_loose hf).mp happ).1 ⟨rfl, State.Warmed39.refl s, rfl⟩ trivial
  refine ⟨n, _, h1, h2, h3, hpost _ _ _ _ _ _ ⟨Cond.after_iff.mpr rfl, Cond.after_iff.mpr (eq_i res_at (Term.int_eval (1)) rfl), trivial⟩ ⟨hq.1, hq.2.1, (hq.2.2.sift fun y hy => Or.inr (N y hy)).mono (by decide) (by decide)⟩⟩
theorem main_1_1 : Claimed_1_1 := comes_1 fun _ _ _ _ _ _ h hF => ⟨h.1, hF⟩
theorem main_1_2 : Claimed_1_2 := comes_1 fun _ _ _ _ _ _ h hF => ⟨h.2.1, hF⟩
end Jvm.Pilot.@@N@@
namespace Jvm.Pilot.@@N@@
open Jvm Jvm.ClassFile Sem Op Lib Jvm.Free Jvm.Stand Jvm.Pilot.@@N@@.Jvm.D
/-! MADE BY PROGRAM (witnessworld.py) out of the Statement's table words and the real class files: 12 classes; the members and pool entries that the words name. The judged class is class 1, her method 2. -/
namespace start1
open Jvm.ClassFile
def u (s : String) : CpInfo := .utf8 (stringToUtf16 s)
/-- a pool by its gaps: so many unusable entries, then the entry; so many at the end -/
def gap : Nat → List CpInfo → List CpInfo
  | 0, r => r
  | n + 1, r => .unusable :: gap n r
def poolList (es : List (Nat × CpInfo)) (last : Nat) : List CpInfo := es.foldr (fun e r => gap e.1 (e.2 :: r)) (gap last [])
def pool (es : List (Nat × CpInfo)) (last : Nat) : Array CpInfo := ⟨poolList es last⟩
def fileOf (pool : Array CpInfo) (this : Nat) (attrs : Array Attribute := #[]) (ms : Array MethodInfo := #[]) (fl : Nat := 33) (sup : Nat := 0) (ifs : Array Nat := #[]) (fds : Array FieldInfo := #[]) : ClassFile where
  minorVersion := 0
  majorVersion := 65
  constantPool := pool
  accessFlags := fl
  thisClass := this
  superClass := sup
  interfaces := ifs
  fields := fds
  methods := ms
  attributes := attrs
def plain (name : String) (sup : Option ClassId) : Class where
  name := name
  kind := .ordinary
  loader := none
  accessFlags := 33
  super := sup
  interfaces := #[]
  cf := none
  fields := #[]
  methods := #[]
  instanceTypes := #[]
  staticTypes := #[]
  resolved := #[]
  callSites := []
  init := .initialized
  statics := none
  mirror := none

def pool0 : Array CpInfo := pool [(5, u "<init>"), (0, u "()V"), (1, .class_ 10), (1, u "java/lang/Object")] 113

def k0m0 : Method := { name := "<init>", desc := "()V", sig := { parameters := [], returnType := none }, accessFlags := 1, code := none }
/-- java/lang/Object -/
def k0 : Class := { plain "java/lang/Object" none with
  accessFlags := 33
  interfaces := #[]
  cf := some (fileOf pool0 8 #[] #[{ accessFlags := 1, nameIndex := 5, descriptorIndex := 6, attributes := #[] }] 33 0 #[] #[])
  fields := #[]
  methods := #[k0m0]
  instanceTypes := #[]
  staticTypes := #[]
  resolved := Array.replicate 124 none
  statics := none }

def pool1 : Array CpInfo := pool [(2, .class_ 4), (1, u "java/lang/Object"), (0, u "<init>"), (0, u "()V"), (0, .fieldref 8 9), (0, .class_ 10), (0, .nameAndType 11 12), (0, u "com/example/treadle/treadle/xpath/Axis"), (0, u "CHILD"), (0, u "Lcom/example/treadle/treadle/xpath/Axis;"), (0, .fieldref 8 14), (0, .nameAndType 15 12), (0, u "DESCENDANT"), (0, .fieldref 8 17), (0, .nameAndType 18 12), (0, u "ATTRIBUTE"), (0, .fieldref 8 20), (0, .nameAndType 21 12), (0, u "SELF"), (0, .fieldref 8 23), (0, .nameAndType 24 12), (0, u "DESCENDANT_OR_SELF"), (0, .fieldref 8 26), (0, .nameAndType 27 12), (0, u "FOLLOWING_SIBLING"), (0, .fieldref 8 29), (0, .nameAndType 30 12), (0, u "FOLLOWING"), (0, .fieldref 8 32), (0, .nameAndType 33 12), (0, u "NAMESPACE"), (0, .fieldref 8 35), (0, .nameAndType 36 12), (0, u "PARENT"), (0, .fieldref 8 38), (0, .nameAndType 39 12), (0, u "ANCESTOR"), (0, .fieldref 8 41), (0, .nameAndType 42 12), (0, u "PRECEDING_SIBLING"), (0, .fieldref 8 44), (0, .nameAndType 45 12), (0, u "PRECEDING"), (0, .fieldref 8 47), (0, .nameAndType 48 12), (0, u "ANCESTOR_OR_SELF"), (0, .integer 2147483647), (0, .methodref 51 52), (0, .class_ 53), (0, .nameAndType 54 55), (0, u "com/example/treadle/treadle/xpath/AxisIsReversePinLaw"), (0, u "axis"), (0, u "(I)Lcom/example/treadle/treadle/xpath/Axis;"), (0, .methodref 8 57), (0, .nameAndType 58 59), (0, u "isReverse"), (0, u "()Z"), (3, u "law"), (0, u "(I)Z")] 2

def k1m0 : Method := { name := "<init>", desc := "()V", sig := { parameters := [], returnType := none }, accessFlags := 2, code := none }
def k1c1 : Code := { maxStack := 2, maxLocals := 1, code := method_2_code, exceptionTable := #[], attributes := #[] }
def k1m1 : Method := { name := "axis", desc := "(I)Lcom/example/treadle/treadle/xpath/Axis;", sig := { parameters := [.int], returnType := some (.object "com/example/treadle/treadle/xpath/Axis") }, accessFlags := 10, code := some k1c1 }
def k1c2 : Code := { maxStack := 2, maxLocals := 4, code := code, exceptionTable := #[], attributes := #[] }
def k1m2 : Method := { name := "law", desc := "(I)Z", sig := { parameters := [.int], returnType := some .boolean }, accessFlags := 9, code := some k1c2 }
/-- com/example/treadle/treadle/xpath/AxisIsReversePinLaw -/
def k1 : Class := { plain "com/example/treadle/treadle/xpath/AxisIsReversePinLaw" (some 0) with
  accessFlags := 49
  interfaces := #[]
  cf := some (fileOf pool1 51 #[] #[{ accessFlags := 2, nameIndex := 5, descriptorIndex := 6, attributes := #[] }, { accessFlags := 10, nameIndex := 54, descriptorIndex := 55, attributes := #[] }, { accessFlags := 9, nameIndex := 63, descriptorIndex := 64, attributes := #[] }] 49 2 #[] #[])
  fields := #[]
  methods := #[k1m0, k1m1, k1m2]
  instanceTypes := #[]
  staticTypes := #[]
  resolved := Array.replicate 67 none
  statics := none }

def pool2 : Array CpInfo := pool [(1, .class_ 2), (0, u "java/lang/constant/Constable"), (0, .class_ 4), (0, u "java/lang/Object")] 6

/-- java/lang/constant/Constable -/
def k2 : Class := { plain "java/lang/constant/Constable" (some 0) with
  accessFlags := 1537
  interfaces := #[]
  cf := some (fileOf pool2 1 #[] #[] 1537 3 #[] #[])
  fields := #[]
  methods := #[]
  instanceTypes := #[]
  staticTypes := #[]
  resolved := Array.replicate 11 none
  statics := none }

def pool3 : Array CpInfo := pool [(1, .class_ 2), (0, u "java/lang/Comparable"), (0, .class_ 4), (0, u "java/lang/Object")] 7

/-- java/lang/Comparable -/
def k3 : Class := { plain "java/lang/Comparable" (some 0) with
  accessFlags := 1537
  interfaces := #[]
  cf := some (fileOf pool3 1 #[] #[] 1537 3 #[] #[])
  fields := #[]
  methods := #[]
  instanceTypes := #[]
  staticTypes := #[]
  resolved := Array.replicate 12 none
  statics := none }

def pool4 : Array CpInfo := pool [(1, .class_ 2), (0, u "java/io/Serializable"), (0, .class_ 4), (0, u "java/lang/Object")] 2

/-- java/io/Serializable -/
def k4 : Class := { plain "java/io/Serializable" (some 0) with
  accessFlags := 1537
  interfaces := #[]
  cf := some (fileOf pool4 1 #[] #[] 1537 3 #[] #[])
  fields := #[]
  methods := #[]
  instanceTypes := #[]
  staticTypes := #[]
  resolved := Array.replicate 7 none
  statics := none }

def pool5 : Array CpInfo := pool [(2, .class_ 4), (1, u "java/lang/Enum"), (0, u "name"), (0, u "Ljava/lang/String;"), (2, u "ordinal"), (0, u "I"), (1, .class_ 14), (1, u "java/lang/Object"), (4, u "hash"), (86, .class_ 108), (1, u "java/lang/Enum$EnumDesc"), (2, .class_ 112), (0, u "java/lang/constant/Constable"), (0, .class_ 114), (0, u "java/lang/Comparable"), (0, .class_ 116), (0, u "java/io/Serializable")] 87

/-- java/lang/Enum -/
def k5 : Class := { plain "java/lang/Enum" (some 0) with
  accessFlags := 1057
  interfaces := #[2, 3, 4]
  cf := some (fileOf pool5 2 #[.nestMembers #[106]] #[] 1057 12 #[111, 113, 115] #[{ accessFlags := 18, nameIndex := 5, descriptorIndex := 6, attributes := #[] }, { accessFlags := 18, nameIndex := 9, descriptorIndex := 10, attributes := #[] }, { accessFlags := 2, nameIndex := 19, descriptorIndex := 10, attributes := #[] }])
  fields := #[{ name := "name", type := (.object "java/lang/String"), accessFlags := 18, slot := 0, constantValue := 0 }, { name := "ordinal", type := .int, accessFlags := 18, slot := 1, constantValue := 0 }, { name := "hash", type := .int, accessFlags := 2, slot := 2, constantValue := 0 }]
  methods := #[]
  instanceTypes := #[(.object "java/lang/String"), .int, .int]
  staticTypes := #[]
  resolved := Array.replicate 204 none
  statics := none }

def pool6 : Array CpInfo := pool [(1, .class_ 2), (0, u "com/example/treadle/treadle/xpath/Axis"), (2, u "CHILD"), (0, u "Lcom/example/treadle/treadle/xpath/Axis;"), (2, u "DESCENDANT"), (2, u "ATTRIBUTE"), (2, u "SELF"), (2, u "DESCENDANT_OR_SELF"), (2, u "FOLLOWING_SIBLING"), (2, u "FOLLOWING"), (2, u "NAMESPACE"), (0, .fieldref 1 29), (0, .nameAndType 30 6), (0, u "PARENT"), (0, .fieldref 1 32), (0, .nameAndType 33 6), (0, u "ANCESTOR"), (0, .fieldref 1 35), (0, .nameAndType 36 6), (0, u "PRECEDING_SIBLING"), (0, .fieldref 1 38), (0, .nameAndType 39 6), (0, u "PRECEDING"), (0, .fieldref 1 41), (0, .nameAndType 42 6), (0, u "ANCESTOR_OR_SELF"), (2, u "$VALUES"), (0, u "[Lcom/example/treadle/treadle/xpath/Axis;"), (6, .class_ 55), (1, u "java/lang/Enum"), (126, u "()Z"), (63, u "isReverse")] 9

def k6c0 : Code := { maxStack := 2, maxLocals := 1, code := prog_65_method_7_code, exceptionTable := #[], attributes := #[] }
def k6m0 : Method := { name := "isReverse", desc := "()Z", sig := { parameters := [], returnType := some .boolean }, accessFlags := 1, code := some k6c0 }
/-- com/example/treadle/treadle/xpath/Axis -/
def k6 : Class := { plain "com/example/treadle/treadle/xpath/Axis" (some 5) with
  accessFlags := 16433
  interfaces := #[]
  cf := some (fileOf pool6 1 #[] #[{ accessFlags := 1, nameIndex := 246, descriptorIndex := 182, attributes := #[] }] 16433 53 #[] #[{ accessFlags := 16409, nameIndex := 5, descriptorIndex := 6, attributes := #[] }, { accessFlags := 16409, nameIndex := 9, descriptorIndex := 6, attributes := #[] }, { accessFlags := 16409, nameIndex := 12, descriptorIndex := 6, attributes := #[] }, { accessFlags := 16409, nameIndex := 15, descriptorIndex := 6, attributes := #[] }, { accessFlags := 16409, nameIndex := 18, descriptorIndex := 6, attributes := #[] }, { accessFlags := 16409, nameIndex := 21, descriptorIndex := 6, attributes := #[] }, { accessFlags := 16409, nameIndex := 24, descriptorIndex := 6, attributes := #[] }, { accessFlags := 16409, nameIndex := 27, descriptorIndex := 6, attributes := #[] }, { accessFlags := 16409, nameIndex := 30, descriptorIndex := 6, attributes := #[] }, { accessFlags := 16409, nameIndex := 33, descriptorIndex := 6, attributes := #[] }, { accessFlags := 16409, nameIndex := 36, descriptorIndex := 6, attributes := #[] }, { accessFlags := 16409, nameIndex := 39, descriptorIndex := 6, attributes := #[] }, { accessFlags := 16409, nameIndex := 42, descriptorIndex := 6, attributes := #[] }, { accessFlags := 4122, nameIndex := 45, descriptorIndex := 46, attributes := #[] }])
  fields := #[{ name := "CHILD", type := (.object "com/example/treadle/treadle/xpath/Axis"), accessFlags := 16409, slot := 0, constantValue := 0 }, { name := "DESCENDANT", type := (.object "com/example/treadle/treadle/xpath/Axis"), accessFlags := 16409, slot := 1, constantValue := 0 }, { name := "ATTRIBUTE", type := (.object "com/example/treadle/treadle/xpath/Axis"), accessFlags := 16409, slot := 2, constantValue := 0 }, { name := "SELF", type := (.object "com/example/treadle/treadle/xpath/Axis"), accessFlags := 16409, slot := 3, constantValue := 0 }, { name := "DESCENDANT_OR_SELF", type := (.object "com/example/treadle/treadle/xpath/Axis"), accessFlags := 16409, slot := 4, constantValue := 0 }, { name := "FOLLOWING_SIBLING", type := (.object "com/example/treadle/treadle/xpath/Axis"), accessFlags := 16409, slot := 5, constantValue := 0 }, { name := "FOLLOWING", type := (.object "com/example/treadle/treadle/xpath/Axis"), accessFlags := 16409, slot := 6, constantValue := 0 }, { name := "NAMESPACE", type := (.object "com/example/treadle/treadle/xpath/Axis"), accessFlags := 16409, slot := 7, constantValue := 0 }, { name := "PARENT", type := (.object "com/example/treadle/treadle/xpath/Axis"), accessFlags := 16409, slot := 8, constantValue := 0 }, { name := "ANCESTOR", type := (.object "com/example/treadle/treadle/xpath/Axis"), accessFlags := 16409, slot := 9, constantValue := 0 }, { name := "PRECEDING_SIBLING", type := (.object "com/example/treadle/treadle/xpath/Axis"), accessFlags := 16409, slot := 10, constantValue := 0 }, { name := "PRECEDING", type := (.object "com/example/treadle/treadle/xpath/Axis"), accessFlags := 16409, slot := 11, constantValue := 0 }, { name := "ANCESTOR_OR_SELF", type := (.object "com/example/treadle/treadle/xpath/Axis"), accessFlags := 16409, slot := 12, constantValue := 0 }, { name := "$VALUES", type := (.array (.object "com/example/treadle/treadle/xpath/Axis")), accessFlags := 4122, slot := 13, constantValue := 0 }]
  methods := #[k6m0]
  instanceTypes := #[(.object "java/lang/String"), .int, .int]
  staticTypes := #[(.object "com/example/treadle/treadle/xpath/Axis"), (.object "com/example/treadle/treadle/xpath/Axis"), (.object "com/example/treadle/treadle/xpath/Axis"), (.object "com/example/treadle/treadle/xpath/Axis"), (.object "com/example/treadle/treadle/xpath/Axis"), (.object "com/example/treadle/treadle/xpath/Axis"), (.object "com/example/treadle/treadle/xpath/Axis"), (.object "com/example/treadle/treadle/xpath/Axis"), (.object "com/example/treadle/treadle/xpath/Axis"), (.object "com/example/treadle/treadle/xpath/Axis"), (.object "com/example/treadle/treadle/xpath/Axis"), (.object "com/example/treadle/treadle/xpath/Axis"), (.object "com/example/treadle/treadle/xpath/Axis"), (.array (.object "com/example/treadle/treadle/xpath/Axis"))]
  resolved := Array.replicate 256 none
  statics := some 0 }

def pool7 : Array CpInfo := pool [(1, u "java/lang/Cloneable"), (0, .class_ 1), (0, u "java/lang/Object"), (0, .class_ 3)] 3

/-- java/lang/Cloneable -/
def k7 : Class := { plain "java/lang/Cloneable" (some 0) with
  accessFlags := 1537
  interfaces := #[]
  cf := some (fileOf pool7 2 #[] #[] 1537 4 #[] #[])
  fields := #[]
  methods := #[]
  instanceTypes := #[]
  staticTypes := #[]
  resolved := Array.replicate 8 none
  statics := none }

/-- the primitive byte -/
def k8 : Class := { plain "byte" none with kind := .primitive 'B', accessFlags := 0x411 }
/-- [B -/
def k9 : Class := { plain "[B" (some 0) with kind := .array 8 .byte, interfaces := #[7, 4], accessFlags := 1041 }

/-- the primitive int -/
def k10 : Class := { plain "int" none with kind := .primitive 'I', accessFlags := 0x411 }
/-- [I -/
def k11 : Class := { plain "[I" (some 0) with kind := .array 10 .int, interfaces := #[7, 4], accessFlags := 1041 }

def heap : Heap := #[{ cls := 6, slots := #[.ref 1, .ref 12, .ref 11, .ref 7, .ref 13, .ref 9, .ref 8, .ref 10, .ref 2, .ref 3, .ref 5, .ref 6, .ref 4, .null], vm := .statics 6 },
  { cls := 6, slots := #[.null, .int 0, .int 0], vm := .none },
  { cls := 6, slots := #[.null, .int 8, .int 0], vm := .none },
  { cls := 6, slots := #[.null, .int 9, .int 0], vm := .none },
  { cls := 6, slots := #[.null, .int 12, .int 0], vm := .none },
  { cls := 6, slots := #[.null, .int 10, .int 0], vm := .none },
  { cls := 6, slots := #[.null, .int 11, .int 0], vm := .none },
  { cls := 6, slots := #[.null, .int 3, .int 0], vm := .none },
  { cls := 6, slots := #[.null, .int 6, .int 0], vm := .none },
  { cls := 6, slots := #[.null, .int 5, .int 0], vm := .none },
  { cls := 6, slots := #[.null, .int 7, .int 0], vm := .none },
  { cls := 6, slots := #[.null, .int 2, .int 0], vm := .none },
  { cls := 6, slots := #[.null, .int 1, .int 0], vm := .none },
  { cls := 6, slots := #[.null, .int 4, .int 0], vm := .none }]
def classes : Array Class := #[k0, k1, k2, k3, k4, k5, k6, k7, k8, k9, k10, k11]
def interned : List (Array UInt16 × Addr) := []
def slotsUsed : Nat := 53
def theMethod : MethodId := ⟨1, 2⟩
def args0 : Array Value := #[.int 5]
def aboutOver (below : List Frame) : State where
  vm := { classes := classes, interned := interned.toArray }
  heap := heap
  slotsUsed := slotsUsed
  threads := #[{ frames := .invoking theMethod args0 :: below }]
def below0 : List Frame := [.native { method := ⟨0, 0⟩, args := #[] }]
def about1 : State := aboutOver below0
def p0 : Program := .bare "" "" ""
def e0 : Env := launch0.env 0 0 0
theorem w_frames : about1.frames = Frame.invoking theMethod args0 :: below0 := rfl
set_option maxRecDepth 65536 in
theorem w_args : argsFit about1.vm theMethod args0 = true := by decide +kernel
set_option maxRecDepth 65536 in
theorem w_heap : heapFits about1 = true := by decide +kernel
set_option maxRecDepth 65536 in
theorem w_runnable : about1.curStatus? = some .runnable := by decide +kernel
set_option maxRecDepth 65536 in
theorem w_alone : about1.alone = true := by decide +kernel
set_option maxRecDepth 65536 in
theorem w_named : about1.methodNamed? x = some theMethod := by decide +kernel
set_option maxRecDepth 65536 in
theorem w_hears : about1.hears theMethod below0 = true := by decide +kernel
set_option maxRecDepth 65536 in
theorem w_ripe : about1.ripe theMethod args0 below0 = true := by decide +kernel
theorem w_running : about1.status = .running := rfl
set_option maxRecDepth 65536 in
theorem w_room : about1.hasRoom e0.platform room_1 = true :=
  launch0.hasRoom_least _ room_1 (by decide +kernel) (by decide +kernel) (by decide +kernel) (by decide +kernel) (by decide +kernel) (by decide +kernel)
theorem allAtoms_all (ts : List Jvm.Cond) (a : Array Jvm.Value) (st : Jvm.State) : (allAtoms ts).before a st = ts.all (fun c => c.before a st) := by
  induction ts with
  | nil => rfl
  | cons c t ih =>
    show (Jvm.Cond.and c (allAtoms t)).before a st = _
    rw [Jvm.Cond.before_and, ih, List.all_cons]
def words1 : List Jvm.Cond := Jvm.Cond.code x code maxLocals ret :: tables_1
/-- a 'code' word, met by the world's own term for the bytes: nothing is compared byte by byte -/
theorem code_word {y : MethodName} {bytes : ByteArray} {mx : Nat} {rt : Option FieldType} {a : Array Value} {s : State} {m : MethodId} {meth : Method} {c : Code} (h1 : s.methodNamed? y = some m) (h2 : s.vm.method? m = some meth) (h3 : meth.code = some c) (h4 : c.code = bytes)
    (h5 : (c.maxLocals == mx && c.exceptionTable.isEmpty && decide (c.maxStack ≤ mostOperands) && decide (meth.sig.returnType = rt) && !meth.locks && decide (parseMethodDescriptor y.desc = some meth.sig)) = true) : (Jvm.Cond.code y bytes mx rt).before a s = true := by
  simp only [Bool.and_eq_true, beq_iff_eq, Bool.not_eq_true', decide_eq_true_eq] at h5
  obtain ⟨⟨⟨⟨⟨g1, g2⟩, g3⟩, g4⟩, g5⟩, g6⟩ := h5
  simp [Cond.before, Cond.holds, Cond.value, h1, h2, h3, h4, g1, g2, g3, g4, g5, g6]
def isCode : Jvm.Cond → Bool
  | .code _ _ _ _ => true
  | _ => false
theorem all_split {L : List Jvm.Cond} {P : Jvm.Cond → Bool} (h1 : L.all (fun c => isCode c || P c) = true) (h2 : ∀ c ∈ L.filter isCode, P c = true) : L.all P = true := by
  refine List.all_eq_true.mpr fun c hc => ?_
  have h := List.all_eq_true.mp h1 c hc
  rcases Bool.eq_false_or_eq_true (isCode c) with hi | hi
  · exact h2 c (List.mem_filter.mpr ⟨hc, hi⟩)
  · simpa [hi] using h
set_option maxRecDepth 65536 in
theorem w_c0 : (Jvm.Cond.code x code maxLocals ret).before args0 about1 = true := code_word (m := ⟨1, 2⟩) (meth := k1m2) (c := k1c2) (by decide +kernel) rfl rfl rfl (by decide +kernel)
set_option maxRecDepth 65536 in
theorem w_c1 : (Jvm.Cond.code ({ cls := "com/example/treadle/treadle/xpath/AxisIsReversePinLaw", name := "axis", desc := "(I)Lcom/example/treadle/treadle/xpath/Axis;" } : Jvm.MethodName) method_2_code (1 : Nat) (Option.some (Jvm.ClassFile.FieldType.object "com/example/treadle/treadle/xpath/Axis"))).before args0 about1 = true := code_word (m := ⟨1, 1⟩) (meth := k1m1) (c := k1c1) (by decide +kernel) rfl rfl rfl (by decide +kernel)
set_option maxRecDepth 65536 in
theorem w_c2 : (Jvm.Cond.code ({ cls := "com/example/treadle/treadle/xpath/Axis", name := "isReverse", desc := "()Z" } : Jvm.MethodName) prog_65_method_7_code (1 : Nat) (Option.some Jvm.ClassFile.FieldType.boolean)).before args0 about1 = true := code_word (m := ⟨6, 0⟩) (meth := k6m0) (c := k6c0) (by decide +kernel) rfl rfl rfl (by decide +kernel)
def codes1 : List Jvm.Cond := [Jvm.Cond.code x code maxLocals ret, Jvm.Cond.code ({ cls := "com/example/treadle/treadle/xpath/AxisIsReversePinLaw", name := "axis", desc := "(I)Lcom/example/treadle/treadle/xpath/Axis;" } : Jvm.MethodName) method_2_code (1 : Nat) (Option.some (Jvm.ClassFile.FieldType.object "com/example/treadle/treadle/xpath/Axis")), Jvm.Cond.code ({ cls := "com/example/treadle/treadle/xpath/Axis", name := "isReverse", desc := "()Z" } : Jvm.MethodName) prog_65_method_7_code (1 : Nat) (Option.some Jvm.ClassFile.FieldType.boolean)]
set_option maxRecDepth 65536 in
theorem codes_eq : words1.filter isCode = codes1 := rfl
theorem w_codes : ∀ c ∈ words1.filter isCode, c.before args0 about1 = true := by
  rw [codes_eq]
  intro c hc
  simp only [codes1, List.mem_cons, List.not_mem_nil, or_false] at hc
  rcases hc with rfl | rfl | rfl
  · exact w_c0
  · exact w_c1
  · exact w_c2
set_option maxRecDepth 65536 in
theorem w_t1 : (words1.take 24).all (fun c => isCode c || c.before args0 about1) = true := by decide +kernel
set_option maxRecDepth 65536 in
theorem w_t2 : (words1.drop 24).all (fun c => isCode c || c.before args0 about1) = true := by decide +kernel
theorem w_tables : (allAtoms (Jvm.Cond.code x code maxLocals ret :: tables_1)).before args0 about1 = true := by
  rw [allAtoms_all]
  show words1.all (fun c => c.before args0 about1) = true
  refine all_split ?_ w_codes
  rw [← List.take_append_drop 24 words1, List.all_append, w_t1, w_t2]
  rfl
set_option maxRecDepth 65536 in
theorem w_case : (Jvm.Cond.and given_1 narrow_1).before args0 about1 = true := by decide +kernel
theorem w_applies : (headSpec (Jvm.Cond.code x code maxLocals ret :: tables_1) room_1).applies x e0.platform about1 = true :=
  (Spec.applies_iff w_frames).mpr ⟨w_running, w_runnable, w_alone, w_named, w_hears, w_ripe, w_room, w_tables⟩
theorem atStart : AtStart classFile x code maxLocals ret World_1 tables_1 room_1 Calls_1 rest_1 Pre_1 launch0 p0 e0 about1 theMethod args0 below0 :=
  ⟨lists_1, trivial, launch0.admits_env _ _ _, launch0.least_env, fairChoices_fair.cas, fairChoices_fair.clock, w_frames, w_args, w_heap, w_applies, trivial, trivial, w_case⟩
end start1
theorem witness_1 : WitnessClaimed_1 := ⟨start1.p0, start1.e0, start1.about1, start1.theMethod, start1.args0, start1.below0, start1.atStart⟩
end Jvm.Pilot.@@N@@
