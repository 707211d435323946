import JvmDerived
import JvmDerived.Pilot.@@N@@Statement
import JvmDerived.Pilot.@@N@@Code
set_option linter.unusedVariables false
set_option linter.unusedSimpArgs false
namespace Jvm.Pilot.@@N@@
open Jvm Jvm.ClassFile Sem Op Lib Jvm.Free Jvm.Stand Jvm.LawKit Jvm.RoadKit Bundle Jvm.Pilot.@@N@@.Jvm.D
/-! own layer: a walk in continuation style. own_Ends: from T with the frame g on top the run comes to an end of which G holds. -/
def own_Fin (below : List Frame) (s : State) (k n : Nat) (Q : Option Value → Heap → List Loc → Prop) (t : State) : Prop :=
  t.status = .running ∧ ∃ o, Ended t below o ∧ ∃ v L, o = .returned v ∧ Q v t.heap L ∧ FrameEnd s o t L k n
def own_Ends (p : Program) (e : Env) (below : List Frame) (G : State → Prop) (T : State) (g : JFrame) : Prop := ∃ t, Steps p.tables e below (T.setTop g) t ∧ G t
theorem own_via {p : Program} {e : Env} {below : List Frame} {G : State → Prop} {T T' : State} {g g' : JFrame} (h : ∀ t, Steps p.tables e below (T'.setTop g') t → Steps p.tables e below (T.setTop g) t) (k : own_Ends p e below G T' g') : own_Ends p e below G T g := by
  obtain ⟨t, a, b⟩ := k; exact ⟨t, h t a, b⟩
abbrev own_Con (l : Launch) (Z : State) (y : MethodName) (code : ByteArray) (ml : Nat) (ret : Option FieldType) (ws : List Jvm.Cond) (rm : Room) (as : Array Value) (h0 : Heap) (Q : Option Value → Heap → List Loc → Prop) : Prop :=
  MetFree l y (head1 (Jvm.Cond.code y code ml ret :: ws) rm) (fun a U => a = as ∧ Z.Warmed39 U.vm ∧ U.heap = h0) (fun _ _ _ _ _ => True) (fun _ U o U' => ∃ v L, o = .returned v ∧ Q v U'.heap L ∧ FrameEnd U o U' L rm.cells rm.slots)
theorem own_body {l : Launch} {Z : State} {y : MethodName} {code : ByteArray} {ml : Nat} {ret : Option FieldType} {ws : List Jvm.Cond} {rm : Room} {as : Array Value} {h0 : Heap} {Q : Option Value → Heap → List Loc → Prop} (hpl : plainFor y = true)
    (H : ∀ (p : Program) (e : Env) (s : State) (m : MethodId) (below : List Frame) (meth : Method) (c : Code) (T : State), p.tables.exec = Jvm.exec → c.code = code → c.maxLocals = ml → s.vm.findClass y.cls = some m.cls → meth.name = y.name → meth.sig.returnType = ret → meth.locks = false → Z.Warmed39 s.vm → Stand p l e rm s m as below meth c T [] 0 0 → T.heap = h0 → own_Ends p e below (own_Fin below s rm.cells rm.slots Q) T (entryFrame m as ml)) : own_Con l Z y code ml ret ws rm as h0 Q := by
  refine MetFree.of_bodySF hpl hisR ?_
  intro p e s m args below meth c s₁ Bd hml0 hP hK
  obtain ⟨rfl, hZ, hh⟩ := hP
  obtain ⟨t, h1, h2, o, h3, h4⟩ := H p e s m below meth c s₁ Bd.exec Bd.bytes hml0 (findClass_of_methodNamed Bd.named) (name_of_methodNamed Bd.named Bd.method).1 Bd.returns Bd.notSynchronized hZ (Stand.of_body Bd) (by rw [← hh, Bd.state]; rfl)
  exact ⟨t, o, h1, h2, h3, h4⟩
section OwnStand
variable {p : Program} {l : Launch} {e : Env} {R : Room} {s : State} {m : MethodId} {args : Array Value} {below : List Frame} {meth : Method} {c : Code} {T : State} {locs : List Loc} {cells slots : Nat} {Z : State} {a0 : Array Value} {h : Heap}
theorem own_leaf (X : Stand p l e R s m args below meth c T locs cells slots) (hlk : meth.locks = false) {v : Option Value} (hv : meth.sig.returnType = none → v = none) {g : JFrame} {k n : Nat} {Q : Option Value → Heap → List Loc → Prop}
    (hst : ∀ fs, (∀ (f : JFrame) (acts : List Action), f.method = m → f.locked = none → f.entered = [] → (doReturn e (T.setTop f) acts v).1 = T.setFrames fs) → Steps p.tables e below (T.setTop g) (T.setFrames fs))
    (hQ : Q v T.heap locs) (hk : cells ≤ k) (hn : slots ≤ n) : own_Ends p e below (own_Fin below s k n Q) T g := by
  obtain ⟨fs, hr, hrun, hended, hW, hsame⟩ := X.leave (v := v) hv hlk
  exact ⟨_, hst fs hr, hrun, _, hended, _, _, rfl, hQ, ⟨_, rfl⟩, hW, hsame.mono hk hn⟩
theorem own_retZ (X : Stand p l e R s m args below meth c T locs cells slots) (hx : p.tables.exec = Jvm.exec) (hret : meth.sig.returnType = some .boolean) (hlk : meth.locks = false) {pc : Nat} {Ls : Array Slot} {z : Int32} {rest : List Value} (hd : decode c.code pc = .ok (.ireturn, 1)) (hz : nar .boolean z = z) {k n : Nat} {Q : Option Value → Heap → List Loc → Prop}
    (hQ : Q (some (.int z)) T.heap locs) (hk : cells ≤ k) (hn : slots ≤ n) : own_Ends p e below (own_Fin below s k n Q) T (mkF m pc Ls (.int z :: rest)) :=
  own_leaf X hlk (fun h => by rw [hret] at h; cases h) (fun fs hl => retN X hx hret (by simp) hd (by rw [hz]; exact hl)) hQ hk hn
theorem own_retI (X : Stand p l e R s m args below meth c T locs cells slots) (hx : p.tables.exec = Jvm.exec) (hret : meth.sig.returnType = some .int) (hlk : meth.locks = false) {pc : Nat} {Ls : Array Slot} {z : Int32} {rest : List Value} (hd : decode c.code pc = .ok (.ireturn, 1)) {k n : Nat} {Q : Option Value → Heap → List Loc → Prop}
    (hQ : Q (some (.int z)) T.heap locs) (hk : cells ≤ k) (hn : slots ≤ n) : own_Ends p e below (own_Fin below s k n Q) T (mkF m pc Ls (.int z :: rest)) :=
  own_leaf X hlk (fun h => by rw [hret] at h; cases h) (fun fs hl => retOut X hx hret rfl (Or.inl ⟨rfl, Or.inl rfl, z, rfl⟩) hd hl) hQ hk hn
theorem own_retJ (X : Stand p l e R s m args below meth c T locs cells slots) (hx : p.tables.exec = Jvm.exec) (hret : meth.sig.returnType = some .long) (hlk : meth.locks = false) {pc : Nat} {Ls : Array Slot} {z : Int64} {rest : List Value} (hd : decode c.code pc = .ok (.lreturn, 1)) {k n : Nat} {Q : Option Value → Heap → List Loc → Prop}
    (hQ : Q (some (.long z)) T.heap locs) (hk : cells ≤ k) (hn : slots ≤ n) : own_Ends p e below (own_Fin below s k n Q) T (mkF m pc Ls (.long z :: rest)) :=
  own_leaf X hlk (fun h => by rw [hret] at h; cases h) (fun fs hl => retOut X hx hret rfl (Or.inr (Or.inl ⟨rfl, rfl, z, rfl⟩)) hd hl) hQ hk hn
theorem own_retA (X : Stand p l e R s m args below meth c T locs cells slots) (hx : p.tables.exec = Jvm.exec) {t : FieldType} (hret : meth.sig.returnType = some t) (ht : t.isReference = true) (hlk : meth.locks = false) {pc : Nat} {Ls : Array Slot} {z : Value} (hz : z.isRef = true) (hn' : narrow t z = z) {rest : List Value} (hd : decode c.code pc = .ok (.areturn, 1)) {k n : Nat} {Q : Option Value → Heap → List Loc → Prop}
    (hQ : Q (some z) T.heap locs) (hk : cells ≤ k) (hn : slots ≤ n) : own_Ends p e below (own_Fin below s k n Q) T (mkF m pc Ls (z :: rest)) :=
  own_leaf X hlk (fun h => by rw [hret] at h; cases h) (fun fs hl => retOut X hx hret hn' (Or.inr (Or.inr (Or.inr (Or.inr ⟨rfl, ht, hz⟩)))) hd hl) hQ hk hn
theorem own_retV (X : Stand p l e R s m args below meth c T locs cells slots) (hx : p.tables.exec = Jvm.exec) (hret : meth.sig.returnType = none) (hlk : meth.locks = false) {pc : Nat} {Ls : Array Slot} (hd : decode c.code pc = .ok (.return_, 1)) {k n : Nat} {Q : Option Value → Heap → List Loc → Prop}
    (hQ : Q none T.heap locs) (hk : cells ≤ k) (hn : slots ≤ n) : own_Ends p e below (own_Fin below s k n Q) T (mkF m pc Ls []) :=
  own_leaf X hlk (fun _ => rfl) (fun fs hl => X.returnOut hx hret hd hl) hQ hk hn
theorem own_callS (X : Stand p l e R s m args below meth c T locs cells slots) (hx : p.tables.exec = Jvm.exec) (hZ : Z.Warmed39 s.vm) {own : String} {index : Nat} {y : MethodName} {bytes : ByteArray} {ml : Nat} {ret : Option FieldType} {rm : Room} {Q : Option Value → Heap → List Loc → Prop} {W : Nat} (hown : s.vm.findClass own = some m.cls)
    (w1 : (Jvm.Cond.methodLink own index y).before a0 Z = true) (w2 : (Jvm.Cond.static y).before a0 Z = true) (w3 : (Jvm.Cond.initialized y.cls).before a0 Z = true) (w4 : (Jvm.Cond.code y bytes ml ret).before a0 Z = true) (hy : y.cls ≠ "java/lang/invoke/MethodHandle" ∧ y.cls ≠ "java/lang/invoke/VarHandle") {argsL rest : List Value}
    (hM : own_Con l Z y bytes ml ret [] rm argsL.toArray h Q) (hf : rm.frames + 1 ≤ R.frames) (hl : W + (ml + 11) + rm.locals ≤ R.locals) (hc : cells + rm.cells ≤ R.cells) (hn : slots + rm.slots ≤ R.slots) (eT : T.heap = h)
    {g : JFrame} (hg : g.method = m) (hsize : g.locals.size = c.maxLocals) (hlen : ∀ sig, parseMethodDescriptor y.desc = some sig → argsL.length = sig.parameters.length) (hstack : g.stack = argsL.reverse ++ rest) (hW : 2 * g.monitorRoom + (rest.map fun v => v.category).sum ≤ W) (hd : decode c.code g.pc = .ok (.invokestatic index, 3)) :
    ∃ v T' L, Stand p l e R s m args below meth c T' (locs ++ L) (cells + rm.cells) (slots + rm.slots) ∧ Q v T'.heap L ∧ ∀ t, Steps p.tables e below (T'.setTop { g with pc := g.pc + 3, stack := v.toList ++ rest }) t → Steps p.tables e below (T.setTop g) t := by
  obtain ⟨v, vm₁, ⟨T', L', k', n'⟩, -, X', ⟨L, hQ, e1, e2, e3⟩, st⟩ := Jvm.LawKit.callS X hx (y := y) hown (mvT hZ w1) (mvT hZ w2) (mvT hZ w3) (mvT hZ w4) hy (backOf (W := W) hM hZ w4 w3 hf hl) hg hsize (argsL := argsL) (rest := rest) hlen hstack hW hd (fun _ _ => ⟨rfl, eT, hc, hn⟩)
  dsimp only [Pt.U, Pt.locs, Pt.cells, Pt.slots] at X' e1 e2 e3 st hQ
  subst e1 e2 e3
  exact ⟨v, T', L, X', hQ, st⟩
theorem own_callV (X : Stand p l e R s m args below meth c T locs cells slots) (hx : p.tables.exec = Jvm.exec) (hZ : Z.Warmed39 s.vm) {own C : String} {index : Nat} {y z : MethodName} {bytes : ByteArray} {ml : Nat} {ret : Option FieldType} {rm : Room} {Q : Option Value → Heap → List Loc → Prop} {W : Nat} (hown : s.vm.findClass own = some m.cls)
    (w1 : (Jvm.Cond.methodLink own index y).before a0 Z = true) (w2 : (Jvm.Cond.declares y).before a0 Z = true) (nf : NotFace s y) (w3 : (Jvm.Cond.selects C y z).before a0 Z = true) (w4 : (Jvm.Cond.instanceMethod z).before a0 Z = true) (wz : (Jvm.Cond.initialized z.cls).before a0 Z = true) (wc : (Jvm.Cond.code z bytes ml ret).before a0 Z = true) (hy : y.cls ≠ "java/lang/invoke/MethodHandle" ∧ y.cls ≠ "java/lang/invoke/VarHandle") {b : Addr} {argsL rest : List Value}
    (hM : own_Con l Z z bytes ml ret [] rm (.ref b :: argsL).toArray h Q) (hf : rm.frames + 1 ≤ R.frames) (hl : W + (ml + 11) + rm.locals ≤ R.locals) (hc : cells + rm.cells ≤ R.cells) (hn : slots + rm.slots ≤ R.slots) (eT : T.heap = h) (E : Exa Z h b C)
    {g : JFrame} (hg : g.method = m) (hsize : g.locals.size = c.maxLocals) (hlen : ∀ sig, parseMethodDescriptor y.desc = some sig → argsL.length = sig.parameters.length) (hstack : g.stack = argsL.reverse ++ .ref b :: rest) (hW : 2 * g.monitorRoom + (rest.map fun v => v.category).sum ≤ W) (hd : decode c.code g.pc = .ok (.invokevirtual index, 3)) :
    ∃ v T' L, Stand p l e R s m args below meth c T' (locs ++ L) (cells + rm.cells) (slots + rm.slots) ∧ Q v T'.heap L ∧ ∀ t, Steps p.tables e below (T'.setTop { g with pc := g.pc + 3, stack := v.toList ++ rest }) t → Steps p.tables e below (T.setTop g) t := by
  obtain ⟨cq, kq, q1, q2, q3⟩ := isOf hZ eT E
  obtain ⟨v, vm₁, ⟨T', L', k', n'⟩, -, X', ⟨L, hQ, e1, e2, e3⟩, st⟩ := X.virtualBack hx (y := y) (z := z) hown (mvT hZ w1) (mvT hZ w2) nf (mvT hZ w3) (mvT hZ w4) hy (backOf (W := W) hM hZ wc wz hf hl) q1 q3 hg hsize (Steps.refl _) (argsL := argsL) (rest := rest) hlen hstack hW hd (fun _ _ => ⟨rfl, eT, hc, hn⟩)
  dsimp only [Pt.U, Pt.locs, Pt.cells, Pt.slots] at X' e1 e2 e3 st hQ
  subst e1 e2 e3
  exact ⟨v, T', L, X', hQ, fun t k => st.trans k⟩
theorem own_callI (X : Stand p l e R s m args below meth c T locs cells slots) (hx : p.tables.exec = Jvm.exec) (hZ : Z.Warmed39 s.vm) {own : String} {index : Nat} {y : MethodName} (hy1 : y.name = "<init>") {bytes : ByteArray} {ml : Nat} {rm : Room} {Q : Option Value → Heap → List Loc → Prop} {W : Nat} (hown : s.vm.findClass own = some m.cls)
    (w1 : (Jvm.Cond.methodLink own index y).before a0 Z = true) (w2 : (Jvm.Cond.instanceMethod y).before a0 Z = true) (wz : (Jvm.Cond.initialized y.cls).before a0 Z = true) (wc : (Jvm.Cond.code y bytes ml none).before a0 Z = true) (hy : y.cls ≠ "java/lang/invoke/MethodHandle" ∧ y.cls ≠ "java/lang/invoke/VarHandle") {b : Addr} {argsL rest : List Value}
    (hM : own_Con l Z y bytes ml none [] rm (.ref b :: argsL).toArray h Q) (hf : rm.frames + 1 ≤ R.frames) (hl : W + (ml + 11) + rm.locals ≤ R.locals) (hc : cells + rm.cells ≤ R.cells) (hn : slots + rm.slots ≤ R.slots) (eT : T.heap = h)
    {g : JFrame} (hg : g.method = m) (hsize : g.locals.size = c.maxLocals) (hlen : ∀ sig, parseMethodDescriptor y.desc = some sig → argsL.length = sig.parameters.length) (hstack : g.stack = argsL.reverse ++ .ref b :: rest) (hW : 2 * g.monitorRoom + (rest.map fun v => v.category).sum ≤ W) (hd : decode c.code g.pc = .ok (.invokespecial index, 3)) :
    ∃ v T' L, Stand p l e R s m args below meth c T' (locs ++ L) (cells + rm.cells) (slots + rm.slots) ∧ Q v T'.heap L ∧ ∀ t, Steps p.tables e below (T'.setTop { g with pc := g.pc + 3, stack := v.toList ++ rest }) t → Steps p.tables e below (T.setTop g) t := by
  obtain ⟨v, vm₁, ⟨T', L', k', n'⟩, -, X', ⟨L, hQ, e1, e2, e3⟩, st⟩ := X.specialBack hx (y := y) hy1 hown (mvT hZ w1) (mvT hZ w2) (mvT hZ wc) hy (backOf (W := W) hM hZ wc wz hf hl) hg hsize (Steps.refl _) (a := b) (argsL := argsL) (rest := rest) hlen hstack hW hd (fun _ _ => ⟨rfl, eT, hc, hn⟩)
  dsimp only [Pt.U, Pt.locs, Pt.cells, Pt.slots] at X' e1 e2 e3 st hQ
  subst e1 e2 e3
  exact ⟨v, T', L, X', hQ, fun t k => st.trans k⟩
theorem own_callU (X : Stand p l e R s m args below meth c T locs cells slots) (hx : p.tables.exec = Jvm.exec) (hZ : Z.Warmed39 s.vm) {own C owner : String} {index : Nat} {y z : MethodName} {bytes : ByteArray} {ml : Nat} {ret : Option FieldType} {rm : Room} {Q : Option Value → Heap → List Loc → Prop} {W : Nat} (hown : s.vm.findClass own = some m.cls)
    (w1 : (Jvm.Cond.methodLink own index y).before a0 Z = true) (w2 : (Jvm.Cond.sameMethod y.cls owner y.name y.desc).before a0 Z = true) (w2' : (Jvm.Cond.declares ⟨owner, y.name, y.desc⟩).before a0 Z = true) (w3 : (Jvm.Cond.selects C y z).before a0 Z = true) (w4 : (Jvm.Cond.instanceMethod z).before a0 Z = true) (wz : (Jvm.Cond.initialized z.cls).before a0 Z = true) (wc : (Jvm.Cond.code z bytes ml ret).before a0 Z = true) (hy : owner ≠ "java/lang/invoke/MethodHandle" ∧ owner ≠ "java/lang/invoke/VarHandle") {b : Addr} {argsL rest : List Value}
    (hM : own_Con l Z z bytes ml ret [] rm (.ref b :: argsL).toArray h Q) (hf : rm.frames + 1 ≤ R.frames) (hl : W + (ml + 11) + rm.locals ≤ R.locals) (hc : cells + rm.cells ≤ R.cells) (hn : slots + rm.slots ≤ R.slots) (eT : T.heap = h) (E : Exa Z h b C)
    {g : JFrame} (hg : g.method = m) (hsize : g.locals.size = c.maxLocals) (hlen : ∀ sig, parseMethodDescriptor y.desc = some sig → argsL.length = sig.parameters.length) (hstack : g.stack = argsL.reverse ++ .ref b :: rest) (hW : 2 * g.monitorRoom + (rest.map fun v => v.category).sum ≤ W) (hd : decode c.code g.pc = .ok (.invokevirtual index, 3)) :
    ∃ v T' L, Stand p l e R s m args below meth c T' (locs ++ L) (cells + rm.cells) (slots + rm.slots) ∧ Q v T'.heap L ∧ ∀ t, Steps p.tables e below (T'.setTop { g with pc := g.pc + 3, stack := v.toList ++ rest }) t → Steps p.tables e below (T.setTop g) t := by
  obtain ⟨cq, kq, q1, q2, q3⟩ := isOf hZ eT E
  obtain ⟨v, vm₁, ⟨T', L', k', n'⟩, -, X', ⟨L, hQ, e1, e2, e3⟩, st⟩ := X.virtualBackUp hx (x := y) (y := z) hown (mvT hZ w1) (mvT hZ w2) (mvT hZ w2') hy (mvT hZ w3) (mvT hZ w4) (backOf (W := W) hM hZ wc wz hf hl) q1 q3 hg hsize (Steps.refl _) (argsL := argsL) (rest := rest) hlen hstack hW hd (fun _ _ => ⟨rfl, eT, hc, hn⟩)
  dsimp only [Pt.U, Pt.locs, Pt.cells, Pt.slots] at X' e1 e2 e3 st hQ
  subst e1 e2 e3
  exact ⟨v, T', L, X', hQ, fun t k => st.trans k⟩
/-- a callee that writes nothing and makes nothing: it returns r -/
abbrev own_Pure (l : Launch) (Z : State) (y : MethodName) (code : ByteArray) (ml : Nat) (ret : Option FieldType) (ws : List Jvm.Cond) (rm : Room) (as : Array Value) (h0 : Heap) (r : Option Value) : Prop := own_Con l Z y code ml ret ws rm as h0 (fun v h L => v = r ∧ L = [] ∧ h = h0)
theorem own_pure {c0 : Code} {T' : State} {v r : Option Value} {L : List Loc} {kc ks : Nat} (X : Stand p l e R s m args below meth c0 T' (locs ++ L) (cells + kc) (slots + ks)) (h1 : kc = 0) (h2 : ks = 0) (hL : L = []) : Stand p l e R s m args below meth c0 T' locs cells slots := by
  subst h1 h2 hL; rw [List.append_nil] at X; exact X
end OwnStand
theorem own_stat {s : State} {args : Array Value} {C C' f d : String} (hx : (Jvm.Cond.exactly (.static C f d) C').value args s none s [] = some true) (wi : (Jvm.Cond.initialized C).before args s = true) (wl : (Jvm.Cond.laysStatic C f d).before args s = true) :
    ∃ x, (Term.static C f d).eval args s none [] s = some (.ref x) ∧ Sta s s.heap C f d (.ref x) ∧ Exa s s.heap x C' := by
  obtain ⟨x, ev⟩ := exa_v hx
  exact ⟨x, ev, Sta.start ev (Or.inr ⟨wi, wl⟩), Exa.start ev hx⟩
theorem own_ord {s : State} {args : Array Value} {t : Term} {x : Addr} {C n d : String} {k : Int32} (ev : t.eval args s none [] s = some (.ref x)) (hk : (Jvm.Cond.eq (.field t C n d) (.int k)).value args s none s [] = some true) : Fld s s.heap x C n d (.int k) := by
  refine Fld.start ((fld_at ev).symm.trans ?_)
  obtain ⟨u, v, h1, h2, -, h4⟩ := cmp_v (Or.inl hk)
  obtain rfl : v = .int k := (Option.some.inj ((Term.int_eval k).symm.trans h2)).symm
  obtain ⟨z, rfl⟩ := h4
  simp [Cond.value, h1, h2] at hk
  subst hk
  exact h1
theorem own_nat {y : Int32} {c : Nat} (h0 : 0 ≤ y.toInt) (h1 : y.toInt < c) : ∃ n : Nat, n < c ∧ y = Int32.ofNat n := by
  have := y.toInt_lt
  exact ⟨y.toInt.toNat, by omega, Int32.toInt_inj.mp (by rw [toInt_of (c := y.toInt.toNat) rfl (by omega)]; omega)⟩
theorem own_ofNat {n : Nat} (h : n < 2 ^ 31) : (Int32.ofNat n).toInt = n := toInt_of rfl h

def own_ch (x : Int32) : Int32 := x.toUInt32.toUInt16.toUInt32.toInt32
def own_ws (x : Int32) : Int32 := if x = 32 then 1 else if x = 9 then 1 else if x = 10 then 1 else if x = 13 then 1 else 0
def own_rf (x : Int32) : Int32 := if x < 64 then (if lcmpW ((((4294977024 : Int64).toUInt64 >>> (x &&& 0x3f).toInt64.toUInt64).toInt64) &&& (1 : Int64)) (1 : Int64) = 0 then 1 else 0) else 0
theorem own_fin : ∀ n : Fin 64, own_ws (Int32.ofNat n.val) = own_rf (Int32.ofNat n.val) := by decide +kernel
theorem own_eq (x : Int32) : own_ws (own_ch x) = own_rf (own_ch x) := by
  have h : 0 ≤ (own_ch x).toInt ∧ (own_ch x).toInt < 65536 := (c_i2c x).2
  generalize own_ch x = y at h ⊢
  by_cases q : y < 64
  · have q' : y.toInt < 64 := Int32.lt_iff_toInt_lt.mp q
    have hy : y = Int32.ofNat y.toInt.toNat := Int32.toInt_inj.mp (by rw [toInt_of (c := y.toInt.toNat) rfl (by omega)]; omega)
    rw [hy]; exact own_fin ⟨y.toInt.toNat, by omega⟩
  · have e1 : ¬ y = 32 := by rintro rfl; exact q (by decide)
    have e2 : ¬ y = 9 := by rintro rfl; exact q (by decide)
    have e3 : ¬ y = 10 := by rintro rfl; exact q (by decide)
    have e4 : ¬ y = 13 := by rintro rfl; exact q (by decide)
    simp [own_ws, own_rf, q, e1, e2, e3, e4]
theorem pd_0 : parseMethodDescriptor "(C)Z" = some ⟨[.char], some .boolean⟩ := by decide +kernel
theorem d1_0 : decode prog_61_method_3_code 0 = .ok (.iload_n 0, 1) := by decide +kernel
theorem d1_1 : decode prog_61_method_3_code 1 = .ok (.bipush 32, 2) := by decide +kernel
theorem d1_3 : decode prog_61_method_3_code 3 = .ok (.if_icmp .eq 21, 3) := by decide +kernel
theorem d1_6 : decode prog_61_method_3_code 6 = .ok (.iload_n 0, 1) := by decide +kernel
theorem d1_7 : decode prog_61_method_3_code 7 = .ok (.bipush 9, 2) := by decide +kernel
theorem d1_9 : decode prog_61_method_3_code 9 = .ok (.if_icmp .eq 15, 3) := by decide +kernel
theorem d1_12 : decode prog_61_method_3_code 12 = .ok (.iload_n 0, 1) := by decide +kernel
theorem d1_13 : decode prog_61_method_3_code 13 = .ok (.bipush 10, 2) := by decide +kernel
theorem d1_15 : decode prog_61_method_3_code 15 = .ok (.if_icmp .eq 9, 3) := by decide +kernel
theorem d1_18 : decode prog_61_method_3_code 18 = .ok (.iload_n 0, 1) := by decide +kernel
theorem d1_19 : decode prog_61_method_3_code 19 = .ok (.bipush 13, 2) := by decide +kernel
theorem d1_21 : decode prog_61_method_3_code 21 = .ok (.if_icmp .ne 7, 3) := by decide +kernel
theorem d1_24 : decode prog_61_method_3_code 24 = .ok (.iconst 1, 1) := by decide +kernel
theorem d1_25 : decode prog_61_method_3_code 25 = .ok (.goto 4, 3) := by decide +kernel
theorem d1_28 : decode prog_61_method_3_code 28 = .ok (.iconst 0, 1) := by decide +kernel
theorem d1_29 : decode prog_61_method_3_code 29 = .ok (.ireturn, 1) := by decide +kernel
theorem pn_1 : plainName "com/example/treadle/treadle/model/XmlCharacters" = true := by first | (simp [plainName, overriddenIn]; done) | decide +kernel
theorem ef_1 (m : MethodId) (x0 : Int32) : entryFrame m #[(.int x0)] 1 = mkF m 0 #[.val (.int x0)] [] := by first | (simp [entryFrame, mkF, argsToLocals, Value.category]; done) | rfl
set_option maxRecDepth 65536 in
set_option maxHeartbeats 40000000 in
theorem rm1 (l : Launch) (Z : State) (a0 : Array Value) (hw : ∀ d ∈ tables_1, d.before a0 Z = true) (ws : List Jvm.Cond) (p1 : Int32) (h0 : Heap) :
    own_Pure l Z (⟨"com/example/treadle/treadle/model/XmlCharacters", "isWhitespace", "(C)Z"⟩ : MethodName) prog_61_method_3_code 1 (some .boolean) ws ({ frames := 0, cells := 0, slots := 0, locals := 0 } : Room) #[(.int p1)] h0 (some (.int (own_ws p1))) := by
  refine own_body (plainFor_of_name pn_1) ?_
  intro p e s m below meth c T0 hx hby hml hown hnm hret hlk hZ X0 e0
  replace hown : s.vm.findClass "com/example/treadle/treadle/model/XmlCharacters" = some m.cls := hown
  replace hret : meth.sig.returnType = (some .boolean) := hret
  replace hnm : meth.name = "isWhitespace" := hnm
  rw [ef_1 m p1]
  refine own_via (T' := T0) (g' := (mkF m 1 #[.val (.int p1)] [(.int p1)])) (fun _ kt => XS.iloadN X0.here hx rfl (hb hby d1_0) rfl kt) ?_
  refine own_via (T' := T0) (g' := (mkF m 3 #[.val (.int p1)] [(.int (32 : Int32)), (.int p1)])) (fun _ kt => XS.bipush X0.here hx rfl (hb hby d1_1) kt) ?_
  by_cases hc3_1 : p1 = (32 : Int32)
  · refine own_via (T' := T0) (g' := (mkF m 24 #[.val (.int p1)] [])) (fun _ kt => XS.icmpYes X0.here hx rfl (pc0 := 3) (pc' := 24) rfl (hb hby d1_3) rfl (teq hc3_1).1 (by decide) (by decide) kt) ?_
    refine own_via (T' := T0) (g' := (mkF m 25 #[.val (.int p1)] [(.int (1 : Int32))])) (fun _ kt => XS.iconst X0.here hx rfl (hb hby d1_24) kt) ?_
    refine own_via (T' := T0) (g' := (mkF m 29 #[.val (.int p1)] [(.int (1 : Int32))])) (fun _ kt => XS.goto X0.here hx rfl (pc0 := 25) (pc' := 29) rfl (hb hby d1_25) (by decide) (by decide) kt) ?_
    exact own_retZ X0 hx hret hlk (hb hby d1_29) (by decide) ⟨by rw [own_ws, if_pos hc3_1], rfl, e0⟩ (by decide) (by decide)
  · refine own_via (T' := T0) (g' := (mkF m 6 #[.val (.int p1)] [])) (fun _ kt => XS.icmpNo X0.here hx rfl (hb hby d1_3) rfl (feq hc3_1).1 kt) ?_
    refine own_via (T' := T0) (g' := (mkF m 7 #[.val (.int p1)] [(.int p1)])) (fun _ kt => XS.iloadN X0.here hx rfl (hb hby d1_6) rfl kt) ?_
    refine own_via (T' := T0) (g' := (mkF m 9 #[.val (.int p1)] [(.int (9 : Int32)), (.int p1)])) (fun _ kt => XS.bipush X0.here hx rfl (hb hby d1_7) kt) ?_
    by_cases hc9_2 : p1 = (9 : Int32)
    · refine own_via (T' := T0) (g' := (mkF m 24 #[.val (.int p1)] [])) (fun _ kt => XS.icmpYes X0.here hx rfl (pc0 := 9) (pc' := 24) rfl (hb hby d1_9) rfl (teq hc9_2).1 (by decide) (by decide) kt) ?_
      refine own_via (T' := T0) (g' := (mkF m 25 #[.val (.int p1)] [(.int (1 : Int32))])) (fun _ kt => XS.iconst X0.here hx rfl (hb hby d1_24) kt) ?_
      refine own_via (T' := T0) (g' := (mkF m 29 #[.val (.int p1)] [(.int (1 : Int32))])) (fun _ kt => XS.goto X0.here hx rfl (pc0 := 25) (pc' := 29) rfl (hb hby d1_25) (by decide) (by decide) kt) ?_
      exact own_retZ X0 hx hret hlk (hb hby d1_29) (by decide) ⟨by rw [own_ws, if_neg hc3_1, if_pos hc9_2], rfl, e0⟩ (by decide) (by decide)
    · refine own_via (T' := T0) (g' := (mkF m 12 #[.val (.int p1)] [])) (fun _ kt => XS.icmpNo X0.here hx rfl (hb hby d1_9) rfl (feq hc9_2).1 kt) ?_
      refine own_via (T' := T0) (g' := (mkF m 13 #[.val (.int p1)] [(.int p1)])) (fun _ kt => XS.iloadN X0.here hx rfl (hb hby d1_12) rfl kt) ?_
      refine own_via (T' := T0) (g' := (mkF m 15 #[.val (.int p1)] [(.int (10 : Int32)), (.int p1)])) (fun _ kt => XS.bipush X0.here hx rfl (hb hby d1_13) kt) ?_
      by_cases hc15_3 : p1 = (10 : Int32)
      · refine own_via (T' := T0) (g' := (mkF m 24 #[.val (.int p1)] [])) (fun _ kt => XS.icmpYes X0.here hx rfl (pc0 := 15) (pc' := 24) rfl (hb hby d1_15) rfl (teq hc15_3).1 (by decide) (by decide) kt) ?_
        refine own_via (T' := T0) (g' := (mkF m 25 #[.val (.int p1)] [(.int (1 : Int32))])) (fun _ kt => XS.iconst X0.here hx rfl (hb hby d1_24) kt) ?_
        refine own_via (T' := T0) (g' := (mkF m 29 #[.val (.int p1)] [(.int (1 : Int32))])) (fun _ kt => XS.goto X0.here hx rfl (pc0 := 25) (pc' := 29) rfl (hb hby d1_25) (by decide) (by decide) kt) ?_
        exact own_retZ X0 hx hret hlk (hb hby d1_29) (by decide) ⟨by rw [own_ws, if_neg hc3_1, if_neg hc9_2, if_pos hc15_3], rfl, e0⟩ (by decide) (by decide)
      · refine own_via (T' := T0) (g' := (mkF m 18 #[.val (.int p1)] [])) (fun _ kt => XS.icmpNo X0.here hx rfl (hb hby d1_15) rfl (feq hc15_3).1 kt) ?_
        refine own_via (T' := T0) (g' := (mkF m 19 #[.val (.int p1)] [(.int p1)])) (fun _ kt => XS.iloadN X0.here hx rfl (hb hby d1_18) rfl kt) ?_
        refine own_via (T' := T0) (g' := (mkF m 21 #[.val (.int p1)] [(.int (13 : Int32)), (.int p1)])) (fun _ kt => XS.bipush X0.here hx rfl (hb hby d1_19) kt) ?_
        by_cases hc21_4 : p1 = (13 : Int32)
        · refine own_via (T' := T0) (g' := (mkF m 24 #[.val (.int p1)] [])) (fun _ kt => XS.icmpNo X0.here hx rfl (hb hby d1_21) rfl (teq hc21_4).2 kt) ?_
          refine own_via (T' := T0) (g' := (mkF m 25 #[.val (.int p1)] [(.int (1 : Int32))])) (fun _ kt => XS.iconst X0.here hx rfl (hb hby d1_24) kt) ?_
          refine own_via (T' := T0) (g' := (mkF m 29 #[.val (.int p1)] [(.int (1 : Int32))])) (fun _ kt => XS.goto X0.here hx rfl (pc0 := 25) (pc' := 29) rfl (hb hby d1_25) (by decide) (by decide) kt) ?_
          exact own_retZ X0 hx hret hlk (hb hby d1_29) (by decide) ⟨by rw [own_ws, if_neg hc3_1, if_neg hc9_2, if_neg hc15_3, if_pos hc21_4], rfl, e0⟩ (by decide) (by decide)
        · refine own_via (T' := T0) (g' := (mkF m 28 #[.val (.int p1)] [])) (fun _ kt => XS.icmpYes X0.here hx rfl (pc0 := 21) (pc' := 28) rfl (hb hby d1_21) rfl (feq hc21_4).2 (by decide) (by decide) kt) ?_
          refine own_via (T' := T0) (g' := (mkF m 29 #[.val (.int p1)] [(.int (0 : Int32))])) (fun _ kt => XS.iconst X0.here hx rfl (hb hby d1_28) kt) ?_
          exact own_retZ X0 hx hret hlk (hb hby d1_29) (by decide) ⟨by rw [own_ws, if_neg hc3_1, if_neg hc9_2, if_neg hc15_3, if_neg hc21_4], rfl, e0⟩ (by decide) (by decide)
theorem d2_0 : decode method_2_code 0 = .ok (.iload_n 0, 1) := by decide +kernel
theorem d2_1 : decode method_2_code 1 = .ok (.bipush 64, 2) := by decide +kernel
theorem d2_3 : decode method_2_code 3 = .ok (.if_icmp .lt 5, 3) := by decide +kernel
theorem d2_6 : decode method_2_code 6 = .ok (.iconst 0, 1) := by decide +kernel
theorem d2_7 : decode method_2_code 7 = .ok (.ireturn, 1) := by decide +kernel
theorem d2_8 : decode method_2_code 8 = .ok (.ldc2_w 9, 3) := by decide +kernel
theorem d2_11 : decode method_2_code 11 = .ok (.iload_n 0, 1) := by decide +kernel
theorem d2_12 : decode method_2_code 12 = .ok (.lushr, 1) := by decide +kernel
theorem d2_13 : decode method_2_code 13 = .ok (.lconst 1, 1) := by decide +kernel
theorem d2_14 : decode method_2_code 14 = .ok (.land, 1) := by decide +kernel
theorem d2_15 : decode method_2_code 15 = .ok (.lconst 1, 1) := by decide +kernel
theorem d2_16 : decode method_2_code 16 = .ok (.lcmp, 1) := by decide +kernel
theorem d2_17 : decode method_2_code 17 = .ok (.ifCond .ne 7, 3) := by decide +kernel
theorem d2_20 : decode method_2_code 20 = .ok (.iconst 1, 1) := by decide +kernel
theorem d2_21 : decode method_2_code 21 = .ok (.goto 4, 3) := by decide +kernel
theorem d2_24 : decode method_2_code 24 = .ok (.iconst 0, 1) := by decide +kernel
theorem d2_25 : decode method_2_code 25 = .ok (.ireturn, 1) := by decide +kernel
theorem pn_2 : plainName "com/example/treadle/treadle/model/XmlCharactersIsWhitespacePinLaw" = true := by first | (simp [plainName, overriddenIn]; done) | decide +kernel
theorem ef_2 (m : MethodId) (x0 : Int32) : entryFrame m #[(.int x0)] 1 = mkF m 0 #[.val (.int x0)] [] := by first | (simp [entryFrame, mkF, argsToLocals, Value.category]; done) | rfl
set_option maxRecDepth 65536 in
set_option maxHeartbeats 40000000 in
theorem rm2 (l : Launch) (Z : State) (a0 : Array Value) (hw : ∀ d ∈ tables_1, d.before a0 Z = true) (ws : List Jvm.Cond) (p1 : Int32) (h0 : Heap) :
    own_Pure l Z (⟨"com/example/treadle/treadle/model/XmlCharactersIsWhitespacePinLaw", "reference", "(C)Z"⟩ : MethodName) method_2_code 1 (some .boolean) ws ({ frames := 0, cells := 0, slots := 0, locals := 0 } : Room) #[(.int p1)] h0 (some (.int (own_rf p1))) := by
  refine own_body (plainFor_of_name pn_2) ?_
  intro p e s m below meth c T0 hx hby hml hown hnm hret hlk hZ X0 e0
  replace hown : s.vm.findClass "com/example/treadle/treadle/model/XmlCharactersIsWhitespacePinLaw" = some m.cls := hown
  replace hret : meth.sig.returnType = (some .boolean) := hret
  replace hnm : meth.name = "reference" := hnm
  rw [ef_2 m p1]
  refine own_via (T' := T0) (g' := (mkF m 1 #[.val (.int p1)] [(.int p1)])) (fun _ kt => XS.iloadN X0.here hx rfl (hb hby d2_0) rfl kt) ?_
  refine own_via (T' := T0) (g' := (mkF m 3 #[.val (.int p1)] [(.int (64 : Int32)), (.int p1)])) (fun _ kt => XS.bipush X0.here hx rfl (hb hby d2_1) kt) ?_
  by_cases hc3_1 : p1 < (64 : Int32)
  · refine own_via (T' := T0) (g' := (mkF m 8 #[.val (.int p1)] [])) (fun _ kt => XS.icmpYes X0.here hx rfl (pc0 := 3) (pc' := 8) rfl (hb hby d2_3) rfl (tlt hc3_1).1 (by decide) (by decide) kt) ?_
    refine own_via (T' := T0) (g' := (mkF m 11 #[.val (.int p1)] [(.long (4294977024 : Int64))])) (fun _ kt => X0.ldc2Long hx hown (mvT hZ (hw _ (List.mem_of_getElem? (i := 9) rfl))) (g := (mkF m 8 #[.val (.int p1)] [])) rfl (hb hby d2_8) _ kt) ?_
    refine own_via (T' := T0) (g' := (mkF m 12 #[.val (.int p1)] [(.int p1), (.long (4294977024 : Int64))])) (fun _ kt => XS.iloadN X0.here hx rfl (hb hby d2_11) rfl kt) ?_
    refine own_via (T' := T0) (g' := (mkF m 13 #[.val (.int p1)] [(.long (((4294977024 : Int64).toUInt64 >>> (p1 &&& 0x3f).toInt64.toUInt64).toInt64))])) (fun _ kt => XS.lushr X0.here hx rfl (hb hby d2_12) rfl kt) ?_
    refine own_via (T' := T0) (g' := (mkF m 14 #[.val (.int p1)] [(.long (1 : Int64)), (.long (((4294977024 : Int64).toUInt64 >>> (p1 &&& 0x3f).toInt64.toUInt64).toInt64))])) (fun _ kt => XS.lconst X0.here hx rfl (hb hby d2_13) kt) ?_
    refine own_via (T' := T0) (g' := (mkF m 15 #[.val (.int p1)] [(.long ((((4294977024 : Int64).toUInt64 >>> (p1 &&& 0x3f).toInt64.toUInt64).toInt64) &&& (1 : Int64)))])) (fun _ kt => XS.land X0.here hx rfl (hb hby d2_14) rfl kt) ?_
    refine own_via (T' := T0) (g' := (mkF m 16 #[.val (.int p1)] [(.long (1 : Int64)), (.long ((((4294977024 : Int64).toUInt64 >>> (p1 &&& 0x3f).toInt64.toUInt64).toInt64) &&& (1 : Int64)))])) (fun _ kt => XS.lconst X0.here hx rfl (hb hby d2_15) kt) ?_
    refine own_via (T' := T0) (g' := (mkF m 17 #[.val (.int p1)] [(.int (lcmpW ((((4294977024 : Int64).toUInt64 >>> (p1 &&& 0x3f).toInt64.toUInt64).toInt64) &&& (1 : Int64)) (1 : Int64)))])) (fun _ kt => XS.lcmp X0.here hx rfl (hb hby d2_16) rfl kt) ?_
    by_cases hc17_2 : (lcmpW ((((4294977024 : Int64).toUInt64 >>> (p1 &&& 0x3f).toInt64.toUInt64).toInt64) &&& (1 : Int64)) (1 : Int64)) = (0 : Int32)
    · refine own_via (T' := T0) (g' := (mkF m 20 #[.val (.int p1)] [])) (fun _ kt => XS.ifNo X0.here hx rfl (hb hby d2_17) rfl ((if0 _ _).trans (teq hc17_2).2) kt) ?_
      refine own_via (T' := T0) (g' := (mkF m 21 #[.val (.int p1)] [(.int (1 : Int32))])) (fun _ kt => XS.iconst X0.here hx rfl (hb hby d2_20) kt) ?_
      refine own_via (T' := T0) (g' := (mkF m 25 #[.val (.int p1)] [(.int (1 : Int32))])) (fun _ kt => XS.goto X0.here hx rfl (pc0 := 21) (pc' := 25) rfl (hb hby d2_21) (by decide) (by decide) kt) ?_
      exact own_retZ X0 hx hret hlk (hb hby d2_25) (by decide) ⟨by rw [own_rf, if_pos hc3_1, if_pos hc17_2], rfl, e0⟩ (by decide) (by decide)
    · refine own_via (T' := T0) (g' := (mkF m 24 #[.val (.int p1)] [])) (fun _ kt => XS.ifYes X0.here hx rfl (pc0 := 17) (pc' := 24) rfl (hb hby d2_17) rfl ((if0 _ _).trans (feq hc17_2).2) (by decide) (by decide) kt) ?_
      refine own_via (T' := T0) (g' := (mkF m 25 #[.val (.int p1)] [(.int (0 : Int32))])) (fun _ kt => XS.iconst X0.here hx rfl (hb hby d2_24) kt) ?_
      exact own_retZ X0 hx hret hlk (hb hby d2_25) (by decide) ⟨by rw [own_rf, if_pos hc3_1, if_neg hc17_2], rfl, e0⟩ (by decide) (by decide)
  · refine own_via (T' := T0) (g' := (mkF m 6 #[.val (.int p1)] [])) (fun _ kt => XS.icmpNo X0.here hx rfl (hb hby d2_3) rfl (flt hc3_1).1 kt) ?_
    refine own_via (T' := T0) (g' := (mkF m 7 #[.val (.int p1)] [(.int (0 : Int32))])) (fun _ kt => XS.iconst X0.here hx rfl (hb hby d2_6) kt) ?_
    exact own_retZ X0 hx hret hlk (hb hby d2_7) (by decide) ⟨by rw [own_rf, if_neg hc3_1], rfl, e0⟩ (by decide) (by decide)
theorem pn_0 : plainName "com/example/treadle/treadle/model/XmlCharactersIsWhitespacePinLaw" = true := by first | (simp [plainName, overriddenIn]; done) | decide +kernel
theorem ef_0 (m : MethodId) (x0 : Int32) : entryFrame m #[(.int x0)] maxLocals = mkF m 0 #[.val (.int x0), .unset] [] := by first | (simp [entryFrame, mkF, argsToLocals, Value.category, maxLocals]; done) | rfl
set_option maxRecDepth 65536 in
set_option maxHeartbeats 40000000 in
theorem rm0 (l : Launch) (Z : State) (a0 : Array Value) (hw : ∀ d ∈ tables_1, d.before a0 Z = true) (ws : List Jvm.Cond) (p1 : Int32) (h0 : Heap) (n0 : Nat) :
    own_Con l Z x code maxLocals ret ws room_1 #[(.int p1)] h0 (fun v h L => v = some (.int 1) ∧ Fr n0 L) := by
  refine own_body (plainFor_of_name pn_0) ?_
  intro p e s m below meth c T0 hx hby hml hown hnm hret hlk hZ X0 e0
  replace hown : s.vm.findClass "com/example/treadle/treadle/model/XmlCharactersIsWhitespacePinLaw" = some m.cls := hown
  replace hret : meth.sig.returnType = (some .boolean) := hret
  replace hnm : meth.name = "law" := hnm
  rw [ef_0 m p1]
  refine own_via (T' := T0) (g' := (mkF m 1 #[.val (.int p1), .unset] [(.int p1)])) (fun _ kt => XS.iloadN X0.here hx rfl (hb hby at_0) rfl kt) ?_
  refine own_via (T' := T0) (g' := (mkF m 3 #[.val (.int p1), .unset] [(.int (65535 : Int32)), (.int p1)])) (fun _ kt => X0.ldcInt hx hown (mvT hZ (hw _ (List.mem_of_getElem? (i := 0) rfl))) (g := (mkF m 1 #[.val (.int p1), .unset] [(.int p1)])) rfl (hb hby at_1) _ kt) ?_
  refine own_via (T' := T0) (g' := (mkF m 4 #[.val (.int p1), .unset] [(.int (p1 &&& (65535 : Int32)))])) (fun _ kt => XS.iand X0.here hx rfl (hb hby at_3) rfl kt) ?_
  refine own_via (T' := T0) (g' := (mkF m 5 #[.val (.int p1), .unset] [(.int ((p1 &&& (65535 : Int32)).toUInt32.toUInt16.toUInt32.toInt32))])) (fun _ kt => XS.i2c X0.here hx rfl (hb hby at_4) rfl kt) ?_
  generalize hz1 : ((p1 &&& (65535 : Int32)).toUInt32.toUInt16.toUInt32.toInt32) = z1
  have hq : own_ws z1 = own_rf z1 := hz1 ▸ own_eq (p1 &&& (65535 : Int32))
  refine own_via (T' := T0) (g' := (mkF m 6 #[.val (.int p1), .val (.int z1)] [])) (fun _ kt => XS.istoreN X0.here hx rfl (hb hby at_5) rfl (l' := #[.val (.int p1), .val (.int z1)]) rfl kt) ?_
  refine own_via (T' := T0) (g' := (mkF m 7 #[.val (.int p1), .val (.int z1)] [(.int z1)])) (fun _ kt => XS.iloadN X0.here hx rfl (hb hby at_6) rfl kt) ?_
  obtain ⟨v2, T2, L2, X2, hQ2, st2⟩ := own_callS X0 hx hZ (y := (⟨"com/example/treadle/treadle/model/XmlCharacters", "isWhitespace", "(C)Z"⟩ : MethodName)) hown (hw _ (List.mem_of_getElem? (i := 1) rfl)) (hw _ (List.mem_of_getElem? (i := 2) rfl)) (hw _ (List.mem_of_getElem? (i := 3) rfl)) (hw _ (List.mem_of_getElem? (i := 4) rfl)) (by decide) (W := 0) (argsL := [(.int z1)]) (rest := []) (rm1 l Z a0 hw [] z1 h0) (by decide) (by decide) (by decide) (by decide) e0 (g := (mkF m 7 #[.val (.int p1), .val (.int z1)] [(.int z1)])) rfl (by rw [hml]; rfl) (lenOf pd_0 rfl) rfl (by show 2 * 0 + _ ≤ _; exact Nat.le_of_eq rfl) (hb hby at_7)
  obtain ⟨rfl, hL2, e2⟩ := hQ2
  replace X2 := own_pure (v := none) (r := none) X2 rfl rfl hL2
  refine own_via (T' := T2) (g' := (mkF m 10 #[.val (.int p1), .val (.int z1)] [(.int (own_ws z1))])) (fun _ kt => st2 _ kt) ?_
  refine own_via (T' := T2) (g' := (mkF m 11 #[.val (.int p1), .val (.int z1)] [(.int z1), (.int (own_ws z1))])) (fun _ kt => XS.iloadN X2.here hx rfl (hb hby at_10) rfl kt) ?_
  obtain ⟨v3, T3, L3, X3, hQ3, st3⟩ := own_callS X2 hx hZ (y := (⟨"com/example/treadle/treadle/model/XmlCharactersIsWhitespacePinLaw", "reference", "(C)Z"⟩ : MethodName)) hown (hw _ (List.mem_of_getElem? (i := 5) rfl)) (hw _ (List.mem_of_getElem? (i := 6) rfl)) (hw _ (List.mem_of_getElem? (i := 7) rfl)) (hw _ (List.mem_of_getElem? (i := 8) rfl)) (by decide) (W := 1) (argsL := [(.int z1)]) (rest := [(.int (own_ws z1))]) (rm2 l Z a0 hw [] z1 h0) (by decide) (by decide) (by decide) (by decide) e2 (g := (mkF m 11 #[.val (.int p1), .val (.int z1)] [(.int z1), (.int (own_ws z1))])) rfl (by rw [hml]; rfl) (lenOf pd_0 rfl) rfl (by show 2 * 0 + _ ≤ _; exact Nat.le_of_eq rfl) (hb hby at_11)
  obtain ⟨rfl, hL3, e3⟩ := hQ3
  replace X3 := own_pure (v := none) (r := none) X3 rfl rfl hL3
  refine own_via (T' := T3) (g' := (mkF m 14 #[.val (.int p1), .val (.int z1)] [(.int (own_rf z1)), (.int (own_ws z1))])) (fun _ kt => st3 _ kt) ?_
  refine own_via (T' := T3) (g' := (mkF m 17 #[.val (.int p1), .val (.int z1)] [])) (fun _ kt => XS.icmpNo X3.here hx rfl (hb hby at_14) rfl (teq hq).2 kt) ?_
  refine own_via (T' := T3) (g' := (mkF m 18 #[.val (.int p1), .val (.int z1)] [(.int (1 : Int32))])) (fun _ kt => XS.iconst X3.here hx rfl (hb hby at_17) kt) ?_
  refine own_via (T' := T3) (g' := (mkF m 22 #[.val (.int p1), .val (.int z1)] [(.int (1 : Int32))])) (fun _ kt => XS.goto X3.here hx rfl (pc0 := 18) (pc' := 22) rfl (hb hby at_18) (by decide) (by decide) kt) ?_
  exact own_retZ X3 hx hret hlk (hb hby at_22) (by decide) ⟨rfl, Fr.nil _⟩ (by decide) (by decide)
set_option maxRecDepth 65536 in
set_option maxHeartbeats 40000000 in
theorem comes_1 {Post : Tables → Env → Array Value → State → Outcome → State → Prop} (hpost : ∀ tb e args s v u, (limb_1_1.after args s (.returned v) u = true ∧ limb_1_2.after args s (.returned v) u = true ∧ True) → FrameEnd s (.returned v) u (Jvm.fieldLocs frame_1_writes args s ++ Jvm.arrayLocs frame_1_arrays args s ++ Jvm.staticLocs frame_1_statics s) 0 0 → Post tb e args s (.returned v) u) :
    ArmFor flags0 classFile x code maxLocals ret World_1 tables_1 room_1 Calls_1 rest_1 Pre_1 Post := by
  intro l hfl _ _ p e ha hc hk s m args below hf hA hF happ hP
  obtain ⟨hcalls, hrest, hpre⟩ := hP
  obtain ⟨-, -, -, hnamed, -, -, -, hat⟩ := (Spec.applies_iff hf).mp happ
  obtain ⟨hg, hn⟩ := and_e (Cond.before_iff.mp (show (Jvm.Cond.and given_1 narrow_1).before args s = true from hpre))
  obtain ⟨gc, g0⟩ := and_e hg
  obtain ⟨w0, rfl⟩ : ∃ w0 : Value, args = #[w0] := by
    have hs : args.size = 1 := by simpa [Cond.value, given_1] using gc
    obtain ⟨L⟩ := args
    match L, hs with
    | [w0], _ => exact ⟨w0, rfl⟩
  have hw := fun d (hd : d ∈ tables_1) => atoms_spec (ws := Jvm.Cond.code x code maxLocals ret :: tables_1) hat d (List.mem_cons_of_mem _ hd)
  have hfit : Fit s := fun {y c} hc i hi => by
    obtain ⟨ha, rfl⟩ := Array.getElem?_eq_some_iff.mp hc
    have q := List.all_eq_true.mp ((Array.all_eq_true_iff_forall_mem.mp hF) _ (Array.getElem_mem ha)) i (List.mem_range.mpr hi)
    simpa [Array.getElem?_eq_getElem hi] using q
  obtain ⟨i0, ei0⟩ := is_v g0
  obtain rfl : w0 = (.int i0) := Option.some.inj ei0
  obtain ⟨n, o, h1, h2, h3, _, L, rfl, ⟨rfl, N⟩, hq⟩ := rm0 l s _ hw tables_1 i0 s.heap s.heap.size p e ha hc hk s m _ below hf ((Spec.applies_iff_loose hf).mp happ).1 ⟨rfl, State.Warmed39.refl s, rfl⟩ trivial
  refine ⟨n, _, h1, h2, h3, hpost _ _ _ _ _ _ ⟨Cond.after_iff.mpr rfl, Cond.after_iff.mpr (eq_i res_at (Term.int_eval (1)) rfl), trivial⟩ ⟨hq.1, hq.2.1, (hq.2.2.sift fun y hy => Or.inr (N y hy)).mono (by decide) (by decide)⟩⟩
theorem main_1_1 : Claimed_1_1 := comes_1 fun _ _ _ _ _ _ h hF => ⟨h.1, hF⟩
theorem main_1_2 : Claimed_1_2 := comes_1 fun _ _ _ _ _ _ h hF => ⟨h.2.1, hF⟩
end Jvm.Pilot.@@N@@
namespace Jvm.Pilot.@@N@@
open Jvm Jvm.ClassFile Sem Op Lib Jvm.Free Jvm.Stand Jvm.Pilot.@@N@@.Jvm.D
/-! MADE BY PROGRAM (witnessworld.py) out of the Statement's table words and the real class files: 7 classes; the members and pool entries that the words name. The judged class is class 1, her method 2. -/
namespace start1
open Jvm.ClassFile
def u (s : String) : CpInfo := .utf8 (stringToUtf16 s)
/-- a pool by its gaps: so many unusable entries, then the entry; so many at the end -/
def gap : Nat → List CpInfo → List CpInfo
  | 0, r => r
  | n + 1, r => .unusable :: gap n r
def poolList (es : List (Nat × CpInfo)) (last : Nat) : List CpInfo := es.foldr (fun e r => gap e.1 (e.2 :: r)) (gap last [])
def pool (es : List (Nat × CpInfo)) (last : Nat) : Array CpInfo := ⟨poolList es last⟩
def fileOf (pool : Array CpInfo) (this : Nat) (attrs : Array Attribute := #[]) (ms : Array MethodInfo := #[]) (fl : Nat := 33) (sup : Nat := 0) (ifs : Array Nat := #[]) (fds : Array FieldInfo := #[]) : ClassFile where
  minorVersion := 0
  majorVersion := 65
  constantPool := pool
  accessFlags := fl
  thisClass := this
  superClass := sup
  interfaces := ifs
  fields := fds
  methods := ms
  attributes := attrs
def plain (name : String) (sup : Option ClassId) : Class where
  name := name
  kind := .ordinary
  loader := none
  accessFlags := 33
  super := sup
  interfaces := #[]
  cf := none
  fields := #[]
  methods := #[]
  instanceTypes := #[]
  staticTypes := #[]
  resolved := #[]
  callSites := []
  init := .initialized
  statics := none
  mirror := none

def pool0 : Array CpInfo := pool [(5, u "<init>"), (0, u "()V"), (1, .class_ 10), (1, u "java/lang/Object")] 113

def k0m0 : Method := { name := "<init>", desc := "()V", sig := { parameters := [], returnType := none }, accessFlags := 1, code := none }
/-- java/lang/Object -/
def k0 : Class := { plain "java/lang/Object" none with
  accessFlags := 33
  interfaces := #[]
  cf := some (fileOf pool0 8 #[] #[{ accessFlags := 1, nameIndex := 5, descriptorIndex := 6, attributes := #[] }] 33 0 #[] #[])
  fields := #[]
  methods := #[k0m0]
  instanceTypes := #[]
  staticTypes := #[]
  resolved := Array.replicate 124 none
  statics := none }

def pool1 : Array CpInfo := pool [(2, .class_ 4), (1, u "java/lang/Object"), (0, u "<init>"), (0, u "()V"), (0, .class_ 8), (0, u "com/example/treadle/treadle/model/XmlCharactersIsWhitespacePinLaw"), (0, .long 4294977024), (1, .integer 65535), (0, .methodref 13 14), (0, .class_ 15), (0, .nameAndType 16 17), (0, u "com/example/treadle/treadle/model/XmlCharacters"), (0, u "isWhitespace"), (0, u "(C)Z"), (0, .methodref 7 19), (0, .nameAndType 20 17), (0, u "reference"), (0, u "XML_SPACE_SET"), (0, u "J"), (4, u "law"), (0, u "(I)Z")] 2

def k1m0 : Method := { name := "<init>", desc := "()V", sig := { parameters := [], returnType := none }, accessFlags := 2, code := none }
def k1c1 : Code := { maxStack := 4, maxLocals := 1, code := method_2_code, exceptionTable := #[], attributes := #[] }
def k1m1 : Method := { name := "reference", desc := "(C)Z", sig := { parameters := [.char], returnType := some .boolean }, accessFlags := 10, code := some k1c1 }
def k1c2 : Code := { maxStack := 2, maxLocals := 2, code := code, exceptionTable := #[], attributes := #[] }
def k1m2 : Method := { name := "law", desc := "(I)Z", sig := { parameters := [.int], returnType := some .boolean }, accessFlags := 9, code := some k1c2 }
/-- com/example/treadle/treadle/model/XmlCharactersIsWhitespacePinLaw -/
def k1 : Class := { plain "com/example/treadle/treadle/model/XmlCharactersIsWhitespacePinLaw" (some 0) with
  accessFlags := 49
  interfaces := #[]
  cf := some (fileOf pool1 7 #[] #[{ accessFlags := 2, nameIndex := 5, descriptorIndex := 6, attributes := #[] }, { accessFlags := 10, nameIndex := 20, descriptorIndex := 17, attributes := #[] }, { accessFlags := 9, nameIndex := 27, descriptorIndex := 28, attributes := #[] }] 49 2 #[] #[{ accessFlags := 26, nameIndex := 21, descriptorIndex := 22, attributes := #[] }])
  fields := #[{ name := "XML_SPACE_SET", type := .long, accessFlags := 26, slot := 0, constantValue := 0 }]
  methods := #[k1m0, k1m1, k1m2]
  instanceTypes := #[]
  staticTypes := #[.long]
  resolved := Array.replicate 31 none
  statics := none }

def pool2 : Array CpInfo := pool [(2, .class_ 4), (1, u "java/lang/Object"), (0, u "<init>"), (0, u "()V"), (1, .class_ 10), (1, u "com/example/treadle/treadle/model/XmlCharacters"), (0, u "LANGUAGE"), (0, u "Ljava/util/regex/Pattern;"), (24, u "isWhitespace"), (0, u "(C)Z")] 30

def k2m0 : Method := { name := "<init>", desc := "()V", sig := { parameters := [], returnType := none }, accessFlags := 2, code := none }
def k2c1 : Code := { maxStack := 2, maxLocals := 1, code := prog_61_method_3_code, exceptionTable := #[], attributes := #[] }
def k2m1 : Method := { name := "isWhitespace", desc := "(C)Z", sig := { parameters := [.char], returnType := some .boolean }, accessFlags := 9, code := some k2c1 }
/-- com/example/treadle/treadle/model/XmlCharacters -/
def k2 : Class := { plain "com/example/treadle/treadle/model/XmlCharacters" (some 0) with
  accessFlags := 49
  interfaces := #[]
  cf := some (fileOf pool2 8 #[] #[{ accessFlags := 2, nameIndex := 5, descriptorIndex := 6, attributes := #[] }, { accessFlags := 9, nameIndex := 37, descriptorIndex := 38, attributes := #[] }] 49 2 #[] #[{ accessFlags := 26, nameIndex := 11, descriptorIndex := 12, attributes := #[] }])
  fields := #[{ name := "LANGUAGE", type := (.object "java/util/regex/Pattern"), accessFlags := 26, slot := 0, constantValue := 0 }]
  methods := #[k2m0, k2m1]
  instanceTypes := #[]
  staticTypes := #[(.object "java/util/regex/Pattern")]
  resolved := Array.replicate 69 none
  statics := none }

def pool3 : Array CpInfo := pool [(1, u "java/lang/Cloneable"), (0, .class_ 1), (0, u "java/lang/Object"), (0, .class_ 3)] 3

/-- java/lang/Cloneable -/
def k3 : Class := { plain "java/lang/Cloneable" (some 0) with
  accessFlags := 1537
  interfaces := #[]
  cf := some (fileOf pool3 2 #[] #[] 1537 4 #[] #[])
  fields := #[]
  methods := #[]
  instanceTypes := #[]
  staticTypes := #[]
  resolved := Array.replicate 8 none
  statics := none }

def pool4 : Array CpInfo := pool [(1, u "java/io/Serializable"), (0, .class_ 1), (0, u "java/lang/Object"), (0, .class_ 3)] 3

/-- java/io/Serializable -/
def k4 : Class := { plain "java/io/Serializable" (some 0) with
  accessFlags := 1537
  interfaces := #[]
  cf := some (fileOf pool4 2 #[] #[] 1537 4 #[] #[])
  fields := #[]
  methods := #[]
  instanceTypes := #[]
  staticTypes := #[]
  resolved := Array.replicate 8 none
  statics := none }

/-- the primitive byte -/
def k5 : Class := { plain "byte" none with kind := .primitive 'B', accessFlags := 0x411 }
/-- [B -/
def k6 : Class := { plain "[B" (some 0) with kind := .array 5 .byte, interfaces := #[3, 4], accessFlags := 1041 }

def heap : Heap := #[]
def classes : Array Class := #[k0, k1, k2, k3, k4, k5, k6]
def interned : List (Array UInt16 × Addr) := []
def slotsUsed : Nat := 0
def theMethod : MethodId := ⟨1, 2⟩
def args0 : Array Value := #[.int 5]
def aboutOver (below : List Frame) : State where
  vm := { classes := classes, interned := interned.toArray }
  heap := heap
  slotsUsed := slotsUsed
  threads := #[{ frames := .invoking theMethod args0 :: below }]
def below0 : List Frame := [.native { method := ⟨0, 0⟩, args := #[] }]
def about1 : State := aboutOver below0
def p0 : Program := .bare "" "" ""
def e0 : Env := launch0.env 0 0 0
theorem w_frames : about1.frames = Frame.invoking theMethod args0 :: below0 := rfl
set_option maxRecDepth 65536 in
theorem w_args : argsFit about1.vm theMethod args0 = true := by decide +kernel
set_option maxRecDepth 65536 in
theorem w_heap : heapFits about1 = true := by decide +kernel
set_option maxRecDepth 65536 in
theorem w_runnable : about1.curStatus? = some .runnable := by decide +kernel
set_option maxRecDepth 65536 in
theorem w_alone : about1.alone = true := by decide +kernel
set_option maxRecDepth 65536 in
theorem w_named : about1.methodNamed? x = some theMethod := by decide +kernel
set_option maxRecDepth 65536 in
theorem w_hears : about1.hears theMethod below0 = true := by decide +kernel
set_option maxRecDepth 65536 in
theorem w_ripe : about1.ripe theMethod args0 below0 = true := by decide +kernel
theorem w_running : about1.status = .running := rfl
set_option maxRecDepth 65536 in
theorem w_room : about1.hasRoom e0.platform room_1 = true :=
  launch0.hasRoom_least _ room_1 (by decide +kernel) (by decide +kernel) (by decide +kernel) (by decide +kernel) (by decide +kernel) (by decide +kernel)
theorem allAtoms_all (ts : List Jvm.Cond) (a : Array Jvm.Value) (st : Jvm.State) : (allAtoms ts).before a st = ts.all (fun c => c.before a st) := by
  induction ts with
  | nil => rfl
  | cons c t ih =>
    show (Jvm.Cond.and c (allAtoms t)).before a st = _
    rw [Jvm.Cond.before_and, ih, List.all_cons]
def words1 : List Jvm.Cond := Jvm.Cond.code x code maxLocals ret :: tables_1
/-- a 'code' word, met by the world's own term for the bytes: nothing is compared byte by byte -/
theorem code_word {y : MethodName} {bytes : ByteArray} {mx : Nat} {rt : Option FieldType} {a : Array Value} {s : State} {m : MethodId} {meth : Method} {c : Code} (h1 : s.methodNamed? y = some m) (h2 : s.vm.method? m = some meth) (h3 : meth.code = some c) (h4 : c.code = bytes)
    (h5 : (c.maxLocals == mx && c.exceptionTable.isEmpty && decide (c.maxStack ≤ mostOperands) && decide (meth.sig.returnType = rt) && !meth.locks && decide (parseMethodDescriptor y.desc = some meth.sig)) = true) : (Jvm.Cond.code y bytes mx rt).before a s = true := by
  simp only [Bool.and_eq_true, beq_iff_eq, Bool.not_eq_true', decide_eq_true_eq] at h5
  obtain ⟨⟨⟨⟨⟨g1, g2⟩, g3⟩, g4⟩, g5⟩, g6⟩ := h5
  simp [Cond.before, Cond.holds, Cond.value, h1, h2, h3, h4, g1, g2, g3, g4, g5, g6]
def isCode : Jvm.Cond → Bool
  | .code _ _ _ _ => true
  | _ => false
theorem all_split {L : List Jvm.Cond} {P : Jvm.Cond → Bool} (h1 : L.all (fun c => isCode c || P c) = true) (h2 : ∀ c ∈ L.filter isCode, P c = true) : L.all P = true := by
  refine List.all_eq_true.mpr fun c hc => ?_
  have h := List.all_eq_true.mp h1 c hc
  rcases Bool.eq_false_or_eq_true (isCode c) with hi | hi
  · exact h2 c (List.mem_filter.mpr ⟨hc, hi⟩)
  · simpa [hi] using h
set_option maxRecDepth 65536 in
theorem w_c0 : (Jvm.Cond.code x code maxLocals ret).before args0 about1 = true := code_word (m := ⟨1, 2⟩) (meth := k1m2) (c := k1c2) (by decide +kernel) rfl rfl rfl (by decide +kernel)
set_option maxRecDepth 65536 in
theorem w_c1 : (Jvm.Cond.code ({ cls := "com/example/treadle/treadle/model/XmlCharacters", name := "isWhitespace", desc := "(C)Z" } : Jvm.MethodName) prog_61_method_3_code (1 : Nat) (Option.some Jvm.ClassFile.FieldType.boolean)).before args0 about1 = true := code_word (m := ⟨2, 1⟩) (meth := k2m1) (c := k2c1) (by decide +kernel) rfl rfl rfl (by decide +kernel)
set_option maxRecDepth 65536 in
theorem w_c2 : (Jvm.Cond.code ({ cls := "com/example/treadle/treadle/model/XmlCharactersIsWhitespacePinLaw", name := "reference", desc := "(C)Z" } : Jvm.MethodName) method_2_code (1 : Nat) (Option.some Jvm.ClassFile.FieldType.boolean)).before args0 about1 = true := code_word (m := ⟨1, 1⟩) (meth := k1m1) (c := k1c1) (by decide +kernel) rfl rfl rfl (by decide +kernel)
def codes1 : List Jvm.Cond := [Jvm.Cond.code x code maxLocals ret, Jvm.Cond.code ({ cls := "com/example/treadle/treadle/model/XmlCharacters", name := "isWhitespace", desc := "(C)Z" } : Jvm.MethodName) prog_61_method_3_code (1 : Nat) (Option.some Jvm.ClassFile.FieldType.boolean), Jvm.Cond.code ({ cls := "com/example/treadle/treadle/model/XmlCharactersIsWhitespacePinLaw", name := "reference", desc := "(C)Z" } : Jvm.MethodName) method_2_code (1 : Nat) (Option.some Jvm.ClassFile.FieldType.boolean)]
set_option maxRecDepth 65536 in
theorem codes_eq : words1.filter isCode = codes1 := rfl
theorem w_codes : ∀ c ∈ words1.filter isCode, c.before args0 about1 = true := by
  rw [codes_eq]
  intro c hc
  simp only [codes1, List.mem_cons, List.not_mem_nil, or_false] at hc
  rcases hc with rfl | rfl | rfl
  · exact w_c0
  · exact w_c1
  · exact w_c2
set_option maxRecDepth 65536 in
theorem w_t1 : words1.all (fun c => isCode c || c.before args0 about1) = true := by decide +kernel
theorem w_tables : (allAtoms (Jvm.Cond.code x code maxLocals ret :: tables_1)).before args0 about1 = true := by
  rw [allAtoms_all]
  show words1.all (fun c => c.before args0 about1) = true
  refine all_split ?_ w_codes
  rw [w_t1]
set_option maxRecDepth 65536 in
theorem w_case : (Jvm.Cond.and given_1 narrow_1).before args0 about1 = true := by decide +kernel
theorem w_applies : (headSpec (Jvm.Cond.code x code maxLocals ret :: tables_1) room_1).applies x e0.platform about1 = true :=
  (Spec.applies_iff w_frames).mpr ⟨w_running, w_runnable, w_alone, w_named, w_hears, w_ripe, w_room, w_tables⟩
theorem atStart : AtStart classFile x code maxLocals ret World_1 tables_1 room_1 Calls_1 rest_1 Pre_1 launch0 p0 e0 about1 theMethod args0 below0 :=
  ⟨lists_1, trivial, launch0.admits_env _ _ _, launch0.least_env, fairChoices_fair.cas, fairChoices_fair.clock, w_frames, w_args, w_heap, w_applies, trivial, trivial, w_case⟩
end start1
theorem witness_1 : WitnessClaimed_1 := ⟨start1.p0, start1.e0, start1.about1, start1.theMethod, start1.args0, start1.below0, start1.atStart⟩
end Jvm.Pilot.@@N@@
