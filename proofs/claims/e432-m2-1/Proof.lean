import JvmDerived
import JvmDerived.Pilot.@@N@@Statement
import JvmDerived.Pilot.@@N@@Code
set_option linter.unusedVariables false
set_option linter.unusedSimpArgs false
namespace Jvm.Pilot.@@N@@
open Jvm Jvm.ClassFile Sem Op Lib Jvm.Free Jvm.Stand Jvm.LawKit Jvm.RoadKit Bundle Jvm.Pilot.@@N@@.Jvm.D
/-! own layer: a walk in continuation style. own_Ends: from T with the frame g on top the run comes to an end of which G holds. -/
def own_Fin (below : List Frame) (s : State) (k n : Nat) (Q : Option Value → Heap → List Loc → Prop) (t : State) : Prop :=
  t.status = .running ∧ ∃ o, Ended t below o ∧ ∃ v L, o = .returned v ∧ Q v t.heap L ∧ FrameEnd s o t L k n
def own_Ends (p : Program) (e : Env) (below : List Frame) (G : State → Prop) (T : State) (g : JFrame) : Prop := ∃ t, Steps p.tables e below (T.setTop g) t ∧ G t
theorem own_via {p : Program} {e : Env} {below : List Frame} {G : State → Prop} {T T' : State} {g g' : JFrame} (h : ∀ t, Steps p.tables e below (T'.setTop g') t → Steps p.tables e below (T.setTop g) t) (k : own_Ends p e below G T' g') : own_Ends p e below G T g := by
  obtain ⟨t, a, b⟩ := k; exact ⟨t, h t a, b⟩
abbrev own_Con (l : Launch) (Z : State) (y : MethodName) (code : ByteArray) (ml : Nat) (ret : Option FieldType) (ws : List Jvm.Cond) (rm : Room) (as : Array Value) (h0 : Heap) (Q : Option Value → Heap → List Loc → Prop) : Prop :=
  MetFree l y (head1 (Jvm.Cond.code y code ml ret :: ws) rm) (fun a U => a = as ∧ Z.Warmed39 U.vm ∧ U.heap = h0) (fun _ _ _ _ _ => True) (fun _ U o U' => ∃ v L, o = .returned v ∧ Q v U'.heap L ∧ FrameEnd U o U' L rm.cells rm.slots)
theorem own_body {l : Launch} {Z : State} {y : MethodName} {code : ByteArray} {ml : Nat} {ret : Option FieldType} {ws : List Jvm.Cond} {rm : Room} {as : Array Value} {h0 : Heap} {Q : Option Value → Heap → List Loc → Prop} (hpl : plainFor y = true)
    (H : ∀ (p : Program) (e : Env) (s : State) (m : MethodId) (below : List Frame) (meth : Method) (c : Code) (T : State), p.tables.exec = Jvm.exec → c.code = code → c.maxLocals = ml → s.vm.findClass y.cls = some m.cls → meth.name = y.name → meth.sig.returnType = ret → meth.locks = false → Z.Warmed39 s.vm → Stand p l e rm s m as below meth c T [] 0 0 → T.heap = h0 → own_Ends p e below (own_Fin below s rm.cells rm.slots Q) T (entryFrame m as ml)) : own_Con l Z y code ml ret ws rm as h0 Q := by
  refine MetFree.of_bodySF hpl hisR ?_
  intro p e s m args below meth c s₁ Bd hml0 hP hK
  obtain ⟨rfl, hZ, hh⟩ := hP
  obtain ⟨t, h1, h2, o, h3, h4⟩ := H p e s m below meth c s₁ Bd.exec Bd.bytes hml0 (findClass_of_methodNamed Bd.named) (name_of_methodNamed Bd.named Bd.method).1 Bd.returns Bd.notSynchronized hZ (Stand.of_body Bd) (by rw [← hh, Bd.state]; rfl)
  exact ⟨t, o, h1, h2, h3, h4⟩
section OwnStand
variable {p : Program} {l : Launch} {e : Env} {R : Room} {s : State} {m : MethodId} {args : Array Value} {below : List Frame} {meth : Method} {c : Code} {T : State} {locs : List Loc} {cells slots : Nat} {Z : State} {a0 : Array Value} {h : Heap}
theorem own_leaf (X : Stand p l e R s m args below meth c T locs cells slots) (hlk : meth.locks = false) {v : Option Value} (hv : meth.sig.returnType = none → v = none) {g : JFrame} {k n : Nat} {Q : Option Value → Heap → List Loc → Prop}
    (hst : ∀ fs, (∀ (f : JFrame) (acts : List Action), f.method = m → f.locked = none → f.entered = [] → (doReturn e (T.setTop f) acts v).1 = T.setFrames fs) → Steps p.tables e below (T.setTop g) (T.setFrames fs))
    (hQ : Q v T.heap locs) (hk : cells ≤ k) (hn : slots ≤ n) : own_Ends p e below (own_Fin below s k n Q) T g := by
  obtain ⟨fs, hr, hrun, hended, hW, hsame⟩ := X.leave (v := v) hv hlk
  exact ⟨_, hst fs hr, hrun, _, hended, _, _, rfl, hQ, ⟨_, rfl⟩, hW, hsame.mono hk hn⟩
theorem own_retZ (X : Stand p l e R s m args below meth c T locs cells slots) (hx : p.tables.exec = Jvm.exec) (hret : meth.sig.returnType = some .boolean) (hlk : meth.locks = false) {pc : Nat} {Ls : Array Slot} {z : Int32} {rest : List Value} (hd : decode c.code pc = .ok (.ireturn, 1)) (hz : nar .boolean z = z) {k n : Nat} {Q : Option Value → Heap → List Loc → Prop}
    (hQ : Q (some (.int z)) T.heap locs) (hk : cells ≤ k) (hn : slots ≤ n) : own_Ends p e below (own_Fin below s k n Q) T (mkF m pc Ls (.int z :: rest)) :=
  own_leaf X hlk (fun h => by rw [hret] at h; cases h) (fun fs hl => retN X hx hret (by simp) hd (by rw [hz]; exact hl)) hQ hk hn
theorem own_retI (X : Stand p l e R s m args below meth c T locs cells slots) (hx : p.tables.exec = Jvm.exec) (hret : meth.sig.returnType = some .int) (hlk : meth.locks = false) {pc : Nat} {Ls : Array Slot} {z : Int32} {rest : List Value} (hd : decode c.code pc = .ok (.ireturn, 1)) {k n : Nat} {Q : Option Value → Heap → List Loc → Prop}
    (hQ : Q (some (.int z)) T.heap locs) (hk : cells ≤ k) (hn : slots ≤ n) : own_Ends p e below (own_Fin below s k n Q) T (mkF m pc Ls (.int z :: rest)) :=
  own_leaf X hlk (fun h => by rw [hret] at h; cases h) (fun fs hl => retOut X hx hret rfl (Or.inl ⟨rfl, Or.inl rfl, z, rfl⟩) hd hl) hQ hk hn
theorem own_retJ (X : Stand p l e R s m args below meth c T locs cells slots) (hx : p.tables.exec = Jvm.exec) (hret : meth.sig.returnType = some .long) (hlk : meth.locks = false) {pc : Nat} {Ls : Array Slot} {z : Int64} {rest : List Value} (hd : decode c.code pc = .ok (.lreturn, 1)) {k n : Nat} {Q : Option Value → Heap → List Loc → Prop}
    (hQ : Q (some (.long z)) T.heap locs) (hk : cells ≤ k) (hn : slots ≤ n) : own_Ends p e below (own_Fin below s k n Q) T (mkF m pc Ls (.long z :: rest)) :=
  own_leaf X hlk (fun h => by rw [hret] at h; cases h) (fun fs hl => retOut X hx hret rfl (Or.inr (Or.inl ⟨rfl, rfl, z, rfl⟩)) hd hl) hQ hk hn
theorem own_retA (X : Stand p l e R s m args below meth c T locs cells slots) (hx : p.tables.exec = Jvm.exec) {t : FieldType} (hret : meth.sig.returnType = some t) (ht : t.isReference = true) (hlk : meth.locks = false) {pc : Nat} {Ls : Array Slot} {z : Value} (hz : z.isRef = true) (hn' : narrow t z = z) {rest : List Value} (hd : decode c.code pc = .ok (.areturn, 1)) {k n : Nat} {Q : Option Value → Heap → List Loc → Prop}
    (hQ : Q (some z) T.heap locs) (hk : cells ≤ k) (hn : slots ≤ n) : own_Ends p e below (own_Fin below s k n Q) T (mkF m pc Ls (z :: rest)) :=
  own_leaf X hlk (fun h => by rw [hret] at h; cases h) (fun fs hl => retOut X hx hret hn' (Or.inr (Or.inr (Or.inr (Or.inr ⟨rfl, ht, hz⟩)))) hd hl) hQ hk hn
theorem own_retV (X : Stand p l e R s m args below meth c T locs cells slots) (hx : p.tables.exec = Jvm.exec) (hret : meth.sig.returnType = none) (hlk : meth.locks = false) {pc : Nat} {Ls : Array Slot} (hd : decode c.code pc = .ok (.return_, 1)) {k n : Nat} {Q : Option Value → Heap → List Loc → Prop}
    (hQ : Q none T.heap locs) (hk : cells ≤ k) (hn : slots ≤ n) : own_Ends p e below (own_Fin below s k n Q) T (mkF m pc Ls []) :=
  own_leaf X hlk (fun _ => rfl) (fun fs hl => X.returnOut hx hret hd hl) hQ hk hn
theorem own_callS (X : Stand p l e R s m args below meth c T locs cells slots) (hx : p.tables.exec = Jvm.exec) (hZ : Z.Warmed39 s.vm) {own : String} {index : Nat} {y : MethodName} {bytes : ByteArray} {ml : Nat} {ret : Option FieldType} {rm : Room} {Q : Option Value → Heap → List Loc → Prop} {W : Nat} (hown : s.vm.findClass own = some m.cls)
    (w1 : (Jvm.Cond.methodLink own index y).before a0 Z = true) (w2 : (Jvm.Cond.static y).before a0 Z = true) (w3 : (Jvm.Cond.initialized y.cls).before a0 Z = true) (w4 : (Jvm.Cond.code y bytes ml ret).before a0 Z = true) (hy : y.cls ≠ "java/lang/invoke/MethodHandle" ∧ y.cls ≠ "java/lang/invoke/VarHandle") {argsL rest : List Value}
    (hM : own_Con l Z y bytes ml ret [] rm argsL.toArray h Q) (hf : rm.frames + 1 ≤ R.frames) (hl : W + (ml + 11) + rm.locals ≤ R.locals) (hc : cells + rm.cells ≤ R.cells) (hn : slots + rm.slots ≤ R.slots) (eT : T.heap = h)
    {g : JFrame} (hg : g.method = m) (hsize : g.locals.size = c.maxLocals) (hlen : ∀ sig, parseMethodDescriptor y.desc = some sig → argsL.length = sig.parameters.length) (hstack : g.stack = argsL.reverse ++ rest) (hW : 2 * g.monitorRoom + (rest.map fun v => v.category).sum ≤ W) (hd : decode c.code g.pc = .ok (.invokestatic index, 3)) :
    ∃ v T' L, Stand p l e R s m args below meth c T' (locs ++ L) (cells + rm.cells) (slots + rm.slots) ∧ Q v T'.heap L ∧ ∀ t, Steps p.tables e below (T'.setTop { g with pc := g.pc + 3, stack := v.toList ++ rest }) t → Steps p.tables e below (T.setTop g) t := by
  obtain ⟨v, vm₁, ⟨T', L', k', n'⟩, -, X', ⟨L, hQ, e1, e2, e3⟩, st⟩ := Jvm.LawKit.callS X hx (y := y) hown (mvT hZ w1) (mvT hZ w2) (mvT hZ w3) (mvT hZ w4) hy (backOf (W := W) hM hZ w4 w3 hf hl) hg hsize (argsL := argsL) (rest := rest) hlen hstack hW hd (fun _ _ => ⟨rfl, eT, hc, hn⟩)
  dsimp only [Pt.U, Pt.locs, Pt.cells, Pt.slots] at X' e1 e2 e3 st hQ
  subst e1 e2 e3
  exact ⟨v, T', L, X', hQ, st⟩
theorem own_callV (X : Stand p l e R s m args below meth c T locs cells slots) (hx : p.tables.exec = Jvm.exec) (hZ : Z.Warmed39 s.vm) {own C : String} {index : Nat} {y z : MethodName} {bytes : ByteArray} {ml : Nat} {ret : Option FieldType} {rm : Room} {Q : Option Value → Heap → List Loc → Prop} {W : Nat} (hown : s.vm.findClass own = some m.cls)
    (w1 : (Jvm.Cond.methodLink own index y).before a0 Z = true) (w2 : (Jvm.Cond.declares y).before a0 Z = true) (nf : NotFace s y) (w3 : (Jvm.Cond.selects C y z).before a0 Z = true) (w4 : (Jvm.Cond.instanceMethod z).before a0 Z = true) (wz : (Jvm.Cond.initialized z.cls).before a0 Z = true) (wc : (Jvm.Cond.code z bytes ml ret).before a0 Z = true) (hy : y.cls ≠ "java/lang/invoke/MethodHandle" ∧ y.cls ≠ "java/lang/invoke/VarHandle") {b : Addr} {argsL rest : List Value}
    (hM : own_Con l Z z bytes ml ret [] rm (.ref b :: argsL).toArray h Q) (hf : rm.frames + 1 ≤ R.frames) (hl : W + (ml + 11) + rm.locals ≤ R.locals) (hc : cells + rm.cells ≤ R.cells) (hn : slots + rm.slots ≤ R.slots) (eT : T.heap = h) (E : Exa Z h b C)
    {g : JFrame} (hg : g.method = m) (hsize : g.locals.size = c.maxLocals) (hlen : ∀ sig, parseMethodDescriptor y.desc = some sig → argsL.length = sig.parameters.length) (hstack : g.stack = argsL.reverse ++ .ref b :: rest) (hW : 2 * g.monitorRoom + (rest.map fun v => v.category).sum ≤ W) (hd : decode c.code g.pc = .ok (.invokevirtual index, 3)) :
    ∃ v T' L, Stand p l e R s m args below meth c T' (locs ++ L) (cells + rm.cells) (slots + rm.slots) ∧ Q v T'.heap L ∧ ∀ t, Steps p.tables e below (T'.setTop { g with pc := g.pc + 3, stack := v.toList ++ rest }) t → Steps p.tables e below (T.setTop g) t := by
  obtain ⟨cq, kq, q1, q2, q3⟩ := isOf hZ eT E
  obtain ⟨v, vm₁, ⟨T', L', k', n'⟩, -, X', ⟨L, hQ, e1, e2, e3⟩, st⟩ := X.virtualBack hx (y := y) (z := z) hown (mvT hZ w1) (mvT hZ w2) nf (mvT hZ w3) (mvT hZ w4) hy (backOf (W := W) hM hZ wc wz hf hl) q1 q3 hg hsize (Steps.refl _) (argsL := argsL) (rest := rest) hlen hstack hW hd (fun _ _ => ⟨rfl, eT, hc, hn⟩)
  dsimp only [Pt.U, Pt.locs, Pt.cells, Pt.slots] at X' e1 e2 e3 st hQ
  subst e1 e2 e3
  exact ⟨v, T', L, X', hQ, fun t k => st.trans k⟩
theorem own_callI (X : Stand p l e R s m args below meth c T locs cells slots) (hx : p.tables.exec = Jvm.exec) (hZ : Z.Warmed39 s.vm) {own : String} {index : Nat} {y : MethodName} (hy1 : y.name = "<init>") {bytes : ByteArray} {ml : Nat} {rm : Room} {Q : Option Value → Heap → List Loc → Prop} {W : Nat} (hown : s.vm.findClass own = some m.cls)
    (w1 : (Jvm.Cond.methodLink own index y).before a0 Z = true) (w2 : (Jvm.Cond.instanceMethod y).before a0 Z = true) (wz : (Jvm.Cond.initialized y.cls).before a0 Z = true) (wc : (Jvm.Cond.code y bytes ml none).before a0 Z = true) (hy : y.cls ≠ "java/lang/invoke/MethodHandle" ∧ y.cls ≠ "java/lang/invoke/VarHandle") {b : Addr} {argsL rest : List Value}
    (hM : own_Con l Z y bytes ml none [] rm (.ref b :: argsL).toArray h Q) (hf : rm.frames + 1 ≤ R.frames) (hl : W + (ml + 11) + rm.locals ≤ R.locals) (hc : cells + rm.cells ≤ R.cells) (hn : slots + rm.slots ≤ R.slots) (eT : T.heap = h)
    {g : JFrame} (hg : g.method = m) (hsize : g.locals.size = c.maxLocals) (hlen : ∀ sig, parseMethodDescriptor y.desc = some sig → argsL.length = sig.parameters.length) (hstack : g.stack = argsL.reverse ++ .ref b :: rest) (hW : 2 * g.monitorRoom + (rest.map fun v => v.category).sum ≤ W) (hd : decode c.code g.pc = .ok (.invokespecial index, 3)) :
    ∃ v T' L, Stand p l e R s m args below meth c T' (locs ++ L) (cells + rm.cells) (slots + rm.slots) ∧ Q v T'.heap L ∧ ∀ t, Steps p.tables e below (T'.setTop { g with pc := g.pc + 3, stack := v.toList ++ rest }) t → Steps p.tables e below (T.setTop g) t := by
  obtain ⟨v, vm₁, ⟨T', L', k', n'⟩, -, X', ⟨L, hQ, e1, e2, e3⟩, st⟩ := X.specialBack hx (y := y) hy1 hown (mvT hZ w1) (mvT hZ w2) (mvT hZ wc) hy (backOf (W := W) hM hZ wc wz hf hl) hg hsize (Steps.refl _) (a := b) (argsL := argsL) (rest := rest) hlen hstack hW hd (fun _ _ => ⟨rfl, eT, hc, hn⟩)
  dsimp only [Pt.U, Pt.locs, Pt.cells, Pt.slots] at X' e1 e2 e3 st hQ
  subst e1 e2 e3
  exact ⟨v, T', L, X', hQ, fun t k => st.trans k⟩
theorem own_callU (X : Stand p l e R s m args below meth c T locs cells slots) (hx : p.tables.exec = Jvm.exec) (hZ : Z.Warmed39 s.vm) {own C owner : String} {index : Nat} {y z : MethodName} {bytes : ByteArray} {ml : Nat} {ret : Option FieldType} {rm : Room} {Q : Option Value → Heap → List Loc → Prop} {W : Nat} (hown : s.vm.findClass own = some m.cls)
    (w1 : (Jvm.Cond.methodLink own index y).before a0 Z = true) (w2 : (Jvm.Cond.sameMethod y.cls owner y.name y.desc).before a0 Z = true) (w2' : (Jvm.Cond.declares ⟨owner, y.name, y.desc⟩).before a0 Z = true) (w3 : (Jvm.Cond.selects C y z).before a0 Z = true) (w4 : (Jvm.Cond.instanceMethod z).before a0 Z = true) (wz : (Jvm.Cond.initialized z.cls).before a0 Z = true) (wc : (Jvm.Cond.code z bytes ml ret).before a0 Z = true) (hy : owner ≠ "java/lang/invoke/MethodHandle" ∧ owner ≠ "java/lang/invoke/VarHandle") {b : Addr} {argsL rest : List Value}
    (hM : own_Con l Z z bytes ml ret [] rm (.ref b :: argsL).toArray h Q) (hf : rm.frames + 1 ≤ R.frames) (hl : W + (ml + 11) + rm.locals ≤ R.locals) (hc : cells + rm.cells ≤ R.cells) (hn : slots + rm.slots ≤ R.slots) (eT : T.heap = h) (E : Exa Z h b C)
    {g : JFrame} (hg : g.method = m) (hsize : g.locals.size = c.maxLocals) (hlen : ∀ sig, parseMethodDescriptor y.desc = some sig → argsL.length = sig.parameters.length) (hstack : g.stack = argsL.reverse ++ .ref b :: rest) (hW : 2 * g.monitorRoom + (rest.map fun v => v.category).sum ≤ W) (hd : decode c.code g.pc = .ok (.invokevirtual index, 3)) :
    ∃ v T' L, Stand p l e R s m args below meth c T' (locs ++ L) (cells + rm.cells) (slots + rm.slots) ∧ Q v T'.heap L ∧ ∀ t, Steps p.tables e below (T'.setTop { g with pc := g.pc + 3, stack := v.toList ++ rest }) t → Steps p.tables e below (T.setTop g) t := by
  obtain ⟨cq, kq, q1, q2, q3⟩ := isOf hZ eT E
  obtain ⟨v, vm₁, ⟨T', L', k', n'⟩, -, X', ⟨L, hQ, e1, e2, e3⟩, st⟩ := X.virtualBackUp hx (x := y) (y := z) hown (mvT hZ w1) (mvT hZ w2) (mvT hZ w2') hy (mvT hZ w3) (mvT hZ w4) (backOf (W := W) hM hZ wc wz hf hl) q1 q3 hg hsize (Steps.refl _) (argsL := argsL) (rest := rest) hlen hstack hW hd (fun _ _ => ⟨rfl, eT, hc, hn⟩)
  dsimp only [Pt.U, Pt.locs, Pt.cells, Pt.slots] at X' e1 e2 e3 st hQ
  subst e1 e2 e3
  exact ⟨v, T', L, X', hQ, fun t k => st.trans k⟩
/-- a callee that writes nothing and makes nothing: it returns r -/
abbrev own_Pure (l : Launch) (Z : State) (y : MethodName) (code : ByteArray) (ml : Nat) (ret : Option FieldType) (ws : List Jvm.Cond) (rm : Room) (as : Array Value) (h0 : Heap) (r : Option Value) : Prop := own_Con l Z y code ml ret ws rm as h0 (fun v h L => v = r ∧ L = [] ∧ h = h0)
theorem own_pure {c0 : Code} {T' : State} {v r : Option Value} {L : List Loc} {kc ks : Nat} (X : Stand p l e R s m args below meth c0 T' (locs ++ L) (cells + kc) (slots + ks)) (h1 : kc = 0) (h2 : ks = 0) (hL : L = []) : Stand p l e R s m args below meth c0 T' locs cells slots := by
  subst h1 h2 hL; rw [List.append_nil] at X; exact X
end OwnStand
theorem own_stat {s : State} {args : Array Value} {C C' f d : String} (hx : (Jvm.Cond.exactly (.static C f d) C').value args s none s [] = some true) (wi : (Jvm.Cond.initialized C).before args s = true) (wl : (Jvm.Cond.laysStatic C f d).before args s = true) :
    ∃ x, (Term.static C f d).eval args s none [] s = some (.ref x) ∧ Sta s s.heap C f d (.ref x) ∧ Exa s s.heap x C' := by
  obtain ⟨x, ev⟩ := exa_v hx
  exact ⟨x, ev, Sta.start ev (Or.inr ⟨wi, wl⟩), Exa.start ev hx⟩
theorem own_ord {s : State} {args : Array Value} {t : Term} {x : Addr} {C n d : String} {k : Int32} (ev : t.eval args s none [] s = some (.ref x)) (hk : (Jvm.Cond.eq (.field t C n d) (.int k)).value args s none s [] = some true) : Fld s s.heap x C n d (.int k) := by
  refine Fld.start ((fld_at ev).symm.trans ?_)
  obtain ⟨u, v, h1, h2, -, h4⟩ := cmp_v (Or.inl hk)
  obtain rfl : v = .int k := (Option.some.inj ((Term.int_eval k).symm.trans h2)).symm
  obtain ⟨z, rfl⟩ := h4
  simp [Cond.value, h1, h2] at hk
  subst hk
  exact h1
theorem own_ne {x y : Nat} (h : x < y ∨ y < x) : x ≠ y := by omega
theorem own_nat {y : Int32} {c : Nat} (h0 : 0 ≤ y.toInt) (h1 : y.toInt < c) : ∃ n : Nat, n < c ∧ y = Int32.ofNat n := by
  have := y.toInt_lt
  exact ⟨y.toInt.toNat, by omega, Int32.toInt_inj.mp (by rw [toInt_of (c := y.toInt.toNat) rfl (by omega)]; omega)⟩
theorem own_ofNat {n : Nat} (h : n < 2 ^ 31) : (Int32.ofNat n).toInt = n := toInt_of rfl h

def own_max (a b : Int32) : Int32 := if a < b then b else a
def own_min (a b : Int32) : Int32 := if b < a then b else a
def own_imp (o lo r : Int32) : Int32 := if o < lo then 0 else if o < r then 1 else 0
theorem own_lo {r b : Int32} (h0 : 0 ≤ r.toInt) (h1 : r.toInt < 1073741824) (hb : 0 ≤ b.toInt) : r + 1 ≠ 0 ∧ 0 ≤ (r - b % (r + 1)).toInt ∧ (r - b % (r + 1)).toInt ≤ r.toInt := by
  have r1 := rng32 r; have r2 := rng32 (r + 1); have r3 := rng32 (r - b % (r + 1))
  have s1 := c_iadd r 1; have s2 := c_isub r (b % (r + 1)); have e1 : (1 : Int32).toInt = 1 := rfl
  have q1 : (r + 1).toInt = r.toInt + 1 := by omega
  have q2 := (c_iremV b (r + 1)).1 hb (by omega)
  refine ⟨fun z => ?_, by omega, by omega⟩
  rw [z] at q1; have e0 : (0 : Int32).toInt = 0 := rfl; omega
theorem own_nz {r lo : Int32} (h0 : 0 ≤ lo.toInt) (h1 : lo.toInt ≤ r.toInt) (h2 : r.toInt < 1073741824) : r - lo + 3 ≠ 0 := fun z => by
  have r1 := rng32 (r - lo); have s1 := c_isub r lo; have s2 := c_iadd (r - lo) 3; have e3 : (3 : Int32).toInt = 3 := rfl; have e0 : (0 : Int32).toInt = 0 := rfl
  rw [z] at s2; omega
theorem own_max0 (t : Int32) : 0 ≤ (own_max 0 t).toInt := by
  have e0 : (0 : Int32).toInt = 0 := rfl
  unfold own_max; split
  · rename_i q; rw [Int32.lt_iff_toInt_lt] at q; omega
  · omega
theorem own_i1 {r lo o : Int32} (h0 : 0 ≤ lo.toInt) (h1 : lo.toInt ≤ r.toInt) (h2 : r.toInt < 1073741824) (h3 : 0 ≤ o.toInt) (q1 : o < r) (q2 : ¬ r - lo < r - o) : own_imp o lo r = 1 := by
  have s1 := c_isub r lo; have s2 := c_isub r o; have r1 := rng32 (r - lo); have r2 := rng32 (r - o); have q1' := Int32.lt_iff_toInt_lt.mp q1
  rw [Int32.lt_iff_toInt_lt] at q2
  have q : ¬ o < lo := by rw [Int32.lt_iff_toInt_lt]; omega
  rw [own_imp, if_neg q, if_pos q1]
theorem own_i2 {r lo o : Int32} (h0 : 0 ≤ lo.toInt) (h1 : lo.toInt ≤ r.toInt) (h2 : r.toInt < 1073741824) (h3 : 0 ≤ o.toInt) (q1 : o < r) (q2 : r - lo < r - o) : own_imp o lo r = 0 := by
  have s1 := c_isub r lo; have s2 := c_isub r o; have r1 := rng32 (r - lo); have r2 := rng32 (r - o); have q1' := Int32.lt_iff_toInt_lt.mp q1
  rw [Int32.lt_iff_toInt_lt] at q2
  have q : o < lo := by rw [Int32.lt_iff_toInt_lt]; omega
  rw [own_imp, if_pos q]
theorem own_i3 {r lo o : Int32} (q1 : ¬ o < r) : own_imp o lo r = 0 := by
  unfold own_imp; split <;> first | rfl | rw [if_neg q1]
theorem pd_0 : parseMethodDescriptor "(II)I" = some ⟨[.int, .int], some .int⟩ := by decide +kernel
theorem pd_1 : parseMethodDescriptor "(II)V" = some ⟨[.int, .int], none⟩ := by decide +kernel
theorem pd_2 : parseMethodDescriptor "(Lcom/example/stylewright/stylewright/xslt/ImportPrecedence;)Z" = some ⟨[(.object "com/example/stylewright/stylewright/xslt/ImportPrecedence")], some .boolean⟩ := by decide +kernel
theorem d1_0 : decode jdk_29_method_65_code 0 = .ok (.iload_n 0, 1) := by decide +kernel
theorem d1_1 : decode jdk_29_method_65_code 1 = .ok (.iload_n 1, 1) := by decide +kernel
theorem d1_2 : decode jdk_29_method_65_code 2 = .ok (.if_icmp .lt 7, 3) := by decide +kernel
theorem d1_5 : decode jdk_29_method_65_code 5 = .ok (.iload_n 0, 1) := by decide +kernel
theorem d1_6 : decode jdk_29_method_65_code 6 = .ok (.goto 4, 3) := by decide +kernel
theorem d1_9 : decode jdk_29_method_65_code 9 = .ok (.iload_n 1, 1) := by decide +kernel
theorem d1_10 : decode jdk_29_method_65_code 10 = .ok (.ireturn, 1) := by decide +kernel
theorem ef_1 (m : MethodId) (x0 : Int32) (x1 : Int32) : entryFrame m #[(.int x0), (.int x1)] 2 = mkF m 0 #[.val (.int x0), .val (.int x1)] [] := by first | (simp [entryFrame, mkF, argsToLocals, Value.category]; done) | rfl
set_option maxRecDepth 65536 in
set_option maxHeartbeats 40000000 in
theorem rm1 (l : Launch) (Z : State) (a0 : Array Value) (hw : ∀ d ∈ tables_1, d.before a0 Z = true) (ws : List Jvm.Cond) (p1 p2 : Int32) (h0 : Heap) :
    own_Pure l Z (⟨"java/lang/Math", "max", "(II)I"⟩ : MethodName) jdk_29_method_65_code 2 (some .int) ws ({ frames := 0, cells := 0, slots := 0, locals := 0 } : Room) #[(.int p1), (.int p2)] h0 (some (.int (own_max p1 p2))) := by
  refine own_body (Jvm.Free.JP.mathPlain rfl (by decide +kernel)) ?_
  intro p e s m below meth c T0 hx hby hml hown hnm hret hlk hZ X0 e0
  replace hown : s.vm.findClass "java/lang/Math" = some m.cls := hown
  replace hret : meth.sig.returnType = (some .int) := hret
  replace hnm : meth.name = "max" := hnm
  rw [ef_1 m p1 p2]
  refine own_via (T' := T0) (g' := (mkF m 1 #[.val (.int p1), .val (.int p2)] [(.int p1)])) (fun _ kt => XS.iloadN X0.here hx rfl (hb hby d1_0) rfl kt) ?_
  refine own_via (T' := T0) (g' := (mkF m 2 #[.val (.int p1), .val (.int p2)] [(.int p2), (.int p1)])) (fun _ kt => XS.iloadN X0.here hx rfl (hb hby d1_1) rfl kt) ?_
  by_cases hc2_1 : p1 < p2
  · refine own_via (T' := T0) (g' := (mkF m 9 #[.val (.int p1), .val (.int p2)] [])) (fun _ kt => XS.icmpYes X0.here hx rfl (pc0 := 2) (pc' := 9) rfl (hb hby d1_2) rfl (tlt hc2_1).1 (by decide) (by decide) kt) ?_
    refine own_via (T' := T0) (g' := (mkF m 10 #[.val (.int p1), .val (.int p2)] [(.int p2)])) (fun _ kt => XS.iloadN X0.here hx rfl (hb hby d1_9) rfl kt) ?_
    exact own_retI X0 hx hret hlk (hb hby d1_10) ⟨by rw [own_max, if_pos hc2_1], rfl, e0⟩ (by decide) (by decide)
  · refine own_via (T' := T0) (g' := (mkF m 5 #[.val (.int p1), .val (.int p2)] [])) (fun _ kt => XS.icmpNo X0.here hx rfl (hb hby d1_2) rfl (flt hc2_1).1 kt) ?_
    refine own_via (T' := T0) (g' := (mkF m 6 #[.val (.int p1), .val (.int p2)] [(.int p1)])) (fun _ kt => XS.iloadN X0.here hx rfl (hb hby d1_5) rfl kt) ?_
    refine own_via (T' := T0) (g' := (mkF m 10 #[.val (.int p1), .val (.int p2)] [(.int p1)])) (fun _ kt => XS.goto X0.here hx rfl (pc0 := 6) (pc' := 10) rfl (hb hby d1_6) (by decide) (by decide) kt) ?_
    exact own_retI X0 hx hret hlk (hb hby d1_10) ⟨by rw [own_max, if_neg hc2_1], rfl, e0⟩ (by decide) (by decide)
theorem d2_0 : decode jdk_29_method_69_code 0 = .ok (.iload_n 0, 1) := by decide +kernel
theorem d2_1 : decode jdk_29_method_69_code 1 = .ok (.iload_n 1, 1) := by decide +kernel
theorem d2_2 : decode jdk_29_method_69_code 2 = .ok (.if_icmp .gt 7, 3) := by decide +kernel
theorem d2_5 : decode jdk_29_method_69_code 5 = .ok (.iload_n 0, 1) := by decide +kernel
theorem d2_6 : decode jdk_29_method_69_code 6 = .ok (.goto 4, 3) := by decide +kernel
theorem d2_9 : decode jdk_29_method_69_code 9 = .ok (.iload_n 1, 1) := by decide +kernel
theorem d2_10 : decode jdk_29_method_69_code 10 = .ok (.ireturn, 1) := by decide +kernel
theorem ef_2 (m : MethodId) (x0 : Int32) (x1 : Int32) : entryFrame m #[(.int x0), (.int x1)] 2 = mkF m 0 #[.val (.int x0), .val (.int x1)] [] := by first | (simp [entryFrame, mkF, argsToLocals, Value.category]; done) | rfl
set_option maxRecDepth 65536 in
set_option maxHeartbeats 40000000 in
theorem rm2 (l : Launch) (Z : State) (a0 : Array Value) (hw : ∀ d ∈ tables_1, d.before a0 Z = true) (ws : List Jvm.Cond) (p1 p2 : Int32) (h0 : Heap) :
    own_Pure l Z (⟨"java/lang/Math", "min", "(II)I"⟩ : MethodName) jdk_29_method_69_code 2 (some .int) ws ({ frames := 0, cells := 0, slots := 0, locals := 0 } : Room) #[(.int p1), (.int p2)] h0 (some (.int (own_min p1 p2))) := by
  refine own_body (Jvm.Free.JP.mathPlain rfl (by decide +kernel)) ?_
  intro p e s m below meth c T0 hx hby hml hown hnm hret hlk hZ X0 e0
  replace hown : s.vm.findClass "java/lang/Math" = some m.cls := hown
  replace hret : meth.sig.returnType = (some .int) := hret
  replace hnm : meth.name = "min" := hnm
  rw [ef_2 m p1 p2]
  refine own_via (T' := T0) (g' := (mkF m 1 #[.val (.int p1), .val (.int p2)] [(.int p1)])) (fun _ kt => XS.iloadN X0.here hx rfl (hb hby d2_0) rfl kt) ?_
  refine own_via (T' := T0) (g' := (mkF m 2 #[.val (.int p1), .val (.int p2)] [(.int p2), (.int p1)])) (fun _ kt => XS.iloadN X0.here hx rfl (hb hby d2_1) rfl kt) ?_
  by_cases hc2_1 : p2 < p1
  · refine own_via (T' := T0) (g' := (mkF m 9 #[.val (.int p1), .val (.int p2)] [])) (fun _ kt => XS.icmpYes X0.here hx rfl (pc0 := 2) (pc' := 9) rfl (hb hby d2_2) rfl (tlt hc2_1).2.2.1 (by decide) (by decide) kt) ?_
    refine own_via (T' := T0) (g' := (mkF m 10 #[.val (.int p1), .val (.int p2)] [(.int p2)])) (fun _ kt => XS.iloadN X0.here hx rfl (hb hby d2_9) rfl kt) ?_
    exact own_retI X0 hx hret hlk (hb hby d2_10) ⟨by rw [own_min, if_pos hc2_1], rfl, e0⟩ (by decide) (by decide)
  · refine own_via (T' := T0) (g' := (mkF m 5 #[.val (.int p1), .val (.int p2)] [])) (fun _ kt => XS.icmpNo X0.here hx rfl (hb hby d2_2) rfl (flt hc2_1).2.2.1 kt) ?_
    refine own_via (T' := T0) (g' := (mkF m 6 #[.val (.int p1), .val (.int p2)] [(.int p1)])) (fun _ kt => XS.iloadN X0.here hx rfl (hb hby d2_5) rfl kt) ?_
    refine own_via (T' := T0) (g' := (mkF m 10 #[.val (.int p1), .val (.int p2)] [(.int p1)])) (fun _ kt => XS.goto X0.here hx rfl (pc0 := 6) (pc' := 10) rfl (hb hby d2_6) (by decide) (by decide) kt) ?_
    exact own_retI X0 hx hret hlk (hb hby d2_10) ⟨by rw [own_min, if_neg hc2_1], rfl, e0⟩ (by decide) (by decide)
theorem d3_0 : decode prog_181_method_1_code 0 = .ok (.aload_n 0, 1) := by decide +kernel
theorem d3_1 : decode prog_181_method_1_code 1 = .ok (.invokespecial 1, 3) := by decide +kernel
theorem d3_4 : decode prog_181_method_1_code 4 = .ok (.aload_n 0, 1) := by decide +kernel
theorem d3_5 : decode prog_181_method_1_code 5 = .ok (.iload_n 1, 1) := by decide +kernel
theorem d3_6 : decode prog_181_method_1_code 6 = .ok (.putfield 7, 3) := by decide +kernel
theorem d3_9 : decode prog_181_method_1_code 9 = .ok (.aload_n 0, 1) := by decide +kernel
theorem d3_10 : decode prog_181_method_1_code 10 = .ok (.iload_n 2, 1) := by decide +kernel
theorem d3_11 : decode prog_181_method_1_code 11 = .ok (.putfield 13, 3) := by decide +kernel
theorem d3_14 : decode prog_181_method_1_code 14 = .ok (.return_, 1) := by decide +kernel
theorem pn_3 : plainName "com/example/stylewright/stylewright/xslt/ImportPrecedence" = true := by first | (simp [plainName, overriddenIn]; done) | decide +kernel
theorem ef_3 (m : MethodId) (x0 : Addr) (x1 : Int32) (x2 : Int32) : entryFrame m #[(.ref x0), (.int x1), (.int x2)] 3 = mkF m 0 #[.val (.ref x0), .val (.int x1), .val (.int x2)] [] := by first | (simp [entryFrame, mkF, argsToLocals, Value.category]; done) | rfl
set_option maxRecDepth 65536 in
set_option maxHeartbeats 40000000 in
theorem rm3 (l : Launch) (Z : State) (a0 : Array Value) (hw : ∀ d ∈ tables_1, d.before a0 Z = true) (ws : List Jvm.Cond) (a1 : Addr) (p2 p3 : Int32) (u1 u2 : Value) (h0 : Heap) (n0 : Nat) (Z0 : n0 ≤ h0.size) (g1 : n0 ≤ a1) (E1 : Exa Z h0 a1 "com/example/stylewright/stylewright/xslt/ImportPrecedence") (F1 : Fld Z h0 a1 "com/example/stylewright/stylewright/xslt/ImportPrecedence" "rank" "I" u1) (F2 : Fld Z h0 a1 "com/example/stylewright/stylewright/xslt/ImportPrecedence" "lowestImported" "I" u2) :
    own_Con l Z (⟨"com/example/stylewright/stylewright/xslt/ImportPrecedence", "<init>", "(II)V"⟩ : MethodName) prog_181_method_1_code 3 none ws ({ frames := 1, cells := 0, slots := 0, locals := 12 } : Room) #[(.ref a1), (.int p2), (.int p3)] h0 (fun v h L => v = none ∧ Fr n0 L ∧ Keep h0 h [a1] ∧ Fld Z h a1 "com/example/stylewright/stylewright/xslt/ImportPrecedence" "rank" "I" (.int p2) ∧ Fld Z h a1 "com/example/stylewright/stylewright/xslt/ImportPrecedence" "lowestImported" "I" (.int p3)) := by
  refine own_body (plainFor_of_name pn_3) ?_
  intro p e s m below meth c T0 hx hby hml hown hnm hret hlk hZ X0 e0
  replace hown : s.vm.findClass "com/example/stylewright/stylewright/xslt/ImportPrecedence" = some m.cls := hown
  replace hret : meth.sig.returnType = none := hret
  replace hnm : meth.name = "<init>" := hnm
  rw [ef_3 m a1 p2 p3]
  have N0 := Fr.nil n0
  refine own_via (T' := T0) (g' := (mkF m 1 #[.val (.ref a1), .val (.int p2), .val (.int p3)] [(.ref a1)])) (fun _ kt => XS.aloadN X0.here hx rfl (hb hby d3_0) rfl rfl kt) ?_
  obtain ⟨T1, X1, e1, st1⟩ := initO X0 hx hZ hown (hw _ (List.mem_of_getElem? (i := 15) rfl)) (hw _ (List.mem_of_getElem? (i := 16) rfl)) (hw _ (List.mem_of_getElem? (i := 17) rfl)) e0 (g := (mkF m 1 #[.val (.ref a1), .val (.int p2), .val (.int p3)] [(.ref a1)])) rfl (by rw [hml]; rfl) rfl (hb hby d3_1) (by decide) (W := 0) (by show 2 * 0 + _ ≤ _; exact Nat.le_of_eq rfl) (by decide)
  refine own_via (T' := T1) (g' := (mkF m 4 #[.val (.ref a1), .val (.int p2), .val (.int p3)] [])) (fun _ kt => st1 _ kt) ?_
  refine own_via (T' := T1) (g' := (mkF m 5 #[.val (.ref a1), .val (.int p2), .val (.int p3)] [(.ref a1)])) (fun _ kt => XS.aloadN X1.here hx rfl (hb hby d3_4) rfl rfl kt) ?_
  refine own_via (T' := T1) (g' := (mkF m 6 #[.val (.ref a1), .val (.int p2), .val (.int p3)] [(.int p2), (.ref a1)])) (fun _ kt => XS.iloadN X1.here hx rfl (hb hby d3_5) rfl kt) ?_
  obtain ⟨T2, h2, X2, e2, W2, st2⟩ := putF X1 hx hZ hown (host := "") (Or.inl (hw _ (List.mem_of_getElem? (i := 18) rfl))) Via.refl e1 F1 E1 (Or.inr ⟨(hw _ (List.mem_of_getElem? (i := 19) rfl)), rfl, hnm⟩) (hw _ (List.mem_of_getElem? (i := 10) rfl)) (ty := .int) (by decide) rfl rfl (g := (mkF m 6 #[.val (.ref a1), .val (.int p2), .val (.int p3)] [(.int p2), (.ref a1)])) rfl rfl (hb hby d3_6)
  have f3 := E1.wr W2
  have f4 := F2.other W2 (Or.inr (slot_ne (Or.inr (hw _ (List.mem_of_getElem? (i := 21) rfl))) (Or.inr (hw _ (List.mem_of_getElem? (i := 19) rfl))) (by decide) (t := .int) (t' := .int) (by decide) (by decide)))
  have z2 : n0 ≤ h2.size := Nat.le_trans Z0 (Nat.le_of_eq W2.size.symm)
  have N2 := Fr.snoc X2 N0 g1
  have K2 := (Keep.refl h0 [a1]).wr W2 (Or.inl (List.mem_of_getElem? (i := 0) rfl))
  have f2 := F1.same W2
  refine own_via (T' := T2) (g' := (mkF m 9 #[.val (.ref a1), .val (.int p2), .val (.int p3)] [])) (fun _ kt => st2 _ kt) ?_
  refine own_via (T' := T2) (g' := (mkF m 10 #[.val (.ref a1), .val (.int p2), .val (.int p3)] [(.ref a1)])) (fun _ kt => XS.aloadN X2.here hx rfl (hb hby d3_9) rfl rfl kt) ?_
  refine own_via (T' := T2) (g' := (mkF m 11 #[.val (.ref a1), .val (.int p2), .val (.int p3)] [(.int p3), (.ref a1)])) (fun _ kt => XS.iloadN X2.here hx rfl (hb hby d3_10) rfl kt) ?_
  obtain ⟨T5, h5, X5, e5, W5, st5⟩ := putF X2 hx hZ hown (host := "") (Or.inl (hw _ (List.mem_of_getElem? (i := 20) rfl))) Via.refl e2 f4 f3 (Or.inr ⟨(hw _ (List.mem_of_getElem? (i := 21) rfl)), rfl, hnm⟩) (hw _ (List.mem_of_getElem? (i := 10) rfl)) (ty := .int) (by decide) rfl rfl (g := (mkF m 11 #[.val (.ref a1), .val (.int p2), .val (.int p3)] [(.int p3), (.ref a1)])) rfl rfl (hb hby d3_11)
  have f6 := f3.wr W5
  have f7 := f2.other W5 (Or.inr (slot_ne (Or.inr (hw _ (List.mem_of_getElem? (i := 19) rfl))) (Or.inr (hw _ (List.mem_of_getElem? (i := 21) rfl))) (by decide) (t := .int) (t' := .int) (by decide) (by decide)))
  have z5 : n0 ≤ h5.size := Nat.le_trans z2 (Nat.le_of_eq W5.size.symm)
  have N5 := Fr.snoc X5 N2 g1
  have K5 := K2.wr W5 (Or.inl (List.mem_of_getElem? (i := 0) rfl))
  have f5 := f4.same W5
  refine own_via (T' := T5) (g' := (mkF m 14 #[.val (.ref a1), .val (.int p2), .val (.int p3)] [])) (fun _ kt => st5 _ kt) ?_
  exact own_retV X5 hx hret hlk (hb hby d3_14) (by rw [e5]; exact ⟨rfl, N5, K5, f7, f5⟩) (by decide) (by decide)
theorem d5_0 : decode prog_181_method_3_code 0 = .ok (.aload_n 1, 1) := by decide +kernel
theorem d5_1 : decode prog_181_method_3_code 1 = .ok (.getfield 7, 3) := by decide +kernel
theorem d5_4 : decode prog_181_method_3_code 4 = .ok (.aload_n 0, 1) := by decide +kernel
theorem d5_5 : decode prog_181_method_3_code 5 = .ok (.getfield 13, 3) := by decide +kernel
theorem d5_8 : decode prog_181_method_3_code 8 = .ok (.if_icmp .lt 18, 3) := by decide +kernel
theorem d5_11 : decode prog_181_method_3_code 11 = .ok (.aload_n 1, 1) := by decide +kernel
theorem d5_12 : decode prog_181_method_3_code 12 = .ok (.getfield 7, 3) := by decide +kernel
theorem d5_15 : decode prog_181_method_3_code 15 = .ok (.aload_n 0, 1) := by decide +kernel
theorem d5_16 : decode prog_181_method_3_code 16 = .ok (.getfield 7, 3) := by decide +kernel
theorem d5_19 : decode prog_181_method_3_code 19 = .ok (.if_icmp .ge 7, 3) := by decide +kernel
theorem d5_22 : decode prog_181_method_3_code 22 = .ok (.iconst 1, 1) := by decide +kernel
theorem d5_23 : decode prog_181_method_3_code 23 = .ok (.goto 4, 3) := by decide +kernel
theorem d5_26 : decode prog_181_method_3_code 26 = .ok (.iconst 0, 1) := by decide +kernel
theorem d5_27 : decode prog_181_method_3_code 27 = .ok (.ireturn, 1) := by decide +kernel
theorem pn_5 : plainName "com/example/stylewright/stylewright/xslt/ImportPrecedence" = true := pn_3
theorem ef_5 (m : MethodId) (x0 : Addr) (x1 : Addr) : entryFrame m #[(.ref x0), (.ref x1)] 2 = mkF m 0 #[.val (.ref x0), .val (.ref x1)] [] := by first | (simp [entryFrame, mkF, argsToLocals, Value.category]; done) | rfl
set_option maxRecDepth 65536 in
set_option maxHeartbeats 40000000 in
theorem rm5 (l : Launch) (Z : State) (a0 : Array Value) (hw : ∀ d ∈ tables_1, d.before a0 Z = true) (ws : List Jvm.Cond) (a1 a2 : Addr) (o lo r : Int32) (h0 : Heap) (F1 : Fld Z h0 a2 "com/example/stylewright/stylewright/xslt/ImportPrecedence" "rank" "I" (.int o)) (F2 : Fld Z h0 a1 "com/example/stylewright/stylewright/xslt/ImportPrecedence" "lowestImported" "I" (.int lo)) (F3 : Fld Z h0 a1 "com/example/stylewright/stylewright/xslt/ImportPrecedence" "rank" "I" (.int r)) :
    own_Pure l Z (⟨"com/example/stylewright/stylewright/xslt/ImportPrecedence", "imports", "(Lcom/example/stylewright/stylewright/xslt/ImportPrecedence;)Z"⟩ : MethodName) prog_181_method_3_code 2 (some .boolean) ws ({ frames := 0, cells := 0, slots := 0, locals := 0 } : Room) #[(.ref a1), (.ref a2)] h0 (some (.int (own_imp o lo r))) := by
  refine own_body (plainFor_of_name pn_5) ?_
  intro p e s m below meth c T0 hx hby hml hown hnm hret hlk hZ X0 e0
  replace hown : s.vm.findClass "com/example/stylewright/stylewright/xslt/ImportPrecedence" = some m.cls := hown
  replace hret : meth.sig.returnType = (some .boolean) := hret
  replace hnm : meth.name = "imports" := hnm
  rw [ef_5 m a1 a2]
  refine own_via (T' := T0) (g' := (mkF m 1 #[.val (.ref a1), .val (.ref a2)] [(.ref a2)])) (fun _ kt => XS.aloadN X0.here hx rfl (hb hby d5_0) rfl rfl kt) ?_
  obtain ⟨T1, X1, e1, st1⟩ := getF X0 hx hZ hown (host := "") (Or.inl (hw _ (List.mem_of_getElem? (i := 18) rfl))) Via.refl e0 F1 (g := (mkF m 1 #[.val (.ref a1), .val (.ref a2)] [(.ref a2)])) rfl rfl (hb hby d5_1)
  refine own_via (T' := T1) (g' := (mkF m 4 #[.val (.ref a1), .val (.ref a2)] [(.int o)])) (fun _ kt => st1 _ kt) ?_
  refine own_via (T' := T1) (g' := (mkF m 5 #[.val (.ref a1), .val (.ref a2)] [(.ref a1), (.int o)])) (fun _ kt => XS.aloadN X1.here hx rfl (hb hby d5_4) rfl rfl kt) ?_
  obtain ⟨T2, X2, e2, st2⟩ := getF X1 hx hZ hown (host := "") (Or.inl (hw _ (List.mem_of_getElem? (i := 20) rfl))) Via.refl e1 F2 (g := (mkF m 5 #[.val (.ref a1), .val (.ref a2)] [(.ref a1), (.int o)])) rfl rfl (hb hby d5_5)
  refine own_via (T' := T2) (g' := (mkF m 8 #[.val (.ref a1), .val (.ref a2)] [(.int lo), (.int o)])) (fun _ kt => st2 _ kt) ?_
  by_cases hc8_3 : o < lo
  · refine own_via (T' := T2) (g' := (mkF m 26 #[.val (.ref a1), .val (.ref a2)] [])) (fun _ kt => XS.icmpYes X2.here hx rfl (pc0 := 8) (pc' := 26) rfl (hb hby d5_8) rfl (tlt hc8_3).1 (by decide) (by decide) kt) ?_
    refine own_via (T' := T2) (g' := (mkF m 27 #[.val (.ref a1), .val (.ref a2)] [(.int (0 : Int32))])) (fun _ kt => XS.iconst X2.here hx rfl (hb hby d5_26) kt) ?_
    exact own_retZ X2 hx hret hlk (hb hby d5_27) (by decide) ⟨by rw [own_imp, if_pos hc8_3], rfl, e2⟩ (by decide) (by decide)
  · refine own_via (T' := T2) (g' := (mkF m 11 #[.val (.ref a1), .val (.ref a2)] [])) (fun _ kt => XS.icmpNo X2.here hx rfl (hb hby d5_8) rfl (flt hc8_3).1 kt) ?_
    refine own_via (T' := T2) (g' := (mkF m 12 #[.val (.ref a1), .val (.ref a2)] [(.ref a2)])) (fun _ kt => XS.aloadN X2.here hx rfl (hb hby d5_11) rfl rfl kt) ?_
    obtain ⟨T4, X4, e4, st4⟩ := getF X2 hx hZ hown (host := "") (Or.inl (hw _ (List.mem_of_getElem? (i := 18) rfl))) Via.refl e2 F1 (g := (mkF m 12 #[.val (.ref a1), .val (.ref a2)] [(.ref a2)])) rfl rfl (hb hby d5_12)
    refine own_via (T' := T4) (g' := (mkF m 15 #[.val (.ref a1), .val (.ref a2)] [(.int o)])) (fun _ kt => st4 _ kt) ?_
    refine own_via (T' := T4) (g' := (mkF m 16 #[.val (.ref a1), .val (.ref a2)] [(.ref a1), (.int o)])) (fun _ kt => XS.aloadN X4.here hx rfl (hb hby d5_15) rfl rfl kt) ?_
    obtain ⟨T5, X5, e5, st5⟩ := getF X4 hx hZ hown (host := "") (Or.inl (hw _ (List.mem_of_getElem? (i := 18) rfl))) Via.refl e4 F3 (g := (mkF m 16 #[.val (.ref a1), .val (.ref a2)] [(.ref a1), (.int o)])) rfl rfl (hb hby d5_16)
    refine own_via (T' := T5) (g' := (mkF m 19 #[.val (.ref a1), .val (.ref a2)] [(.int r), (.int o)])) (fun _ kt => st5 _ kt) ?_
    by_cases hc19_6 : o < r
    · refine own_via (T' := T5) (g' := (mkF m 22 #[.val (.ref a1), .val (.ref a2)] [])) (fun _ kt => XS.icmpNo X5.here hx rfl (hb hby d5_19) rfl (tlt hc19_6).2.1 kt) ?_
      refine own_via (T' := T5) (g' := (mkF m 23 #[.val (.ref a1), .val (.ref a2)] [(.int (1 : Int32))])) (fun _ kt => XS.iconst X5.here hx rfl (hb hby d5_22) kt) ?_
      refine own_via (T' := T5) (g' := (mkF m 27 #[.val (.ref a1), .val (.ref a2)] [(.int (1 : Int32))])) (fun _ kt => XS.goto X5.here hx rfl (pc0 := 23) (pc' := 27) rfl (hb hby d5_23) (by decide) (by decide) kt) ?_
      exact own_retZ X5 hx hret hlk (hb hby d5_27) (by decide) ⟨by rw [own_imp, if_neg hc8_3, if_pos hc19_6], rfl, e5⟩ (by decide) (by decide)
    · refine own_via (T' := T5) (g' := (mkF m 26 #[.val (.ref a1), .val (.ref a2)] [])) (fun _ kt => XS.icmpYes X5.here hx rfl (pc0 := 19) (pc' := 26) rfl (hb hby d5_19) rfl (flt hc19_6).2.1 (by decide) (by decide) kt) ?_
      refine own_via (T' := T5) (g' := (mkF m 27 #[.val (.ref a1), .val (.ref a2)] [(.int (0 : Int32))])) (fun _ kt => XS.iconst X5.here hx rfl (hb hby d5_26) kt) ?_
      exact own_retZ X5 hx hret hlk (hb hby d5_27) (by decide) ⟨by rw [own_imp, if_neg hc8_3, if_neg hc19_6], rfl, e5⟩ (by decide) (by decide)
theorem pn_0 : plainName "com/example/stylewright/stylewright/xslt/ImportPrecedenceImportsPinLaw" = true := by first | (simp [plainName, overriddenIn]; done) | decide +kernel
theorem ef_0 (m : MethodId) (x0 : Int32) (x1 : Int32) (x2 : Int32) (x3 : Int32) (x4 : Int32) : entryFrame m #[(.int x0), (.int x1), (.int x2), (.int x3), (.int x4)] maxLocals = mkF m 0 #[.val (.int x0), .val (.int x1), .val (.int x2), .val (.int x3), .val (.int x4), .unset, .unset, .unset, .unset, .unset, .unset, .unset] [] := by first | (simp [entryFrame, mkF, argsToLocals, Value.category, maxLocals]; done) | rfl
set_option maxRecDepth 65536 in
set_option maxHeartbeats 40000000 in
theorem rm0 (l : Launch) (Z : State) (a0 : Array Value) (hw : ∀ d ∈ tables_1, d.before a0 Z = true) (ws : List Jvm.Cond) (p1 p2 p3 p4 p5 : Int32) (h0 : Heap) (n0 : Nat) (Z0 : n0 ≤ h0.size) :
    own_Con l Z x code maxLocals ret ws room_1 #[(.int p1), (.int p2), (.int p3), (.int p4), (.int p5)] h0 (fun v h L => v = some (.int 1) ∧ Fr n0 L) := by
  refine own_body (plainFor_of_name pn_0) ?_
  intro p e s m below meth c T0 hx hby hml hown hnm hret hlk hZ X0 e0
  replace hown : s.vm.findClass "com/example/stylewright/stylewright/xslt/ImportPrecedenceImportsPinLaw" = some m.cls := hown
  replace hret : meth.sig.returnType = (some .boolean) := hret
  replace hnm : meth.name = "law" := hnm
  rw [ef_0 m p1 p2 p3 p4 p5]
  have N0 := Fr.nil n0
  refine own_via (T' := T0) (g' := (mkF m 1 #[.val (.int p1), .val (.int p2), .val (.int p3), .val (.int p4), .val (.int p5), .unset, .unset, .unset, .unset, .unset, .unset, .unset] [(.int p1)])) (fun _ kt => XS.iloadN X0.here hx rfl (hb hby at_0) rfl kt) ?_
  refine own_via (T' := T0) (g' := (mkF m 3 #[.val (.int p1), .val (.int p2), .val (.int p3), .val (.int p4), .val (.int p5), .unset, .unset, .unset, .unset, .unset, .unset, .unset] [(.int (1073741823 : Int32)), (.int p1)])) (fun _ kt => X0.ldcInt hx hown (mvT hZ (hw _ (List.mem_of_getElem? (i := 0) rfl))) (g := (mkF m 1 #[.val (.int p1), .val (.int p2), .val (.int p3), .val (.int p4), .val (.int p5), .unset, .unset, .unset, .unset, .unset, .unset, .unset] [(.int p1)])) rfl (hb hby at_1) _ kt) ?_
  refine own_via (T' := T0) (g' := (mkF m 4 #[.val (.int p1), .val (.int p2), .val (.int p3), .val (.int p4), .val (.int p5), .unset, .unset, .unset, .unset, .unset, .unset, .unset] [(.int (p1 &&& (1073741823 : Int32)))])) (fun _ kt => XS.iand X0.here hx rfl (hb hby at_3) rfl kt) ?_
  obtain ⟨r, hr⟩ : ∃ z, z = (p1 &&& (1073741823 : Int32)) := ⟨_, rfl⟩
  rw [← hr]
  have r0 : 0 ≤ r.toInt := by rw [hr]; exact (c_and p1 1073741823 (by decide)).1
  have r1 : r.toInt < 1073741824 := by rw [hr]; exact Int.lt_of_le_of_lt (c_and p1 1073741823 (by decide)).2 (by decide)
  have b0 : 0 ≤ (p2 &&& (2147483647 : Int32)).toInt := (c_and p2 2147483647 (by decide)).1
  refine own_via (T' := T0) (g' := (mkF m 6 #[.val (.int p1), .val (.int p2), .val (.int p3), .val (.int p4), .val (.int p5), .val (.int r), .unset, .unset, .unset, .unset, .unset, .unset] [])) (fun _ kt => XS.istore X0.here hx rfl (hb hby at_4) rfl (l' := #[.val (.int p1), .val (.int p2), .val (.int p3), .val (.int p4), .val (.int p5), .val (.int r), .unset, .unset, .unset, .unset, .unset, .unset]) rfl kt) ?_
  refine own_via (T' := T0) (g' := (mkF m 8 #[.val (.int p1), .val (.int p2), .val (.int p3), .val (.int p4), .val (.int p5), .val (.int r), .unset, .unset, .unset, .unset, .unset, .unset] [(.int r)])) (fun _ kt => XS.iload X0.here hx rfl (hb hby at_6) rfl kt) ?_
  refine own_via (T' := T0) (g' := (mkF m 9 #[.val (.int p1), .val (.int p2), .val (.int p3), .val (.int p4), .val (.int p5), .val (.int r), .unset, .unset, .unset, .unset, .unset, .unset] [(.int p2), (.int r)])) (fun _ kt => XS.iloadN X0.here hx rfl (hb hby at_8) rfl kt) ?_
  refine own_via (T' := T0) (g' := (mkF m 11 #[.val (.int p1), .val (.int p2), .val (.int p3), .val (.int p4), .val (.int p5), .val (.int r), .unset, .unset, .unset, .unset, .unset, .unset] [(.int (2147483647 : Int32)), (.int p2), (.int r)])) (fun _ kt => X0.ldcInt hx hown (mvT hZ (hw _ (List.mem_of_getElem? (i := 1) rfl))) (g := (mkF m 9 #[.val (.int p1), .val (.int p2), .val (.int p3), .val (.int p4), .val (.int p5), .val (.int r), .unset, .unset, .unset, .unset, .unset, .unset] [(.int p2), (.int r)])) rfl (hb hby at_9) _ kt) ?_
  refine own_via (T' := T0) (g' := (mkF m 12 #[.val (.int p1), .val (.int p2), .val (.int p3), .val (.int p4), .val (.int p5), .val (.int r), .unset, .unset, .unset, .unset, .unset, .unset] [(.int (p2 &&& (2147483647 : Int32))), (.int r)])) (fun _ kt => XS.iand X0.here hx rfl (hb hby at_11) rfl kt) ?_
  refine own_via (T' := T0) (g' := (mkF m 14 #[.val (.int p1), .val (.int p2), .val (.int p3), .val (.int p4), .val (.int p5), .val (.int r), .unset, .unset, .unset, .unset, .unset, .unset] [(.int r), (.int (p2 &&& (2147483647 : Int32))), (.int r)])) (fun _ kt => XS.iload X0.here hx rfl (hb hby at_12) rfl kt) ?_
  refine own_via (T' := T0) (g' := (mkF m 15 #[.val (.int p1), .val (.int p2), .val (.int p3), .val (.int p4), .val (.int p5), .val (.int r), .unset, .unset, .unset, .unset, .unset, .unset] [(.int (1 : Int32)), (.int r), (.int (p2 &&& (2147483647 : Int32))), (.int r)])) (fun _ kt => XS.iconst X0.here hx rfl (hb hby at_14) kt) ?_
  refine own_via (T' := T0) (g' := (mkF m 16 #[.val (.int p1), .val (.int p2), .val (.int p3), .val (.int p4), .val (.int p5), .val (.int r), .unset, .unset, .unset, .unset, .unset, .unset] [(.int (r + (1 : Int32))), (.int (p2 &&& (2147483647 : Int32))), (.int r)])) (fun _ kt => XS.iadd X0.here hx rfl (hb hby at_15) rfl kt) ?_
  refine own_via (T' := T0) (g' := (mkF m 17 #[.val (.int p1), .val (.int p2), .val (.int p3), .val (.int p4), .val (.int p5), .val (.int r), .unset, .unset, .unset, .unset, .unset, .unset] [(.int ((p2 &&& (2147483647 : Int32)) % (r + (1 : Int32)))), (.int r)])) (fun _ kt => Jvm.RoadKit.iremM X0 hx rfl (hb hby at_16) rfl (own_lo r0 r1 b0).1 kt) ?_
  refine own_via (T' := T0) (g' := (mkF m 18 #[.val (.int p1), .val (.int p2), .val (.int p3), .val (.int p4), .val (.int p5), .val (.int r), .unset, .unset, .unset, .unset, .unset, .unset] [(.int (r - ((p2 &&& (2147483647 : Int32)) % (r + (1 : Int32)))))])) (fun _ kt => XS.isub X0.here hx rfl (hb hby at_17) rfl kt) ?_
  obtain ⟨lo, hlo⟩ : ∃ z, z = (r - ((p2 &&& (2147483647 : Int32)) % (r + (1 : Int32)))) := ⟨_, rfl⟩
  rw [← hlo]
  have lo0 : 0 ≤ lo.toInt := by rw [hlo]; exact (own_lo r0 r1 b0).2.1
  have lo1 : lo.toInt ≤ r.toInt := by rw [hlo]; exact (own_lo r0 r1 b0).2.2
  refine own_via (T' := T0) (g' := (mkF m 20 #[.val (.int p1), .val (.int p2), .val (.int p3), .val (.int p4), .val (.int p5), .val (.int r), .val (.int lo), .unset, .unset, .unset, .unset, .unset] [])) (fun _ kt => XS.istore X0.here hx rfl (hb hby at_18) rfl (l' := #[.val (.int p1), .val (.int p2), .val (.int p3), .val (.int p4), .val (.int p5), .val (.int r), .val (.int lo), .unset, .unset, .unset, .unset, .unset]) rfl kt) ?_
  refine own_via (T' := T0) (g' := (mkF m 22 #[.val (.int p1), .val (.int p2), .val (.int p3), .val (.int p4), .val (.int p5), .val (.int r), .val (.int lo), .unset, .unset, .unset, .unset, .unset] [(.int p5)])) (fun _ kt => XS.iload X0.here hx rfl (hb hby at_20) rfl kt) ?_
  refine own_via (T' := T0) (g' := (mkF m 23 #[.val (.int p1), .val (.int p2), .val (.int p3), .val (.int p4), .val (.int p5), .val (.int r), .val (.int lo), .unset, .unset, .unset, .unset, .unset] [(.int (1 : Int32)), (.int p5)])) (fun _ kt => XS.iconst X0.here hx rfl (hb hby at_22) kt) ?_
  refine own_via (T' := T0) (g' := (mkF m 24 #[.val (.int p1), .val (.int p2), .val (.int p3), .val (.int p4), .val (.int p5), .val (.int r), .val (.int lo), .unset, .unset, .unset, .unset, .unset] [(.int (p5 &&& (1 : Int32)))])) (fun _ kt => XS.iand X0.here hx rfl (hb hby at_23) rfl kt) ?_
  by_cases hc24_1 : (p5 &&& (1 : Int32)) = (0 : Int32)
  · refine own_via (T' := T0) (g' := (mkF m 36 #[.val (.int p1), .val (.int p2), .val (.int p3), .val (.int p4), .val (.int p5), .val (.int r), .val (.int lo), .unset, .unset, .unset, .unset, .unset] [])) (fun _ kt => XS.ifYes X0.here hx rfl (pc0 := 24) (pc' := 36) rfl (hb hby at_24) rfl ((if0 _ _).trans (teq hc24_1).1) (by decide) (by decide) kt) ?_
    refine own_via (T' := T0) (g' := (mkF m 37 #[.val (.int p1), .val (.int p2), .val (.int p3), .val (.int p4), .val (.int p5), .val (.int r), .val (.int lo), .unset, .unset, .unset, .unset, .unset] [(.int (0 : Int32))])) (fun _ kt => XS.iconst X0.here hx rfl (hb hby at_36) kt) ?_
    refine own_via (T' := T0) (g' := (mkF m 39 #[.val (.int p1), .val (.int p2), .val (.int p3), .val (.int p4), .val (.int p5), .val (.int r), .val (.int lo), .unset, .unset, .unset, .unset, .unset] [(.int lo), (.int (0 : Int32))])) (fun _ kt => XS.iload X0.here hx rfl (hb hby at_37) rfl kt) ?_
    refine own_via (T' := T0) (g' := (mkF m 40 #[.val (.int p1), .val (.int p2), .val (.int p3), .val (.int p4), .val (.int p5), .val (.int r), .val (.int lo), .unset, .unset, .unset, .unset, .unset] [(.int (1 : Int32)), (.int lo), (.int (0 : Int32))])) (fun _ kt => XS.iconst X0.here hx rfl (hb hby at_39) kt) ?_
    refine own_via (T' := T0) (g' := (mkF m 41 #[.val (.int p1), .val (.int p2), .val (.int p3), .val (.int p4), .val (.int p5), .val (.int r), .val (.int lo), .unset, .unset, .unset, .unset, .unset] [(.int (lo - (1 : Int32))), (.int (0 : Int32))])) (fun _ kt => XS.isub X0.here hx rfl (hb hby at_40) rfl kt) ?_
    refine own_via (T' := T0) (g' := (mkF m 42 #[.val (.int p1), .val (.int p2), .val (.int p3), .val (.int p4), .val (.int p5), .val (.int r), .val (.int lo), .unset, .unset, .unset, .unset, .unset] [(.int p3), (.int (lo - (1 : Int32))), (.int (0 : Int32))])) (fun _ kt => XS.iloadN X0.here hx rfl (hb hby at_41) rfl kt) ?_
    refine own_via (T' := T0) (g' := (mkF m 44 #[.val (.int p1), .val (.int p2), .val (.int p3), .val (.int p4), .val (.int p5), .val (.int r), .val (.int lo), .unset, .unset, .unset, .unset, .unset] [(.int (2147483647 : Int32)), (.int p3), (.int (lo - (1 : Int32))), (.int (0 : Int32))])) (fun _ kt => X0.ldcInt hx hown (mvT hZ (hw _ (List.mem_of_getElem? (i := 1) rfl))) (g := (mkF m 42 #[.val (.int p1), .val (.int p2), .val (.int p3), .val (.int p4), .val (.int p5), .val (.int r), .val (.int lo), .unset, .unset, .unset, .unset, .unset] [(.int p3), (.int (lo - (1 : Int32))), (.int (0 : Int32))])) rfl (hb hby at_42) _ kt) ?_
    refine own_via (T' := T0) (g' := (mkF m 45 #[.val (.int p1), .val (.int p2), .val (.int p3), .val (.int p4), .val (.int p5), .val (.int r), .val (.int lo), .unset, .unset, .unset, .unset, .unset] [(.int (p3 &&& (2147483647 : Int32))), (.int (lo - (1 : Int32))), (.int (0 : Int32))])) (fun _ kt => XS.iand X0.here hx rfl (hb hby at_44) rfl kt) ?_
    refine own_via (T' := T0) (g' := (mkF m 47 #[.val (.int p1), .val (.int p2), .val (.int p3), .val (.int p4), .val (.int p5), .val (.int r), .val (.int lo), .unset, .unset, .unset, .unset, .unset] [(.int r), (.int (p3 &&& (2147483647 : Int32))), (.int (lo - (1 : Int32))), (.int (0 : Int32))])) (fun _ kt => XS.iload X0.here hx rfl (hb hby at_45) rfl kt) ?_
    refine own_via (T' := T0) (g' := (mkF m 49 #[.val (.int p1), .val (.int p2), .val (.int p3), .val (.int p4), .val (.int p5), .val (.int r), .val (.int lo), .unset, .unset, .unset, .unset, .unset] [(.int lo), (.int r), (.int (p3 &&& (2147483647 : Int32))), (.int (lo - (1 : Int32))), (.int (0 : Int32))])) (fun _ kt => XS.iload X0.here hx rfl (hb hby at_47) rfl kt) ?_
    refine own_via (T' := T0) (g' := (mkF m 50 #[.val (.int p1), .val (.int p2), .val (.int p3), .val (.int p4), .val (.int p5), .val (.int r), .val (.int lo), .unset, .unset, .unset, .unset, .unset] [(.int (r - lo)), (.int (p3 &&& (2147483647 : Int32))), (.int (lo - (1 : Int32))), (.int (0 : Int32))])) (fun _ kt => XS.isub X0.here hx rfl (hb hby at_49) rfl kt) ?_
    refine own_via (T' := T0) (g' := (mkF m 51 #[.val (.int p1), .val (.int p2), .val (.int p3), .val (.int p4), .val (.int p5), .val (.int r), .val (.int lo), .unset, .unset, .unset, .unset, .unset] [(.int (3 : Int32)), (.int (r - lo)), (.int (p3 &&& (2147483647 : Int32))), (.int (lo - (1 : Int32))), (.int (0 : Int32))])) (fun _ kt => XS.iconst X0.here hx rfl (hb hby at_50) kt) ?_
    refine own_via (T' := T0) (g' := (mkF m 52 #[.val (.int p1), .val (.int p2), .val (.int p3), .val (.int p4), .val (.int p5), .val (.int r), .val (.int lo), .unset, .unset, .unset, .unset, .unset] [(.int ((r - lo) + (3 : Int32))), (.int (p3 &&& (2147483647 : Int32))), (.int (lo - (1 : Int32))), (.int (0 : Int32))])) (fun _ kt => XS.iadd X0.here hx rfl (hb hby at_51) rfl kt) ?_
    refine own_via (T' := T0) (g' := (mkF m 53 #[.val (.int p1), .val (.int p2), .val (.int p3), .val (.int p4), .val (.int p5), .val (.int r), .val (.int lo), .unset, .unset, .unset, .unset, .unset] [(.int ((p3 &&& (2147483647 : Int32)) % ((r - lo) + (3 : Int32)))), (.int (lo - (1 : Int32))), (.int (0 : Int32))])) (fun _ kt => Jvm.RoadKit.iremM X0 hx rfl (hb hby at_52) rfl (own_nz lo0 lo1 r1) kt) ?_
    refine own_via (T' := T0) (g' := (mkF m 54 #[.val (.int p1), .val (.int p2), .val (.int p3), .val (.int p4), .val (.int p5), .val (.int r), .val (.int lo), .unset, .unset, .unset, .unset, .unset] [(.int ((lo - (1 : Int32)) + ((p3 &&& (2147483647 : Int32)) % ((r - lo) + (3 : Int32))))), (.int (0 : Int32))])) (fun _ kt => XS.iadd X0.here hx rfl (hb hby at_53) rfl kt) ?_
    obtain ⟨v2, T2, L2, X2, hQ2, st2⟩ := own_callS X0 hx hZ (y := (⟨"java/lang/Math", "max", "(II)I"⟩ : MethodName)) hown (hw _ (List.mem_of_getElem? (i := 2) rfl)) (hw _ (List.mem_of_getElem? (i := 3) rfl)) (hw _ (List.mem_of_getElem? (i := 4) rfl)) (hw _ (List.mem_of_getElem? (i := 5) rfl)) (by decide) (W := 0) (argsL := [(.int (0 : Int32)), (.int ((lo - (1 : Int32)) + ((p3 &&& (2147483647 : Int32)) % ((r - lo) + (3 : Int32)))))]) (rest := []) (rm1 l Z a0 hw [] (0 : Int32) ((lo - (1 : Int32)) + ((p3 &&& (2147483647 : Int32)) % ((r - lo) + (3 : Int32)))) h0) (by decide) (by decide) (by decide) (by decide) e0 (g := (mkF m 54 #[.val (.int p1), .val (.int p2), .val (.int p3), .val (.int p4), .val (.int p5), .val (.int r), .val (.int lo), .unset, .unset, .unset, .unset, .unset] [(.int ((lo - (1 : Int32)) + ((p3 &&& (2147483647 : Int32)) % ((r - lo) + (3 : Int32))))), (.int (0 : Int32))])) rfl (by rw [hml]; rfl) (lenOf pd_0 rfl) rfl (by show 2 * 0 + _ ≤ _; exact Nat.le_of_eq rfl) (hb hby at_54)
    obtain ⟨rfl, hL2, e2⟩ := hQ2
    replace X2 := own_pure (v := none) (r := none) X2 rfl rfl hL2
    refine own_via (T' := T2) (g' := (mkF m 57 #[.val (.int p1), .val (.int p2), .val (.int p3), .val (.int p4), .val (.int p5), .val (.int r), .val (.int lo), .unset, .unset, .unset, .unset, .unset] [(.int (own_max (0 : Int32) ((lo - (1 : Int32)) + ((p3 &&& (2147483647 : Int32)) % ((r - lo) + (3 : Int32))))))])) (fun _ kt => st2 _ kt) ?_
    obtain ⟨o, ho⟩ : ∃ z, z = (own_max (0 : Int32) ((lo - (1 : Int32)) + ((p3 &&& (2147483647 : Int32)) % ((r - lo) + (3 : Int32))))) := ⟨_, rfl⟩
    rw [← ho]
    have o0 : 0 ≤ o.toInt := by rw [ho]; exact own_max0 _
    refine own_via (T' := T2) (g' := (mkF m 59 #[.val (.int p1), .val (.int p2), .val (.int p3), .val (.int p4), .val (.int p5), .val (.int r), .val (.int lo), .val (.int o), .unset, .unset, .unset, .unset] [])) (fun _ kt => XS.istore X2.here hx rfl (hb hby at_57) rfl (l' := #[.val (.int p1), .val (.int p2), .val (.int p3), .val (.int p4), .val (.int p5), .val (.int r), .val (.int lo), .val (.int o), .unset, .unset, .unset, .unset]) rfl kt) ?_
    refine own_via (T' := T2) (g' := (mkF m 61 #[.val (.int p1), .val (.int p2), .val (.int p3), .val (.int p4), .val (.int p5), .val (.int r), .val (.int lo), .val (.int o), .unset, .unset, .unset, .unset] [(.int o)])) (fun _ kt => XS.iload X2.here hx rfl (hb hby at_59) rfl kt) ?_
    refine own_via (T' := T2) (g' := (mkF m 62 #[.val (.int p1), .val (.int p2), .val (.int p3), .val (.int p4), .val (.int p5), .val (.int r), .val (.int lo), .val (.int o), .unset, .unset, .unset, .unset] [(.int p4), (.int o)])) (fun _ kt => XS.iloadN X2.here hx rfl (hb hby at_61) rfl kt) ?_
    refine own_via (T' := T2) (g' := (mkF m 64 #[.val (.int p1), .val (.int p2), .val (.int p3), .val (.int p4), .val (.int p5), .val (.int r), .val (.int lo), .val (.int o), .unset, .unset, .unset, .unset] [(.int (2147483647 : Int32)), (.int p4), (.int o)])) (fun _ kt => X2.ldcInt hx hown (mvT hZ (hw _ (List.mem_of_getElem? (i := 1) rfl))) (g := (mkF m 62 #[.val (.int p1), .val (.int p2), .val (.int p3), .val (.int p4), .val (.int p5), .val (.int r), .val (.int lo), .val (.int o), .unset, .unset, .unset, .unset] [(.int p4), (.int o)])) rfl (hb hby at_62) _ kt) ?_
    refine own_via (T' := T2) (g' := (mkF m 65 #[.val (.int p1), .val (.int p2), .val (.int p3), .val (.int p4), .val (.int p5), .val (.int r), .val (.int lo), .val (.int o), .unset, .unset, .unset, .unset] [(.int (p4 &&& (2147483647 : Int32))), (.int o)])) (fun _ kt => XS.iand X2.here hx rfl (hb hby at_64) rfl kt) ?_
    obtain ⟨v3, T3, L3, X3, hQ3, st3⟩ := own_callS X2 hx hZ (y := (⟨"java/lang/Math", "min", "(II)I"⟩ : MethodName)) hown (hw _ (List.mem_of_getElem? (i := 6) rfl)) (hw _ (List.mem_of_getElem? (i := 7) rfl)) (hw _ (List.mem_of_getElem? (i := 4) rfl)) (hw _ (List.mem_of_getElem? (i := 8) rfl)) (by decide) (W := 0) (argsL := [(.int o), (.int (p4 &&& (2147483647 : Int32)))]) (rest := []) (rm2 l Z a0 hw [] o (p4 &&& (2147483647 : Int32)) h0) (by decide) (by decide) (by decide) (by decide) e2 (g := (mkF m 65 #[.val (.int p1), .val (.int p2), .val (.int p3), .val (.int p4), .val (.int p5), .val (.int r), .val (.int lo), .val (.int o), .unset, .unset, .unset, .unset] [(.int (p4 &&& (2147483647 : Int32))), (.int o)])) rfl (by rw [hml]; rfl) (lenOf pd_0 rfl) rfl (by show 2 * 0 + _ ≤ _; exact Nat.le_of_eq rfl) (hb hby at_65)
    obtain ⟨rfl, hL3, e3⟩ := hQ3
    replace X3 := own_pure (v := none) (r := none) X3 rfl rfl hL3
    refine own_via (T' := T3) (g' := (mkF m 68 #[.val (.int p1), .val (.int p2), .val (.int p3), .val (.int p4), .val (.int p5), .val (.int r), .val (.int lo), .val (.int o), .unset, .unset, .unset, .unset] [(.int (own_min o (p4 &&& (2147483647 : Int32))))])) (fun _ kt => st3 _ kt) ?_
    obtain ⟨ol, hol⟩ : ∃ z, z = (own_min o (p4 &&& (2147483647 : Int32))) := ⟨_, rfl⟩
    rw [← hol]
    refine own_via (T' := T3) (g' := (mkF m 70 #[.val (.int p1), .val (.int p2), .val (.int p3), .val (.int p4), .val (.int p5), .val (.int r), .val (.int lo), .val (.int o), .val (.int ol), .unset, .unset, .unset] [])) (fun _ kt => XS.istore X3.here hx rfl (hb hby at_68) rfl (l' := #[.val (.int p1), .val (.int p2), .val (.int p3), .val (.int p4), .val (.int p5), .val (.int r), .val (.int lo), .val (.int o), .val (.int ol), .unset, .unset, .unset]) rfl kt) ?_
    obtain ⟨T4, h4, X4, e4, E4, A4, D4, -, st4⟩ := newO X3 hx hZ hown (hw _ (List.mem_of_getElem? (i := 9) rfl)) (hw _ (List.mem_of_getElem? (i := 10) rfl)) (hw _ (List.mem_of_getElem? (i := 11) rfl)) e3 (g := (mkF m 70 #[.val (.int p1), .val (.int p2), .val (.int p3), .val (.int p4), .val (.int p5), .val (.int r), .val (.int lo), .val (.int o), .val (.int ol), .unset, .unset, .unset] [])) rfl (hb hby at_70) (by decide) (by decide)
    obtain ⟨b4, gb4⟩ : ∃ z, z = h0.size := ⟨_, rfl⟩
    rw [← gb4] at A4 D4 st4
    have gg4 : n0 ≤ b4 := Nat.le_trans Z0 (Nat.le_of_eq gb4.symm)
    have z4 : n0 ≤ h4.size := Nat.le_trans Z0 E4.1
    have f5 : Fld Z h4 b4 "com/example/stylewright/stylewright/xslt/ImportPrecedence" "rank" "I" (.int (0 : Int32)) := D4 (Or.inr (hw _ (List.mem_of_getElem? (i := 19) rfl))) (ty := .int) (by decide)
    have f6 : Fld Z h4 b4 "com/example/stylewright/stylewright/xslt/ImportPrecedence" "lowestImported" "I" (.int (0 : Int32)) := D4 (Or.inr (hw _ (List.mem_of_getElem? (i := 21) rfl))) (ty := .int) (by decide)
    refine own_via (T' := T4) (g' := (mkF m 73 #[.val (.int p1), .val (.int p2), .val (.int p3), .val (.int p4), .val (.int p5), .val (.int r), .val (.int lo), .val (.int o), .val (.int ol), .unset, .unset, .unset] [(.ref b4)])) (fun _ kt => st4 _ kt) ?_
    refine own_via (T' := T4) (g' := (mkF m 74 #[.val (.int p1), .val (.int p2), .val (.int p3), .val (.int p4), .val (.int p5), .val (.int r), .val (.int lo), .val (.int o), .val (.int ol), .unset, .unset, .unset] [(.ref b4), (.ref b4)])) (fun _ kt => XS.dup X4.here hx rfl (hb hby at_73) rfl rfl kt) ?_
    refine own_via (T' := T4) (g' := (mkF m 76 #[.val (.int p1), .val (.int p2), .val (.int p3), .val (.int p4), .val (.int p5), .val (.int r), .val (.int lo), .val (.int o), .val (.int ol), .unset, .unset, .unset] [(.int r), (.ref b4), (.ref b4)])) (fun _ kt => XS.iload X4.here hx rfl (hb hby at_74) rfl kt) ?_
    refine own_via (T' := T4) (g' := (mkF m 78 #[.val (.int p1), .val (.int p2), .val (.int p3), .val (.int p4), .val (.int p5), .val (.int r), .val (.int lo), .val (.int o), .val (.int ol), .unset, .unset, .unset] [(.int lo), (.int r), (.ref b4), (.ref b4)])) (fun _ kt => XS.iload X4.here hx rfl (hb hby at_76) rfl kt) ?_
    obtain ⟨v7, T7, L7, X7, hQ7, st7⟩ := own_callI X4 hx hZ (y := (⟨"com/example/stylewright/stylewright/xslt/ImportPrecedence", "<init>", "(II)V"⟩ : MethodName)) rfl hown (hw _ (List.mem_of_getElem? (i := 12) rfl)) (hw _ (List.mem_of_getElem? (i := 13) rfl)) (hw _ (List.mem_of_getElem? (i := 11) rfl)) (hw _ (List.mem_of_getElem? (i := 14) rfl)) (by decide) (b := b4) (W := 1) (argsL := [(.int r), (.int lo)]) (rest := [(.ref b4)]) (rm3 l Z a0 hw [] b4 r lo _ _ h4 n0 z4 gg4 A4 f5 f6) (by decide) (by decide) (by decide) (by decide) e4 (g := (mkF m 78 #[.val (.int p1), .val (.int p2), .val (.int p3), .val (.int p4), .val (.int p5), .val (.int r), .val (.int lo), .val (.int o), .val (.int ol), .unset, .unset, .unset] [(.int lo), (.int r), (.ref b4), (.ref b4)])) rfl (by rw [hml]; rfl) (lenOf pd_1 rfl) rfl (by show 2 * 0 + _ ≤ _; exact Nat.le_of_eq rfl) (hb hby at_78)
    obtain ⟨rfl, Nq7, Kq7, Fa7, Fb7⟩ := hQ7
    have f8 := A4.keep Kq7
    have z7 : n0 ≤ T7.heap.size := Nat.le_trans z4 Kq7.1
    have N7 := Fr.app N0 Nq7
    refine own_via (T' := T7) (g' := (mkF m 81 #[.val (.int p1), .val (.int p2), .val (.int p3), .val (.int p4), .val (.int p5), .val (.int r), .val (.int lo), .val (.int o), .val (.int ol), .unset, .unset, .unset] [(.ref b4)])) (fun _ kt => st7 _ kt) ?_
    refine own_via (T' := T7) (g' := (mkF m 83 #[.val (.int p1), .val (.int p2), .val (.int p3), .val (.int p4), .val (.int p5), .val (.int r), .val (.int lo), .val (.int o), .val (.int ol), .val (.ref b4), .unset, .unset] [])) (fun _ kt => XS.astore X7.here hx rfl (hb hby at_81) rfl rfl (l' := #[.val (.int p1), .val (.int p2), .val (.int p3), .val (.int p4), .val (.int p5), .val (.int r), .val (.int lo), .val (.int o), .val (.int ol), .val (.ref b4), .unset, .unset]) rfl kt) ?_
    obtain ⟨T9, h9, X9, e9, E9, A9, D9, -, st9⟩ := newO X7 hx hZ hown (hw _ (List.mem_of_getElem? (i := 9) rfl)) (hw _ (List.mem_of_getElem? (i := 10) rfl)) (hw _ (List.mem_of_getElem? (i := 11) rfl)) rfl (g := (mkF m 83 #[.val (.int p1), .val (.int p2), .val (.int p3), .val (.int p4), .val (.int p5), .val (.int r), .val (.int lo), .val (.int o), .val (.int ol), .val (.ref b4), .unset, .unset] [])) rfl (hb hby at_83) (by decide) (by decide)
    obtain ⟨b9, gb9⟩ : ∃ z, z = T7.heap.size := ⟨_, rfl⟩
    rw [← gb9] at A9 D9 st9
    have ne_b4_b9 : b4 ≠ b9 := Nat.ne_of_lt (Nat.lt_of_lt_of_le f8.lt (Nat.le_of_eq gb9.symm))
    have gg9 : n0 ≤ b9 := Nat.le_trans z7 (Nat.le_of_eq gb9.symm)
    have f10 := f8.ext E9
    have f11 := Fa7.ext E9
    have f12 := Fb7.ext E9
    have z9 : n0 ≤ h9.size := Nat.le_trans z7 E9.1
    have f13 : Fld Z h9 b9 "com/example/stylewright/stylewright/xslt/ImportPrecedence" "rank" "I" (.int (0 : Int32)) := D9 (Or.inr (hw _ (List.mem_of_getElem? (i := 19) rfl))) (ty := .int) (by decide)
    have f14 : Fld Z h9 b9 "com/example/stylewright/stylewright/xslt/ImportPrecedence" "lowestImported" "I" (.int (0 : Int32)) := D9 (Or.inr (hw _ (List.mem_of_getElem? (i := 21) rfl))) (ty := .int) (by decide)
    refine own_via (T' := T9) (g' := (mkF m 86 #[.val (.int p1), .val (.int p2), .val (.int p3), .val (.int p4), .val (.int p5), .val (.int r), .val (.int lo), .val (.int o), .val (.int ol), .val (.ref b4), .unset, .unset] [(.ref b9)])) (fun _ kt => st9 _ kt) ?_
    refine own_via (T' := T9) (g' := (mkF m 87 #[.val (.int p1), .val (.int p2), .val (.int p3), .val (.int p4), .val (.int p5), .val (.int r), .val (.int lo), .val (.int o), .val (.int ol), .val (.ref b4), .unset, .unset] [(.ref b9), (.ref b9)])) (fun _ kt => XS.dup X9.here hx rfl (hb hby at_86) rfl rfl kt) ?_
    refine own_via (T' := T9) (g' := (mkF m 89 #[.val (.int p1), .val (.int p2), .val (.int p3), .val (.int p4), .val (.int p5), .val (.int r), .val (.int lo), .val (.int o), .val (.int ol), .val (.ref b4), .unset, .unset] [(.int o), (.ref b9), (.ref b9)])) (fun _ kt => XS.iload X9.here hx rfl (hb hby at_87) rfl kt) ?_
    refine own_via (T' := T9) (g' := (mkF m 91 #[.val (.int p1), .val (.int p2), .val (.int p3), .val (.int p4), .val (.int p5), .val (.int r), .val (.int lo), .val (.int o), .val (.int ol), .val (.ref b4), .unset, .unset] [(.int ol), (.int o), (.ref b9), (.ref b9)])) (fun _ kt => XS.iload X9.here hx rfl (hb hby at_89) rfl kt) ?_
    obtain ⟨v15, T15, L15, X15, hQ15, st15⟩ := own_callI X9 hx hZ (y := (⟨"com/example/stylewright/stylewright/xslt/ImportPrecedence", "<init>", "(II)V"⟩ : MethodName)) rfl hown (hw _ (List.mem_of_getElem? (i := 12) rfl)) (hw _ (List.mem_of_getElem? (i := 13) rfl)) (hw _ (List.mem_of_getElem? (i := 11) rfl)) (hw _ (List.mem_of_getElem? (i := 14) rfl)) (by decide) (b := b9) (W := 1) (argsL := [(.int o), (.int ol)]) (rest := [(.ref b9)]) (rm3 l Z a0 hw [] b9 o ol _ _ h9 n0 z9 gg9 A9 f13 f14) (by decide) (by decide) (by decide) (by decide) e9 (g := (mkF m 91 #[.val (.int p1), .val (.int p2), .val (.int p3), .val (.int p4), .val (.int p5), .val (.int r), .val (.int lo), .val (.int o), .val (.int ol), .val (.ref b4), .unset, .unset] [(.int ol), (.int o), (.ref b9), (.ref b9)])) rfl (by rw [hml]; rfl) (lenOf pd_1 rfl) rfl (by show 2 * 0 + _ ≤ _; exact Nat.le_of_eq rfl) (hb hby at_91)
    obtain ⟨rfl, Nq15, Kq15, Fa15, Fb15⟩ := hQ15
    have f16 := f10.keep Kq15
    have f17 := f11.keep Kq15 (ninS ne_b4_b9 nin0)
    have f18 := f12.keep Kq15 (ninS ne_b4_b9 nin0)
    have f19 := A9.keep Kq15
    have z15 : n0 ≤ T15.heap.size := Nat.le_trans z9 Kq15.1
    have N15 := Fr.app N7 Nq15
    refine own_via (T' := T15) (g' := (mkF m 94 #[.val (.int p1), .val (.int p2), .val (.int p3), .val (.int p4), .val (.int p5), .val (.int r), .val (.int lo), .val (.int o), .val (.int ol), .val (.ref b4), .unset, .unset] [(.ref b9)])) (fun _ kt => st15 _ kt) ?_
    refine own_via (T' := T15) (g' := (mkF m 96 #[.val (.int p1), .val (.int p2), .val (.int p3), .val (.int p4), .val (.int p5), .val (.int r), .val (.int lo), .val (.int o), .val (.int ol), .val (.ref b4), .val (.ref b9), .unset] [])) (fun _ kt => XS.astore X15.here hx rfl (hb hby at_94) rfl rfl (l' := #[.val (.int p1), .val (.int p2), .val (.int p3), .val (.int p4), .val (.int p5), .val (.int r), .val (.int lo), .val (.int o), .val (.int ol), .val (.ref b4), .val (.ref b9), .unset]) rfl kt) ?_
    refine own_via (T' := T15) (g' := (mkF m 98 #[.val (.int p1), .val (.int p2), .val (.int p3), .val (.int p4), .val (.int p5), .val (.int r), .val (.int lo), .val (.int o), .val (.int ol), .val (.ref b4), .val (.ref b9), .unset] [(.int o)])) (fun _ kt => XS.iload X15.here hx rfl (hb hby at_96) rfl kt) ?_
    refine own_via (T' := T15) (g' := (mkF m 100 #[.val (.int p1), .val (.int p2), .val (.int p3), .val (.int p4), .val (.int p5), .val (.int r), .val (.int lo), .val (.int o), .val (.int ol), .val (.ref b4), .val (.ref b9), .unset] [(.int r), (.int o)])) (fun _ kt => XS.iload X15.here hx rfl (hb hby at_98) rfl kt) ?_
    by_cases hc100_20 : o < r
    · refine own_via (T' := T15) (g' := (mkF m 103 #[.val (.int p1), .val (.int p2), .val (.int p3), .val (.int p4), .val (.int p5), .val (.int r), .val (.int lo), .val (.int o), .val (.int ol), .val (.ref b4), .val (.ref b9), .unset] [])) (fun _ kt => XS.icmpNo X15.here hx rfl (hb hby at_100) rfl (tlt hc100_20).2.1 kt) ?_
      refine own_via (T' := T15) (g' := (mkF m 105 #[.val (.int p1), .val (.int p2), .val (.int p3), .val (.int p4), .val (.int p5), .val (.int r), .val (.int lo), .val (.int o), .val (.int ol), .val (.ref b4), .val (.ref b9), .unset] [(.int r)])) (fun _ kt => XS.iload X15.here hx rfl (hb hby at_103) rfl kt) ?_
      refine own_via (T' := T15) (g' := (mkF m 107 #[.val (.int p1), .val (.int p2), .val (.int p3), .val (.int p4), .val (.int p5), .val (.int r), .val (.int lo), .val (.int o), .val (.int ol), .val (.ref b4), .val (.ref b9), .unset] [(.int o), (.int r)])) (fun _ kt => XS.iload X15.here hx rfl (hb hby at_105) rfl kt) ?_
      refine own_via (T' := T15) (g' := (mkF m 108 #[.val (.int p1), .val (.int p2), .val (.int p3), .val (.int p4), .val (.int p5), .val (.int r), .val (.int lo), .val (.int o), .val (.int ol), .val (.ref b4), .val (.ref b9), .unset] [(.int (r - o))])) (fun _ kt => XS.isub X15.here hx rfl (hb hby at_107) rfl kt) ?_
      refine own_via (T' := T15) (g' := (mkF m 110 #[.val (.int p1), .val (.int p2), .val (.int p3), .val (.int p4), .val (.int p5), .val (.int r), .val (.int lo), .val (.int o), .val (.int ol), .val (.ref b4), .val (.ref b9), .unset] [(.int r), (.int (r - o))])) (fun _ kt => XS.iload X15.here hx rfl (hb hby at_108) rfl kt) ?_
      refine own_via (T' := T15) (g' := (mkF m 112 #[.val (.int p1), .val (.int p2), .val (.int p3), .val (.int p4), .val (.int p5), .val (.int r), .val (.int lo), .val (.int o), .val (.int ol), .val (.ref b4), .val (.ref b9), .unset] [(.int lo), (.int r), (.int (r - o))])) (fun _ kt => XS.iload X15.here hx rfl (hb hby at_110) rfl kt) ?_
      refine own_via (T' := T15) (g' := (mkF m 113 #[.val (.int p1), .val (.int p2), .val (.int p3), .val (.int p4), .val (.int p5), .val (.int r), .val (.int lo), .val (.int o), .val (.int ol), .val (.ref b4), .val (.ref b9), .unset] [(.int (r - lo)), (.int (r - o))])) (fun _ kt => XS.isub X15.here hx rfl (hb hby at_112) rfl kt) ?_
      by_cases hc113_21 : (r - lo) < (r - o)
      · refine own_via (T' := T15) (g' := (mkF m 120 #[.val (.int p1), .val (.int p2), .val (.int p3), .val (.int p4), .val (.int p5), .val (.int r), .val (.int lo), .val (.int o), .val (.int ol), .val (.ref b4), .val (.ref b9), .unset] [])) (fun _ kt => XS.icmpYes X15.here hx rfl (pc0 := 113) (pc' := 120) rfl (hb hby at_113) rfl (tlt hc113_21).2.2.1 (by decide) (by decide) kt) ?_
        refine own_via (T' := T15) (g' := (mkF m 121 #[.val (.int p1), .val (.int p2), .val (.int p3), .val (.int p4), .val (.int p5), .val (.int r), .val (.int lo), .val (.int o), .val (.int ol), .val (.ref b4), .val (.ref b9), .unset] [(.int (0 : Int32))])) (fun _ kt => XS.iconst X15.here hx rfl (hb hby at_120) kt) ?_
        refine own_via (T' := T15) (g' := (mkF m 123 #[.val (.int p1), .val (.int p2), .val (.int p3), .val (.int p4), .val (.int p5), .val (.int r), .val (.int lo), .val (.int o), .val (.int ol), .val (.ref b4), .val (.ref b9), .val (.int (0 : Int32))] [])) (fun _ kt => XS.istore X15.here hx rfl (hb hby at_121) rfl (l' := #[.val (.int p1), .val (.int p2), .val (.int p3), .val (.int p4), .val (.int p5), .val (.int r), .val (.int lo), .val (.int o), .val (.int ol), .val (.ref b4), .val (.ref b9), .val (.int (0 : Int32))]) rfl kt) ?_
        refine own_via (T' := T15) (g' := (mkF m 125 #[.val (.int p1), .val (.int p2), .val (.int p3), .val (.int p4), .val (.int p5), .val (.int r), .val (.int lo), .val (.int o), .val (.int ol), .val (.ref b4), .val (.ref b9), .val (.int (0 : Int32))] [(.ref b4)])) (fun _ kt => XS.aload X15.here hx rfl (hb hby at_123) rfl rfl kt) ?_
        refine own_via (T' := T15) (g' := (mkF m 127 #[.val (.int p1), .val (.int p2), .val (.int p3), .val (.int p4), .val (.int p5), .val (.int r), .val (.int lo), .val (.int o), .val (.int ol), .val (.ref b4), .val (.ref b9), .val (.int (0 : Int32))] [(.ref b9), (.ref b4)])) (fun _ kt => XS.aload X15.here hx rfl (hb hby at_125) rfl rfl kt) ?_
        obtain ⟨v22, T22, L22, X22, hQ22, st22⟩ := own_callV X15 hx hZ (y := (⟨"com/example/stylewright/stylewright/xslt/ImportPrecedence", "imports", "(Lcom/example/stylewright/stylewright/xslt/ImportPrecedence;)Z"⟩ : MethodName)) (z := (⟨"com/example/stylewright/stylewright/xslt/ImportPrecedence", "imports", "(Lcom/example/stylewright/stylewright/xslt/ImportPrecedence;)Z"⟩ : MethodName)) hown (hw _ (List.mem_of_getElem? (i := 22) rfl)) (hw _ (List.mem_of_getElem? (i := 23) rfl)) (notFace_of_selects (args := #[]) (mvT hZ (hw _ (List.mem_of_getElem? (i := 25) rfl)))) (hw _ (List.mem_of_getElem? (i := 25) rfl)) (hw _ (List.mem_of_getElem? (i := 24) rfl)) (hw _ (List.mem_of_getElem? (i := 11) rfl)) (hw _ (List.mem_of_getElem? (i := 26) rfl)) (by decide) (b := b4) (W := 0) (argsL := [(.ref b9)]) (rest := []) (rm5 l Z a0 hw [] b4 b9 o lo r T15.heap Fa15 f18 f17) (by decide) (by decide) (by decide) (by decide) rfl f16 (g := (mkF m 127 #[.val (.int p1), .val (.int p2), .val (.int p3), .val (.int p4), .val (.int p5), .val (.int r), .val (.int lo), .val (.int o), .val (.int ol), .val (.ref b4), .val (.ref b9), .val (.int (0 : Int32))] [(.ref b9), (.ref b4)])) rfl (by rw [hml]; rfl) (lenOf pd_2 rfl) rfl (by show 2 * 0 + _ ≤ _; exact Nat.le_of_eq rfl) (hb hby at_127)
        obtain ⟨rfl, hL22, e22⟩ := hQ22
        replace X22 := own_pure (v := none) (r := none) X22 rfl rfl hL22
        refine own_via (T' := T22) (g' := (mkF m 130 #[.val (.int p1), .val (.int p2), .val (.int p3), .val (.int p4), .val (.int p5), .val (.int r), .val (.int lo), .val (.int o), .val (.int ol), .val (.ref b4), .val (.ref b9), .val (.int (0 : Int32))] [(.int (own_imp o lo r))])) (fun _ kt => st22 _ kt) ?_
        refine own_via (T' := T22) (g' := (mkF m 132 #[.val (.int p1), .val (.int p2), .val (.int p3), .val (.int p4), .val (.int p5), .val (.int r), .val (.int lo), .val (.int o), .val (.int ol), .val (.ref b4), .val (.ref b9), .val (.int (0 : Int32))] [(.int (0 : Int32)), (.int (own_imp o lo r))])) (fun _ kt => XS.iload X22.here hx rfl (hb hby at_130) rfl kt) ?_
        refine own_via (T' := T22) (g' := (mkF m 135 #[.val (.int p1), .val (.int p2), .val (.int p3), .val (.int p4), .val (.int p5), .val (.int r), .val (.int lo), .val (.int o), .val (.int ol), .val (.ref b4), .val (.ref b9), .val (.int (0 : Int32))] [])) (fun _ kt => XS.icmpNo X22.here hx rfl (hb hby at_132) rfl (teq (own_i2 lo0 lo1 r1 o0 hc100_20 hc113_21)).2 kt) ?_
        refine own_via (T' := T22) (g' := (mkF m 137 #[.val (.int p1), .val (.int p2), .val (.int p3), .val (.int p4), .val (.int p5), .val (.int r), .val (.int lo), .val (.int o), .val (.int ol), .val (.ref b4), .val (.ref b9), .val (.int (0 : Int32))] [(.ref b4)])) (fun _ kt => XS.aload X22.here hx rfl (hb hby at_135) rfl rfl kt) ?_
        refine own_via (T' := T22) (g' := (mkF m 139 #[.val (.int p1), .val (.int p2), .val (.int p3), .val (.int p4), .val (.int p5), .val (.int r), .val (.int lo), .val (.int o), .val (.int ol), .val (.ref b4), .val (.ref b9), .val (.int (0 : Int32))] [(.ref b4), (.ref b4)])) (fun _ kt => XS.aload X22.here hx rfl (hb hby at_137) rfl rfl kt) ?_
        obtain ⟨v23, T23, L23, X23, hQ23, st23⟩ := own_callV X22 hx hZ (y := (⟨"com/example/stylewright/stylewright/xslt/ImportPrecedence", "imports", "(Lcom/example/stylewright/stylewright/xslt/ImportPrecedence;)Z"⟩ : MethodName)) (z := (⟨"com/example/stylewright/stylewright/xslt/ImportPrecedence", "imports", "(Lcom/example/stylewright/stylewright/xslt/ImportPrecedence;)Z"⟩ : MethodName)) hown (hw _ (List.mem_of_getElem? (i := 22) rfl)) (hw _ (List.mem_of_getElem? (i := 23) rfl)) (notFace_of_selects (args := #[]) (mvT hZ (hw _ (List.mem_of_getElem? (i := 25) rfl)))) (hw _ (List.mem_of_getElem? (i := 25) rfl)) (hw _ (List.mem_of_getElem? (i := 24) rfl)) (hw _ (List.mem_of_getElem? (i := 11) rfl)) (hw _ (List.mem_of_getElem? (i := 26) rfl)) (by decide) (b := b4) (W := 0) (argsL := [(.ref b4)]) (rest := []) (rm5 l Z a0 hw [] b4 b4 r lo r T15.heap f17 f18 f17) (by decide) (by decide) (by decide) (by decide) e22 f16 (g := (mkF m 139 #[.val (.int p1), .val (.int p2), .val (.int p3), .val (.int p4), .val (.int p5), .val (.int r), .val (.int lo), .val (.int o), .val (.int ol), .val (.ref b4), .val (.ref b9), .val (.int (0 : Int32))] [(.ref b4), (.ref b4)])) rfl (by rw [hml]; rfl) (lenOf pd_2 rfl) rfl (by show 2 * 0 + _ ≤ _; exact Nat.le_of_eq rfl) (hb hby at_139)
        obtain ⟨rfl, hL23, e23⟩ := hQ23
        replace X23 := own_pure (v := none) (r := none) X23 rfl rfl hL23
        refine own_via (T' := T23) (g' := (mkF m 142 #[.val (.int p1), .val (.int p2), .val (.int p3), .val (.int p4), .val (.int p5), .val (.int r), .val (.int lo), .val (.int o), .val (.int ol), .val (.ref b4), .val (.ref b9), .val (.int (0 : Int32))] [(.int (own_imp r lo r))])) (fun _ kt => st23 _ kt) ?_
        refine own_via (T' := T23) (g' := (mkF m 145 #[.val (.int p1), .val (.int p2), .val (.int p3), .val (.int p4), .val (.int p5), .val (.int r), .val (.int lo), .val (.int o), .val (.int ol), .val (.ref b4), .val (.ref b9), .val (.int (0 : Int32))] [])) (fun _ kt => XS.ifNo X23.here hx rfl (hb hby at_142) rfl ((if0 _ _).trans (teq (own_i3 (o := r) (by rw [Int32.lt_iff_toInt_lt]; exact Int.lt_irrefl _))).2) kt) ?_
        refine own_via (T' := T23) (g' := (mkF m 146 #[.val (.int p1), .val (.int p2), .val (.int p3), .val (.int p4), .val (.int p5), .val (.int r), .val (.int lo), .val (.int o), .val (.int ol), .val (.ref b4), .val (.ref b9), .val (.int (0 : Int32))] [(.int (1 : Int32))])) (fun _ kt => XS.iconst X23.here hx rfl (hb hby at_145) kt) ?_
        refine own_via (T' := T23) (g' := (mkF m 150 #[.val (.int p1), .val (.int p2), .val (.int p3), .val (.int p4), .val (.int p5), .val (.int r), .val (.int lo), .val (.int o), .val (.int ol), .val (.ref b4), .val (.ref b9), .val (.int (0 : Int32))] [(.int (1 : Int32))])) (fun _ kt => XS.goto X23.here hx rfl (pc0 := 146) (pc' := 150) rfl (hb hby at_146) (by decide) (by decide) kt) ?_
        exact own_retZ X23 hx hret hlk (hb hby at_150) (by decide) ⟨rfl, N15⟩ (by decide) (by decide)
      · refine own_via (T' := T15) (g' := (mkF m 116 #[.val (.int p1), .val (.int p2), .val (.int p3), .val (.int p4), .val (.int p5), .val (.int r), .val (.int lo), .val (.int o), .val (.int ol), .val (.ref b4), .val (.ref b9), .unset] [])) (fun _ kt => XS.icmpNo X15.here hx rfl (hb hby at_113) rfl (flt hc113_21).2.2.1 kt) ?_
        refine own_via (T' := T15) (g' := (mkF m 117 #[.val (.int p1), .val (.int p2), .val (.int p3), .val (.int p4), .val (.int p5), .val (.int r), .val (.int lo), .val (.int o), .val (.int ol), .val (.ref b4), .val (.ref b9), .unset] [(.int (1 : Int32))])) (fun _ kt => XS.iconst X15.here hx rfl (hb hby at_116) kt) ?_
        refine own_via (T' := T15) (g' := (mkF m 121 #[.val (.int p1), .val (.int p2), .val (.int p3), .val (.int p4), .val (.int p5), .val (.int r), .val (.int lo), .val (.int o), .val (.int ol), .val (.ref b4), .val (.ref b9), .unset] [(.int (1 : Int32))])) (fun _ kt => XS.goto X15.here hx rfl (pc0 := 117) (pc' := 121) rfl (hb hby at_117) (by decide) (by decide) kt) ?_
        refine own_via (T' := T15) (g' := (mkF m 123 #[.val (.int p1), .val (.int p2), .val (.int p3), .val (.int p4), .val (.int p5), .val (.int r), .val (.int lo), .val (.int o), .val (.int ol), .val (.ref b4), .val (.ref b9), .val (.int (1 : Int32))] [])) (fun _ kt => XS.istore X15.here hx rfl (hb hby at_121) rfl (l' := #[.val (.int p1), .val (.int p2), .val (.int p3), .val (.int p4), .val (.int p5), .val (.int r), .val (.int lo), .val (.int o), .val (.int ol), .val (.ref b4), .val (.ref b9), .val (.int (1 : Int32))]) rfl kt) ?_
        refine own_via (T' := T15) (g' := (mkF m 125 #[.val (.int p1), .val (.int p2), .val (.int p3), .val (.int p4), .val (.int p5), .val (.int r), .val (.int lo), .val (.int o), .val (.int ol), .val (.ref b4), .val (.ref b9), .val (.int (1 : Int32))] [(.ref b4)])) (fun _ kt => XS.aload X15.here hx rfl (hb hby at_123) rfl rfl kt) ?_
        refine own_via (T' := T15) (g' := (mkF m 127 #[.val (.int p1), .val (.int p2), .val (.int p3), .val (.int p4), .val (.int p5), .val (.int r), .val (.int lo), .val (.int o), .val (.int ol), .val (.ref b4), .val (.ref b9), .val (.int (1 : Int32))] [(.ref b9), (.ref b4)])) (fun _ kt => XS.aload X15.here hx rfl (hb hby at_125) rfl rfl kt) ?_
        obtain ⟨v24, T24, L24, X24, hQ24, st24⟩ := own_callV X15 hx hZ (y := (⟨"com/example/stylewright/stylewright/xslt/ImportPrecedence", "imports", "(Lcom/example/stylewright/stylewright/xslt/ImportPrecedence;)Z"⟩ : MethodName)) (z := (⟨"com/example/stylewright/stylewright/xslt/ImportPrecedence", "imports", "(Lcom/example/stylewright/stylewright/xslt/ImportPrecedence;)Z"⟩ : MethodName)) hown (hw _ (List.mem_of_getElem? (i := 22) rfl)) (hw _ (List.mem_of_getElem? (i := 23) rfl)) (notFace_of_selects (args := #[]) (mvT hZ (hw _ (List.mem_of_getElem? (i := 25) rfl)))) (hw _ (List.mem_of_getElem? (i := 25) rfl)) (hw _ (List.mem_of_getElem? (i := 24) rfl)) (hw _ (List.mem_of_getElem? (i := 11) rfl)) (hw _ (List.mem_of_getElem? (i := 26) rfl)) (by decide) (b := b4) (W := 0) (argsL := [(.ref b9)]) (rest := []) (rm5 l Z a0 hw [] b4 b9 o lo r T15.heap Fa15 f18 f17) (by decide) (by decide) (by decide) (by decide) rfl f16 (g := (mkF m 127 #[.val (.int p1), .val (.int p2), .val (.int p3), .val (.int p4), .val (.int p5), .val (.int r), .val (.int lo), .val (.int o), .val (.int ol), .val (.ref b4), .val (.ref b9), .val (.int (1 : Int32))] [(.ref b9), (.ref b4)])) rfl (by rw [hml]; rfl) (lenOf pd_2 rfl) rfl (by show 2 * 0 + _ ≤ _; exact Nat.le_of_eq rfl) (hb hby at_127)
        obtain ⟨rfl, hL24, e24⟩ := hQ24
        replace X24 := own_pure (v := none) (r := none) X24 rfl rfl hL24
        refine own_via (T' := T24) (g' := (mkF m 130 #[.val (.int p1), .val (.int p2), .val (.int p3), .val (.int p4), .val (.int p5), .val (.int r), .val (.int lo), .val (.int o), .val (.int ol), .val (.ref b4), .val (.ref b9), .val (.int (1 : Int32))] [(.int (own_imp o lo r))])) (fun _ kt => st24 _ kt) ?_
        refine own_via (T' := T24) (g' := (mkF m 132 #[.val (.int p1), .val (.int p2), .val (.int p3), .val (.int p4), .val (.int p5), .val (.int r), .val (.int lo), .val (.int o), .val (.int ol), .val (.ref b4), .val (.ref b9), .val (.int (1 : Int32))] [(.int (1 : Int32)), (.int (own_imp o lo r))])) (fun _ kt => XS.iload X24.here hx rfl (hb hby at_130) rfl kt) ?_
        refine own_via (T' := T24) (g' := (mkF m 135 #[.val (.int p1), .val (.int p2), .val (.int p3), .val (.int p4), .val (.int p5), .val (.int r), .val (.int lo), .val (.int o), .val (.int ol), .val (.ref b4), .val (.ref b9), .val (.int (1 : Int32))] [])) (fun _ kt => XS.icmpNo X24.here hx rfl (hb hby at_132) rfl (teq (own_i1 lo0 lo1 r1 o0 hc100_20 hc113_21)).2 kt) ?_
        refine own_via (T' := T24) (g' := (mkF m 137 #[.val (.int p1), .val (.int p2), .val (.int p3), .val (.int p4), .val (.int p5), .val (.int r), .val (.int lo), .val (.int o), .val (.int ol), .val (.ref b4), .val (.ref b9), .val (.int (1 : Int32))] [(.ref b4)])) (fun _ kt => XS.aload X24.here hx rfl (hb hby at_135) rfl rfl kt) ?_
        refine own_via (T' := T24) (g' := (mkF m 139 #[.val (.int p1), .val (.int p2), .val (.int p3), .val (.int p4), .val (.int p5), .val (.int r), .val (.int lo), .val (.int o), .val (.int ol), .val (.ref b4), .val (.ref b9), .val (.int (1 : Int32))] [(.ref b4), (.ref b4)])) (fun _ kt => XS.aload X24.here hx rfl (hb hby at_137) rfl rfl kt) ?_
        obtain ⟨v25, T25, L25, X25, hQ25, st25⟩ := own_callV X24 hx hZ (y := (⟨"com/example/stylewright/stylewright/xslt/ImportPrecedence", "imports", "(Lcom/example/stylewright/stylewright/xslt/ImportPrecedence;)Z"⟩ : MethodName)) (z := (⟨"com/example/stylewright/stylewright/xslt/ImportPrecedence", "imports", "(Lcom/example/stylewright/stylewright/xslt/ImportPrecedence;)Z"⟩ : MethodName)) hown (hw _ (List.mem_of_getElem? (i := 22) rfl)) (hw _ (List.mem_of_getElem? (i := 23) rfl)) (notFace_of_selects (args := #[]) (mvT hZ (hw _ (List.mem_of_getElem? (i := 25) rfl)))) (hw _ (List.mem_of_getElem? (i := 25) rfl)) (hw _ (List.mem_of_getElem? (i := 24) rfl)) (hw _ (List.mem_of_getElem? (i := 11) rfl)) (hw _ (List.mem_of_getElem? (i := 26) rfl)) (by decide) (b := b4) (W := 0) (argsL := [(.ref b4)]) (rest := []) (rm5 l Z a0 hw [] b4 b4 r lo r T15.heap f17 f18 f17) (by decide) (by decide) (by decide) (by decide) e24 f16 (g := (mkF m 139 #[.val (.int p1), .val (.int p2), .val (.int p3), .val (.int p4), .val (.int p5), .val (.int r), .val (.int lo), .val (.int o), .val (.int ol), .val (.ref b4), .val (.ref b9), .val (.int (1 : Int32))] [(.ref b4), (.ref b4)])) rfl (by rw [hml]; rfl) (lenOf pd_2 rfl) rfl (by show 2 * 0 + _ ≤ _; exact Nat.le_of_eq rfl) (hb hby at_139)
        obtain ⟨rfl, hL25, e25⟩ := hQ25
        replace X25 := own_pure (v := none) (r := none) X25 rfl rfl hL25
        refine own_via (T' := T25) (g' := (mkF m 142 #[.val (.int p1), .val (.int p2), .val (.int p3), .val (.int p4), .val (.int p5), .val (.int r), .val (.int lo), .val (.int o), .val (.int ol), .val (.ref b4), .val (.ref b9), .val (.int (1 : Int32))] [(.int (own_imp r lo r))])) (fun _ kt => st25 _ kt) ?_
        refine own_via (T' := T25) (g' := (mkF m 145 #[.val (.int p1), .val (.int p2), .val (.int p3), .val (.int p4), .val (.int p5), .val (.int r), .val (.int lo), .val (.int o), .val (.int ol), .val (.ref b4), .val (.ref b9), .val (.int (1 : Int32))] [])) (fun _ kt => XS.ifNo X25.here hx rfl (hb hby at_142) rfl ((if0 _ _).trans (teq (own_i3 (o := r) (by rw [Int32.lt_iff_toInt_lt]; exact Int.lt_irrefl _))).2) kt) ?_
        refine own_via (T' := T25) (g' := (mkF m 146 #[.val (.int p1), .val (.int p2), .val (.int p3), .val (.int p4), .val (.int p5), .val (.int r), .val (.int lo), .val (.int o), .val (.int ol), .val (.ref b4), .val (.ref b9), .val (.int (1 : Int32))] [(.int (1 : Int32))])) (fun _ kt => XS.iconst X25.here hx rfl (hb hby at_145) kt) ?_
        refine own_via (T' := T25) (g' := (mkF m 150 #[.val (.int p1), .val (.int p2), .val (.int p3), .val (.int p4), .val (.int p5), .val (.int r), .val (.int lo), .val (.int o), .val (.int ol), .val (.ref b4), .val (.ref b9), .val (.int (1 : Int32))] [(.int (1 : Int32))])) (fun _ kt => XS.goto X25.here hx rfl (pc0 := 146) (pc' := 150) rfl (hb hby at_146) (by decide) (by decide) kt) ?_
        exact own_retZ X25 hx hret hlk (hb hby at_150) (by decide) ⟨rfl, N15⟩ (by decide) (by decide)
    · refine own_via (T' := T15) (g' := (mkF m 120 #[.val (.int p1), .val (.int p2), .val (.int p3), .val (.int p4), .val (.int p5), .val (.int r), .val (.int lo), .val (.int o), .val (.int ol), .val (.ref b4), .val (.ref b9), .unset] [])) (fun _ kt => XS.icmpYes X15.here hx rfl (pc0 := 100) (pc' := 120) rfl (hb hby at_100) rfl (flt hc100_20).2.1 (by decide) (by decide) kt) ?_
      refine own_via (T' := T15) (g' := (mkF m 121 #[.val (.int p1), .val (.int p2), .val (.int p3), .val (.int p4), .val (.int p5), .val (.int r), .val (.int lo), .val (.int o), .val (.int ol), .val (.ref b4), .val (.ref b9), .unset] [(.int (0 : Int32))])) (fun _ kt => XS.iconst X15.here hx rfl (hb hby at_120) kt) ?_
      refine own_via (T' := T15) (g' := (mkF m 123 #[.val (.int p1), .val (.int p2), .val (.int p3), .val (.int p4), .val (.int p5), .val (.int r), .val (.int lo), .val (.int o), .val (.int ol), .val (.ref b4), .val (.ref b9), .val (.int (0 : Int32))] [])) (fun _ kt => XS.istore X15.here hx rfl (hb hby at_121) rfl (l' := #[.val (.int p1), .val (.int p2), .val (.int p3), .val (.int p4), .val (.int p5), .val (.int r), .val (.int lo), .val (.int o), .val (.int ol), .val (.ref b4), .val (.ref b9), .val (.int (0 : Int32))]) rfl kt) ?_
      refine own_via (T' := T15) (g' := (mkF m 125 #[.val (.int p1), .val (.int p2), .val (.int p3), .val (.int p4), .val (.int p5), .val (.int r), .val (.int lo), .val (.int o), .val (.int ol), .val (.ref b4), .val (.ref b9), .val (.int (0 : Int32))] [(.ref b4)])) (fun _ kt => XS.aload X15.here hx rfl (hb hby at_123) rfl rfl kt) ?_
      refine own_via (T' := T15) (g' := (mkF m 127 #[.val (.int p1), .val (.int p2), .val (.int p3), .val (.int p4), .val (.int p5), .val (.int r), .val (.int lo), .val (.int o), .val (.int ol), .val (.ref b4), .val (.ref b9), .val (.int (0 : Int32))] [(.ref b9), (.ref b4)])) (fun _ kt => XS.aload X15.here hx rfl (hb hby at_125) rfl rfl kt) ?_
      obtain ⟨v26, T26, L26, X26, hQ26, st26⟩ := own_callV X15 hx hZ (y := (⟨"com/example/stylewright/stylewright/xslt/ImportPrecedence", "imports", "(Lcom/example/stylewright/stylewright/xslt/ImportPrecedence;)Z"⟩ : MethodName)) (z := (⟨"com/example/stylewright/stylewright/xslt/ImportPrecedence", "imports", "(Lcom/example/stylewright/stylewright/xslt/ImportPrecedence;)Z"⟩ : MethodName)) hown (hw _ (List.mem_of_getElem? (i := 22) rfl)) (hw _ (List.mem_of_getElem? (i := 23) rfl)) (notFace_of_selects (args := #[]) (mvT hZ (hw _ (List.mem_of_getElem? (i := 25) rfl)))) (hw _ (List.mem_of_getElem? (i := 25) rfl)) (hw _ (List.mem_of_getElem? (i := 24) rfl)) (hw _ (List.mem_of_getElem? (i := 11) rfl)) (hw _ (List.mem_of_getElem? (i := 26) rfl)) (by decide) (b := b4) (W := 0) (argsL := [(.ref b9)]) (rest := []) (rm5 l Z a0 hw [] b4 b9 o lo r T15.heap Fa15 f18 f17) (by decide) (by decide) (by decide) (by decide) rfl f16 (g := (mkF m 127 #[.val (.int p1), .val (.int p2), .val (.int p3), .val (.int p4), .val (.int p5), .val (.int r), .val (.int lo), .val (.int o), .val (.int ol), .val (.ref b4), .val (.ref b9), .val (.int (0 : Int32))] [(.ref b9), (.ref b4)])) rfl (by rw [hml]; rfl) (lenOf pd_2 rfl) rfl (by show 2 * 0 + _ ≤ _; exact Nat.le_of_eq rfl) (hb hby at_127)
      obtain ⟨rfl, hL26, e26⟩ := hQ26
      replace X26 := own_pure (v := none) (r := none) X26 rfl rfl hL26
      refine own_via (T' := T26) (g' := (mkF m 130 #[.val (.int p1), .val (.int p2), .val (.int p3), .val (.int p4), .val (.int p5), .val (.int r), .val (.int lo), .val (.int o), .val (.int ol), .val (.ref b4), .val (.ref b9), .val (.int (0 : Int32))] [(.int (own_imp o lo r))])) (fun _ kt => st26 _ kt) ?_
      refine own_via (T' := T26) (g' := (mkF m 132 #[.val (.int p1), .val (.int p2), .val (.int p3), .val (.int p4), .val (.int p5), .val (.int r), .val (.int lo), .val (.int o), .val (.int ol), .val (.ref b4), .val (.ref b9), .val (.int (0 : Int32))] [(.int (0 : Int32)), (.int (own_imp o lo r))])) (fun _ kt => XS.iload X26.here hx rfl (hb hby at_130) rfl kt) ?_
      refine own_via (T' := T26) (g' := (mkF m 135 #[.val (.int p1), .val (.int p2), .val (.int p3), .val (.int p4), .val (.int p5), .val (.int r), .val (.int lo), .val (.int o), .val (.int ol), .val (.ref b4), .val (.ref b9), .val (.int (0 : Int32))] [])) (fun _ kt => XS.icmpNo X26.here hx rfl (hb hby at_132) rfl (teq (own_i3 hc100_20)).2 kt) ?_
      refine own_via (T' := T26) (g' := (mkF m 137 #[.val (.int p1), .val (.int p2), .val (.int p3), .val (.int p4), .val (.int p5), .val (.int r), .val (.int lo), .val (.int o), .val (.int ol), .val (.ref b4), .val (.ref b9), .val (.int (0 : Int32))] [(.ref b4)])) (fun _ kt => XS.aload X26.here hx rfl (hb hby at_135) rfl rfl kt) ?_
      refine own_via (T' := T26) (g' := (mkF m 139 #[.val (.int p1), .val (.int p2), .val (.int p3), .val (.int p4), .val (.int p5), .val (.int r), .val (.int lo), .val (.int o), .val (.int ol), .val (.ref b4), .val (.ref b9), .val (.int (0 : Int32))] [(.ref b4), (.ref b4)])) (fun _ kt => XS.aload X26.here hx rfl (hb hby at_137) rfl rfl kt) ?_
      obtain ⟨v27, T27, L27, X27, hQ27, st27⟩ := own_callV X26 hx hZ (y := (⟨"com/example/stylewright/stylewright/xslt/ImportPrecedence", "imports", "(Lcom/example/stylewright/stylewright/xslt/ImportPrecedence;)Z"⟩ : MethodName)) (z := (⟨"com/example/stylewright/stylewright/xslt/ImportPrecedence", "imports", "(Lcom/example/stylewright/stylewright/xslt/ImportPrecedence;)Z"⟩ : MethodName)) hown (hw _ (List.mem_of_getElem? (i := 22) rfl)) (hw _ (List.mem_of_getElem? (i := 23) rfl)) (notFace_of_selects (args := #[]) (mvT hZ (hw _ (List.mem_of_getElem? (i := 25) rfl)))) (hw _ (List.mem_of_getElem? (i := 25) rfl)) (hw _ (List.mem_of_getElem? (i := 24) rfl)) (hw _ (List.mem_of_getElem? (i := 11) rfl)) (hw _ (List.mem_of_getElem? (i := 26) rfl)) (by decide) (b := b4) (W := 0) (argsL := [(.ref b4)]) (rest := []) (rm5 l Z a0 hw [] b4 b4 r lo r T15.heap f17 f18 f17) (by decide) (by decide) (by decide) (by decide) e26 f16 (g := (mkF m 139 #[.val (.int p1), .val (.int p2), .val (.int p3), .val (.int p4), .val (.int p5), .val (.int r), .val (.int lo), .val (.int o), .val (.int ol), .val (.ref b4), .val (.ref b9), .val (.int (0 : Int32))] [(.ref b4), (.ref b4)])) rfl (by rw [hml]; rfl) (lenOf pd_2 rfl) rfl (by show 2 * 0 + _ ≤ _; exact Nat.le_of_eq rfl) (hb hby at_139)
      obtain ⟨rfl, hL27, e27⟩ := hQ27
      replace X27 := own_pure (v := none) (r := none) X27 rfl rfl hL27
      refine own_via (T' := T27) (g' := (mkF m 142 #[.val (.int p1), .val (.int p2), .val (.int p3), .val (.int p4), .val (.int p5), .val (.int r), .val (.int lo), .val (.int o), .val (.int ol), .val (.ref b4), .val (.ref b9), .val (.int (0 : Int32))] [(.int (own_imp r lo r))])) (fun _ kt => st27 _ kt) ?_
      refine own_via (T' := T27) (g' := (mkF m 145 #[.val (.int p1), .val (.int p2), .val (.int p3), .val (.int p4), .val (.int p5), .val (.int r), .val (.int lo), .val (.int o), .val (.int ol), .val (.ref b4), .val (.ref b9), .val (.int (0 : Int32))] [])) (fun _ kt => XS.ifNo X27.here hx rfl (hb hby at_142) rfl ((if0 _ _).trans (teq (own_i3 (o := r) (by rw [Int32.lt_iff_toInt_lt]; exact Int.lt_irrefl _))).2) kt) ?_
      refine own_via (T' := T27) (g' := (mkF m 146 #[.val (.int p1), .val (.int p2), .val (.int p3), .val (.int p4), .val (.int p5), .val (.int r), .val (.int lo), .val (.int o), .val (.int ol), .val (.ref b4), .val (.ref b9), .val (.int (0 : Int32))] [(.int (1 : Int32))])) (fun _ kt => XS.iconst X27.here hx rfl (hb hby at_145) kt) ?_
      refine own_via (T' := T27) (g' := (mkF m 150 #[.val (.int p1), .val (.int p2), .val (.int p3), .val (.int p4), .val (.int p5), .val (.int r), .val (.int lo), .val (.int o), .val (.int ol), .val (.ref b4), .val (.ref b9), .val (.int (0 : Int32))] [(.int (1 : Int32))])) (fun _ kt => XS.goto X27.here hx rfl (pc0 := 146) (pc' := 150) rfl (hb hby at_146) (by decide) (by decide) kt) ?_
      exact own_retZ X27 hx hret hlk (hb hby at_150) (by decide) ⟨rfl, N15⟩ (by decide) (by decide)
  · refine own_via (T' := T0) (g' := (mkF m 27 #[.val (.int p1), .val (.int p2), .val (.int p3), .val (.int p4), .val (.int p5), .val (.int r), .val (.int lo), .unset, .unset, .unset, .unset, .unset] [])) (fun _ kt => XS.ifNo X0.here hx rfl (hb hby at_24) rfl ((if0 _ _).trans (feq hc24_1).1) kt) ?_
    refine own_via (T' := T0) (g' := (mkF m 28 #[.val (.int p1), .val (.int p2), .val (.int p3), .val (.int p4), .val (.int p5), .val (.int r), .val (.int lo), .unset, .unset, .unset, .unset, .unset] [(.int p3)])) (fun _ kt => XS.iloadN X0.here hx rfl (hb hby at_27) rfl kt) ?_
    refine own_via (T' := T0) (g' := (mkF m 30 #[.val (.int p1), .val (.int p2), .val (.int p3), .val (.int p4), .val (.int p5), .val (.int r), .val (.int lo), .unset, .unset, .unset, .unset, .unset] [(.int (2147483647 : Int32)), (.int p3)])) (fun _ kt => X0.ldcInt hx hown (mvT hZ (hw _ (List.mem_of_getElem? (i := 1) rfl))) (g := (mkF m 28 #[.val (.int p1), .val (.int p2), .val (.int p3), .val (.int p4), .val (.int p5), .val (.int r), .val (.int lo), .unset, .unset, .unset, .unset, .unset] [(.int p3)])) rfl (hb hby at_28) _ kt) ?_
    refine own_via (T' := T0) (g' := (mkF m 31 #[.val (.int p1), .val (.int p2), .val (.int p3), .val (.int p4), .val (.int p5), .val (.int r), .val (.int lo), .unset, .unset, .unset, .unset, .unset] [(.int (p3 &&& (2147483647 : Int32)))])) (fun _ kt => XS.iand X0.here hx rfl (hb hby at_30) rfl kt) ?_
    obtain ⟨o, ho⟩ : ∃ z, z = (p3 &&& (2147483647 : Int32)) := ⟨_, rfl⟩
    rw [← ho]
    have o0 : 0 ≤ o.toInt := by rw [ho]; exact (c_and p3 2147483647 (by decide)).1
    refine own_via (T' := T0) (g' := (mkF m 33 #[.val (.int p1), .val (.int p2), .val (.int p3), .val (.int p4), .val (.int p5), .val (.int r), .val (.int lo), .val (.int o), .unset, .unset, .unset, .unset] [])) (fun _ kt => XS.istore X0.here hx rfl (hb hby at_31) rfl (l' := #[.val (.int p1), .val (.int p2), .val (.int p3), .val (.int p4), .val (.int p5), .val (.int r), .val (.int lo), .val (.int o), .unset, .unset, .unset, .unset]) rfl kt) ?_
    refine own_via (T' := T0) (g' := (mkF m 59 #[.val (.int p1), .val (.int p2), .val (.int p3), .val (.int p4), .val (.int p5), .val (.int r), .val (.int lo), .val (.int o), .unset, .unset, .unset, .unset] [])) (fun _ kt => XS.goto X0.here hx rfl (pc0 := 33) (pc' := 59) rfl (hb hby at_33) (by decide) (by decide) kt) ?_
    refine own_via (T' := T0) (g' := (mkF m 61 #[.val (.int p1), .val (.int p2), .val (.int p3), .val (.int p4), .val (.int p5), .val (.int r), .val (.int lo), .val (.int o), .unset, .unset, .unset, .unset] [(.int o)])) (fun _ kt => XS.iload X0.here hx rfl (hb hby at_59) rfl kt) ?_
    refine own_via (T' := T0) (g' := (mkF m 62 #[.val (.int p1), .val (.int p2), .val (.int p3), .val (.int p4), .val (.int p5), .val (.int r), .val (.int lo), .val (.int o), .unset, .unset, .unset, .unset] [(.int p4), (.int o)])) (fun _ kt => XS.iloadN X0.here hx rfl (hb hby at_61) rfl kt) ?_
    refine own_via (T' := T0) (g' := (mkF m 64 #[.val (.int p1), .val (.int p2), .val (.int p3), .val (.int p4), .val (.int p5), .val (.int r), .val (.int lo), .val (.int o), .unset, .unset, .unset, .unset] [(.int (2147483647 : Int32)), (.int p4), (.int o)])) (fun _ kt => X0.ldcInt hx hown (mvT hZ (hw _ (List.mem_of_getElem? (i := 1) rfl))) (g := (mkF m 62 #[.val (.int p1), .val (.int p2), .val (.int p3), .val (.int p4), .val (.int p5), .val (.int r), .val (.int lo), .val (.int o), .unset, .unset, .unset, .unset] [(.int p4), (.int o)])) rfl (hb hby at_62) _ kt) ?_
    refine own_via (T' := T0) (g' := (mkF m 65 #[.val (.int p1), .val (.int p2), .val (.int p3), .val (.int p4), .val (.int p5), .val (.int r), .val (.int lo), .val (.int o), .unset, .unset, .unset, .unset] [(.int (p4 &&& (2147483647 : Int32))), (.int o)])) (fun _ kt => XS.iand X0.here hx rfl (hb hby at_64) rfl kt) ?_
    obtain ⟨v28, T28, L28, X28, hQ28, st28⟩ := own_callS X0 hx hZ (y := (⟨"java/lang/Math", "min", "(II)I"⟩ : MethodName)) hown (hw _ (List.mem_of_getElem? (i := 6) rfl)) (hw _ (List.mem_of_getElem? (i := 7) rfl)) (hw _ (List.mem_of_getElem? (i := 4) rfl)) (hw _ (List.mem_of_getElem? (i := 8) rfl)) (by decide) (W := 0) (argsL := [(.int o), (.int (p4 &&& (2147483647 : Int32)))]) (rest := []) (rm2 l Z a0 hw [] o (p4 &&& (2147483647 : Int32)) h0) (by decide) (by decide) (by decide) (by decide) e0 (g := (mkF m 65 #[.val (.int p1), .val (.int p2), .val (.int p3), .val (.int p4), .val (.int p5), .val (.int r), .val (.int lo), .val (.int o), .unset, .unset, .unset, .unset] [(.int (p4 &&& (2147483647 : Int32))), (.int o)])) rfl (by rw [hml]; rfl) (lenOf pd_0 rfl) rfl (by show 2 * 0 + _ ≤ _; exact Nat.le_of_eq rfl) (hb hby at_65)
    obtain ⟨rfl, hL28, e28⟩ := hQ28
    replace X28 := own_pure (v := none) (r := none) X28 rfl rfl hL28
    refine own_via (T' := T28) (g' := (mkF m 68 #[.val (.int p1), .val (.int p2), .val (.int p3), .val (.int p4), .val (.int p5), .val (.int r), .val (.int lo), .val (.int o), .unset, .unset, .unset, .unset] [(.int (own_min o (p4 &&& (2147483647 : Int32))))])) (fun _ kt => st28 _ kt) ?_
    obtain ⟨ol, hol⟩ : ∃ z, z = (own_min o (p4 &&& (2147483647 : Int32))) := ⟨_, rfl⟩
    rw [← hol]
    refine own_via (T' := T28) (g' := (mkF m 70 #[.val (.int p1), .val (.int p2), .val (.int p3), .val (.int p4), .val (.int p5), .val (.int r), .val (.int lo), .val (.int o), .val (.int ol), .unset, .unset, .unset] [])) (fun _ kt => XS.istore X28.here hx rfl (hb hby at_68) rfl (l' := #[.val (.int p1), .val (.int p2), .val (.int p3), .val (.int p4), .val (.int p5), .val (.int r), .val (.int lo), .val (.int o), .val (.int ol), .unset, .unset, .unset]) rfl kt) ?_
    obtain ⟨T29, h29, X29, e29, E29, A29, D29, -, st29⟩ := newO X28 hx hZ hown (hw _ (List.mem_of_getElem? (i := 9) rfl)) (hw _ (List.mem_of_getElem? (i := 10) rfl)) (hw _ (List.mem_of_getElem? (i := 11) rfl)) e28 (g := (mkF m 70 #[.val (.int p1), .val (.int p2), .val (.int p3), .val (.int p4), .val (.int p5), .val (.int r), .val (.int lo), .val (.int o), .val (.int ol), .unset, .unset, .unset] [])) rfl (hb hby at_70) (by decide) (by decide)
    obtain ⟨b29, gb29⟩ : ∃ z, z = h0.size := ⟨_, rfl⟩
    rw [← gb29] at A29 D29 st29
    have gg29 : n0 ≤ b29 := Nat.le_trans Z0 (Nat.le_of_eq gb29.symm)
    have z29 : n0 ≤ h29.size := Nat.le_trans Z0 E29.1
    have f30 : Fld Z h29 b29 "com/example/stylewright/stylewright/xslt/ImportPrecedence" "rank" "I" (.int (0 : Int32)) := D29 (Or.inr (hw _ (List.mem_of_getElem? (i := 19) rfl))) (ty := .int) (by decide)
    have f31 : Fld Z h29 b29 "com/example/stylewright/stylewright/xslt/ImportPrecedence" "lowestImported" "I" (.int (0 : Int32)) := D29 (Or.inr (hw _ (List.mem_of_getElem? (i := 21) rfl))) (ty := .int) (by decide)
    refine own_via (T' := T29) (g' := (mkF m 73 #[.val (.int p1), .val (.int p2), .val (.int p3), .val (.int p4), .val (.int p5), .val (.int r), .val (.int lo), .val (.int o), .val (.int ol), .unset, .unset, .unset] [(.ref b29)])) (fun _ kt => st29 _ kt) ?_
    refine own_via (T' := T29) (g' := (mkF m 74 #[.val (.int p1), .val (.int p2), .val (.int p3), .val (.int p4), .val (.int p5), .val (.int r), .val (.int lo), .val (.int o), .val (.int ol), .unset, .unset, .unset] [(.ref b29), (.ref b29)])) (fun _ kt => XS.dup X29.here hx rfl (hb hby at_73) rfl rfl kt) ?_
    refine own_via (T' := T29) (g' := (mkF m 76 #[.val (.int p1), .val (.int p2), .val (.int p3), .val (.int p4), .val (.int p5), .val (.int r), .val (.int lo), .val (.int o), .val (.int ol), .unset, .unset, .unset] [(.int r), (.ref b29), (.ref b29)])) (fun _ kt => XS.iload X29.here hx rfl (hb hby at_74) rfl kt) ?_
    refine own_via (T' := T29) (g' := (mkF m 78 #[.val (.int p1), .val (.int p2), .val (.int p3), .val (.int p4), .val (.int p5), .val (.int r), .val (.int lo), .val (.int o), .val (.int ol), .unset, .unset, .unset] [(.int lo), (.int r), (.ref b29), (.ref b29)])) (fun _ kt => XS.iload X29.here hx rfl (hb hby at_76) rfl kt) ?_
    obtain ⟨v32, T32, L32, X32, hQ32, st32⟩ := own_callI X29 hx hZ (y := (⟨"com/example/stylewright/stylewright/xslt/ImportPrecedence", "<init>", "(II)V"⟩ : MethodName)) rfl hown (hw _ (List.mem_of_getElem? (i := 12) rfl)) (hw _ (List.mem_of_getElem? (i := 13) rfl)) (hw _ (List.mem_of_getElem? (i := 11) rfl)) (hw _ (List.mem_of_getElem? (i := 14) rfl)) (by decide) (b := b29) (W := 1) (argsL := [(.int r), (.int lo)]) (rest := [(.ref b29)]) (rm3 l Z a0 hw [] b29 r lo _ _ h29 n0 z29 gg29 A29 f30 f31) (by decide) (by decide) (by decide) (by decide) e29 (g := (mkF m 78 #[.val (.int p1), .val (.int p2), .val (.int p3), .val (.int p4), .val (.int p5), .val (.int r), .val (.int lo), .val (.int o), .val (.int ol), .unset, .unset, .unset] [(.int lo), (.int r), (.ref b29), (.ref b29)])) rfl (by rw [hml]; rfl) (lenOf pd_1 rfl) rfl (by show 2 * 0 + _ ≤ _; exact Nat.le_of_eq rfl) (hb hby at_78)
    obtain ⟨rfl, Nq32, Kq32, Fa32, Fb32⟩ := hQ32
    have f33 := A29.keep Kq32
    have z32 : n0 ≤ T32.heap.size := Nat.le_trans z29 Kq32.1
    have N32 := Fr.app N0 Nq32
    refine own_via (T' := T32) (g' := (mkF m 81 #[.val (.int p1), .val (.int p2), .val (.int p3), .val (.int p4), .val (.int p5), .val (.int r), .val (.int lo), .val (.int o), .val (.int ol), .unset, .unset, .unset] [(.ref b29)])) (fun _ kt => st32 _ kt) ?_
    refine own_via (T' := T32) (g' := (mkF m 83 #[.val (.int p1), .val (.int p2), .val (.int p3), .val (.int p4), .val (.int p5), .val (.int r), .val (.int lo), .val (.int o), .val (.int ol), .val (.ref b29), .unset, .unset] [])) (fun _ kt => XS.astore X32.here hx rfl (hb hby at_81) rfl rfl (l' := #[.val (.int p1), .val (.int p2), .val (.int p3), .val (.int p4), .val (.int p5), .val (.int r), .val (.int lo), .val (.int o), .val (.int ol), .val (.ref b29), .unset, .unset]) rfl kt) ?_
    obtain ⟨T34, h34, X34, e34, E34, A34, D34, -, st34⟩ := newO X32 hx hZ hown (hw _ (List.mem_of_getElem? (i := 9) rfl)) (hw _ (List.mem_of_getElem? (i := 10) rfl)) (hw _ (List.mem_of_getElem? (i := 11) rfl)) rfl (g := (mkF m 83 #[.val (.int p1), .val (.int p2), .val (.int p3), .val (.int p4), .val (.int p5), .val (.int r), .val (.int lo), .val (.int o), .val (.int ol), .val (.ref b29), .unset, .unset] [])) rfl (hb hby at_83) (by decide) (by decide)
    obtain ⟨b34, gb34⟩ : ∃ z, z = T32.heap.size := ⟨_, rfl⟩
    rw [← gb34] at A34 D34 st34
    have ne_b29_b34 : b29 ≠ b34 := Nat.ne_of_lt (Nat.lt_of_lt_of_le f33.lt (Nat.le_of_eq gb34.symm))
    have gg34 : n0 ≤ b34 := Nat.le_trans z32 (Nat.le_of_eq gb34.symm)
    have f35 := f33.ext E34
    have f36 := Fa32.ext E34
    have f37 := Fb32.ext E34
    have z34 : n0 ≤ h34.size := Nat.le_trans z32 E34.1
    have f38 : Fld Z h34 b34 "com/example/stylewright/stylewright/xslt/ImportPrecedence" "rank" "I" (.int (0 : Int32)) := D34 (Or.inr (hw _ (List.mem_of_getElem? (i := 19) rfl))) (ty := .int) (by decide)
    have f39 : Fld Z h34 b34 "com/example/stylewright/stylewright/xslt/ImportPrecedence" "lowestImported" "I" (.int (0 : Int32)) := D34 (Or.inr (hw _ (List.mem_of_getElem? (i := 21) rfl))) (ty := .int) (by decide)
    refine own_via (T' := T34) (g' := (mkF m 86 #[.val (.int p1), .val (.int p2), .val (.int p3), .val (.int p4), .val (.int p5), .val (.int r), .val (.int lo), .val (.int o), .val (.int ol), .val (.ref b29), .unset, .unset] [(.ref b34)])) (fun _ kt => st34 _ kt) ?_
    refine own_via (T' := T34) (g' := (mkF m 87 #[.val (.int p1), .val (.int p2), .val (.int p3), .val (.int p4), .val (.int p5), .val (.int r), .val (.int lo), .val (.int o), .val (.int ol), .val (.ref b29), .unset, .unset] [(.ref b34), (.ref b34)])) (fun _ kt => XS.dup X34.here hx rfl (hb hby at_86) rfl rfl kt) ?_
    refine own_via (T' := T34) (g' := (mkF m 89 #[.val (.int p1), .val (.int p2), .val (.int p3), .val (.int p4), .val (.int p5), .val (.int r), .val (.int lo), .val (.int o), .val (.int ol), .val (.ref b29), .unset, .unset] [(.int o), (.ref b34), (.ref b34)])) (fun _ kt => XS.iload X34.here hx rfl (hb hby at_87) rfl kt) ?_
    refine own_via (T' := T34) (g' := (mkF m 91 #[.val (.int p1), .val (.int p2), .val (.int p3), .val (.int p4), .val (.int p5), .val (.int r), .val (.int lo), .val (.int o), .val (.int ol), .val (.ref b29), .unset, .unset] [(.int ol), (.int o), (.ref b34), (.ref b34)])) (fun _ kt => XS.iload X34.here hx rfl (hb hby at_89) rfl kt) ?_
    obtain ⟨v40, T40, L40, X40, hQ40, st40⟩ := own_callI X34 hx hZ (y := (⟨"com/example/stylewright/stylewright/xslt/ImportPrecedence", "<init>", "(II)V"⟩ : MethodName)) rfl hown (hw _ (List.mem_of_getElem? (i := 12) rfl)) (hw _ (List.mem_of_getElem? (i := 13) rfl)) (hw _ (List.mem_of_getElem? (i := 11) rfl)) (hw _ (List.mem_of_getElem? (i := 14) rfl)) (by decide) (b := b34) (W := 1) (argsL := [(.int o), (.int ol)]) (rest := [(.ref b34)]) (rm3 l Z a0 hw [] b34 o ol _ _ h34 n0 z34 gg34 A34 f38 f39) (by decide) (by decide) (by decide) (by decide) e34 (g := (mkF m 91 #[.val (.int p1), .val (.int p2), .val (.int p3), .val (.int p4), .val (.int p5), .val (.int r), .val (.int lo), .val (.int o), .val (.int ol), .val (.ref b29), .unset, .unset] [(.int ol), (.int o), (.ref b34), (.ref b34)])) rfl (by rw [hml]; rfl) (lenOf pd_1 rfl) rfl (by show 2 * 0 + _ ≤ _; exact Nat.le_of_eq rfl) (hb hby at_91)
    obtain ⟨rfl, Nq40, Kq40, Fa40, Fb40⟩ := hQ40
    have f41 := f35.keep Kq40
    have f42 := f36.keep Kq40 (ninS ne_b29_b34 nin0)
    have f43 := f37.keep Kq40 (ninS ne_b29_b34 nin0)
    have f44 := A34.keep Kq40
    have z40 : n0 ≤ T40.heap.size := Nat.le_trans z34 Kq40.1
    have N40 := Fr.app N32 Nq40
    refine own_via (T' := T40) (g' := (mkF m 94 #[.val (.int p1), .val (.int p2), .val (.int p3), .val (.int p4), .val (.int p5), .val (.int r), .val (.int lo), .val (.int o), .val (.int ol), .val (.ref b29), .unset, .unset] [(.ref b34)])) (fun _ kt => st40 _ kt) ?_
    refine own_via (T' := T40) (g' := (mkF m 96 #[.val (.int p1), .val (.int p2), .val (.int p3), .val (.int p4), .val (.int p5), .val (.int r), .val (.int lo), .val (.int o), .val (.int ol), .val (.ref b29), .val (.ref b34), .unset] [])) (fun _ kt => XS.astore X40.here hx rfl (hb hby at_94) rfl rfl (l' := #[.val (.int p1), .val (.int p2), .val (.int p3), .val (.int p4), .val (.int p5), .val (.int r), .val (.int lo), .val (.int o), .val (.int ol), .val (.ref b29), .val (.ref b34), .unset]) rfl kt) ?_
    refine own_via (T' := T40) (g' := (mkF m 98 #[.val (.int p1), .val (.int p2), .val (.int p3), .val (.int p4), .val (.int p5), .val (.int r), .val (.int lo), .val (.int o), .val (.int ol), .val (.ref b29), .val (.ref b34), .unset] [(.int o)])) (fun _ kt => XS.iload X40.here hx rfl (hb hby at_96) rfl kt) ?_
    refine own_via (T' := T40) (g' := (mkF m 100 #[.val (.int p1), .val (.int p2), .val (.int p3), .val (.int p4), .val (.int p5), .val (.int r), .val (.int lo), .val (.int o), .val (.int ol), .val (.ref b29), .val (.ref b34), .unset] [(.int r), (.int o)])) (fun _ kt => XS.iload X40.here hx rfl (hb hby at_98) rfl kt) ?_
    by_cases hc100_45 : o < r
    · refine own_via (T' := T40) (g' := (mkF m 103 #[.val (.int p1), .val (.int p2), .val (.int p3), .val (.int p4), .val (.int p5), .val (.int r), .val (.int lo), .val (.int o), .val (.int ol), .val (.ref b29), .val (.ref b34), .unset] [])) (fun _ kt => XS.icmpNo X40.here hx rfl (hb hby at_100) rfl (tlt hc100_45).2.1 kt) ?_
      refine own_via (T' := T40) (g' := (mkF m 105 #[.val (.int p1), .val (.int p2), .val (.int p3), .val (.int p4), .val (.int p5), .val (.int r), .val (.int lo), .val (.int o), .val (.int ol), .val (.ref b29), .val (.ref b34), .unset] [(.int r)])) (fun _ kt => XS.iload X40.here hx rfl (hb hby at_103) rfl kt) ?_
      refine own_via (T' := T40) (g' := (mkF m 107 #[.val (.int p1), .val (.int p2), .val (.int p3), .val (.int p4), .val (.int p5), .val (.int r), .val (.int lo), .val (.int o), .val (.int ol), .val (.ref b29), .val (.ref b34), .unset] [(.int o), (.int r)])) (fun _ kt => XS.iload X40.here hx rfl (hb hby at_105) rfl kt) ?_
      refine own_via (T' := T40) (g' := (mkF m 108 #[.val (.int p1), .val (.int p2), .val (.int p3), .val (.int p4), .val (.int p5), .val (.int r), .val (.int lo), .val (.int o), .val (.int ol), .val (.ref b29), .val (.ref b34), .unset] [(.int (r - o))])) (fun _ kt => XS.isub X40.here hx rfl (hb hby at_107) rfl kt) ?_
      refine own_via (T' := T40) (g' := (mkF m 110 #[.val (.int p1), .val (.int p2), .val (.int p3), .val (.int p4), .val (.int p5), .val (.int r), .val (.int lo), .val (.int o), .val (.int ol), .val (.ref b29), .val (.ref b34), .unset] [(.int r), (.int (r - o))])) (fun _ kt => XS.iload X40.here hx rfl (hb hby at_108) rfl kt) ?_
      refine own_via (T' := T40) (g' := (mkF m 112 #[.val (.int p1), .val (.int p2), .val (.int p3), .val (.int p4), .val (.int p5), .val (.int r), .val (.int lo), .val (.int o), .val (.int ol), .val (.ref b29), .val (.ref b34), .unset] [(.int lo), (.int r), (.int (r - o))])) (fun _ kt => XS.iload X40.here hx rfl (hb hby at_110) rfl kt) ?_
      refine own_via (T' := T40) (g' := (mkF m 113 #[.val (.int p1), .val (.int p2), .val (.int p3), .val (.int p4), .val (.int p5), .val (.int r), .val (.int lo), .val (.int o), .val (.int ol), .val (.ref b29), .val (.ref b34), .unset] [(.int (r - lo)), (.int (r - o))])) (fun _ kt => XS.isub X40.here hx rfl (hb hby at_112) rfl kt) ?_
      by_cases hc113_46 : (r - lo) < (r - o)
      · refine own_via (T' := T40) (g' := (mkF m 120 #[.val (.int p1), .val (.int p2), .val (.int p3), .val (.int p4), .val (.int p5), .val (.int r), .val (.int lo), .val (.int o), .val (.int ol), .val (.ref b29), .val (.ref b34), .unset] [])) (fun _ kt => XS.icmpYes X40.here hx rfl (pc0 := 113) (pc' := 120) rfl (hb hby at_113) rfl (tlt hc113_46).2.2.1 (by decide) (by decide) kt) ?_
        refine own_via (T' := T40) (g' := (mkF m 121 #[.val (.int p1), .val (.int p2), .val (.int p3), .val (.int p4), .val (.int p5), .val (.int r), .val (.int lo), .val (.int o), .val (.int ol), .val (.ref b29), .val (.ref b34), .unset] [(.int (0 : Int32))])) (fun _ kt => XS.iconst X40.here hx rfl (hb hby at_120) kt) ?_
        refine own_via (T' := T40) (g' := (mkF m 123 #[.val (.int p1), .val (.int p2), .val (.int p3), .val (.int p4), .val (.int p5), .val (.int r), .val (.int lo), .val (.int o), .val (.int ol), .val (.ref b29), .val (.ref b34), .val (.int (0 : Int32))] [])) (fun _ kt => XS.istore X40.here hx rfl (hb hby at_121) rfl (l' := #[.val (.int p1), .val (.int p2), .val (.int p3), .val (.int p4), .val (.int p5), .val (.int r), .val (.int lo), .val (.int o), .val (.int ol), .val (.ref b29), .val (.ref b34), .val (.int (0 : Int32))]) rfl kt) ?_
        refine own_via (T' := T40) (g' := (mkF m 125 #[.val (.int p1), .val (.int p2), .val (.int p3), .val (.int p4), .val (.int p5), .val (.int r), .val (.int lo), .val (.int o), .val (.int ol), .val (.ref b29), .val (.ref b34), .val (.int (0 : Int32))] [(.ref b29)])) (fun _ kt => XS.aload X40.here hx rfl (hb hby at_123) rfl rfl kt) ?_
        refine own_via (T' := T40) (g' := (mkF m 127 #[.val (.int p1), .val (.int p2), .val (.int p3), .val (.int p4), .val (.int p5), .val (.int r), .val (.int lo), .val (.int o), .val (.int ol), .val (.ref b29), .val (.ref b34), .val (.int (0 : Int32))] [(.ref b34), (.ref b29)])) (fun _ kt => XS.aload X40.here hx rfl (hb hby at_125) rfl rfl kt) ?_
        obtain ⟨v47, T47, L47, X47, hQ47, st47⟩ := own_callV X40 hx hZ (y := (⟨"com/example/stylewright/stylewright/xslt/ImportPrecedence", "imports", "(Lcom/example/stylewright/stylewright/xslt/ImportPrecedence;)Z"⟩ : MethodName)) (z := (⟨"com/example/stylewright/stylewright/xslt/ImportPrecedence", "imports", "(Lcom/example/stylewright/stylewright/xslt/ImportPrecedence;)Z"⟩ : MethodName)) hown (hw _ (List.mem_of_getElem? (i := 22) rfl)) (hw _ (List.mem_of_getElem? (i := 23) rfl)) (notFace_of_selects (args := #[]) (mvT hZ (hw _ (List.mem_of_getElem? (i := 25) rfl)))) (hw _ (List.mem_of_getElem? (i := 25) rfl)) (hw _ (List.mem_of_getElem? (i := 24) rfl)) (hw _ (List.mem_of_getElem? (i := 11) rfl)) (hw _ (List.mem_of_getElem? (i := 26) rfl)) (by decide) (b := b29) (W := 0) (argsL := [(.ref b34)]) (rest := []) (rm5 l Z a0 hw [] b29 b34 o lo r T40.heap Fa40 f43 f42) (by decide) (by decide) (by decide) (by decide) rfl f41 (g := (mkF m 127 #[.val (.int p1), .val (.int p2), .val (.int p3), .val (.int p4), .val (.int p5), .val (.int r), .val (.int lo), .val (.int o), .val (.int ol), .val (.ref b29), .val (.ref b34), .val (.int (0 : Int32))] [(.ref b34), (.ref b29)])) rfl (by rw [hml]; rfl) (lenOf pd_2 rfl) rfl (by show 2 * 0 + _ ≤ _; exact Nat.le_of_eq rfl) (hb hby at_127)
        obtain ⟨rfl, hL47, e47⟩ := hQ47
        replace X47 := own_pure (v := none) (r := none) X47 rfl rfl hL47
        refine own_via (T' := T47) (g' := (mkF m 130 #[.val (.int p1), .val (.int p2), .val (.int p3), .val (.int p4), .val (.int p5), .val (.int r), .val (.int lo), .val (.int o), .val (.int ol), .val (.ref b29), .val (.ref b34), .val (.int (0 : Int32))] [(.int (own_imp o lo r))])) (fun _ kt => st47 _ kt) ?_
        refine own_via (T' := T47) (g' := (mkF m 132 #[.val (.int p1), .val (.int p2), .val (.int p3), .val (.int p4), .val (.int p5), .val (.int r), .val (.int lo), .val (.int o), .val (.int ol), .val (.ref b29), .val (.ref b34), .val (.int (0 : Int32))] [(.int (0 : Int32)), (.int (own_imp o lo r))])) (fun _ kt => XS.iload X47.here hx rfl (hb hby at_130) rfl kt) ?_
        refine own_via (T' := T47) (g' := (mkF m 135 #[.val (.int p1), .val (.int p2), .val (.int p3), .val (.int p4), .val (.int p5), .val (.int r), .val (.int lo), .val (.int o), .val (.int ol), .val (.ref b29), .val (.ref b34), .val (.int (0 : Int32))] [])) (fun _ kt => XS.icmpNo X47.here hx rfl (hb hby at_132) rfl (teq (own_i2 lo0 lo1 r1 o0 hc100_45 hc113_46)).2 kt) ?_
        refine own_via (T' := T47) (g' := (mkF m 137 #[.val (.int p1), .val (.int p2), .val (.int p3), .val (.int p4), .val (.int p5), .val (.int r), .val (.int lo), .val (.int o), .val (.int ol), .val (.ref b29), .val (.ref b34), .val (.int (0 : Int32))] [(.ref b29)])) (fun _ kt => XS.aload X47.here hx rfl (hb hby at_135) rfl rfl kt) ?_
        refine own_via (T' := T47) (g' := (mkF m 139 #[.val (.int p1), .val (.int p2), .val (.int p3), .val (.int p4), .val (.int p5), .val (.int r), .val (.int lo), .val (.int o), .val (.int ol), .val (.ref b29), .val (.ref b34), .val (.int (0 : Int32))] [(.ref b29), (.ref b29)])) (fun _ kt => XS.aload X47.here hx rfl (hb hby at_137) rfl rfl kt) ?_
        obtain ⟨v48, T48, L48, X48, hQ48, st48⟩ := own_callV X47 hx hZ (y := (⟨"com/example/stylewright/stylewright/xslt/ImportPrecedence", "imports", "(Lcom/example/stylewright/stylewright/xslt/ImportPrecedence;)Z"⟩ : MethodName)) (z := (⟨"com/example/stylewright/stylewright/xslt/ImportPrecedence", "imports", "(Lcom/example/stylewright/stylewright/xslt/ImportPrecedence;)Z"⟩ : MethodName)) hown (hw _ (List.mem_of_getElem? (i := 22) rfl)) (hw _ (List.mem_of_getElem? (i := 23) rfl)) (notFace_of_selects (args := #[]) (mvT hZ (hw _ (List.mem_of_getElem? (i := 25) rfl)))) (hw _ (List.mem_of_getElem? (i := 25) rfl)) (hw _ (List.mem_of_getElem? (i := 24) rfl)) (hw _ (List.mem_of_getElem? (i := 11) rfl)) (hw _ (List.mem_of_getElem? (i := 26) rfl)) (by decide) (b := b29) (W := 0) (argsL := [(.ref b29)]) (rest := []) (rm5 l Z a0 hw [] b29 b29 r lo r T40.heap f42 f43 f42) (by decide) (by decide) (by decide) (by decide) e47 f41 (g := (mkF m 139 #[.val (.int p1), .val (.int p2), .val (.int p3), .val (.int p4), .val (.int p5), .val (.int r), .val (.int lo), .val (.int o), .val (.int ol), .val (.ref b29), .val (.ref b34), .val (.int (0 : Int32))] [(.ref b29), (.ref b29)])) rfl (by rw [hml]; rfl) (lenOf pd_2 rfl) rfl (by show 2 * 0 + _ ≤ _; exact Nat.le_of_eq rfl) (hb hby at_139)
        obtain ⟨rfl, hL48, e48⟩ := hQ48
        replace X48 := own_pure (v := none) (r := none) X48 rfl rfl hL48
        refine own_via (T' := T48) (g' := (mkF m 142 #[.val (.int p1), .val (.int p2), .val (.int p3), .val (.int p4), .val (.int p5), .val (.int r), .val (.int lo), .val (.int o), .val (.int ol), .val (.ref b29), .val (.ref b34), .val (.int (0 : Int32))] [(.int (own_imp r lo r))])) (fun _ kt => st48 _ kt) ?_
        refine own_via (T' := T48) (g' := (mkF m 145 #[.val (.int p1), .val (.int p2), .val (.int p3), .val (.int p4), .val (.int p5), .val (.int r), .val (.int lo), .val (.int o), .val (.int ol), .val (.ref b29), .val (.ref b34), .val (.int (0 : Int32))] [])) (fun _ kt => XS.ifNo X48.here hx rfl (hb hby at_142) rfl ((if0 _ _).trans (teq (own_i3 (o := r) (by rw [Int32.lt_iff_toInt_lt]; exact Int.lt_irrefl _))).2) kt) ?_
        refine own_via (T' := T48) (g' := (mkF m 146 #[.val (.int p1), .val (.int p2), .val (.int p3), .val (.int p4), .val (.int p5), .val (.int r), .val (.int lo), .val (.int o), .val (.int ol), .val (.ref b29), .val (.ref b34), .val (.int (0 : Int32))] [(.int (1 : Int32))])) (fun _ kt => XS.iconst X48.here hx rfl (hb hby at_145) kt) ?_
        refine own_via (T' := T48) (g' := (mkF m 150 #[.val (.int p1), .val (.int p2), .val (.int p3), .val (.int p4), .val (.int p5), .val (.int r), .val (.int lo), .val (.int o), .val (.int ol), .val (.ref b29), .val (.ref b34), .val (.int (0 : Int32))] [(.int (1 : Int32))])) (fun _ kt => XS.goto X48.here hx rfl (pc0 := 146) (pc' := 150) rfl (hb hby at_146) (by decide) (by decide) kt) ?_
        exact own_retZ X48 hx hret hlk (hb hby at_150) (by decide) ⟨rfl, N40⟩ (by decide) (by decide)
      · refine own_via (T' := T40) (g' := (mkF m 116 #[.val (.int p1), .val (.int p2), .val (.int p3), .val (.int p4), .val (.int p5), .val (.int r), .val (.int lo), .val (.int o), .val (.int ol), .val (.ref b29), .val (.ref b34), .unset] [])) (fun _ kt => XS.icmpNo X40.here hx rfl (hb hby at_113) rfl (flt hc113_46).2.2.1 kt) ?_
        refine own_via (T' := T40) (g' := (mkF m 117 #[.val (.int p1), .val (.int p2), .val (.int p3), .val (.int p4), .val (.int p5), .val (.int r), .val (.int lo), .val (.int o), .val (.int ol), .val (.ref b29), .val (.ref b34), .unset] [(.int (1 : Int32))])) (fun _ kt => XS.iconst X40.here hx rfl (hb hby at_116) kt) ?_
        refine own_via (T' := T40) (g' := (mkF m 121 #[.val (.int p1), .val (.int p2), .val (.int p3), .val (.int p4), .val (.int p5), .val (.int r), .val (.int lo), .val (.int o), .val (.int ol), .val (.ref b29), .val (.ref b34), .unset] [(.int (1 : Int32))])) (fun _ kt => XS.goto X40.here hx rfl (pc0 := 117) (pc' := 121) rfl (hb hby at_117) (by decide) (by decide) kt) ?_
        refine own_via (T' := T40) (g' := (mkF m 123 #[.val (.int p1), .val (.int p2), .val (.int p3), .val (.int p4), .val (.int p5), .val (.int r), .val (.int lo), .val (.int o), .val (.int ol), .val (.ref b29), .val (.ref b34), .val (.int (1 : Int32))] [])) (fun _ kt => XS.istore X40.here hx rfl (hb hby at_121) rfl (l' := #[.val (.int p1), .val (.int p2), .val (.int p3), .val (.int p4), .val (.int p5), .val (.int r), .val (.int lo), .val (.int o), .val (.int ol), .val (.ref b29), .val (.ref b34), .val (.int (1 : Int32))]) rfl kt) ?_
        refine own_via (T' := T40) (g' := (mkF m 125 #[.val (.int p1), .val (.int p2), .val (.int p3), .val (.int p4), .val (.int p5), .val (.int r), .val (.int lo), .val (.int o), .val (.int ol), .val (.ref b29), .val (.ref b34), .val (.int (1 : Int32))] [(.ref b29)])) (fun _ kt => XS.aload X40.here hx rfl (hb hby at_123) rfl rfl kt) ?_
        refine own_via (T' := T40) (g' := (mkF m 127 #[.val (.int p1), .val (.int p2), .val (.int p3), .val (.int p4), .val (.int p5), .val (.int r), .val (.int lo), .val (.int o), .val (.int ol), .val (.ref b29), .val (.ref b34), .val (.int (1 : Int32))] [(.ref b34), (.ref b29)])) (fun _ kt => XS.aload X40.here hx rfl (hb hby at_125) rfl rfl kt) ?_
        obtain ⟨v49, T49, L49, X49, hQ49, st49⟩ := own_callV X40 hx hZ (y := (⟨"com/example/stylewright/stylewright/xslt/ImportPrecedence", "imports", "(Lcom/example/stylewright/stylewright/xslt/ImportPrecedence;)Z"⟩ : MethodName)) (z := (⟨"com/example/stylewright/stylewright/xslt/ImportPrecedence", "imports", "(Lcom/example/stylewright/stylewright/xslt/ImportPrecedence;)Z"⟩ : MethodName)) hown (hw _ (List.mem_of_getElem? (i := 22) rfl)) (hw _ (List.mem_of_getElem? (i := 23) rfl)) (notFace_of_selects (args := #[]) (mvT hZ (hw _ (List.mem_of_getElem? (i := 25) rfl)))) (hw _ (List.mem_of_getElem? (i := 25) rfl)) (hw _ (List.mem_of_getElem? (i := 24) rfl)) (hw _ (List.mem_of_getElem? (i := 11) rfl)) (hw _ (List.mem_of_getElem? (i := 26) rfl)) (by decide) (b := b29) (W := 0) (argsL := [(.ref b34)]) (rest := []) (rm5 l Z a0 hw [] b29 b34 o lo r T40.heap Fa40 f43 f42) (by decide) (by decide) (by decide) (by decide) rfl f41 (g := (mkF m 127 #[.val (.int p1), .val (.int p2), .val (.int p3), .val (.int p4), .val (.int p5), .val (.int r), .val (.int lo), .val (.int o), .val (.int ol), .val (.ref b29), .val (.ref b34), .val (.int (1 : Int32))] [(.ref b34), (.ref b29)])) rfl (by rw [hml]; rfl) (lenOf pd_2 rfl) rfl (by show 2 * 0 + _ ≤ _; exact Nat.le_of_eq rfl) (hb hby at_127)
        obtain ⟨rfl, hL49, e49⟩ := hQ49
        replace X49 := own_pure (v := none) (r := none) X49 rfl rfl hL49
        refine own_via (T' := T49) (g' := (mkF m 130 #[.val (.int p1), .val (.int p2), .val (.int p3), .val (.int p4), .val (.int p5), .val (.int r), .val (.int lo), .val (.int o), .val (.int ol), .val (.ref b29), .val (.ref b34), .val (.int (1 : Int32))] [(.int (own_imp o lo r))])) (fun _ kt => st49 _ kt) ?_
        refine own_via (T' := T49) (g' := (mkF m 132 #[.val (.int p1), .val (.int p2), .val (.int p3), .val (.int p4), .val (.int p5), .val (.int r), .val (.int lo), .val (.int o), .val (.int ol), .val (.ref b29), .val (.ref b34), .val (.int (1 : Int32))] [(.int (1 : Int32)), (.int (own_imp o lo r))])) (fun _ kt => XS.iload X49.here hx rfl (hb hby at_130) rfl kt) ?_
        refine own_via (T' := T49) (g' := (mkF m 135 #[.val (.int p1), .val (.int p2), .val (.int p3), .val (.int p4), .val (.int p5), .val (.int r), .val (.int lo), .val (.int o), .val (.int ol), .val (.ref b29), .val (.ref b34), .val (.int (1 : Int32))] [])) (fun _ kt => XS.icmpNo X49.here hx rfl (hb hby at_132) rfl (teq (own_i1 lo0 lo1 r1 o0 hc100_45 hc113_46)).2 kt) ?_
        refine own_via (T' := T49) (g' := (mkF m 137 #[.val (.int p1), .val (.int p2), .val (.int p3), .val (.int p4), .val (.int p5), .val (.int r), .val (.int lo), .val (.int o), .val (.int ol), .val (.ref b29), .val (.ref b34), .val (.int (1 : Int32))] [(.ref b29)])) (fun _ kt => XS.aload X49.here hx rfl (hb hby at_135) rfl rfl kt) ?_
        refine own_via (T' := T49) (g' := (mkF m 139 #[.val (.int p1), .val (.int p2), .val (.int p3), .val (.int p4), .val (.int p5), .val (.int r), .val (.int lo), .val (.int o), .val (.int ol), .val (.ref b29), .val (.ref b34), .val (.int (1 : Int32))] [(.ref b29), (.ref b29)])) (fun _ kt => XS.aload X49.here hx rfl (hb hby at_137) rfl rfl kt) ?_
        obtain ⟨v50, T50, L50, X50, hQ50, st50⟩ := own_callV X49 hx hZ (y := (⟨"com/example/stylewright/stylewright/xslt/ImportPrecedence", "imports", "(Lcom/example/stylewright/stylewright/xslt/ImportPrecedence;)Z"⟩ : MethodName)) (z := (⟨"com/example/stylewright/stylewright/xslt/ImportPrecedence", "imports", "(Lcom/example/stylewright/stylewright/xslt/ImportPrecedence;)Z"⟩ : MethodName)) hown (hw _ (List.mem_of_getElem? (i := 22) rfl)) (hw _ (List.mem_of_getElem? (i := 23) rfl)) (notFace_of_selects (args := #[]) (mvT hZ (hw _ (List.mem_of_getElem? (i := 25) rfl)))) (hw _ (List.mem_of_getElem? (i := 25) rfl)) (hw _ (List.mem_of_getElem? (i := 24) rfl)) (hw _ (List.mem_of_getElem? (i := 11) rfl)) (hw _ (List.mem_of_getElem? (i := 26) rfl)) (by decide) (b := b29) (W := 0) (argsL := [(.ref b29)]) (rest := []) (rm5 l Z a0 hw [] b29 b29 r lo r T40.heap f42 f43 f42) (by decide) (by decide) (by decide) (by decide) e49 f41 (g := (mkF m 139 #[.val (.int p1), .val (.int p2), .val (.int p3), .val (.int p4), .val (.int p5), .val (.int r), .val (.int lo), .val (.int o), .val (.int ol), .val (.ref b29), .val (.ref b34), .val (.int (1 : Int32))] [(.ref b29), (.ref b29)])) rfl (by rw [hml]; rfl) (lenOf pd_2 rfl) rfl (by show 2 * 0 + _ ≤ _; exact Nat.le_of_eq rfl) (hb hby at_139)
        obtain ⟨rfl, hL50, e50⟩ := hQ50
        replace X50 := own_pure (v := none) (r := none) X50 rfl rfl hL50
        refine own_via (T' := T50) (g' := (mkF m 142 #[.val (.int p1), .val (.int p2), .val (.int p3), .val (.int p4), .val (.int p5), .val (.int r), .val (.int lo), .val (.int o), .val (.int ol), .val (.ref b29), .val (.ref b34), .val (.int (1 : Int32))] [(.int (own_imp r lo r))])) (fun _ kt => st50 _ kt) ?_
        refine own_via (T' := T50) (g' := (mkF m 145 #[.val (.int p1), .val (.int p2), .val (.int p3), .val (.int p4), .val (.int p5), .val (.int r), .val (.int lo), .val (.int o), .val (.int ol), .val (.ref b29), .val (.ref b34), .val (.int (1 : Int32))] [])) (fun _ kt => XS.ifNo X50.here hx rfl (hb hby at_142) rfl ((if0 _ _).trans (teq (own_i3 (o := r) (by rw [Int32.lt_iff_toInt_lt]; exact Int.lt_irrefl _))).2) kt) ?_
        refine own_via (T' := T50) (g' := (mkF m 146 #[.val (.int p1), .val (.int p2), .val (.int p3), .val (.int p4), .val (.int p5), .val (.int r), .val (.int lo), .val (.int o), .val (.int ol), .val (.ref b29), .val (.ref b34), .val (.int (1 : Int32))] [(.int (1 : Int32))])) (fun _ kt => XS.iconst X50.here hx rfl (hb hby at_145) kt) ?_
        refine own_via (T' := T50) (g' := (mkF m 150 #[.val (.int p1), .val (.int p2), .val (.int p3), .val (.int p4), .val (.int p5), .val (.int r), .val (.int lo), .val (.int o), .val (.int ol), .val (.ref b29), .val (.ref b34), .val (.int (1 : Int32))] [(.int (1 : Int32))])) (fun _ kt => XS.goto X50.here hx rfl (pc0 := 146) (pc' := 150) rfl (hb hby at_146) (by decide) (by decide) kt) ?_
        exact own_retZ X50 hx hret hlk (hb hby at_150) (by decide) ⟨rfl, N40⟩ (by decide) (by decide)
    · refine own_via (T' := T40) (g' := (mkF m 120 #[.val (.int p1), .val (.int p2), .val (.int p3), .val (.int p4), .val (.int p5), .val (.int r), .val (.int lo), .val (.int o), .val (.int ol), .val (.ref b29), .val (.ref b34), .unset] [])) (fun _ kt => XS.icmpYes X40.here hx rfl (pc0 := 100) (pc' := 120) rfl (hb hby at_100) rfl (flt hc100_45).2.1 (by decide) (by decide) kt) ?_
      refine own_via (T' := T40) (g' := (mkF m 121 #[.val (.int p1), .val (.int p2), .val (.int p3), .val (.int p4), .val (.int p5), .val (.int r), .val (.int lo), .val (.int o), .val (.int ol), .val (.ref b29), .val (.ref b34), .unset] [(.int (0 : Int32))])) (fun _ kt => XS.iconst X40.here hx rfl (hb hby at_120) kt) ?_
      refine own_via (T' := T40) (g' := (mkF m 123 #[.val (.int p1), .val (.int p2), .val (.int p3), .val (.int p4), .val (.int p5), .val (.int r), .val (.int lo), .val (.int o), .val (.int ol), .val (.ref b29), .val (.ref b34), .val (.int (0 : Int32))] [])) (fun _ kt => XS.istore X40.here hx rfl (hb hby at_121) rfl (l' := #[.val (.int p1), .val (.int p2), .val (.int p3), .val (.int p4), .val (.int p5), .val (.int r), .val (.int lo), .val (.int o), .val (.int ol), .val (.ref b29), .val (.ref b34), .val (.int (0 : Int32))]) rfl kt) ?_
      refine own_via (T' := T40) (g' := (mkF m 125 #[.val (.int p1), .val (.int p2), .val (.int p3), .val (.int p4), .val (.int p5), .val (.int r), .val (.int lo), .val (.int o), .val (.int ol), .val (.ref b29), .val (.ref b34), .val (.int (0 : Int32))] [(.ref b29)])) (fun _ kt => XS.aload X40.here hx rfl (hb hby at_123) rfl rfl kt) ?_
      refine own_via (T' := T40) (g' := (mkF m 127 #[.val (.int p1), .val (.int p2), .val (.int p3), .val (.int p4), .val (.int p5), .val (.int r), .val (.int lo), .val (.int o), .val (.int ol), .val (.ref b29), .val (.ref b34), .val (.int (0 : Int32))] [(.ref b34), (.ref b29)])) (fun _ kt => XS.aload X40.here hx rfl (hb hby at_125) rfl rfl kt) ?_
      obtain ⟨v51, T51, L51, X51, hQ51, st51⟩ := own_callV X40 hx hZ (y := (⟨"com/example/stylewright/stylewright/xslt/ImportPrecedence", "imports", "(Lcom/example/stylewright/stylewright/xslt/ImportPrecedence;)Z"⟩ : MethodName)) (z := (⟨"com/example/stylewright/stylewright/xslt/ImportPrecedence", "imports", "(Lcom/example/stylewright/stylewright/xslt/ImportPrecedence;)Z"⟩ : MethodName)) hown (hw _ (List.mem_of_getElem? (i := 22) rfl)) (hw _ (List.mem_of_getElem? (i := 23) rfl)) (notFace_of_selects (args := #[]) (mvT hZ (hw _ (List.mem_of_getElem? (i := 25) rfl)))) (hw _ (List.mem_of_getElem? (i := 25) rfl)) (hw _ (List.mem_of_getElem? (i := 24) rfl)) (hw _ (List.mem_of_getElem? (i := 11) rfl)) (hw _ (List.mem_of_getElem? (i := 26) rfl)) (by decide) (b := b29) (W := 0) (argsL := [(.ref b34)]) (rest := []) (rm5 l Z a0 hw [] b29 b34 o lo r T40.heap Fa40 f43 f42) (by decide) (by decide) (by decide) (by decide) rfl f41 (g := (mkF m 127 #[.val (.int p1), .val (.int p2), .val (.int p3), .val (.int p4), .val (.int p5), .val (.int r), .val (.int lo), .val (.int o), .val (.int ol), .val (.ref b29), .val (.ref b34), .val (.int (0 : Int32))] [(.ref b34), (.ref b29)])) rfl (by rw [hml]; rfl) (lenOf pd_2 rfl) rfl (by show 2 * 0 + _ ≤ _; exact Nat.le_of_eq rfl) (hb hby at_127)
      obtain ⟨rfl, hL51, e51⟩ := hQ51
      replace X51 := own_pure (v := none) (r := none) X51 rfl rfl hL51
      refine own_via (T' := T51) (g' := (mkF m 130 #[.val (.int p1), .val (.int p2), .val (.int p3), .val (.int p4), .val (.int p5), .val (.int r), .val (.int lo), .val (.int o), .val (.int ol), .val (.ref b29), .val (.ref b34), .val (.int (0 : Int32))] [(.int (own_imp o lo r))])) (fun _ kt => st51 _ kt) ?_
      refine own_via (T' := T51) (g' := (mkF m 132 #[.val (.int p1), .val (.int p2), .val (.int p3), .val (.int p4), .val (.int p5), .val (.int r), .val (.int lo), .val (.int o), .val (.int ol), .val (.ref b29), .val (.ref b34), .val (.int (0 : Int32))] [(.int (0 : Int32)), (.int (own_imp o lo r))])) (fun _ kt => XS.iload X51.here hx rfl (hb hby at_130) rfl kt) ?_
      refine own_via (T' := T51) (g' := (mkF m 135 #[.val (.int p1), .val (.int p2), .val (.int p3), .val (.int p4), .val (.int p5), .val (.int r), .val (.int lo), .val (.int o), .val (.int ol), .val (.ref b29), .val (.ref b34), .val (.int (0 : Int32))] [])) (fun _ kt => XS.icmpNo X51.here hx rfl (hb hby at_132) rfl (teq (own_i3 hc100_45)).2 kt) ?_
      refine own_via (T' := T51) (g' := (mkF m 137 #[.val (.int p1), .val (.int p2), .val (.int p3), .val (.int p4), .val (.int p5), .val (.int r), .val (.int lo), .val (.int o), .val (.int ol), .val (.ref b29), .val (.ref b34), .val (.int (0 : Int32))] [(.ref b29)])) (fun _ kt => XS.aload X51.here hx rfl (hb hby at_135) rfl rfl kt) ?_
      refine own_via (T' := T51) (g' := (mkF m 139 #[.val (.int p1), .val (.int p2), .val (.int p3), .val (.int p4), .val (.int p5), .val (.int r), .val (.int lo), .val (.int o), .val (.int ol), .val (.ref b29), .val (.ref b34), .val (.int (0 : Int32))] [(.ref b29), (.ref b29)])) (fun _ kt => XS.aload X51.here hx rfl (hb hby at_137) rfl rfl kt) ?_
      obtain ⟨v52, T52, L52, X52, hQ52, st52⟩ := own_callV X51 hx hZ (y := (⟨"com/example/stylewright/stylewright/xslt/ImportPrecedence", "imports", "(Lcom/example/stylewright/stylewright/xslt/ImportPrecedence;)Z"⟩ : MethodName)) (z := (⟨"com/example/stylewright/stylewright/xslt/ImportPrecedence", "imports", "(Lcom/example/stylewright/stylewright/xslt/ImportPrecedence;)Z"⟩ : MethodName)) hown (hw _ (List.mem_of_getElem? (i := 22) rfl)) (hw _ (List.mem_of_getElem? (i := 23) rfl)) (notFace_of_selects (args := #[]) (mvT hZ (hw _ (List.mem_of_getElem? (i := 25) rfl)))) (hw _ (List.mem_of_getElem? (i := 25) rfl)) (hw _ (List.mem_of_getElem? (i := 24) rfl)) (hw _ (List.mem_of_getElem? (i := 11) rfl)) (hw _ (List.mem_of_getElem? (i := 26) rfl)) (by decide) (b := b29) (W := 0) (argsL := [(.ref b29)]) (rest := []) (rm5 l Z a0 hw [] b29 b29 r lo r T40.heap f42 f43 f42) (by decide) (by decide) (by decide) (by decide) e51 f41 (g := (mkF m 139 #[.val (.int p1), .val (.int p2), .val (.int p3), .val (.int p4), .val (.int p5), .val (.int r), .val (.int lo), .val (.int o), .val (.int ol), .val (.ref b29), .val (.ref b34), .val (.int (0 : Int32))] [(.ref b29), (.ref b29)])) rfl (by rw [hml]; rfl) (lenOf pd_2 rfl) rfl (by show 2 * 0 + _ ≤ _; exact Nat.le_of_eq rfl) (hb hby at_139)
      obtain ⟨rfl, hL52, e52⟩ := hQ52
      replace X52 := own_pure (v := none) (r := none) X52 rfl rfl hL52
      refine own_via (T' := T52) (g' := (mkF m 142 #[.val (.int p1), .val (.int p2), .val (.int p3), .val (.int p4), .val (.int p5), .val (.int r), .val (.int lo), .val (.int o), .val (.int ol), .val (.ref b29), .val (.ref b34), .val (.int (0 : Int32))] [(.int (own_imp r lo r))])) (fun _ kt => st52 _ kt) ?_
      refine own_via (T' := T52) (g' := (mkF m 145 #[.val (.int p1), .val (.int p2), .val (.int p3), .val (.int p4), .val (.int p5), .val (.int r), .val (.int lo), .val (.int o), .val (.int ol), .val (.ref b29), .val (.ref b34), .val (.int (0 : Int32))] [])) (fun _ kt => XS.ifNo X52.here hx rfl (hb hby at_142) rfl ((if0 _ _).trans (teq (own_i3 (o := r) (by rw [Int32.lt_iff_toInt_lt]; exact Int.lt_irrefl _))).2) kt) ?_
      refine own_via (T' := T52) (g' := (mkF m 146 #[.val (.int p1), .val (.int p2), .val (.int p3), .val (.int p4), .val (.int p5), .val (.int r), .val (.int lo), .val (.int o), .val (.int ol), .val (.ref b29), .val (.ref b34), .val (.int (0 : Int32))] [(.int (1 : Int32))])) (fun _ kt => XS.iconst X52.here hx rfl (hb hby at_145) kt) ?_
      refine own_via (T' := T52) (g' := (mkF m 150 #[.val (.int p1), .val (.int p2), .val (.int p3), .val (.int p4), .val (.int p5), .val (.int r), .val (.int lo), .val (.int o), .val (.int ol), .val (.ref b29), .val (.ref b34), .val (.int (0 : Int32))] [(.int (1 : Int32))])) (fun _ kt => XS.goto X52.here hx rfl (pc0 := 146) (pc' := 150) rfl (hb hby at_146) (by decide) (by decide) kt) ?_
      exact own_retZ X52 hx hret hlk (hb hby at_150) (by decide) ⟨rfl, N40⟩ (by decide) (by decide)
set_option maxRecDepth 65536 in
set_option maxHeartbeats 40000000 in
theorem comes_1 {Post : Tables → Env → Array Value → State → Outcome → State → Prop} (hpost : ∀ tb e args s v u, (limb_1_1.after args s (.returned v) u = true ∧ limb_1_2.after args s (.returned v) u = true ∧ True) → FrameEnd s (.returned v) u (Jvm.fieldLocs frame_1_writes args s ++ Jvm.arrayLocs frame_1_arrays args s ++ Jvm.staticLocs frame_1_statics s) 16 128 → Post tb e args s (.returned v) u) :
    ArmFor flags0 classFile x code maxLocals ret World_1 tables_1 room_1 Calls_1 rest_1 Pre_1 Post := by
  intro l hfl _ _ p e ha hc hk s m args below hf hA hF happ hP
  obtain ⟨hcalls, hrest, hpre⟩ := hP
  obtain ⟨-, -, -, hnamed, -, -, -, hat⟩ := (Spec.applies_iff hf).mp happ
  obtain ⟨hg, hn⟩ := and_e (Cond.before_iff.mp (show (Jvm.Cond.and given_1 narrow_1).before args s = true from hpre))
  obtain ⟨gc, g0⟩ := and_e hg
  obtain ⟨v0, g1⟩ := and_e g0
  obtain ⟨v1, g2⟩ := and_e g1
  obtain ⟨v2, g3⟩ := and_e g2
  obtain ⟨v3, g4⟩ := and_e g3
  obtain ⟨w0, w1, w2, w3, w4, rfl⟩ : ∃ w0 w1 w2 w3 w4 : Value, args = #[w0, w1, w2, w3, w4] := by
    have hs : args.size = 5 := by simpa [Cond.value, given_1] using gc
    obtain ⟨L⟩ := args
    match L, hs with
    | [w0, w1, w2, w3, w4], _ => exact ⟨w0, w1, w2, w3, w4, rfl⟩
  have hw := fun d (hd : d ∈ tables_1) => atoms_spec (ws := Jvm.Cond.code x code maxLocals ret :: tables_1) hat d (List.mem_cons_of_mem _ hd)
  have hfit : Fit s := fun {y c} hc i hi => by
    obtain ⟨ha, rfl⟩ := Array.getElem?_eq_some_iff.mp hc
    have q := List.all_eq_true.mp ((Array.all_eq_true_iff_forall_mem.mp hF) _ (Array.getElem_mem ha)) i (List.mem_range.mpr hi)
    simpa [Array.getElem?_eq_getElem hi] using q
  obtain ⟨i0, ei0⟩ := is_v v0
  obtain rfl : w0 = (.int i0) := Option.some.inj ei0
  obtain ⟨i1, ei1⟩ := is_v v1
  obtain rfl : w1 = (.int i1) := Option.some.inj ei1
  obtain ⟨i2, ei2⟩ := is_v v2
  obtain rfl : w2 = (.int i2) := Option.some.inj ei2
  obtain ⟨i3, ei3⟩ := is_v v3
  obtain rfl : w3 = (.int i3) := Option.some.inj ei3
  obtain ⟨i4, ei4⟩ := is_v g4
  obtain rfl : w4 = (.int i4) := Option.some.inj ei4
  obtain ⟨n, o, h1, h2, h3, _, L, rfl, ⟨rfl, N⟩, hq⟩ := rm0 l s _ hw tables_1 i0 i1 i2 i3 i4 s.heap s.heap.size (Nat.le_refl _) p e ha hc hk s m _ below hf ((Spec.applies_iff_loose hf).mp happ).1 ⟨rfl, State.Warmed39.refl s, rfl⟩ trivial
  refine ⟨n, _, h1, h2, h3, hpost _ _ _ _ _ _ ⟨Cond.after_iff.mpr rfl, Cond.after_iff.mpr (eq_i res_at (Term.int_eval (1)) rfl), trivial⟩ ⟨hq.1, hq.2.1, (hq.2.2.sift fun y hy => Or.inr (N y hy)).mono (by decide) (by decide)⟩⟩
theorem main_1_1 : Claimed_1_1 := comes_1 fun _ _ _ _ _ _ h hF => ⟨h.1, hF⟩
theorem main_1_2 : Claimed_1_2 := comes_1 fun _ _ _ _ _ _ h hF => ⟨h.2.1, hF⟩
end Jvm.Pilot.@@N@@
namespace Jvm.Pilot.@@N@@
open Jvm Jvm.ClassFile Sem Op Lib Jvm.Free Jvm.Stand Jvm.Pilot.@@N@@.Jvm.D
/-! MADE BY PROGRAM (witnessworld.py) out of the Statement's table words and the real class files: 10 classes; the members and pool entries that the words name. The judged class is class 1, her method 1. -/
namespace start1
open Jvm.ClassFile
def u (s : String) : CpInfo := .utf8 (stringToUtf16 s)
/-- a pool by its gaps: so many unusable entries, then the entry; so many at the end -/
def gap : Nat → List CpInfo → List CpInfo
  | 0, r => r
  | n + 1, r => .unusable :: gap n r
def poolList (es : List (Nat × CpInfo)) (last : Nat) : List CpInfo := es.foldr (fun e r => gap e.1 (e.2 :: r)) (gap last [])
def pool (es : List (Nat × CpInfo)) (last : Nat) : Array CpInfo := ⟨poolList es last⟩
def fileOf (pool : Array CpInfo) (this : Nat) (attrs : Array Attribute := #[]) (ms : Array MethodInfo := #[]) (fl : Nat := 33) (sup : Nat := 0) (ifs : Array Nat := #[]) (fds : Array FieldInfo := #[]) : ClassFile where
  minorVersion := 0
  majorVersion := 65
  constantPool := pool
  accessFlags := fl
  thisClass := this
  superClass := sup
  interfaces := ifs
  fields := fds
  methods := ms
  attributes := attrs
def plain (name : String) (sup : Option ClassId) : Class where
  name := name
  kind := .ordinary
  loader := none
  accessFlags := 33
  super := sup
  interfaces := #[]
  cf := none
  fields := #[]
  methods := #[]
  instanceTypes := #[]
  staticTypes := #[]
  resolved := #[]
  callSites := []
  init := .initialized
  statics := none
  mirror := none

def pool0 : Array CpInfo := pool [(5, u "<init>"), (0, u "()V"), (1, .class_ 10), (1, u "java/lang/Object")] 113

def k0c0 : Code := { maxStack := 0, maxLocals := 1, code := object_method_1_code, exceptionTable := #[], attributes := #[] }
def k0m0 : Method := { name := "<init>", desc := "()V", sig := { parameters := [], returnType := none }, accessFlags := 1, code := some k0c0 }
/-- java/lang/Object -/
def k0 : Class := { plain "java/lang/Object" none with
  accessFlags := 33
  interfaces := #[]
  cf := some (fileOf pool0 8 #[] #[{ accessFlags := 1, nameIndex := 5, descriptorIndex := 6, attributes := #[] }] 33 0 #[] #[])
  fields := #[]
  methods := #[k0m0]
  instanceTypes := #[]
  staticTypes := #[]
  resolved := Array.replicate 124 none
  statics := none }

def pool1 : Array CpInfo := pool [(2, .class_ 4), (1, u "java/lang/Object"), (0, u "<init>"), (0, u "()V"), (0, .integer 1073741823), (0, .integer 2147483647), (0, .methodref 10 11), (0, .class_ 12), (0, .nameAndType 13 14), (0, u "java/lang/Math"), (0, u "max"), (0, u "(II)I"), (0, .methodref 10 16), (0, .nameAndType 17 14), (0, u "min"), (0, .class_ 19), (0, u "com/example/stylewright/stylewright/xslt/ImportPrecedence"), (0, .methodref 18 21), (0, .nameAndType 5 22), (0, u "(II)V"), (0, .methodref 18 24), (0, .nameAndType 25 26), (0, u "imports"), (0, u "(Lcom/example/stylewright/stylewright/xslt/ImportPrecedence;)Z"), (0, .class_ 28), (0, u "com/example/stylewright/stylewright/xslt/ImportPrecedenceImportsPinLaw"), (2, u "law"), (0, u "(IIIII)Z")] 3

def k1m0 : Method := { name := "<init>", desc := "()V", sig := { parameters := [], returnType := none }, accessFlags := 1, code := none }
def k1c1 : Code := { maxStack := 5, maxLocals := 12, code := code, exceptionTable := #[], attributes := #[] }
def k1m1 : Method := { name := "law", desc := "(IIIII)Z", sig := { parameters := [.int, .int, .int, .int, .int], returnType := some .boolean }, accessFlags := 9, code := some k1c1 }
/-- com/example/stylewright/stylewright/xslt/ImportPrecedenceImportsPinLaw -/
def k1 : Class := { plain "com/example/stylewright/stylewright/xslt/ImportPrecedenceImportsPinLaw" (some 0) with
  accessFlags := 49
  interfaces := #[]
  cf := some (fileOf pool1 27 #[] #[{ accessFlags := 1, nameIndex := 5, descriptorIndex := 6, attributes := #[] }, { accessFlags := 9, nameIndex := 31, descriptorIndex := 32, attributes := #[] }] 49 2 #[] #[])
  fields := #[]
  methods := #[k1m0, k1m1]
  instanceTypes := #[]
  staticTypes := #[]
  resolved := Array.replicate 36 none
  statics := none }

def pool2 : Array CpInfo := pool [(1, .class_ 2), (0, u "java/lang/Math"), (1, .class_ 6), (1, u "java/lang/Object"), (0, u "<init>"), (0, u "()V"), (89, .class_ 100), (1, u "java/lang/Math$RandomNumberGeneratorHolder"), (71, u "negativeZeroFloatBits"), (0, u "J"), (2, u "negativeZeroDoubleBits"), (21, u "max"), (2, u "min"), (43, u "$assertionsDisabled"), (0, u "Z"), (88, u "(II)I"), (2, u "twoToTheDoubleScaleDown"), (0, u "D"), (4, u "twoToTheDoubleScaleUp"), (9, u "E"), (3, u "PI"), (2, u "TAU"), (2, u "DEGREES_TO_RADIANS"), (0, u "RADIANS_TO_DEGREES")] 94

def k2m0 : Method := { name := "<init>", desc := "()V", sig := { parameters := [], returnType := none }, accessFlags := 2, code := none }
def k2c1 : Code := { maxStack := 2, maxLocals := 2, code := jdk_29_method_65_code, exceptionTable := #[], attributes := #[] }
def k2m1 : Method := { name := "max", desc := "(II)I", sig := { parameters := [.int, .int], returnType := some .int }, accessFlags := 9, code := some k2c1 }
def k2c2 : Code := { maxStack := 2, maxLocals := 2, code := jdk_29_method_69_code, exceptionTable := #[], attributes := #[] }
def k2m2 : Method := { name := "min", desc := "(II)I", sig := { parameters := [.int, .int], returnType := some .int }, accessFlags := 9, code := some k2c2 }
/-- java/lang/Math -/
def k2 : Class := { plain "java/lang/Math" (some 0) with
  accessFlags := 49
  interfaces := #[]
  cf := some (fileOf pool2 1 #[.nestMembers #[98]] #[{ accessFlags := 2, nameIndex := 7, descriptorIndex := 8, attributes := #[] }, { accessFlags := 9, nameIndex := 198, descriptorIndex := 335, attributes := #[] }, { accessFlags := 9, nameIndex := 201, descriptorIndex := 335, attributes := #[] }] 49 4 #[] #[{ accessFlags := 25, nameIndex := 354, descriptorIndex := 339, attributes := #[] }, { accessFlags := 25, nameIndex := 358, descriptorIndex := 339, attributes := #[] }, { accessFlags := 25, nameIndex := 361, descriptorIndex := 339, attributes := #[] }, { accessFlags := 26, nameIndex := 364, descriptorIndex := 339, attributes := #[] }, { accessFlags := 26, nameIndex := 365, descriptorIndex := 339, attributes := #[] }, { accessFlags := 26, nameIndex := 172, descriptorIndex := 173, attributes := #[] }, { accessFlags := 26, nameIndex := 176, descriptorIndex := 173, attributes := #[] }, { accessFlags := 8, nameIndex := 344, descriptorIndex := 339, attributes := #[] }, { accessFlags := 8, nameIndex := 338, descriptorIndex := 339, attributes := #[] }, { accessFlags := 4120, nameIndex := 245, descriptorIndex := 246, attributes := #[] }])
  fields := #[{ name := "E", type := .double, accessFlags := 25, slot := 0, constantValue := 0 }, { name := "PI", type := .double, accessFlags := 25, slot := 1, constantValue := 0 }, { name := "TAU", type := .double, accessFlags := 25, slot := 2, constantValue := 0 }, { name := "DEGREES_TO_RADIANS", type := .double, accessFlags := 26, slot := 3, constantValue := 0 }, { name := "RADIANS_TO_DEGREES", type := .double, accessFlags := 26, slot := 4, constantValue := 0 }, { name := "negativeZeroFloatBits", type := .long, accessFlags := 26, slot := 5, constantValue := 0 }, { name := "negativeZeroDoubleBits", type := .long, accessFlags := 26, slot := 6, constantValue := 0 }, { name := "twoToTheDoubleScaleUp", type := .double, accessFlags := 8, slot := 7, constantValue := 0 }, { name := "twoToTheDoubleScaleDown", type := .double, accessFlags := 8, slot := 8, constantValue := 0 }, { name := "$assertionsDisabled", type := .boolean, accessFlags := 4120, slot := 9, constantValue := 0 }]
  methods := #[k2m0, k2m1, k2m2]
  instanceTypes := #[]
  staticTypes := #[.double, .double, .double, .double, .double, .long, .long, .double, .double, .boolean]
  resolved := Array.replicate 460 none
  statics := none }

def pool3 : Array CpInfo := pool [(1, .methodref 2 3), (0, .class_ 4), (0, .nameAndType 5 6), (0, u "java/lang/Object"), (0, u "<init>"), (0, u "()V"), (0, .fieldref 8 9), (0, .class_ 10), (0, .nameAndType 11 12), (0, u "com/example/stylewright/stylewright/xslt/ImportPrecedence"), (0, u "rank"), (0, u "I"), (0, .fieldref 8 14), (0, .nameAndType 15 12), (0, u "lowestImported"), (0, u "(II)V"), (4, u "imports"), (0, u "(Lcom/example/stylewright/stylewright/xslt/ImportPrecedence;)Z")] 3

def k3c0 : Code := { maxStack := 2, maxLocals := 3, code := prog_181_method_1_code, exceptionTable := #[], attributes := #[] }
def k3m0 : Method := { name := "<init>", desc := "(II)V", sig := { parameters := [.int, .int], returnType := none }, accessFlags := 0, code := some k3c0 }
def k3c1 : Code := { maxStack := 2, maxLocals := 2, code := prog_181_method_3_code, exceptionTable := #[], attributes := #[] }
def k3m1 : Method := { name := "imports", desc := "(Lcom/example/stylewright/stylewright/xslt/ImportPrecedence;)Z", sig := { parameters := [(.object "com/example/stylewright/stylewright/xslt/ImportPrecedence")], returnType := some .boolean }, accessFlags := 0, code := some k3c1 }
/-- com/example/stylewright/stylewright/xslt/ImportPrecedence -/
def k3 : Class := { plain "com/example/stylewright/stylewright/xslt/ImportPrecedence" (some 0) with
  accessFlags := 48
  interfaces := #[]
  cf := some (fileOf pool3 8 #[] #[{ accessFlags := 0, nameIndex := 5, descriptorIndex := 16, attributes := #[] }, { accessFlags := 0, nameIndex := 21, descriptorIndex := 22, attributes := #[] }] 48 2 #[] #[{ accessFlags := 18, nameIndex := 11, descriptorIndex := 12, attributes := #[] }, { accessFlags := 18, nameIndex := 15, descriptorIndex := 12, attributes := #[] }])
  fields := #[{ name := "rank", type := .int, accessFlags := 18, slot := 0, constantValue := 0 }, { name := "lowestImported", type := .int, accessFlags := 18, slot := 1, constantValue := 0 }]
  methods := #[k3m0, k3m1]
  instanceTypes := #[.int, .int]
  staticTypes := #[]
  resolved := Array.replicate 26 none
  statics := none }

def pool4 : Array CpInfo := pool [(1, u "java/lang/Cloneable"), (0, .class_ 1), (0, u "java/lang/Object"), (0, .class_ 3)] 3

/-- java/lang/Cloneable -/
def k4 : Class := { plain "java/lang/Cloneable" (some 0) with
  accessFlags := 1537
  interfaces := #[]
  cf := some (fileOf pool4 2 #[] #[] 1537 4 #[] #[])
  fields := #[]
  methods := #[]
  instanceTypes := #[]
  staticTypes := #[]
  resolved := Array.replicate 8 none
  statics := none }

def pool5 : Array CpInfo := pool [(1, u "java/io/Serializable"), (0, .class_ 1), (0, u "java/lang/Object"), (0, .class_ 3)] 3

/-- java/io/Serializable -/
def k5 : Class := { plain "java/io/Serializable" (some 0) with
  accessFlags := 1537
  interfaces := #[]
  cf := some (fileOf pool5 2 #[] #[] 1537 4 #[] #[])
  fields := #[]
  methods := #[]
  instanceTypes := #[]
  staticTypes := #[]
  resolved := Array.replicate 8 none
  statics := none }

/-- the primitive byte -/
def k6 : Class := { plain "byte" none with kind := .primitive 'B', accessFlags := 0x411 }
/-- [B -/
def k7 : Class := { plain "[B" (some 0) with kind := .array 6 .byte, interfaces := #[4, 5], accessFlags := 1041 }

/-- the primitive int -/
def k8 : Class := { plain "int" none with kind := .primitive 'I', accessFlags := 0x411 }
/-- [I -/
def k9 : Class := { plain "[I" (some 0) with kind := .array 8 .int, interfaces := #[4, 5], accessFlags := 1041 }

def heap : Heap := #[]
def classes : Array Class := #[k0, k1, k2, k3, k4, k5, k6, k7, k8, k9]
def interned : List (Array UInt16 × Addr) := []
def slotsUsed : Nat := 0
def theMethod : MethodId := ⟨1, 1⟩
def args0 : Array Value := #[.int 5, .int 3, .int 4, .int 2, .int 1]
def aboutOver (below : List Frame) : State where
  vm := { classes := classes, interned := interned.toArray }
  heap := heap
  slotsUsed := slotsUsed
  threads := #[{ frames := .invoking theMethod args0 :: below }]
def below0 : List Frame := [.native { method := ⟨0, 0⟩, args := #[] }]
def about1 : State := aboutOver below0
def p0 : Program := .bare "" "" ""
def e0 : Env := launch0.env 0 0 0
theorem w_frames : about1.frames = Frame.invoking theMethod args0 :: below0 := rfl
set_option maxRecDepth 65536 in
theorem w_args : argsFit about1.vm theMethod args0 = true := by decide +kernel
set_option maxRecDepth 65536 in
theorem w_heap : heapFits about1 = true := by decide +kernel
set_option maxRecDepth 65536 in
theorem w_runnable : about1.curStatus? = some .runnable := by decide +kernel
set_option maxRecDepth 65536 in
theorem w_alone : about1.alone = true := by decide +kernel
set_option maxRecDepth 65536 in
theorem w_named : about1.methodNamed? x = some theMethod := by decide +kernel
set_option maxRecDepth 65536 in
theorem w_hears : about1.hears theMethod below0 = true := by decide +kernel
set_option maxRecDepth 65536 in
theorem w_ripe : about1.ripe theMethod args0 below0 = true := by decide +kernel
theorem w_running : about1.status = .running := rfl
set_option maxRecDepth 65536 in
theorem w_room : about1.hasRoom e0.platform room_1 = true :=
  launch0.hasRoom_least _ room_1 (by decide +kernel) (by decide +kernel) (by decide +kernel) (by decide +kernel) (by decide +kernel) (by decide +kernel)
theorem allAtoms_all (ts : List Jvm.Cond) (a : Array Jvm.Value) (st : Jvm.State) : (allAtoms ts).before a st = ts.all (fun c => c.before a st) := by
  induction ts with
  | nil => rfl
  | cons c t ih =>
    show (Jvm.Cond.and c (allAtoms t)).before a st = _
    rw [Jvm.Cond.before_and, ih, List.all_cons]
def words1 : List Jvm.Cond := Jvm.Cond.code x code maxLocals ret :: tables_1
/-- a 'code' word, met by the world's own term for the bytes: nothing is compared byte by byte -/
theorem code_word {y : MethodName} {bytes : ByteArray} {mx : Nat} {rt : Option FieldType} {a : Array Value} {s : State} {m : MethodId} {meth : Method} {c : Code} (h1 : s.methodNamed? y = some m) (h2 : s.vm.method? m = some meth) (h3 : meth.code = some c) (h4 : c.code = bytes)
    (h5 : (c.maxLocals == mx && c.exceptionTable.isEmpty && decide (c.maxStack ≤ mostOperands) && decide (meth.sig.returnType = rt) && !meth.locks && decide (parseMethodDescriptor y.desc = some meth.sig)) = true) : (Jvm.Cond.code y bytes mx rt).before a s = true := by
  simp only [Bool.and_eq_true, beq_iff_eq, Bool.not_eq_true', decide_eq_true_eq] at h5
  obtain ⟨⟨⟨⟨⟨g1, g2⟩, g3⟩, g4⟩, g5⟩, g6⟩ := h5
  simp [Cond.before, Cond.holds, Cond.value, h1, h2, h3, h4, g1, g2, g3, g4, g5, g6]
def isCode : Jvm.Cond → Bool
  | .code _ _ _ _ => true
  | _ => false
theorem all_split {L : List Jvm.Cond} {P : Jvm.Cond → Bool} (h1 : L.all (fun c => isCode c || P c) = true) (h2 : ∀ c ∈ L.filter isCode, P c = true) : L.all P = true := by
  refine List.all_eq_true.mpr fun c hc => ?_
  have h := List.all_eq_true.mp h1 c hc
  rcases Bool.eq_false_or_eq_true (isCode c) with hi | hi
  · exact h2 c (List.mem_filter.mpr ⟨hc, hi⟩)
  · simpa [hi] using h
set_option maxRecDepth 65536 in
theorem w_c0 : (Jvm.Cond.code x code maxLocals ret).before args0 about1 = true := code_word (m := ⟨1, 1⟩) (meth := k1m1) (c := k1c1) (by decide +kernel) rfl rfl rfl (by decide +kernel)
set_option maxRecDepth 65536 in
theorem w_c1 : (Jvm.Cond.code ({ cls := "java/lang/Math", name := "max", desc := "(II)I" } : Jvm.MethodName) jdk_29_method_65_code (2 : Nat) (Option.some Jvm.ClassFile.FieldType.int)).before args0 about1 = true := code_word (m := ⟨2, 1⟩) (meth := k2m1) (c := k2c1) (by decide +kernel) rfl rfl rfl (by decide +kernel)
set_option maxRecDepth 65536 in
theorem w_c2 : (Jvm.Cond.code ({ cls := "java/lang/Math", name := "min", desc := "(II)I" } : Jvm.MethodName) jdk_29_method_69_code (2 : Nat) (Option.some Jvm.ClassFile.FieldType.int)).before args0 about1 = true := code_word (m := ⟨2, 2⟩) (meth := k2m2) (c := k2c2) (by decide +kernel) rfl rfl rfl (by decide +kernel)
set_option maxRecDepth 65536 in
theorem w_c3 : (Jvm.Cond.code ({ cls := "com/example/stylewright/stylewright/xslt/ImportPrecedence", name := "<init>", desc := "(II)V" } : Jvm.MethodName) prog_181_method_1_code (3 : Nat) (Option.none : Option Jvm.ClassFile.FieldType)).before args0 about1 = true := code_word (m := ⟨3, 0⟩) (meth := k3m0) (c := k3c0) (by decide +kernel) rfl rfl rfl (by decide +kernel)
set_option maxRecDepth 65536 in
theorem w_c4 : (Jvm.Cond.code ({ cls := "java/lang/Object", name := "<init>", desc := "()V" } : Jvm.MethodName) object_method_1_code (1 : Nat) (Option.none : Option Jvm.ClassFile.FieldType)).before args0 about1 = true := code_word (m := ⟨0, 0⟩) (meth := k0m0) (c := k0c0) (by decide +kernel) rfl rfl rfl (by decide +kernel)
set_option maxRecDepth 65536 in
theorem w_c5 : (Jvm.Cond.code ({ cls := "com/example/stylewright/stylewright/xslt/ImportPrecedence", name := "imports", desc := "(Lcom/example/stylewright/stylewright/xslt/ImportPrecedence;)Z" } : Jvm.MethodName) prog_181_method_3_code (2 : Nat) (Option.some Jvm.ClassFile.FieldType.boolean)).before args0 about1 = true := code_word (m := ⟨3, 1⟩) (meth := k3m1) (c := k3c1) (by decide +kernel) rfl rfl rfl (by decide +kernel)
def codes1 : List Jvm.Cond := [Jvm.Cond.code x code maxLocals ret, Jvm.Cond.code ({ cls := "java/lang/Math", name := "max", desc := "(II)I" } : Jvm.MethodName) jdk_29_method_65_code (2 : Nat) (Option.some Jvm.ClassFile.FieldType.int), Jvm.Cond.code ({ cls := "java/lang/Math", name := "min", desc := "(II)I" } : Jvm.MethodName) jdk_29_method_69_code (2 : Nat) (Option.some Jvm.ClassFile.FieldType.int), Jvm.Cond.code ({ cls := "com/example/stylewright/stylewright/xslt/ImportPrecedence", name := "<init>", desc := "(II)V" } : Jvm.MethodName) prog_181_method_1_code (3 : Nat) (Option.none : Option Jvm.ClassFile.FieldType), Jvm.Cond.code ({ cls := "java/lang/Object", name := "<init>", desc := "()V" } : Jvm.MethodName) object_method_1_code (1 : Nat) (Option.none : Option Jvm.ClassFile.FieldType), Jvm.Cond.code ({ cls := "com/example/stylewright/stylewright/xslt/ImportPrecedence", name := "imports", desc := "(Lcom/example/stylewright/stylewright/xslt/ImportPrecedence;)Z" } : Jvm.MethodName) prog_181_method_3_code (2 : Nat) (Option.some Jvm.ClassFile.FieldType.boolean)]
set_option maxRecDepth 65536 in
theorem codes_eq : words1.filter isCode = codes1 := rfl
theorem w_codes : ∀ c ∈ words1.filter isCode, c.before args0 about1 = true := by
  rw [codes_eq]
  intro c hc
  simp only [codes1, List.mem_cons, List.not_mem_nil, or_false] at hc
  rcases hc with rfl | rfl | rfl | rfl | rfl | rfl
  · exact w_c0
  · exact w_c1
  · exact w_c2
  · exact w_c3
  · exact w_c4
  · exact w_c5
set_option maxRecDepth 65536 in
theorem w_t1 : (words1.take 24).all (fun c => isCode c || c.before args0 about1) = true := by decide +kernel
set_option maxRecDepth 65536 in
theorem w_t2 : (words1.drop 24).all (fun c => isCode c || c.before args0 about1) = true := by decide +kernel
theorem w_tables : (allAtoms (Jvm.Cond.code x code maxLocals ret :: tables_1)).before args0 about1 = true := by
  rw [allAtoms_all]
  show words1.all (fun c => c.before args0 about1) = true
  refine all_split ?_ w_codes
  rw [← List.take_append_drop 24 words1, List.all_append, w_t1, w_t2]
  rfl
set_option maxRecDepth 65536 in
theorem w_case : (Jvm.Cond.and given_1 narrow_1).before args0 about1 = true := by decide +kernel
theorem w_applies : (headSpec (Jvm.Cond.code x code maxLocals ret :: tables_1) room_1).applies x e0.platform about1 = true :=
  (Spec.applies_iff w_frames).mpr ⟨w_running, w_runnable, w_alone, w_named, w_hears, w_ripe, w_room, w_tables⟩
theorem atStart : AtStart classFile x code maxLocals ret World_1 tables_1 room_1 Calls_1 rest_1 Pre_1 launch0 p0 e0 about1 theMethod args0 below0 :=
  ⟨lists_1, trivial, launch0.admits_env _ _ _, launch0.least_env, fairChoices_fair.cas, fairChoices_fair.clock, w_frames, w_args, w_heap, w_applies, trivial, trivial, w_case⟩
end start1
theorem witness_1 : WitnessClaimed_1 := ⟨start1.p0, start1.e0, start1.about1, start1.theMethod, start1.args0, start1.below0, start1.atStart⟩
end Jvm.Pilot.@@N@@
