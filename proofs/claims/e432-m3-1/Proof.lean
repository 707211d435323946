import JvmDerived
import JvmDerived.Pilot.@@N@@Statement
import JvmDerived.Pilot.@@N@@Code
set_option linter.unusedVariables false
set_option linter.unusedSimpArgs false
namespace Jvm.Pilot.@@N@@
open Jvm Jvm.ClassFile Sem Op Lib Jvm.Free Jvm.Stand Jvm.LawKit Jvm.RoadKit Bundle Jvm.Pilot.@@N@@.Jvm.D
/-! own layer: a walk in continuation style. own_Ends: from T with the frame g on top the run comes to an end of which G holds. -/
def own_Fin (below : List Frame) (s : State) (k n : Nat) (Q : Option Value → Heap → List Loc → Prop) (t : State) : Prop :=
  t.status = .running ∧ ∃ o, Ended t below o ∧ ∃ v L, o = .returned v ∧ Q v t.heap L ∧ FrameEnd s o t L k n
def own_Ends (p : Program) (e : Env) (below : List Frame) (G : State → Prop) (T : State) (g : JFrame) : Prop := ∃ t, Steps p.tables e below (T.setTop g) t ∧ G t
theorem own_via {p : Program} {e : Env} {below : List Frame} {G : State → Prop} {T T' : State} {g g' : JFrame} (h : ∀ t, Steps p.tables e below (T'.setTop g') t → Steps p.tables e below (T.setTop g) t) (k : own_Ends p e below G T' g') : own_Ends p e below G T g := by
  obtain ⟨t, a, b⟩ := k; exact ⟨t, h t a, b⟩
abbrev own_Con (l : Launch) (Z : State) (y : MethodName) (code : ByteArray) (ml : Nat) (ret : Option FieldType) (ws : List Jvm.Cond) (rm : Room) (as : Array Value) (h0 : Heap) (Q : Option Value → Heap → List Loc → Prop) : Prop :=
  MetFree l y (head1 (Jvm.Cond.code y code ml ret :: ws) rm) (fun a U => a = as ∧ Z.Warmed39 U.vm ∧ U.heap = h0) (fun _ _ _ _ _ => True) (fun _ U o U' => ∃ v L, o = .returned v ∧ Q v U'.heap L ∧ FrameEnd U o U' L rm.cells rm.slots)
theorem own_body {l : Launch} {Z : State} {y : MethodName} {code : ByteArray} {ml : Nat} {ret : Option FieldType} {ws : List Jvm.Cond} {rm : Room} {as : Array Value} {h0 : Heap} {Q : Option Value → Heap → List Loc → Prop} (hpl : plainFor y = true)
    (H : ∀ (p : Program) (e : Env) (s : State) (m : MethodId) (below : List Frame) (meth : Method) (c : Code) (T : State), p.tables.exec = Jvm.exec → c.code = code → c.maxLocals = ml → s.vm.findClass y.cls = some m.cls → meth.name = y.name → meth.sig.returnType = ret → meth.locks = false → Z.Warmed39 s.vm → Stand p l e rm s m as below meth c T [] 0 0 → T.heap = h0 → own_Ends p e below (own_Fin below s rm.cells rm.slots Q) T (entryFrame m as ml)) : own_Con l Z y code ml ret ws rm as h0 Q := by
  refine MetFree.of_bodySF hpl hisR ?_
  intro p e s m args below meth c s₁ Bd hml0 hP hK
  obtain ⟨rfl, hZ, hh⟩ := hP
  obtain ⟨t, h1, h2, o, h3, h4⟩ := H p e s m below meth c s₁ Bd.exec Bd.bytes hml0 (findClass_of_methodNamed Bd.named) (name_of_methodNamed Bd.named Bd.method).1 Bd.returns Bd.notSynchronized hZ (Stand.of_body Bd) (by rw [← hh, Bd.state]; rfl)
  exact ⟨t, o, h1, h2, h3, h4⟩
section OwnStand
variable {p : Program} {l : Launch} {e : Env} {R : Room} {s : State} {m : MethodId} {args : Array Value} {below : List Frame} {meth : Method} {c : Code} {T : State} {locs : List Loc} {cells slots : Nat} {Z : State} {a0 : Array Value} {h : Heap}
theorem own_leaf (X : Stand p l e R s m args below meth c T locs cells slots) (hlk : meth.locks = false) {v : Option Value} (hv : meth.sig.returnType = none → v = none) {g : JFrame} {k n : Nat} {Q : Option Value → Heap → List Loc → Prop}
    (hst : ∀ fs, (∀ (f : JFrame) (acts : List Action), f.method = m → f.locked = none → f.entered = [] → (doReturn e (T.setTop f) acts v).1 = T.setFrames fs) → Steps p.tables e below (T.setTop g) (T.setFrames fs))
    (hQ : Q v T.heap locs) (hk : cells ≤ k) (hn : slots ≤ n) : own_Ends p e below (own_Fin below s k n Q) T g := by
  obtain ⟨fs, hr, hrun, hended, hW, hsame⟩ := X.leave (v := v) hv hlk
  exact ⟨_, hst fs hr, hrun, _, hended, _, _, rfl, hQ, ⟨_, rfl⟩, hW, hsame.mono hk hn⟩
theorem own_retZ (X : Stand p l e R s m args below meth c T locs cells slots) (hx : p.tables.exec = Jvm.exec) (hret : meth.sig.returnType = some .boolean) (hlk : meth.locks = false) {pc : Nat} {Ls : Array Slot} {z : Int32} {rest : List Value} (hd : decode c.code pc = .ok (.ireturn, 1)) (hz : nar .boolean z = z) {k n : Nat} {Q : Option Value → Heap → List Loc → Prop}
    (hQ : Q (some (.int z)) T.heap locs) (hk : cells ≤ k) (hn : slots ≤ n) : own_Ends p e below (own_Fin below s k n Q) T (mkF m pc Ls (.int z :: rest)) :=
  own_leaf X hlk (fun h => by rw [hret] at h; cases h) (fun fs hl => retN X hx hret (by simp) hd (by rw [hz]; exact hl)) hQ hk hn
theorem own_retI (X : Stand p l e R s m args below meth c T locs cells slots) (hx : p.tables.exec = Jvm.exec) (hret : meth.sig.returnType = some .int) (hlk : meth.locks = false) {pc : Nat} {Ls : Array Slot} {z : Int32} {rest : List Value} (hd : decode c.code pc = .ok (.ireturn, 1)) {k n : Nat} {Q : Option Value → Heap → List Loc → Prop}
    (hQ : Q (some (.int z)) T.heap locs) (hk : cells ≤ k) (hn : slots ≤ n) : own_Ends p e below (own_Fin below s k n Q) T (mkF m pc Ls (.int z :: rest)) :=
  own_leaf X hlk (fun h => by rw [hret] at h; cases h) (fun fs hl => retOut X hx hret rfl (Or.inl ⟨rfl, Or.inl rfl, z, rfl⟩) hd hl) hQ hk hn
theorem own_retJ (X : Stand p l e R s m args below meth c T locs cells slots) (hx : p.tables.exec = Jvm.exec) (hret : meth.sig.returnType = some .long) (hlk : meth.locks = false) {pc : Nat} {Ls : Array Slot} {z : Int64} {rest : List Value} (hd : decode c.code pc = .ok (.lreturn, 1)) {k n : Nat} {Q : Option Value → Heap → List Loc → Prop}
    (hQ : Q (some (.long z)) T.heap locs) (hk : cells ≤ k) (hn : slots ≤ n) : own_Ends p e below (own_Fin below s k n Q) T (mkF m pc Ls (.long z :: rest)) :=
  own_leaf X hlk (fun h => by rw [hret] at h; cases h) (fun fs hl => retOut X hx hret rfl (Or.inr (Or.inl ⟨rfl, rfl, z, rfl⟩)) hd hl) hQ hk hn
theorem own_retA (X : Stand p l e R s m args below meth c T locs cells slots) (hx : p.tables.exec = Jvm.exec) {t : FieldType} (hret : meth.sig.returnType = some t) (ht : t.isReference = true) (hlk : meth.locks = false) {pc : Nat} {Ls : Array Slot} {z : Value} (hz : z.isRef = true) (hn' : narrow t z = z) {rest : List Value} (hd : decode c.code pc = .ok (.areturn, 1)) {k n : Nat} {Q : Option Value → Heap → List Loc → Prop}
    (hQ : Q (some z) T.heap locs) (hk : cells ≤ k) (hn : slots ≤ n) : own_Ends p e below (own_Fin below s k n Q) T (mkF m pc Ls (z :: rest)) :=
  own_leaf X hlk (fun h => by rw [hret] at h; cases h) (fun fs hl => retOut X hx hret hn' (Or.inr (Or.inr (Or.inr (Or.inr ⟨rfl, ht, hz⟩)))) hd hl) hQ hk hn
theorem own_retV (X : Stand p l e R s m args below meth c T locs cells slots) (hx : p.tables.exec = Jvm.exec) (hret : meth.sig.returnType = none) (hlk : meth.locks = false) {pc : Nat} {Ls : Array Slot} (hd : decode c.code pc = .ok (.return_, 1)) {k n : Nat} {Q : Option Value → Heap → List Loc → Prop}
    (hQ : Q none T.heap locs) (hk : cells ≤ k) (hn : slots ≤ n) : own_Ends p e below (own_Fin below s k n Q) T (mkF m pc Ls []) :=
  own_leaf X hlk (fun _ => rfl) (fun fs hl => X.returnOut hx hret hd hl) hQ hk hn
theorem own_callS (X : Stand p l e R s m args below meth c T locs cells slots) (hx : p.tables.exec = Jvm.exec) (hZ : Z.Warmed39 s.vm) {own : String} {index : Nat} {y : MethodName} {bytes : ByteArray} {ml : Nat} {ret : Option FieldType} {rm : Room} {Q : Option Value → Heap → List Loc → Prop} {W : Nat} (hown : s.vm.findClass own = some m.cls)
    (w1 : (Jvm.Cond.methodLink own index y).before a0 Z = true) (w2 : (Jvm.Cond.static y).before a0 Z = true) (w3 : (Jvm.Cond.initialized y.cls).before a0 Z = true) (w4 : (Jvm.Cond.code y bytes ml ret).before a0 Z = true) (hy : y.cls ≠ "java/lang/invoke/MethodHandle" ∧ y.cls ≠ "java/lang/invoke/VarHandle") {argsL rest : List Value}
    (hM : own_Con l Z y bytes ml ret [] rm argsL.toArray h Q) (hf : rm.frames + 1 ≤ R.frames) (hl : W + (ml + 11) + rm.locals ≤ R.locals) (hc : cells + rm.cells ≤ R.cells) (hn : slots + rm.slots ≤ R.slots) (eT : T.heap = h)
    {g : JFrame} (hg : g.method = m) (hsize : g.locals.size = c.maxLocals) (hlen : ∀ sig, parseMethodDescriptor y.desc = some sig → argsL.length = sig.parameters.length) (hstack : g.stack = argsL.reverse ++ rest) (hW : 2 * g.monitorRoom + (rest.map fun v => v.category).sum ≤ W) (hd : decode c.code g.pc = .ok (.invokestatic index, 3)) :
    ∃ v T' L, Stand p l e R s m args below meth c T' (locs ++ L) (cells + rm.cells) (slots + rm.slots) ∧ Q v T'.heap L ∧ ∀ t, Steps p.tables e below (T'.setTop { g with pc := g.pc + 3, stack := v.toList ++ rest }) t → Steps p.tables e below (T.setTop g) t := by
  obtain ⟨v, vm₁, ⟨T', L', k', n'⟩, -, X', ⟨L, hQ, e1, e2, e3⟩, st⟩ := Jvm.LawKit.callS X hx (y := y) hown (mvT hZ w1) (mvT hZ w2) (mvT hZ w3) (mvT hZ w4) hy (backOf (W := W) hM hZ w4 w3 hf hl) hg hsize (argsL := argsL) (rest := rest) hlen hstack hW hd (fun _ _ => ⟨rfl, eT, hc, hn⟩)
  dsimp only [Pt.U, Pt.locs, Pt.cells, Pt.slots] at X' e1 e2 e3 st hQ
  subst e1 e2 e3
  exact ⟨v, T', L, X', hQ, st⟩
theorem own_callV (X : Stand p l e R s m args below meth c T locs cells slots) (hx : p.tables.exec = Jvm.exec) (hZ : Z.Warmed39 s.vm) {own C : String} {index : Nat} {y z : MethodName} {bytes : ByteArray} {ml : Nat} {ret : Option FieldType} {rm : Room} {Q : Option Value → Heap → List Loc → Prop} {W : Nat} (hown : s.vm.findClass own = some m.cls)
    (w1 : (Jvm.Cond.methodLink own index y).before a0 Z = true) (w2 : (Jvm.Cond.declares y).before a0 Z = true) (nf : NotFace s y) (w3 : (Jvm.Cond.selects C y z).before a0 Z = true) (w4 : (Jvm.Cond.instanceMethod z).before a0 Z = true) (wz : (Jvm.Cond.initialized z.cls).before a0 Z = true) (wc : (Jvm.Cond.code z bytes ml ret).before a0 Z = true) (hy : y.cls ≠ "java/lang/invoke/MethodHandle" ∧ y.cls ≠ "java/lang/invoke/VarHandle") {b : Addr} {argsL rest : List Value}
    (hM : own_Con l Z z bytes ml ret [] rm (.ref b :: argsL).toArray h Q) (hf : rm.frames + 1 ≤ R.frames) (hl : W + (ml + 11) + rm.locals ≤ R.locals) (hc : cells + rm.cells ≤ R.cells) (hn : slots + rm.slots ≤ R.slots) (eT : T.heap = h) (E : Exa Z h b C)
    {g : JFrame} (hg : g.method = m) (hsize : g.locals.size = c.maxLocals) (hlen : ∀ sig, parseMethodDescriptor y.desc = some sig → argsL.length = sig.parameters.length) (hstack : g.stack = argsL.reverse ++ .ref b :: rest) (hW : 2 * g.monitorRoom + (rest.map fun v => v.category).sum ≤ W) (hd : decode c.code g.pc = .ok (.invokevirtual index, 3)) :
    ∃ v T' L, Stand p l e R s m args below meth c T' (locs ++ L) (cells + rm.cells) (slots + rm.slots) ∧ Q v T'.heap L ∧ ∀ t, Steps p.tables e below (T'.setTop { g with pc := g.pc + 3, stack := v.toList ++ rest }) t → Steps p.tables e below (T.setTop g) t := by
  obtain ⟨cq, kq, q1, q2, q3⟩ := isOf hZ eT E
  obtain ⟨v, vm₁, ⟨T', L', k', n'⟩, -, X', ⟨L, hQ, e1, e2, e3⟩, st⟩ := X.virtualBack hx (y := y) (z := z) hown (mvT hZ w1) (mvT hZ w2) nf (mvT hZ w3) (mvT hZ w4) hy (backOf (W := W) hM hZ wc wz hf hl) q1 q3 hg hsize (Steps.refl _) (argsL := argsL) (rest := rest) hlen hstack hW hd (fun _ _ => ⟨rfl, eT, hc, hn⟩)
  dsimp only [Pt.U, Pt.locs, Pt.cells, Pt.slots] at X' e1 e2 e3 st hQ
  subst e1 e2 e3
  exact ⟨v, T', L, X', hQ, fun t k => st.trans k⟩
theorem own_callI (X : Stand p l e R s m args below meth c T locs cells slots) (hx : p.tables.exec = Jvm.exec) (hZ : Z.Warmed39 s.vm) {own : String} {index : Nat} {y : MethodName} (hy1 : y.name = "<init>") {bytes : ByteArray} {ml : Nat} {rm : Room} {Q : Option Value → Heap → List Loc → Prop} {W : Nat} (hown : s.vm.findClass own = some m.cls)
    (w1 : (Jvm.Cond.methodLink own index y).before a0 Z = true) (w2 : (Jvm.Cond.instanceMethod y).before a0 Z = true) (wz : (Jvm.Cond.initialized y.cls).before a0 Z = true) (wc : (Jvm.Cond.code y bytes ml none).before a0 Z = true) (hy : y.cls ≠ "java/lang/invoke/MethodHandle" ∧ y.cls ≠ "java/lang/invoke/VarHandle") {b : Addr} {argsL rest : List Value}
    (hM : own_Con l Z y bytes ml none [] rm (.ref b :: argsL).toArray h Q) (hf : rm.frames + 1 ≤ R.frames) (hl : W + (ml + 11) + rm.locals ≤ R.locals) (hc : cells + rm.cells ≤ R.cells) (hn : slots + rm.slots ≤ R.slots) (eT : T.heap = h)
    {g : JFrame} (hg : g.method = m) (hsize : g.locals.size = c.maxLocals) (hlen : ∀ sig, parseMethodDescriptor y.desc = some sig → argsL.length = sig.parameters.length) (hstack : g.stack = argsL.reverse ++ .ref b :: rest) (hW : 2 * g.monitorRoom + (rest.map fun v => v.category).sum ≤ W) (hd : decode c.code g.pc = .ok (.invokespecial index, 3)) :
    ∃ v T' L, Stand p l e R s m args below meth c T' (locs ++ L) (cells + rm.cells) (slots + rm.slots) ∧ Q v T'.heap L ∧ ∀ t, Steps p.tables e below (T'.setTop { g with pc := g.pc + 3, stack := v.toList ++ rest }) t → Steps p.tables e below (T.setTop g) t := by
  obtain ⟨v, vm₁, ⟨T', L', k', n'⟩, -, X', ⟨L, hQ, e1, e2, e3⟩, st⟩ := X.specialBack hx (y := y) hy1 hown (mvT hZ w1) (mvT hZ w2) (mvT hZ wc) hy (backOf (W := W) hM hZ wc wz hf hl) hg hsize (Steps.refl _) (a := b) (argsL := argsL) (rest := rest) hlen hstack hW hd (fun _ _ => ⟨rfl, eT, hc, hn⟩)
  dsimp only [Pt.U, Pt.locs, Pt.cells, Pt.slots] at X' e1 e2 e3 st hQ
  subst e1 e2 e3
  exact ⟨v, T', L, X', hQ, fun t k => st.trans k⟩
theorem own_callU (X : Stand p l e R s m args below meth c T locs cells slots) (hx : p.tables.exec = Jvm.exec) (hZ : Z.Warmed39 s.vm) {own C owner : String} {index : Nat} {y z : MethodName} {bytes : ByteArray} {ml : Nat} {ret : Option FieldType} {rm : Room} {Q : Option Value → Heap → List Loc → Prop} {W : Nat} (hown : s.vm.findClass own = some m.cls)
    (w1 : (Jvm.Cond.methodLink own index y).before a0 Z = true) (w2 : (Jvm.Cond.sameMethod y.cls owner y.name y.desc).before a0 Z = true) (w2' : (Jvm.Cond.declares ⟨owner, y.name, y.desc⟩).before a0 Z = true) (w3 : (Jvm.Cond.selects C y z).before a0 Z = true) (w4 : (Jvm.Cond.instanceMethod z).before a0 Z = true) (wz : (Jvm.Cond.initialized z.cls).before a0 Z = true) (wc : (Jvm.Cond.code z bytes ml ret).before a0 Z = true) (hy : owner ≠ "java/lang/invoke/MethodHandle" ∧ owner ≠ "java/lang/invoke/VarHandle") {b : Addr} {argsL rest : List Value}
    (hM : own_Con l Z z bytes ml ret [] rm (.ref b :: argsL).toArray h Q) (hf : rm.frames + 1 ≤ R.frames) (hl : W + (ml + 11) + rm.locals ≤ R.locals) (hc : cells + rm.cells ≤ R.cells) (hn : slots + rm.slots ≤ R.slots) (eT : T.heap = h) (E : Exa Z h b C)
    {g : JFrame} (hg : g.method = m) (hsize : g.locals.size = c.maxLocals) (hlen : ∀ sig, parseMethodDescriptor y.desc = some sig → argsL.length = sig.parameters.length) (hstack : g.stack = argsL.reverse ++ .ref b :: rest) (hW : 2 * g.monitorRoom + (rest.map fun v => v.category).sum ≤ W) (hd : decode c.code g.pc = .ok (.invokevirtual index, 3)) :
    ∃ v T' L, Stand p l e R s m args below meth c T' (locs ++ L) (cells + rm.cells) (slots + rm.slots) ∧ Q v T'.heap L ∧ ∀ t, Steps p.tables e below (T'.setTop { g with pc := g.pc + 3, stack := v.toList ++ rest }) t → Steps p.tables e below (T.setTop g) t := by
  obtain ⟨cq, kq, q1, q2, q3⟩ := isOf hZ eT E
  obtain ⟨v, vm₁, ⟨T', L', k', n'⟩, -, X', ⟨L, hQ, e1, e2, e3⟩, st⟩ := X.virtualBackUp hx (x := y) (y := z) hown (mvT hZ w1) (mvT hZ w2) (mvT hZ w2') hy (mvT hZ w3) (mvT hZ w4) (backOf (W := W) hM hZ wc wz hf hl) q1 q3 hg hsize (Steps.refl _) (argsL := argsL) (rest := rest) hlen hstack hW hd (fun _ _ => ⟨rfl, eT, hc, hn⟩)
  dsimp only [Pt.U, Pt.locs, Pt.cells, Pt.slots] at X' e1 e2 e3 st hQ
  subst e1 e2 e3
  exact ⟨v, T', L, X', hQ, fun t k => st.trans k⟩
/-- a callee that writes nothing and makes nothing: it returns r -/
abbrev own_Pure (l : Launch) (Z : State) (y : MethodName) (code : ByteArray) (ml : Nat) (ret : Option FieldType) (ws : List Jvm.Cond) (rm : Room) (as : Array Value) (h0 : Heap) (r : Option Value) : Prop := own_Con l Z y code ml ret ws rm as h0 (fun v h L => v = r ∧ L = [] ∧ h = h0)
theorem own_pure {c0 : Code} {T' : State} {v r : Option Value} {L : List Loc} {kc ks : Nat} (X : Stand p l e R s m args below meth c0 T' (locs ++ L) (cells + kc) (slots + ks)) (h1 : kc = 0) (h2 : ks = 0) (hL : L = []) : Stand p l e R s m args below meth c0 T' locs cells slots := by
  subst h1 h2 hL; rw [List.append_nil] at X; exact X
end OwnStand
theorem own_stat {s : State} {args : Array Value} {C C' f d : String} (hx : (Jvm.Cond.exactly (.static C f d) C').value args s none s [] = some true) (wi : (Jvm.Cond.initialized C).before args s = true) (wl : (Jvm.Cond.laysStatic C f d).before args s = true) :
    ∃ x, (Term.static C f d).eval args s none [] s = some (.ref x) ∧ Sta s s.heap C f d (.ref x) ∧ Exa s s.heap x C' := by
  obtain ⟨x, ev⟩ := exa_v hx
  exact ⟨x, ev, Sta.start ev (Or.inr ⟨wi, wl⟩), Exa.start ev hx⟩
theorem own_ord {s : State} {args : Array Value} {t : Term} {x : Addr} {C n d : String} {k : Int32} (ev : t.eval args s none [] s = some (.ref x)) (hk : (Jvm.Cond.eq (.field t C n d) (.int k)).value args s none s [] = some true) : Fld s s.heap x C n d (.int k) := by
  refine Fld.start ((fld_at ev).symm.trans ?_)
  obtain ⟨u, v, h1, h2, -, h4⟩ := cmp_v (Or.inl hk)
  obtain rfl : v = .int k := (Option.some.inj ((Term.int_eval k).symm.trans h2)).symm
  obtain ⟨z, rfl⟩ := h4
  simp [Cond.value, h1, h2] at hk
  subst hk
  exact h1
theorem own_ne {x y : Nat} (h : x < y ∨ y < x) : x ≠ y := by omega
theorem own_nat {y : Int32} {c : Nat} (h0 : 0 ≤ y.toInt) (h1 : y.toInt < c) : ∃ n : Nat, n < c ∧ y = Int32.ofNat n := by
  have := y.toInt_lt
  exact ⟨y.toInt.toNat, by omega, Int32.toInt_inj.mp (by rw [toInt_of (c := y.toInt.toNat) rfl (by omega)]; omega)⟩
theorem own_ofNat {n : Nat} (h : n < 2 ^ 31) : (Int32.ofNat n).toInt = n := toInt_of rfl h
/-! own layer: arrays by their length and a function of the place -/
def own_Ar (Z : State) (h : Heap) (a : Addr) (ty : FieldType) (n : Nat) (f : Nat → Value) : Prop := ∃ c : Cell, Arr Z h a c ty ∧ c.slots.size = n ∧ n < 2 ^ 31 ∧ ∀ i, i < n → c.slots[i]? = some (f i)
def own_up (f : Nat → Value) (i : Nat) (v : Value) : Nat → Value := fun k => if k = i then v else f k
section OwnArr
variable {p : Program} {l : Launch} {e : Env} {R : Room} {s : State} {m : MethodId} {args : Array Value} {below : List Frame} {meth : Method} {c : Code} {T : State} {locs : List Loc} {cells slots : Nat} {Z : State} {a0 : Array Value} {h h' : Heap} {a b : Addr} {ty : FieldType} {n i : Nat} {f f' : Nat → Value} {v : Value} {sl : Nat} {ws : List Addr} {j : Int32}
theorem own_Ar.lt (A : own_Ar Z h a ty n f) : a < h.size := by obtain ⟨c, A, -⟩ := A; exact A.lt
theorem own_Ar.ext (A : own_Ar Z h a ty n f) (E : Ext h h') : own_Ar Z h' a ty n f := by obtain ⟨c, A, r⟩ := A; exact ⟨c, A.ext E, r⟩
theorem own_Ar.other (A : own_Ar Z h b ty n f) (W : Wr h h' a sl v) (q : b ≠ a) : own_Ar Z h' b ty n f := by obtain ⟨c, A, r⟩ := A; exact ⟨c, A.other W q, r⟩
theorem own_Ar.keep (A : own_Ar Z h a ty n f) (K : Keep h h' ws) (q : a ∉ ws) : own_Ar Z h' a ty n f := by obtain ⟨c, A, r⟩ := A; exact ⟨c, ⟨K.2.1 a c A.1 q, A.2⟩, r⟩
theorem own_Ar.congr (A : own_Ar Z h a ty n f) (q : ∀ i, i < n → f i = f' i) : own_Ar Z h a ty n f' := by obtain ⟨c, A, r1, r2, r3⟩ := A; exact ⟨c, A, r1, r2, fun i hi => by rw [← q i hi]; exact r3 i hi⟩
theorem own_Ar.set (A : own_Ar Z h a ty n f) (W : Wr h h' a i v) : own_Ar Z h' a ty n (own_up f i v) := by
  obtain ⟨c, A, r1, r2, r3⟩ := A
  refine ⟨_, A.same W, by rw [sz_set]; exact r1, r2, fun k hk => ?_⟩
  by_cases q : k = i
  · subst q; simp [Cell.setSlot, own_up, r1, hk]
  · rw [show (c.setSlot i v).slots[k]? = c.slots[k]? from Array.getElem?_setIfInBounds_ne (Ne.symm q), r3 k hk]; simp [own_up, q]
theorem own_Ar.read (A : own_Ar Z h a ty n f) (hj : j = Int32.ofNat i) (hi : i < n) : ∃ c : Cell, Arr Z h a c ty ∧ ¬ (j < 0 ∨ c.slots.size ≤ j.toNatClampNeg) ∧ c.slots[j.toNatClampNeg]? = some (f i) ∧ j.toNatClampNeg = i := by
  obtain ⟨c, A, r1, r2, r3⟩ := A
  have q : j.toNatClampNeg = i := clamp_of hj (by omega)
  refine ⟨c, A, ?_, by rw [q]; exact r3 i hi, q⟩
  rw [r1]; exact within hj hi r2
theorem own_iaload (X : Stand p l e R s m args below meth c T locs cells slots) (hx : p.tables.exec = Jvm.exec) (hZ : Z.Warmed39 s.vm) (eT : T.heap = h) (A : own_Ar Z h a .int n f) (hj : j = Int32.ofNat i) (hi : i < n) {g : JFrame} (hg : g.method = m) {rest : List Value} (hs : g.stack = .int j :: .ref a :: rest) (hd : decode c.code g.pc = .ok (.iaload, 1)) :
    ∀ t, Steps p.tables e below (T.setTop { g with pc := g.pc + 1, stack := f i :: rest }) t → Steps p.tables e below (T.setTop g) t := fun t k => by
  obtain ⟨cl, A, hin, hat, -⟩ := A.read hj hi
  exact X.iaload hx (by rw [eT]; exact A.1) (State.isArrayOf_alike hZ.alike A.2.1) A.2.2 hin hat hg hs hd t k
theorem own_laload (X : Stand p l e R s m args below meth c T locs cells slots) (hx : p.tables.exec = Jvm.exec) (hZ : Z.Warmed39 s.vm) (eT : T.heap = h) (A : own_Ar Z h a .long n f) (hj : j = Int32.ofNat i) (hi : i < n) {g : JFrame} (hg : g.method = m) {rest : List Value} (hs : g.stack = .int j :: .ref a :: rest) (hd : decode c.code g.pc = .ok (.laload, 1)) :
    ∀ t, Steps p.tables e below (T.setTop { g with pc := g.pc + 1, stack := f i :: rest }) t → Steps p.tables e below (T.setTop g) t := fun t k => by
  obtain ⟨cl, A, hin, hat, -⟩ := A.read hj hi
  exact X.laload hx (by rw [eT]; exact A.1) (State.isArrayOf_alike hZ.alike A.2.1) A.2.2 hin hat hg hs hd t k
theorem own_baloadB (X : Stand p l e R s m args below meth c T locs cells slots) (hx : p.tables.exec = Jvm.exec) (hZ : Z.Warmed39 s.vm) (eT : T.heap = h) (A : own_Ar Z h a .byte n f) (hj : j = Int32.ofNat i) (hi : i < n) {g : JFrame} (hg : g.method = m) {rest : List Value} (hs : g.stack = .int j :: .ref a :: rest) (hd : decode c.code g.pc = .ok (.baload, 1)) :
    ∀ t, Steps p.tables e below (T.setTop { g with pc := g.pc + 1, stack := f i :: rest }) t → Steps p.tables e below (T.setTop g) t := fun t k => by
  obtain ⟨cl, A, hin, hat, -⟩ := A.read hj hi
  exact X.baloadBytes hx (by rw [eT]; exact A.1) (State.isArrayOf_alike hZ.alike A.2.1) A.2.2 hin hat hg hs hd t k
theorem own_baloadZ (X : Stand p l e R s m args below meth c T locs cells slots) (hx : p.tables.exec = Jvm.exec) (hZ : Z.Warmed39 s.vm) (eT : T.heap = h) (A : own_Ar Z h a .boolean n f) (hj : j = Int32.ofNat i) (hi : i < n) {g : JFrame} (hg : g.method = m) {rest : List Value} (hs : g.stack = .int j :: .ref a :: rest) (hd : decode c.code g.pc = .ok (.baload, 1)) :
    ∀ t, Steps p.tables e below (T.setTop { g with pc := g.pc + 1, stack := f i :: rest }) t → Steps p.tables e below (T.setTop g) t := fun t k => by
  obtain ⟨cl, A, hin, hat, -⟩ := A.read hj hi
  exact X.baloadBooleans hx (by rw [eT]; exact A.1) (State.isArrayOf_alike hZ.alike A.2.1) A.2.2 hin hat hg hs hd t k
theorem own_aaload (X : Stand p l e R s m args below meth c T locs cells slots) (hx : p.tables.exec = Jvm.exec) (hZ : Z.Warmed39 s.vm) (eT : T.heap = h) (A : own_Ar Z h a ty n f) (hty : ty.isReference = true) (hj : j = Int32.ofNat i) (hi : i < n) {g : JFrame} (hg : g.method = m) {rest : List Value} (hs : g.stack = .int j :: .ref a :: rest) (hd : decode c.code g.pc = .ok (.aaload, 1)) :
    ∀ t, Steps p.tables e below (T.setTop { g with pc := g.pc + 1, stack := f i :: rest }) t → Steps p.tables e below (T.setTop g) t := fun t k => by
  obtain ⟨cl, A, hin, hat, -⟩ := A.read hj hi
  exact X.aaload hx (by rw [eT]; exact A.1) (State.isArrayOf_alike hZ.alike A.2.1) hty A.2.2 hin hat hg hs hd t k
theorem own_alen (X : Stand p l e R s m args below meth c T locs cells slots) (hx : p.tables.exec = Jvm.exec) (hZ : Z.Warmed39 s.vm) (eT : T.heap = h) (A : own_Ar Z h a ty n f) {g : JFrame} (hg : g.method = m) {rest : List Value} (hs : g.stack = .ref a :: rest) (hd : decode c.code g.pc = .ok (.arraylength, 1)) :
    ∀ t, Steps p.tables e below (T.setTop { g with pc := g.pc + 1, stack := .int (Int32.ofNat n) :: rest }) t → Steps p.tables e below (T.setTop g) t := fun t k => by
  obtain ⟨cl, A, r1, -, -⟩ := A
  subst r1
  exact X.arraylength hx (by rw [eT]; exact A.1) (State.isArrayOf_alike hZ.alike A.2.1) hg hs hd t k
theorem own_iastore (X : Stand p l e R s m args below meth c T locs cells slots) (hx : p.tables.exec = Jvm.exec) (hZ : Z.Warmed39 s.vm) (eT : T.heap = h) (A : own_Ar Z h a .int n f) (hj : j = Int32.ofNat i) (hi : i < n) {x : Int32} {g : JFrame} (hg : g.method = m) {rest : List Value} (hs : g.stack = .int x :: .int j :: .ref a :: rest) (hd : decode c.code g.pc = .ok (.iastore, 1)) :
    ∃ T' h', Stand p l e R s m args below meth c T' (locs ++ [⟨a, i⟩]) cells slots ∧ T'.heap = h' ∧ Wr h h' a i (.int x) ∧ own_Ar Z h' a .int n (own_up f i (.int x)) ∧ ∀ t, Steps p.tables e below (T'.setTop { g with pc := g.pc + 1, stack := rest }) t → Steps p.tables e below (T.setTop g) t := by
  obtain ⟨cl, A', hin, -, q⟩ := A.read hj hi
  obtain ⟨T', h', X', e', W, st⟩ := stI X hx hZ eT A' hin hg hs hd
  rw [q] at X' W
  exact ⟨T', h', X', e', W, A.set W, st⟩
theorem own_lastore (X : Stand p l e R s m args below meth c T locs cells slots) (hx : p.tables.exec = Jvm.exec) (hZ : Z.Warmed39 s.vm) (eT : T.heap = h) (A : own_Ar Z h a .long n f) (hj : j = Int32.ofNat i) (hi : i < n) {x : Int64} {g : JFrame} (hg : g.method = m) {rest : List Value} (hs : g.stack = .long x :: .int j :: .ref a :: rest) (hd : decode c.code g.pc = .ok (.lastore, 1)) :
    ∃ T' h', Stand p l e R s m args below meth c T' (locs ++ [⟨a, i⟩]) cells slots ∧ T'.heap = h' ∧ Wr h h' a i (.long x) ∧ own_Ar Z h' a .long n (own_up f i (.long x)) ∧ ∀ t, Steps p.tables e below (T'.setTop { g with pc := g.pc + 1, stack := rest }) t → Steps p.tables e below (T.setTop g) t := by
  obtain ⟨cl, A', hin, -, q⟩ := A.read hj hi
  obtain ⟨T', h', X', e', W, st⟩ := stJ X hx hZ eT A' hin hg hs hd
  rw [q] at X' W
  exact ⟨T', h', X', e', W, A.set W, st⟩
theorem own_bastoreB (X : Stand p l e R s m args below meth c T locs cells slots) (hx : p.tables.exec = Jvm.exec) (hZ : Z.Warmed39 s.vm) (eT : T.heap = h) (A : own_Ar Z h a .byte n f) (hj : j = Int32.ofNat i) (hi : i < n) {x r : Int32} (hr : nar .byte x = r) {g : JFrame} (hg : g.method = m) {rest : List Value} (hs : g.stack = .int x :: .int j :: .ref a :: rest) (hd : decode c.code g.pc = .ok (.bastore, 1)) :
    ∃ T' h', Stand p l e R s m args below meth c T' (locs ++ [⟨a, i⟩]) cells slots ∧ T'.heap = h' ∧ Wr h h' a i (.int r) ∧ own_Ar Z h' a .byte n (own_up f i (.int r)) ∧ ∀ t, Steps p.tables e below (T'.setTop { g with pc := g.pc + 1, stack := rest }) t → Steps p.tables e below (T.setTop g) t := by
  obtain ⟨cl, A', hin, -, q⟩ := A.read hj hi
  obtain ⟨T', h', X', e', W, st⟩ := stB X hx hZ eT A' hin hg hs hd
  rw [q] at X' W; rw [hr] at W
  exact ⟨T', h', X', e', W, A.set W, st⟩
theorem own_bastoreZ (X : Stand p l e R s m args below meth c T locs cells slots) (hx : p.tables.exec = Jvm.exec) (hZ : Z.Warmed39 s.vm) (eT : T.heap = h) (A : own_Ar Z h a .boolean n f) (hj : j = Int32.ofNat i) (hi : i < n) {x r : Int32} (hr : nar .boolean x = r) {g : JFrame} (hg : g.method = m) {rest : List Value} (hs : g.stack = .int x :: .int j :: .ref a :: rest) (hd : decode c.code g.pc = .ok (.bastore, 1)) :
    ∃ T' h', Stand p l e R s m args below meth c T' (locs ++ [⟨a, i⟩]) cells slots ∧ T'.heap = h' ∧ Wr h h' a i (.int r) ∧ own_Ar Z h' a .boolean n (own_up f i (.int r)) ∧ ∀ t, Steps p.tables e below (T'.setTop { g with pc := g.pc + 1, stack := rest }) t → Steps p.tables e below (T.setTop g) t := by
  obtain ⟨cl, A', hin, -, q⟩ := A.read hj hi
  obtain ⟨T', h', X', e', W, st⟩ := stZ X hx hZ eT A' hin hg hs hd
  rw [q] at X' W; rw [hr] at W
  exact ⟨T', h', X', e', W, A.set W, st⟩
/-- a fresh array of n places -/
theorem own_newarr (X : Stand p l e R s m args below meth c T locs cells slots) (hx : p.tables.exec = Jvm.exec) (hZ : Z.Warmed39 s.vm) {aty : ArrayType} (w : (Jvm.Cond.arrayClass (newarray.typeOf aty)).before a0 Z = true) (eT : T.heap = h) {g : JFrame} (hg : g.method = m) (hd : decode c.code g.pc = .ok (.newarray aty, 2)) (hj : j = Int32.ofNat n) (hn : n * 8 ≤ 536870912) {rest : List Value} (hs : g.stack = .int j :: rest) (hc : cells + 1 ≤ R.cells) (hl : slots + n ≤ R.slots) :
    ∃ T' h' b, b = h.size ∧ Stand p l e R s m args below meth c T' locs (cells + 1) (slots + n) ∧ T'.heap = h' ∧ Ext h h' ∧ own_Ar Z h' b (newarray.typeOf aty) n (fun _ => defaultValue (newarray.typeOf aty)) ∧ ∀ t, Steps p.tables e below (T'.setTop { g with pc := g.pc + 2, stack := .ref b :: rest }) t → Steps p.tables e below (T.setTop g) t := by
  have q : j.toNatClampNeg = n := clamp_of hj (by omega)
  have q0 : ¬ j < 0 := by rw [Int32.lt_iff_toInt_lt, toInt_of hj (by omega)]; show ¬ (n : Int) < 0; omega
  obtain ⟨T', h', k, X', e', E, A, st⟩ := newP X hx hZ w eT hg hd hs q0 (cap := n) (Nat.le_of_eq q) hn hc hl
  refine ⟨T', h', _, rfl, X', e', E, ⟨_, A, by rw [sz_new]; exact q, by omega, fun i hi => ?_⟩, st⟩
  simp [newA, q, hi]
/-- an array whose components may be of the class C -/
def own_Ov (Z : State) (h : Heap) (a : Addr) (C : String) : Prop := ∃ cell : Cell, h[a]? = some cell ∧ Ovr Z cell.cls C
theorem own_Ov.ext {C : String} (O : own_Ov Z h a C) (E : Ext h h') : own_Ov Z h' a C := by obtain ⟨c, h1, h2⟩ := O; exact ⟨c, E.2 _ _ h1, h2⟩
theorem own_Ov.wr {C : String} (O : own_Ov Z h a C) (W : Wr h h' b sl v) : own_Ov Z h' a C := by
  obtain ⟨c, h1, h2⟩ := O
  obtain ⟨c', q1, q2, -⟩ := wr_at W h1
  exact ⟨c', q1, by rw [q2]; exact h2⟩
theorem own_Ov.keep {C : String} (O : own_Ov Z h a C) (K : Keep h h' ws) : own_Ov Z h' a C := by
  obtain ⟨c, h1, h2⟩ := O
  obtain ⟨c', q1, q2, -⟩ := K.2.2 a c h1
  exact ⟨c', q1, by rw [q2]; exact h2⟩
theorem own_sto {C : String} {y : Addr} (A : own_Ar Z h a ty n f) (O : own_Ov Z h a C) (I : Ins Z h y C true) : Sto Z h a (.ref y) := by
  obtain ⟨c, A, -⟩ := A
  obtain ⟨c', h1, h2⟩ := O
  cases A.1.symm.trans h1
  exact Sto.of A h2 I
theorem own_aastore (X : Stand p l e R s m args below meth c T locs cells slots) (hx : p.tables.exec = Jvm.exec) (hZ : Z.Warmed39 s.vm) (eT : T.heap = h) (A : own_Ar Z h a ty n f) (hj : j = Int32.ofNat i) (hi : i < n) (hty : ty.isReference = true) (S : Sto Z h a v) {g : JFrame} (hg : g.method = m) {rest : List Value} (hs : g.stack = v :: .int j :: .ref a :: rest) (hd : decode c.code g.pc = .ok (.aastore, 1)) :
    ∃ T' h', Stand p l e R s m args below meth c T' (locs ++ [⟨a, i⟩]) cells slots ∧ T'.heap = h' ∧ Wr h h' a i v ∧ own_Ar Z h' a ty n (own_up f i v) ∧ ∀ t, Steps p.tables e below (T'.setTop { g with pc := g.pc + 1, stack := rest }) t → Steps p.tables e below (T.setTop g) t := by
  obtain ⟨cl, A', hin, -, q⟩ := A.read hj hi
  obtain ⟨T', h', X', e', W, st⟩ := stR X hx hZ eT A' hin hty S hg hs hd
  rw [q] at X' W
  exact ⟨T', h', X', e', W, A.set W, st⟩
theorem own_newref (X : Stand p l e R s m args below meth c T locs cells slots) (hx : p.tables.exec = Jvm.exec) (hZ : Z.Warmed39 s.vm) {own C : String} {index : Nat} (hown : s.vm.findClass own = some m.cls) (w1 : (Jvm.Cond.classLink own index C).before a0 Z = true) (w2 : (Jvm.Cond.arrayOver (.object C)).before a0 Z = true) (eT : T.heap = h) {g : JFrame} (hg : g.method = m) (hd : decode c.code g.pc = .ok (.anewarray index, 3)) (hj : j = Int32.ofNat n) (hn : n * 8 ≤ 536870912) {rest : List Value} (hs : g.stack = .int j :: rest) (hc : cells + 1 ≤ R.cells) (hl : slots + n ≤ R.slots) :
    ∃ T' h' b, b = h.size ∧ Stand p l e R s m args below meth c T' locs (cells + 1) (slots + n) ∧ T'.heap = h' ∧ Ext h h' ∧ own_Ar Z h' b (.object C) n (fun _ => .null) ∧ own_Ov Z h' b C ∧ ∀ t, Steps p.tables e below (T'.setTop { g with pc := g.pc + 3, stack := .ref b :: rest }) t → Steps p.tables e below (T.setTop g) t := by
  have q : j.toNatClampNeg = n := clamp_of hj (by omega)
  have q0 : ¬ j < 0 := by rw [Int32.lt_iff_toInt_lt, toInt_of hj (by omega)]; show ¬ (n : Int) < 0; omega
  obtain ⟨T', h', k, X', e', E, A, O, st⟩ := newR X hx hZ hown w1 w2 eT hg hd hs q0 (cap := n) (Nat.le_of_eq q) hn hc hl
  refine ⟨T', h', _, rfl, X', e', E, ⟨_, A, by rw [sz_new]; exact q, by omega, fun i hi => ?_⟩, ⟨_, A.1, O⟩, st⟩
  simp [newA, q, hi, defaultValue]
end OwnArr
theorem own_c12l : cmpValue (FP.dcmp (4607182418800017408 : UInt64) (4611686018427387904 : UInt64)) .l = -1 := by decide +kernel
theorem own_c12g : cmpValue (FP.dcmp (4607182418800017408 : UInt64) (4611686018427387904 : UInt64)) .g = -1 := by decide +kernel
theorem own_c21l : cmpValue (FP.dcmp (4611686018427387904 : UInt64) (4607182418800017408 : UInt64)) .l = 1 := by decide +kernel
theorem own_c21g : cmpValue (FP.dcmp (4611686018427387904 : UInt64) (4607182418800017408 : UInt64)) .g = 1 := by decide +kernel
theorem pd_0 : parseMethodDescriptor "()I" = some ⟨[], some .int⟩ := by decide +kernel
theorem pd_1 : parseMethodDescriptor "()Z" = some ⟨[], some .boolean⟩ := by decide +kernel
theorem pd_2 : parseMethodDescriptor "(DD)Z" = some ⟨[.double, .double], some .boolean⟩ := by decide +kernel
theorem pd_3 : parseMethodDescriptor "()Lcom/example/stylewright/stylewright/xpath/Comparison$Operator;" = some ⟨[], some (.object "com/example/stylewright/stylewright/xpath/Comparison$Operator")⟩ := by decide +kernel
theorem d1_0 : decode prog_67_method_4_code 0 = .ok (.aload_n 0, 1) := by decide +kernel
theorem d1_1 : decode prog_67_method_4_code 1 = .ok (.getstatic 3, 3) := by decide +kernel
theorem d1_4 : decode prog_67_method_4_code 4 = .ok (.if_acmp .eq 10, 3) := by decide +kernel
theorem d1_7 : decode prog_67_method_4_code 7 = .ok (.aload_n 0, 1) := by decide +kernel
theorem d1_8 : decode prog_67_method_4_code 8 = .ok (.getstatic 7, 3) := by decide +kernel
theorem d1_11 : decode prog_67_method_4_code 11 = .ok (.if_acmp .ne 7, 3) := by decide +kernel
theorem d1_14 : decode prog_67_method_4_code 14 = .ok (.iconst 1, 1) := by decide +kernel
theorem d1_15 : decode prog_67_method_4_code 15 = .ok (.goto 4, 3) := by decide +kernel
theorem d1_18 : decode prog_67_method_4_code 18 = .ok (.iconst 0, 1) := by decide +kernel
theorem d1_19 : decode prog_67_method_4_code 19 = .ok (.ireturn, 1) := by decide +kernel
theorem pn_1 : plainName "com/example/stylewright/stylewright/xpath/Comparison$Operator" = true := by first | (simp [plainName, overriddenIn]; done) | decide +kernel
theorem ef_1 (m : MethodId) (x0 : Addr) : entryFrame m #[(.ref x0)] 1 = mkF m 0 #[.val (.ref x0)] [] := by first | (simp [entryFrame, mkF, argsToLocals, Value.category]; done) | rfl
set_option maxRecDepth 65536 in
set_option maxHeartbeats 40000000 in
theorem rm1_0 (l : Launch) (Z : State) (a0 : Array Value) (hw : ∀ d ∈ tables_1, d.before a0 Z = true) (ws : List Jvm.Cond) (r x0 x1 : Addr) (h0 : Heap) (S0 : Sta Z h0 "com/example/stylewright/stylewright/xpath/Comparison$Operator" "EQUALS" "Lcom/example/stylewright/stylewright/xpath/Comparison$Operator;" (.ref x0)) (S1 : Sta Z h0 "com/example/stylewright/stylewright/xpath/Comparison$Operator" "NOT_EQUALS" "Lcom/example/stylewright/stylewright/xpath/Comparison$Operator;" (.ref x1)) (hq0 : r = x0) :
    own_Pure l Z (⟨"com/example/stylewright/stylewright/xpath/Comparison$Operator", "isEquality", "()Z"⟩ : MethodName) prog_67_method_4_code 1 (some .boolean) ws ({ frames := 0, cells := 0, slots := 0, locals := 0 } : Room) #[(.ref r)] h0 (some (.int 1)) := by
  refine own_body (plainFor_of_name pn_1) ?_
  intro p e s m below meth c T0 hx hby hml hown hnm hret hlk hZ X0 e0
  replace hown : s.vm.findClass "com/example/stylewright/stylewright/xpath/Comparison$Operator" = some m.cls := hown
  replace hret : meth.sig.returnType = (some .boolean) := hret
  replace hnm : meth.name = "isEquality" := hnm
  rw [ef_1 m r]
  refine own_via (T' := T0) (g' := (mkF m 1 #[.val (.ref r)] [(.ref r)])) (fun _ kt => XS.aloadN X0.here hx rfl (hb hby d1_0) rfl rfl kt) ?_
  obtain ⟨T1, X1, e1, st1⟩ := getS2 X0 hx hZ hown (host := "") (Or.inl (hw _ (List.mem_of_getElem? (i := 23) rfl))) Via.refl e0 S0 (g := (mkF m 1 #[.val (.ref r)] [(.ref r)])) rfl (hb hby d1_1)
  refine own_via (T' := T1) (g' := (mkF m 4 #[.val (.ref r)] [(.ref x0), (.ref r)])) (fun _ kt => st1 _ kt) ?_
  refine own_via (T' := T1) (g' := (mkF m 14 #[.val (.ref r)] [])) (fun _ kt => Jvm.RoadKit.acmp (g := (mkF m 4 #[.val (.ref r)] [(.ref x0), (.ref r)])) X1 hx rfl rfl rfl (pc0 := 4) (pc' := 14) (same := true) rfl (hb hby d1_4) rfl (decide_eq_true (congrArg Value.ref hq0)) (by decide) (by decide) kt) ?_
  refine own_via (T' := T1) (g' := (mkF m 15 #[.val (.ref r)] [(.int (1 : Int32))])) (fun _ kt => XS.iconst X1.here hx rfl (hb hby d1_14) kt) ?_
  refine own_via (T' := T1) (g' := (mkF m 19 #[.val (.ref r)] [(.int (1 : Int32))])) (fun _ kt => XS.goto X1.here hx rfl (pc0 := 15) (pc' := 19) rfl (hb hby d1_15) (by decide) (by decide) kt) ?_
  exact own_retZ X1 hx hret hlk (hb hby d1_19) (by decide) ⟨rfl, rfl, e1⟩ (by decide) (by decide)
set_option maxRecDepth 65536 in
set_option maxHeartbeats 40000000 in
theorem rm1_1 (l : Launch) (Z : State) (a0 : Array Value) (hw : ∀ d ∈ tables_1, d.before a0 Z = true) (ws : List Jvm.Cond) (r x0 x1 : Addr) (h0 : Heap) (S0 : Sta Z h0 "com/example/stylewright/stylewright/xpath/Comparison$Operator" "EQUALS" "Lcom/example/stylewright/stylewright/xpath/Comparison$Operator;" (.ref x0)) (S1 : Sta Z h0 "com/example/stylewright/stylewright/xpath/Comparison$Operator" "NOT_EQUALS" "Lcom/example/stylewright/stylewright/xpath/Comparison$Operator;" (.ref x1)) (n0 : ¬ r = x0) (hq1 : r = x1) :
    own_Pure l Z (⟨"com/example/stylewright/stylewright/xpath/Comparison$Operator", "isEquality", "()Z"⟩ : MethodName) prog_67_method_4_code 1 (some .boolean) ws ({ frames := 0, cells := 0, slots := 0, locals := 0 } : Room) #[(.ref r)] h0 (some (.int 1)) := by
  refine own_body (plainFor_of_name pn_1) ?_
  intro p e s m below meth c T0 hx hby hml hown hnm hret hlk hZ X0 e0
  replace hown : s.vm.findClass "com/example/stylewright/stylewright/xpath/Comparison$Operator" = some m.cls := hown
  replace hret : meth.sig.returnType = (some .boolean) := hret
  replace hnm : meth.name = "isEquality" := hnm
  rw [ef_1 m r]
  refine own_via (T' := T0) (g' := (mkF m 1 #[.val (.ref r)] [(.ref r)])) (fun _ kt => XS.aloadN X0.here hx rfl (hb hby d1_0) rfl rfl kt) ?_
  obtain ⟨T1, X1, e1, st1⟩ := getS2 X0 hx hZ hown (host := "") (Or.inl (hw _ (List.mem_of_getElem? (i := 23) rfl))) Via.refl e0 S0 (g := (mkF m 1 #[.val (.ref r)] [(.ref r)])) rfl (hb hby d1_1)
  refine own_via (T' := T1) (g' := (mkF m 4 #[.val (.ref r)] [(.ref x0), (.ref r)])) (fun _ kt => st1 _ kt) ?_
  refine own_via (T' := T1) (g' := (mkF m 7 #[.val (.ref r)] [])) (fun _ kt => Jvm.RoadKit.acmp (g := (mkF m 4 #[.val (.ref r)] [(.ref x0), (.ref r)])) X1 hx rfl rfl rfl (pc0 := 4) (pc' := 7) (same := false) rfl (hb hby d1_4) rfl (decide_eq_false fun q => n0 (Value.ref.inj q)) (by decide) (by decide) kt) ?_
  refine own_via (T' := T1) (g' := (mkF m 8 #[.val (.ref r)] [(.ref r)])) (fun _ kt => XS.aloadN X1.here hx rfl (hb hby d1_7) rfl rfl kt) ?_
  obtain ⟨T2, X2, e2, st2⟩ := getS2 X1 hx hZ hown (host := "") (Or.inl (hw _ (List.mem_of_getElem? (i := 43) rfl))) Via.refl e1 S1 (g := (mkF m 8 #[.val (.ref r)] [(.ref r)])) rfl (hb hby d1_8)
  refine own_via (T' := T2) (g' := (mkF m 11 #[.val (.ref r)] [(.ref x1), (.ref r)])) (fun _ kt => st2 _ kt) ?_
  refine own_via (T' := T2) (g' := (mkF m 14 #[.val (.ref r)] [])) (fun _ kt => Jvm.RoadKit.acmp (g := (mkF m 11 #[.val (.ref r)] [(.ref x1), (.ref r)])) X2 hx rfl rfl rfl (pc0 := 11) (pc' := 14) (same := true) rfl (hb hby d1_11) rfl (decide_eq_true (congrArg Value.ref hq1)) (by decide) (by decide) kt) ?_
  refine own_via (T' := T2) (g' := (mkF m 15 #[.val (.ref r)] [(.int (1 : Int32))])) (fun _ kt => XS.iconst X2.here hx rfl (hb hby d1_14) kt) ?_
  refine own_via (T' := T2) (g' := (mkF m 19 #[.val (.ref r)] [(.int (1 : Int32))])) (fun _ kt => XS.goto X2.here hx rfl (pc0 := 15) (pc' := 19) rfl (hb hby d1_15) (by decide) (by decide) kt) ?_
  exact own_retZ X2 hx hret hlk (hb hby d1_19) (by decide) ⟨rfl, rfl, e2⟩ (by decide) (by decide)
set_option maxRecDepth 65536 in
set_option maxHeartbeats 40000000 in
theorem rm1_2 (l : Launch) (Z : State) (a0 : Array Value) (hw : ∀ d ∈ tables_1, d.before a0 Z = true) (ws : List Jvm.Cond) (r x0 x1 : Addr) (h0 : Heap) (S0 : Sta Z h0 "com/example/stylewright/stylewright/xpath/Comparison$Operator" "EQUALS" "Lcom/example/stylewright/stylewright/xpath/Comparison$Operator;" (.ref x0)) (S1 : Sta Z h0 "com/example/stylewright/stylewright/xpath/Comparison$Operator" "NOT_EQUALS" "Lcom/example/stylewright/stylewright/xpath/Comparison$Operator;" (.ref x1)) (n0 : ¬ r = x0) (n1 : ¬ r = x1) :
    own_Pure l Z (⟨"com/example/stylewright/stylewright/xpath/Comparison$Operator", "isEquality", "()Z"⟩ : MethodName) prog_67_method_4_code 1 (some .boolean) ws ({ frames := 0, cells := 0, slots := 0, locals := 0 } : Room) #[(.ref r)] h0 (some (.int 0)) := by
  refine own_body (plainFor_of_name pn_1) ?_
  intro p e s m below meth c T0 hx hby hml hown hnm hret hlk hZ X0 e0
  replace hown : s.vm.findClass "com/example/stylewright/stylewright/xpath/Comparison$Operator" = some m.cls := hown
  replace hret : meth.sig.returnType = (some .boolean) := hret
  replace hnm : meth.name = "isEquality" := hnm
  rw [ef_1 m r]
  refine own_via (T' := T0) (g' := (mkF m 1 #[.val (.ref r)] [(.ref r)])) (fun _ kt => XS.aloadN X0.here hx rfl (hb hby d1_0) rfl rfl kt) ?_
  obtain ⟨T1, X1, e1, st1⟩ := getS2 X0 hx hZ hown (host := "") (Or.inl (hw _ (List.mem_of_getElem? (i := 23) rfl))) Via.refl e0 S0 (g := (mkF m 1 #[.val (.ref r)] [(.ref r)])) rfl (hb hby d1_1)
  refine own_via (T' := T1) (g' := (mkF m 4 #[.val (.ref r)] [(.ref x0), (.ref r)])) (fun _ kt => st1 _ kt) ?_
  refine own_via (T' := T1) (g' := (mkF m 7 #[.val (.ref r)] [])) (fun _ kt => Jvm.RoadKit.acmp (g := (mkF m 4 #[.val (.ref r)] [(.ref x0), (.ref r)])) X1 hx rfl rfl rfl (pc0 := 4) (pc' := 7) (same := false) rfl (hb hby d1_4) rfl (decide_eq_false fun q => n0 (Value.ref.inj q)) (by decide) (by decide) kt) ?_
  refine own_via (T' := T1) (g' := (mkF m 8 #[.val (.ref r)] [(.ref r)])) (fun _ kt => XS.aloadN X1.here hx rfl (hb hby d1_7) rfl rfl kt) ?_
  obtain ⟨T2, X2, e2, st2⟩ := getS2 X1 hx hZ hown (host := "") (Or.inl (hw _ (List.mem_of_getElem? (i := 43) rfl))) Via.refl e1 S1 (g := (mkF m 8 #[.val (.ref r)] [(.ref r)])) rfl (hb hby d1_8)
  refine own_via (T' := T2) (g' := (mkF m 11 #[.val (.ref r)] [(.ref x1), (.ref r)])) (fun _ kt => st2 _ kt) ?_
  refine own_via (T' := T2) (g' := (mkF m 18 #[.val (.ref r)] [])) (fun _ kt => Jvm.RoadKit.acmp (g := (mkF m 11 #[.val (.ref r)] [(.ref x1), (.ref r)])) X2 hx rfl rfl rfl (pc0 := 11) (pc' := 18) (same := false) rfl (hb hby d1_11) rfl (decide_eq_false fun q => n1 (Value.ref.inj q)) (by decide) (by decide) kt) ?_
  refine own_via (T' := T2) (g' := (mkF m 19 #[.val (.ref r)] [(.int (0 : Int32))])) (fun _ kt => XS.iconst X2.here hx rfl (hb hby d1_18) kt) ?_
  exact own_retZ X2 hx hret hlk (hb hby d1_19) (by decide) ⟨rfl, rfl, e2⟩ (by decide) (by decide)
theorem d3_0 : decode jdk_37_method_2_code 0 = .ok (.aload_n 0, 1) := by decide +kernel
theorem d3_1 : decode jdk_37_method_2_code 1 = .ok (.getfield 7, 3) := by decide +kernel
theorem d3_4 : decode jdk_37_method_2_code 4 = .ok (.ireturn, 1) := by decide +kernel
theorem pn_3 : plainName "java/lang/Enum" = true := by first | (simp [plainName, overriddenIn]; done) | decide +kernel
theorem ef_3 (m : MethodId) (x0 : Addr) : entryFrame m #[(.ref x0)] 1 = mkF m 0 #[.val (.ref x0)] [] := by first | (simp [entryFrame, mkF, argsToLocals, Value.category]; done) | rfl
set_option maxRecDepth 65536 in
set_option maxHeartbeats 40000000 in
theorem rm3 (l : Launch) (Z : State) (a0 : Array Value) (hw : ∀ d ∈ tables_1, d.before a0 Z = true) (ws : List Jvm.Cond) (r : Addr) (w : Int32) (h0 : Heap) (F : Fld Z h0 r "java/lang/Enum" "ordinal" "I" (.int w)) :
    own_Pure l Z (⟨"java/lang/Enum", "ordinal", "()I"⟩ : MethodName) jdk_37_method_2_code 1 (some .int) ws ({ frames := 0, cells := 0, slots := 0, locals := 0 } : Room) #[(.ref r)] h0 (some (.int w)) := by
  refine own_body (plainFor_of_name pn_3) ?_
  intro p e s m below meth c T0 hx hby hml hown hnm hret hlk hZ X0 e0
  replace hown : s.vm.findClass "java/lang/Enum" = some m.cls := hown
  replace hret : meth.sig.returnType = (some .int) := hret
  replace hnm : meth.name = "ordinal" := hnm
  rw [ef_3 m r]
  refine own_via (T' := T0) (g' := (mkF m 1 #[.val (.ref r)] [(.ref r)])) (fun _ kt => XS.aloadN X0.here hx rfl (hb hby d3_0) rfl rfl kt) ?_
  obtain ⟨T1, X1, e1, st1⟩ := getF X0 hx hZ hown (host := "") (Or.inl (hw _ (List.mem_of_getElem? (i := 36) rfl))) Via.refl e0 F (g := (mkF m 1 #[.val (.ref r)] [(.ref r)])) rfl rfl (hb hby d3_1)
  refine own_via (T' := T1) (g' := (mkF m 4 #[.val (.ref r)] [(.int w)])) (fun _ kt => st1 _ kt) ?_
  exact own_retI X1 hx hret hlk (hb hby d3_4) ⟨rfl, rfl, e1⟩ (by decide) (by decide)
theorem d2_0 : decode prog_67_method_6_code 0 = .ok (.aload_n 0, 1) := by decide +kernel
theorem d2_1 : decode prog_67_method_6_code 1 = .ok (.invokevirtual 41, 3) := by decide +kernel
theorem d2_4 : decode prog_67_method_6_code 4 = .ok (.tableswitch 136 0 5 #[40, 56, 72, 88, 104, 120], 40) := by decide +kernel
theorem d2_44 : decode prog_67_method_6_code 44 = .ok (.dload_n 1, 1) := by decide +kernel
theorem d2_45 : decode prog_67_method_6_code 45 = .ok (.dload_n 3, 1) := by decide +kernel
theorem d2_46 : decode prog_67_method_6_code 46 = .ok (.dcmp .l, 1) := by decide +kernel
theorem d2_47 : decode prog_67_method_6_code 47 = .ok (.ifCond .ne 7, 3) := by decide +kernel
theorem d2_54 : decode prog_67_method_6_code 54 = .ok (.iconst 0, 1) := by decide +kernel
theorem d2_55 : decode prog_67_method_6_code 55 = .ok (.istore 5, 2) := by decide +kernel
theorem d2_57 : decode prog_67_method_6_code 57 = .ok (.goto 100, 3) := by decide +kernel
theorem d2_60 : decode prog_67_method_6_code 60 = .ok (.dload_n 1, 1) := by decide +kernel
theorem d2_61 : decode prog_67_method_6_code 61 = .ok (.dload_n 3, 1) := by decide +kernel
theorem d2_62 : decode prog_67_method_6_code 62 = .ok (.dcmp .l, 1) := by decide +kernel
theorem d2_63 : decode prog_67_method_6_code 63 = .ok (.ifCond .eq 7, 3) := by decide +kernel
theorem d2_66 : decode prog_67_method_6_code 66 = .ok (.iconst 1, 1) := by decide +kernel
theorem d2_67 : decode prog_67_method_6_code 67 = .ok (.goto 4, 3) := by decide +kernel
theorem d2_71 : decode prog_67_method_6_code 71 = .ok (.istore 5, 2) := by decide +kernel
theorem d2_73 : decode prog_67_method_6_code 73 = .ok (.goto 84, 3) := by decide +kernel
theorem d2_76 : decode prog_67_method_6_code 76 = .ok (.dload_n 1, 1) := by decide +kernel
theorem d2_77 : decode prog_67_method_6_code 77 = .ok (.dload_n 3, 1) := by decide +kernel
theorem d2_78 : decode prog_67_method_6_code 78 = .ok (.dcmp .g, 1) := by decide +kernel
theorem d2_79 : decode prog_67_method_6_code 79 = .ok (.ifCond .ge 7, 3) := by decide +kernel
theorem d2_82 : decode prog_67_method_6_code 82 = .ok (.iconst 1, 1) := by decide +kernel
theorem d2_83 : decode prog_67_method_6_code 83 = .ok (.goto 4, 3) := by decide +kernel
theorem d2_86 : decode prog_67_method_6_code 86 = .ok (.iconst 0, 1) := by decide +kernel
theorem d2_87 : decode prog_67_method_6_code 87 = .ok (.istore 5, 2) := by decide +kernel
theorem d2_89 : decode prog_67_method_6_code 89 = .ok (.goto 68, 3) := by decide +kernel
theorem d2_92 : decode prog_67_method_6_code 92 = .ok (.dload_n 1, 1) := by decide +kernel
theorem d2_93 : decode prog_67_method_6_code 93 = .ok (.dload_n 3, 1) := by decide +kernel
theorem d2_94 : decode prog_67_method_6_code 94 = .ok (.dcmp .g, 1) := by decide +kernel
theorem d2_95 : decode prog_67_method_6_code 95 = .ok (.ifCond .gt 7, 3) := by decide +kernel
theorem d2_98 : decode prog_67_method_6_code 98 = .ok (.iconst 1, 1) := by decide +kernel
theorem d2_99 : decode prog_67_method_6_code 99 = .ok (.goto 4, 3) := by decide +kernel
theorem d2_102 : decode prog_67_method_6_code 102 = .ok (.iconst 0, 1) := by decide +kernel
theorem d2_103 : decode prog_67_method_6_code 103 = .ok (.istore 5, 2) := by decide +kernel
theorem d2_105 : decode prog_67_method_6_code 105 = .ok (.goto 52, 3) := by decide +kernel
theorem d2_108 : decode prog_67_method_6_code 108 = .ok (.dload_n 1, 1) := by decide +kernel
theorem d2_109 : decode prog_67_method_6_code 109 = .ok (.dload_n 3, 1) := by decide +kernel
theorem d2_110 : decode prog_67_method_6_code 110 = .ok (.dcmp .l, 1) := by decide +kernel
theorem d2_111 : decode prog_67_method_6_code 111 = .ok (.ifCond .le 7, 3) := by decide +kernel
theorem d2_114 : decode prog_67_method_6_code 114 = .ok (.iconst 1, 1) := by decide +kernel
theorem d2_115 : decode prog_67_method_6_code 115 = .ok (.goto 4, 3) := by decide +kernel
theorem d2_118 : decode prog_67_method_6_code 118 = .ok (.iconst 0, 1) := by decide +kernel
theorem d2_119 : decode prog_67_method_6_code 119 = .ok (.istore 5, 2) := by decide +kernel
theorem d2_121 : decode prog_67_method_6_code 121 = .ok (.goto 36, 3) := by decide +kernel
theorem d2_124 : decode prog_67_method_6_code 124 = .ok (.dload_n 1, 1) := by decide +kernel
theorem d2_125 : decode prog_67_method_6_code 125 = .ok (.dload_n 3, 1) := by decide +kernel
theorem d2_126 : decode prog_67_method_6_code 126 = .ok (.dcmp .l, 1) := by decide +kernel
theorem d2_127 : decode prog_67_method_6_code 127 = .ok (.ifCond .lt 7, 3) := by decide +kernel
theorem d2_130 : decode prog_67_method_6_code 130 = .ok (.iconst 1, 1) := by decide +kernel
theorem d2_131 : decode prog_67_method_6_code 131 = .ok (.goto 4, 3) := by decide +kernel
theorem d2_134 : decode prog_67_method_6_code 134 = .ok (.iconst 0, 1) := by decide +kernel
theorem d2_135 : decode prog_67_method_6_code 135 = .ok (.istore 5, 2) := by decide +kernel
theorem d2_137 : decode prog_67_method_6_code 137 = .ok (.goto 20, 3) := by decide +kernel
theorem d2_157 : decode prog_67_method_6_code 157 = .ok (.iload 5, 2) := by decide +kernel
theorem d2_159 : decode prog_67_method_6_code 159 = .ok (.ireturn, 1) := by decide +kernel
theorem pn_2 : plainName "com/example/stylewright/stylewright/xpath/Comparison$Operator" = true := by first | (simp [plainName, overriddenIn]; done) | decide +kernel
theorem ef_2 (m : MethodId) (x0 : Addr) (x1 : UInt64) (x2 : UInt64) : entryFrame m #[(.ref x0), (.double x1), (.double x2)] 6 = mkF m 0 #[.val (.ref x0), .val (.double x1), .second, .val (.double x2), .second, .unset] [] := by first | (simp [entryFrame, mkF, argsToLocals, Value.category]; done) | rfl
set_option maxRecDepth 65536 in
set_option maxHeartbeats 40000000 in
theorem rm2_0_lt (l : Launch) (Z : State) (a0 : Array Value) (hw : ∀ d ∈ tables_1, d.before a0 Z = true) (ws : List Jvm.Cond) (r : Addr) (x y : UInt64) (h0 : Heap) (hl : cmpValue (FP.dcmp x y) .l = -1) (hg : cmpValue (FP.dcmp x y) .g = -1) (E : Exa Z h0 r "com/example/stylewright/stylewright/xpath/Comparison$Operator") (F : Fld Z h0 r "java/lang/Enum" "ordinal" "I" (.int (0 : Int32))) :
    own_Pure l Z (⟨"com/example/stylewright/stylewright/xpath/Comparison$Operator", "test", "(DD)Z"⟩ : MethodName) prog_67_method_6_code 6 (some .boolean) ws ({ frames := 1, cells := 0, slots := 0, locals := 12 } : Room) #[(.ref r), (.double x), (.double y)] h0 (some (.int 0)) := by
  refine own_body (plainFor_of_name pn_2) ?_
  intro p e s m below meth c T0 hx hby hml hown hnm hret hlk hZ X0 e0
  replace hown : s.vm.findClass "com/example/stylewright/stylewright/xpath/Comparison$Operator" = some m.cls := hown
  replace hret : meth.sig.returnType = (some .boolean) := hret
  replace hnm : meth.name = "test" := hnm
  rw [ef_2 m r x y]
  refine own_via (T' := T0) (g' := (mkF m 1 #[.val (.ref r), .val (.double x), .second, .val (.double y), .second, .unset] [(.ref r)])) (fun _ kt => XS.aloadN X0.here hx rfl (hb hby d2_0) rfl rfl kt) ?_
  obtain ⟨v1, T1, L1, X1, hQ1, st1⟩ := own_callU X0 hx hZ (y := (⟨"com/example/stylewright/stylewright/xpath/Comparison$Operator", "ordinal", "()I"⟩ : MethodName)) (z := (⟨"java/lang/Enum", "ordinal", "()I"⟩ : MethodName)) hown (hw _ (List.mem_of_getElem? (i := 29) rfl)) (hw _ (List.mem_of_getElem? (i := 30) rfl)) (hw _ (List.mem_of_getElem? (i := 31) rfl)) (hw _ (List.mem_of_getElem? (i := 33) rfl)) (hw _ (List.mem_of_getElem? (i := 32) rfl)) (hw _ (List.mem_of_getElem? (i := 34) rfl)) (hw _ (List.mem_of_getElem? (i := 35) rfl)) (by decide) (b := r) (W := 0) (argsL := []) (rest := []) (rm3 l Z a0 hw [] r (0 : Int32) h0 F) (by decide) (by decide) (by decide) (by decide) e0 E (g := (mkF m 1 #[.val (.ref r), .val (.double x), .second, .val (.double y), .second, .unset] [(.ref r)])) rfl (by rw [hml]; rfl) (lenOf pd_0 rfl) rfl (by show 2 * 0 + _ ≤ _; exact Nat.le_of_eq rfl) (hb hby d2_1)
  obtain ⟨rfl, hL1, e1⟩ := hQ1
  replace X1 := own_pure (v := none) (r := none) X1 rfl rfl hL1
  refine own_via (T' := T1) (g' := (mkF m 4 #[.val (.ref r), .val (.double x), .second, .val (.double y), .second, .unset] [(.int (0 : Int32))])) (fun _ kt => st1 _ kt) ?_
  refine own_via (T' := T1) (g' := (mkF m 44 #[.val (.ref r), .val (.double x), .second, .val (.double y), .second, .unset] [])) (fun _ kt => XS.tswIn X1.here hx rfl (pc0 := 4) (pc' := 44) rfl (hb hby d2_4) rfl (by decide) (o := 40) (by decide) (by decide) (by decide) kt) ?_
  refine own_via (T' := T1) (g' := (mkF m 45 #[.val (.ref r), .val (.double x), .second, .val (.double y), .second, .unset] [(.double x)])) (fun _ kt => XS.dloadN X1.here hx rfl (hb hby d2_44) rfl kt) ?_
  refine own_via (T' := T1) (g' := (mkF m 46 #[.val (.ref r), .val (.double x), .second, .val (.double y), .second, .unset] [(.double y), (.double x)])) (fun _ kt => XS.dloadN X1.here hx rfl (hb hby d2_45) rfl kt) ?_
  refine own_via (T' := T1) (g' := (mkF m 47 #[.val (.ref r), .val (.double x), .second, .val (.double y), .second, .unset] [(.int (-1 : Int32))])) (fun _ kt => XS.dcmpS X1.here hx rfl (hb hby d2_46) rfl hl kt) ?_
  refine own_via (T' := T1) (g' := (mkF m 54 #[.val (.ref r), .val (.double x), .second, .val (.double y), .second, .unset] [])) (fun _ kt => XS.ifYes X1.here hx rfl (pc0 := 47) (pc' := 54) rfl (hb hby d2_47) rfl ((if0 _ _).trans (feq (by decide : ¬ ((-1 : Int32) = (0 : Int32)))).2) (by decide) (by decide) kt) ?_
  refine own_via (T' := T1) (g' := (mkF m 55 #[.val (.ref r), .val (.double x), .second, .val (.double y), .second, .unset] [(.int (0 : Int32))])) (fun _ kt => XS.iconst X1.here hx rfl (hb hby d2_54) kt) ?_
  refine own_via (T' := T1) (g' := (mkF m 57 #[.val (.ref r), .val (.double x), .second, .val (.double y), .second, .val (.int (0 : Int32))] [])) (fun _ kt => XS.istore X1.here hx rfl (hb hby d2_55) rfl (l' := #[.val (.ref r), .val (.double x), .second, .val (.double y), .second, .val (.int (0 : Int32))]) rfl kt) ?_
  refine own_via (T' := T1) (g' := (mkF m 157 #[.val (.ref r), .val (.double x), .second, .val (.double y), .second, .val (.int (0 : Int32))] [])) (fun _ kt => XS.goto X1.here hx rfl (pc0 := 57) (pc' := 157) rfl (hb hby d2_57) (by decide) (by decide) kt) ?_
  refine own_via (T' := T1) (g' := (mkF m 159 #[.val (.ref r), .val (.double x), .second, .val (.double y), .second, .val (.int (0 : Int32))] [(.int (0 : Int32))])) (fun _ kt => XS.iload X1.here hx rfl (hb hby d2_157) rfl kt) ?_
  exact own_retZ X1 hx hret hlk (hb hby d2_159) (by decide) ⟨rfl, rfl, e1⟩ (by decide) (by decide)
set_option maxRecDepth 65536 in
set_option maxHeartbeats 40000000 in
theorem rm2_0_gt (l : Launch) (Z : State) (a0 : Array Value) (hw : ∀ d ∈ tables_1, d.before a0 Z = true) (ws : List Jvm.Cond) (r : Addr) (x y : UInt64) (h0 : Heap) (hl : cmpValue (FP.dcmp x y) .l = 1) (hg : cmpValue (FP.dcmp x y) .g = 1) (E : Exa Z h0 r "com/example/stylewright/stylewright/xpath/Comparison$Operator") (F : Fld Z h0 r "java/lang/Enum" "ordinal" "I" (.int (0 : Int32))) :
    own_Pure l Z (⟨"com/example/stylewright/stylewright/xpath/Comparison$Operator", "test", "(DD)Z"⟩ : MethodName) prog_67_method_6_code 6 (some .boolean) ws ({ frames := 1, cells := 0, slots := 0, locals := 12 } : Room) #[(.ref r), (.double x), (.double y)] h0 (some (.int 0)) := by
  refine own_body (plainFor_of_name pn_2) ?_
  intro p e s m below meth c T0 hx hby hml hown hnm hret hlk hZ X0 e0
  replace hown : s.vm.findClass "com/example/stylewright/stylewright/xpath/Comparison$Operator" = some m.cls := hown
  replace hret : meth.sig.returnType = (some .boolean) := hret
  replace hnm : meth.name = "test" := hnm
  rw [ef_2 m r x y]
  refine own_via (T' := T0) (g' := (mkF m 1 #[.val (.ref r), .val (.double x), .second, .val (.double y), .second, .unset] [(.ref r)])) (fun _ kt => XS.aloadN X0.here hx rfl (hb hby d2_0) rfl rfl kt) ?_
  obtain ⟨v1, T1, L1, X1, hQ1, st1⟩ := own_callU X0 hx hZ (y := (⟨"com/example/stylewright/stylewright/xpath/Comparison$Operator", "ordinal", "()I"⟩ : MethodName)) (z := (⟨"java/lang/Enum", "ordinal", "()I"⟩ : MethodName)) hown (hw _ (List.mem_of_getElem? (i := 29) rfl)) (hw _ (List.mem_of_getElem? (i := 30) rfl)) (hw _ (List.mem_of_getElem? (i := 31) rfl)) (hw _ (List.mem_of_getElem? (i := 33) rfl)) (hw _ (List.mem_of_getElem? (i := 32) rfl)) (hw _ (List.mem_of_getElem? (i := 34) rfl)) (hw _ (List.mem_of_getElem? (i := 35) rfl)) (by decide) (b := r) (W := 0) (argsL := []) (rest := []) (rm3 l Z a0 hw [] r (0 : Int32) h0 F) (by decide) (by decide) (by decide) (by decide) e0 E (g := (mkF m 1 #[.val (.ref r), .val (.double x), .second, .val (.double y), .second, .unset] [(.ref r)])) rfl (by rw [hml]; rfl) (lenOf pd_0 rfl) rfl (by show 2 * 0 + _ ≤ _; exact Nat.le_of_eq rfl) (hb hby d2_1)
  obtain ⟨rfl, hL1, e1⟩ := hQ1
  replace X1 := own_pure (v := none) (r := none) X1 rfl rfl hL1
  refine own_via (T' := T1) (g' := (mkF m 4 #[.val (.ref r), .val (.double x), .second, .val (.double y), .second, .unset] [(.int (0 : Int32))])) (fun _ kt => st1 _ kt) ?_
  refine own_via (T' := T1) (g' := (mkF m 44 #[.val (.ref r), .val (.double x), .second, .val (.double y), .second, .unset] [])) (fun _ kt => XS.tswIn X1.here hx rfl (pc0 := 4) (pc' := 44) rfl (hb hby d2_4) rfl (by decide) (o := 40) (by decide) (by decide) (by decide) kt) ?_
  refine own_via (T' := T1) (g' := (mkF m 45 #[.val (.ref r), .val (.double x), .second, .val (.double y), .second, .unset] [(.double x)])) (fun _ kt => XS.dloadN X1.here hx rfl (hb hby d2_44) rfl kt) ?_
  refine own_via (T' := T1) (g' := (mkF m 46 #[.val (.ref r), .val (.double x), .second, .val (.double y), .second, .unset] [(.double y), (.double x)])) (fun _ kt => XS.dloadN X1.here hx rfl (hb hby d2_45) rfl kt) ?_
  refine own_via (T' := T1) (g' := (mkF m 47 #[.val (.ref r), .val (.double x), .second, .val (.double y), .second, .unset] [(.int (1 : Int32))])) (fun _ kt => XS.dcmpS X1.here hx rfl (hb hby d2_46) rfl hl kt) ?_
  refine own_via (T' := T1) (g' := (mkF m 54 #[.val (.ref r), .val (.double x), .second, .val (.double y), .second, .unset] [])) (fun _ kt => XS.ifYes X1.here hx rfl (pc0 := 47) (pc' := 54) rfl (hb hby d2_47) rfl ((if0 _ _).trans (feq (by decide : ¬ ((1 : Int32) = (0 : Int32)))).2) (by decide) (by decide) kt) ?_
  refine own_via (T' := T1) (g' := (mkF m 55 #[.val (.ref r), .val (.double x), .second, .val (.double y), .second, .unset] [(.int (0 : Int32))])) (fun _ kt => XS.iconst X1.here hx rfl (hb hby d2_54) kt) ?_
  refine own_via (T' := T1) (g' := (mkF m 57 #[.val (.ref r), .val (.double x), .second, .val (.double y), .second, .val (.int (0 : Int32))] [])) (fun _ kt => XS.istore X1.here hx rfl (hb hby d2_55) rfl (l' := #[.val (.ref r), .val (.double x), .second, .val (.double y), .second, .val (.int (0 : Int32))]) rfl kt) ?_
  refine own_via (T' := T1) (g' := (mkF m 157 #[.val (.ref r), .val (.double x), .second, .val (.double y), .second, .val (.int (0 : Int32))] [])) (fun _ kt => XS.goto X1.here hx rfl (pc0 := 57) (pc' := 157) rfl (hb hby d2_57) (by decide) (by decide) kt) ?_
  refine own_via (T' := T1) (g' := (mkF m 159 #[.val (.ref r), .val (.double x), .second, .val (.double y), .second, .val (.int (0 : Int32))] [(.int (0 : Int32))])) (fun _ kt => XS.iload X1.here hx rfl (hb hby d2_157) rfl kt) ?_
  exact own_retZ X1 hx hret hlk (hb hby d2_159) (by decide) ⟨rfl, rfl, e1⟩ (by decide) (by decide)
set_option maxRecDepth 65536 in
set_option maxHeartbeats 40000000 in
theorem rm2_1_lt (l : Launch) (Z : State) (a0 : Array Value) (hw : ∀ d ∈ tables_1, d.before a0 Z = true) (ws : List Jvm.Cond) (r : Addr) (x y : UInt64) (h0 : Heap) (hl : cmpValue (FP.dcmp x y) .l = -1) (hg : cmpValue (FP.dcmp x y) .g = -1) (E : Exa Z h0 r "com/example/stylewright/stylewright/xpath/Comparison$Operator") (F : Fld Z h0 r "java/lang/Enum" "ordinal" "I" (.int (1 : Int32))) :
    own_Pure l Z (⟨"com/example/stylewright/stylewright/xpath/Comparison$Operator", "test", "(DD)Z"⟩ : MethodName) prog_67_method_6_code 6 (some .boolean) ws ({ frames := 1, cells := 0, slots := 0, locals := 12 } : Room) #[(.ref r), (.double x), (.double y)] h0 (some (.int 1)) := by
  refine own_body (plainFor_of_name pn_2) ?_
  intro p e s m below meth c T0 hx hby hml hown hnm hret hlk hZ X0 e0
  replace hown : s.vm.findClass "com/example/stylewright/stylewright/xpath/Comparison$Operator" = some m.cls := hown
  replace hret : meth.sig.returnType = (some .boolean) := hret
  replace hnm : meth.name = "test" := hnm
  rw [ef_2 m r x y]
  refine own_via (T' := T0) (g' := (mkF m 1 #[.val (.ref r), .val (.double x), .second, .val (.double y), .second, .unset] [(.ref r)])) (fun _ kt => XS.aloadN X0.here hx rfl (hb hby d2_0) rfl rfl kt) ?_
  obtain ⟨v1, T1, L1, X1, hQ1, st1⟩ := own_callU X0 hx hZ (y := (⟨"com/example/stylewright/stylewright/xpath/Comparison$Operator", "ordinal", "()I"⟩ : MethodName)) (z := (⟨"java/lang/Enum", "ordinal", "()I"⟩ : MethodName)) hown (hw _ (List.mem_of_getElem? (i := 29) rfl)) (hw _ (List.mem_of_getElem? (i := 30) rfl)) (hw _ (List.mem_of_getElem? (i := 31) rfl)) (hw _ (List.mem_of_getElem? (i := 33) rfl)) (hw _ (List.mem_of_getElem? (i := 32) rfl)) (hw _ (List.mem_of_getElem? (i := 34) rfl)) (hw _ (List.mem_of_getElem? (i := 35) rfl)) (by decide) (b := r) (W := 0) (argsL := []) (rest := []) (rm3 l Z a0 hw [] r (1 : Int32) h0 F) (by decide) (by decide) (by decide) (by decide) e0 E (g := (mkF m 1 #[.val (.ref r), .val (.double x), .second, .val (.double y), .second, .unset] [(.ref r)])) rfl (by rw [hml]; rfl) (lenOf pd_0 rfl) rfl (by show 2 * 0 + _ ≤ _; exact Nat.le_of_eq rfl) (hb hby d2_1)
  obtain ⟨rfl, hL1, e1⟩ := hQ1
  replace X1 := own_pure (v := none) (r := none) X1 rfl rfl hL1
  refine own_via (T' := T1) (g' := (mkF m 4 #[.val (.ref r), .val (.double x), .second, .val (.double y), .second, .unset] [(.int (1 : Int32))])) (fun _ kt => st1 _ kt) ?_
  refine own_via (T' := T1) (g' := (mkF m 60 #[.val (.ref r), .val (.double x), .second, .val (.double y), .second, .unset] [])) (fun _ kt => XS.tswIn X1.here hx rfl (pc0 := 4) (pc' := 60) rfl (hb hby d2_4) rfl (by decide) (o := 56) (by decide) (by decide) (by decide) kt) ?_
  refine own_via (T' := T1) (g' := (mkF m 61 #[.val (.ref r), .val (.double x), .second, .val (.double y), .second, .unset] [(.double x)])) (fun _ kt => XS.dloadN X1.here hx rfl (hb hby d2_60) rfl kt) ?_
  refine own_via (T' := T1) (g' := (mkF m 62 #[.val (.ref r), .val (.double x), .second, .val (.double y), .second, .unset] [(.double y), (.double x)])) (fun _ kt => XS.dloadN X1.here hx rfl (hb hby d2_61) rfl kt) ?_
  refine own_via (T' := T1) (g' := (mkF m 63 #[.val (.ref r), .val (.double x), .second, .val (.double y), .second, .unset] [(.int (-1 : Int32))])) (fun _ kt => XS.dcmpS X1.here hx rfl (hb hby d2_62) rfl hl kt) ?_
  refine own_via (T' := T1) (g' := (mkF m 66 #[.val (.ref r), .val (.double x), .second, .val (.double y), .second, .unset] [])) (fun _ kt => XS.ifNo X1.here hx rfl (hb hby d2_63) rfl ((if0 _ _).trans (feq (by decide : ¬ ((-1 : Int32) = (0 : Int32)))).1) kt) ?_
  refine own_via (T' := T1) (g' := (mkF m 67 #[.val (.ref r), .val (.double x), .second, .val (.double y), .second, .unset] [(.int (1 : Int32))])) (fun _ kt => XS.iconst X1.here hx rfl (hb hby d2_66) kt) ?_
  refine own_via (T' := T1) (g' := (mkF m 71 #[.val (.ref r), .val (.double x), .second, .val (.double y), .second, .unset] [(.int (1 : Int32))])) (fun _ kt => XS.goto X1.here hx rfl (pc0 := 67) (pc' := 71) rfl (hb hby d2_67) (by decide) (by decide) kt) ?_
  refine own_via (T' := T1) (g' := (mkF m 73 #[.val (.ref r), .val (.double x), .second, .val (.double y), .second, .val (.int (1 : Int32))] [])) (fun _ kt => XS.istore X1.here hx rfl (hb hby d2_71) rfl (l' := #[.val (.ref r), .val (.double x), .second, .val (.double y), .second, .val (.int (1 : Int32))]) rfl kt) ?_
  refine own_via (T' := T1) (g' := (mkF m 157 #[.val (.ref r), .val (.double x), .second, .val (.double y), .second, .val (.int (1 : Int32))] [])) (fun _ kt => XS.goto X1.here hx rfl (pc0 := 73) (pc' := 157) rfl (hb hby d2_73) (by decide) (by decide) kt) ?_
  refine own_via (T' := T1) (g' := (mkF m 159 #[.val (.ref r), .val (.double x), .second, .val (.double y), .second, .val (.int (1 : Int32))] [(.int (1 : Int32))])) (fun _ kt => XS.iload X1.here hx rfl (hb hby d2_157) rfl kt) ?_
  exact own_retZ X1 hx hret hlk (hb hby d2_159) (by decide) ⟨rfl, rfl, e1⟩ (by decide) (by decide)
set_option maxRecDepth 65536 in
set_option maxHeartbeats 40000000 in
theorem rm2_1_gt (l : Launch) (Z : State) (a0 : Array Value) (hw : ∀ d ∈ tables_1, d.before a0 Z = true) (ws : List Jvm.Cond) (r : Addr) (x y : UInt64) (h0 : Heap) (hl : cmpValue (FP.dcmp x y) .l = 1) (hg : cmpValue (FP.dcmp x y) .g = 1) (E : Exa Z h0 r "com/example/stylewright/stylewright/xpath/Comparison$Operator") (F : Fld Z h0 r "java/lang/Enum" "ordinal" "I" (.int (1 : Int32))) :
    own_Pure l Z (⟨"com/example/stylewright/stylewright/xpath/Comparison$Operator", "test", "(DD)Z"⟩ : MethodName) prog_67_method_6_code 6 (some .boolean) ws ({ frames := 1, cells := 0, slots := 0, locals := 12 } : Room) #[(.ref r), (.double x), (.double y)] h0 (some (.int 1)) := by
  refine own_body (plainFor_of_name pn_2) ?_
  intro p e s m below meth c T0 hx hby hml hown hnm hret hlk hZ X0 e0
  replace hown : s.vm.findClass "com/example/stylewright/stylewright/xpath/Comparison$Operator" = some m.cls := hown
  replace hret : meth.sig.returnType = (some .boolean) := hret
  replace hnm : meth.name = "test" := hnm
  rw [ef_2 m r x y]
  refine own_via (T' := T0) (g' := (mkF m 1 #[.val (.ref r), .val (.double x), .second, .val (.double y), .second, .unset] [(.ref r)])) (fun _ kt => XS.aloadN X0.here hx rfl (hb hby d2_0) rfl rfl kt) ?_
  obtain ⟨v1, T1, L1, X1, hQ1, st1⟩ := own_callU X0 hx hZ (y := (⟨"com/example/stylewright/stylewright/xpath/Comparison$Operator", "ordinal", "()I"⟩ : MethodName)) (z := (⟨"java/lang/Enum", "ordinal", "()I"⟩ : MethodName)) hown (hw _ (List.mem_of_getElem? (i := 29) rfl)) (hw _ (List.mem_of_getElem? (i := 30) rfl)) (hw _ (List.mem_of_getElem? (i := 31) rfl)) (hw _ (List.mem_of_getElem? (i := 33) rfl)) (hw _ (List.mem_of_getElem? (i := 32) rfl)) (hw _ (List.mem_of_getElem? (i := 34) rfl)) (hw _ (List.mem_of_getElem? (i := 35) rfl)) (by decide) (b := r) (W := 0) (argsL := []) (rest := []) (rm3 l Z a0 hw [] r (1 : Int32) h0 F) (by decide) (by decide) (by decide) (by decide) e0 E (g := (mkF m 1 #[.val (.ref r), .val (.double x), .second, .val (.double y), .second, .unset] [(.ref r)])) rfl (by rw [hml]; rfl) (lenOf pd_0 rfl) rfl (by show 2 * 0 + _ ≤ _; exact Nat.le_of_eq rfl) (hb hby d2_1)
  obtain ⟨rfl, hL1, e1⟩ := hQ1
  replace X1 := own_pure (v := none) (r := none) X1 rfl rfl hL1
  refine own_via (T' := T1) (g' := (mkF m 4 #[.val (.ref r), .val (.double x), .second, .val (.double y), .second, .unset] [(.int (1 : Int32))])) (fun _ kt => st1 _ kt) ?_
  refine own_via (T' := T1) (g' := (mkF m 60 #[.val (.ref r), .val (.double x), .second, .val (.double y), .second, .unset] [])) (fun _ kt => XS.tswIn X1.here hx rfl (pc0 := 4) (pc' := 60) rfl (hb hby d2_4) rfl (by decide) (o := 56) (by decide) (by decide) (by decide) kt) ?_
  refine own_via (T' := T1) (g' := (mkF m 61 #[.val (.ref r), .val (.double x), .second, .val (.double y), .second, .unset] [(.double x)])) (fun _ kt => XS.dloadN X1.here hx rfl (hb hby d2_60) rfl kt) ?_
  refine own_via (T' := T1) (g' := (mkF m 62 #[.val (.ref r), .val (.double x), .second, .val (.double y), .second, .unset] [(.double y), (.double x)])) (fun _ kt => XS.dloadN X1.here hx rfl (hb hby d2_61) rfl kt) ?_
  refine own_via (T' := T1) (g' := (mkF m 63 #[.val (.ref r), .val (.double x), .second, .val (.double y), .second, .unset] [(.int (1 : Int32))])) (fun _ kt => XS.dcmpS X1.here hx rfl (hb hby d2_62) rfl hl kt) ?_
  refine own_via (T' := T1) (g' := (mkF m 66 #[.val (.ref r), .val (.double x), .second, .val (.double y), .second, .unset] [])) (fun _ kt => XS.ifNo X1.here hx rfl (hb hby d2_63) rfl ((if0 _ _).trans (feq (by decide : ¬ ((1 : Int32) = (0 : Int32)))).1) kt) ?_
  refine own_via (T' := T1) (g' := (mkF m 67 #[.val (.ref r), .val (.double x), .second, .val (.double y), .second, .unset] [(.int (1 : Int32))])) (fun _ kt => XS.iconst X1.here hx rfl (hb hby d2_66) kt) ?_
  refine own_via (T' := T1) (g' := (mkF m 71 #[.val (.ref r), .val (.double x), .second, .val (.double y), .second, .unset] [(.int (1 : Int32))])) (fun _ kt => XS.goto X1.here hx rfl (pc0 := 67) (pc' := 71) rfl (hb hby d2_67) (by decide) (by decide) kt) ?_
  refine own_via (T' := T1) (g' := (mkF m 73 #[.val (.ref r), .val (.double x), .second, .val (.double y), .second, .val (.int (1 : Int32))] [])) (fun _ kt => XS.istore X1.here hx rfl (hb hby d2_71) rfl (l' := #[.val (.ref r), .val (.double x), .second, .val (.double y), .second, .val (.int (1 : Int32))]) rfl kt) ?_
  refine own_via (T' := T1) (g' := (mkF m 157 #[.val (.ref r), .val (.double x), .second, .val (.double y), .second, .val (.int (1 : Int32))] [])) (fun _ kt => XS.goto X1.here hx rfl (pc0 := 73) (pc' := 157) rfl (hb hby d2_73) (by decide) (by decide) kt) ?_
  refine own_via (T' := T1) (g' := (mkF m 159 #[.val (.ref r), .val (.double x), .second, .val (.double y), .second, .val (.int (1 : Int32))] [(.int (1 : Int32))])) (fun _ kt => XS.iload X1.here hx rfl (hb hby d2_157) rfl kt) ?_
  exact own_retZ X1 hx hret hlk (hb hby d2_159) (by decide) ⟨rfl, rfl, e1⟩ (by decide) (by decide)
set_option maxRecDepth 65536 in
set_option maxHeartbeats 40000000 in
theorem rm2_2_lt (l : Launch) (Z : State) (a0 : Array Value) (hw : ∀ d ∈ tables_1, d.before a0 Z = true) (ws : List Jvm.Cond) (r : Addr) (x y : UInt64) (h0 : Heap) (hl : cmpValue (FP.dcmp x y) .l = -1) (hg : cmpValue (FP.dcmp x y) .g = -1) (E : Exa Z h0 r "com/example/stylewright/stylewright/xpath/Comparison$Operator") (F : Fld Z h0 r "java/lang/Enum" "ordinal" "I" (.int (2 : Int32))) :
    own_Pure l Z (⟨"com/example/stylewright/stylewright/xpath/Comparison$Operator", "test", "(DD)Z"⟩ : MethodName) prog_67_method_6_code 6 (some .boolean) ws ({ frames := 1, cells := 0, slots := 0, locals := 12 } : Room) #[(.ref r), (.double x), (.double y)] h0 (some (.int 1)) := by
  refine own_body (plainFor_of_name pn_2) ?_
  intro p e s m below meth c T0 hx hby hml hown hnm hret hlk hZ X0 e0
  replace hown : s.vm.findClass "com/example/stylewright/stylewright/xpath/Comparison$Operator" = some m.cls := hown
  replace hret : meth.sig.returnType = (some .boolean) := hret
  replace hnm : meth.name = "test" := hnm
  rw [ef_2 m r x y]
  refine own_via (T' := T0) (g' := (mkF m 1 #[.val (.ref r), .val (.double x), .second, .val (.double y), .second, .unset] [(.ref r)])) (fun _ kt => XS.aloadN X0.here hx rfl (hb hby d2_0) rfl rfl kt) ?_
  obtain ⟨v1, T1, L1, X1, hQ1, st1⟩ := own_callU X0 hx hZ (y := (⟨"com/example/stylewright/stylewright/xpath/Comparison$Operator", "ordinal", "()I"⟩ : MethodName)) (z := (⟨"java/lang/Enum", "ordinal", "()I"⟩ : MethodName)) hown (hw _ (List.mem_of_getElem? (i := 29) rfl)) (hw _ (List.mem_of_getElem? (i := 30) rfl)) (hw _ (List.mem_of_getElem? (i := 31) rfl)) (hw _ (List.mem_of_getElem? (i := 33) rfl)) (hw _ (List.mem_of_getElem? (i := 32) rfl)) (hw _ (List.mem_of_getElem? (i := 34) rfl)) (hw _ (List.mem_of_getElem? (i := 35) rfl)) (by decide) (b := r) (W := 0) (argsL := []) (rest := []) (rm3 l Z a0 hw [] r (2 : Int32) h0 F) (by decide) (by decide) (by decide) (by decide) e0 E (g := (mkF m 1 #[.val (.ref r), .val (.double x), .second, .val (.double y), .second, .unset] [(.ref r)])) rfl (by rw [hml]; rfl) (lenOf pd_0 rfl) rfl (by show 2 * 0 + _ ≤ _; exact Nat.le_of_eq rfl) (hb hby d2_1)
  obtain ⟨rfl, hL1, e1⟩ := hQ1
  replace X1 := own_pure (v := none) (r := none) X1 rfl rfl hL1
  refine own_via (T' := T1) (g' := (mkF m 4 #[.val (.ref r), .val (.double x), .second, .val (.double y), .second, .unset] [(.int (2 : Int32))])) (fun _ kt => st1 _ kt) ?_
  refine own_via (T' := T1) (g' := (mkF m 76 #[.val (.ref r), .val (.double x), .second, .val (.double y), .second, .unset] [])) (fun _ kt => XS.tswIn X1.here hx rfl (pc0 := 4) (pc' := 76) rfl (hb hby d2_4) rfl (by decide) (o := 72) (by decide) (by decide) (by decide) kt) ?_
  refine own_via (T' := T1) (g' := (mkF m 77 #[.val (.ref r), .val (.double x), .second, .val (.double y), .second, .unset] [(.double x)])) (fun _ kt => XS.dloadN X1.here hx rfl (hb hby d2_76) rfl kt) ?_
  refine own_via (T' := T1) (g' := (mkF m 78 #[.val (.ref r), .val (.double x), .second, .val (.double y), .second, .unset] [(.double y), (.double x)])) (fun _ kt => XS.dloadN X1.here hx rfl (hb hby d2_77) rfl kt) ?_
  refine own_via (T' := T1) (g' := (mkF m 79 #[.val (.ref r), .val (.double x), .second, .val (.double y), .second, .unset] [(.int (-1 : Int32))])) (fun _ kt => XS.dcmpS X1.here hx rfl (hb hby d2_78) rfl hg kt) ?_
  refine own_via (T' := T1) (g' := (mkF m 82 #[.val (.ref r), .val (.double x), .second, .val (.double y), .second, .unset] [])) (fun _ kt => XS.ifNo X1.here hx rfl (hb hby d2_79) rfl ((if0 _ _).trans (tlt (by decide : ((-1 : Int32) < (0 : Int32)))).2.1) kt) ?_
  refine own_via (T' := T1) (g' := (mkF m 83 #[.val (.ref r), .val (.double x), .second, .val (.double y), .second, .unset] [(.int (1 : Int32))])) (fun _ kt => XS.iconst X1.here hx rfl (hb hby d2_82) kt) ?_
  refine own_via (T' := T1) (g' := (mkF m 87 #[.val (.ref r), .val (.double x), .second, .val (.double y), .second, .unset] [(.int (1 : Int32))])) (fun _ kt => XS.goto X1.here hx rfl (pc0 := 83) (pc' := 87) rfl (hb hby d2_83) (by decide) (by decide) kt) ?_
  refine own_via (T' := T1) (g' := (mkF m 89 #[.val (.ref r), .val (.double x), .second, .val (.double y), .second, .val (.int (1 : Int32))] [])) (fun _ kt => XS.istore X1.here hx rfl (hb hby d2_87) rfl (l' := #[.val (.ref r), .val (.double x), .second, .val (.double y), .second, .val (.int (1 : Int32))]) rfl kt) ?_
  refine own_via (T' := T1) (g' := (mkF m 157 #[.val (.ref r), .val (.double x), .second, .val (.double y), .second, .val (.int (1 : Int32))] [])) (fun _ kt => XS.goto X1.here hx rfl (pc0 := 89) (pc' := 157) rfl (hb hby d2_89) (by decide) (by decide) kt) ?_
  refine own_via (T' := T1) (g' := (mkF m 159 #[.val (.ref r), .val (.double x), .second, .val (.double y), .second, .val (.int (1 : Int32))] [(.int (1 : Int32))])) (fun _ kt => XS.iload X1.here hx rfl (hb hby d2_157) rfl kt) ?_
  exact own_retZ X1 hx hret hlk (hb hby d2_159) (by decide) ⟨rfl, rfl, e1⟩ (by decide) (by decide)
set_option maxRecDepth 65536 in
set_option maxHeartbeats 40000000 in
theorem rm2_2_gt (l : Launch) (Z : State) (a0 : Array Value) (hw : ∀ d ∈ tables_1, d.before a0 Z = true) (ws : List Jvm.Cond) (r : Addr) (x y : UInt64) (h0 : Heap) (hl : cmpValue (FP.dcmp x y) .l = 1) (hg : cmpValue (FP.dcmp x y) .g = 1) (E : Exa Z h0 r "com/example/stylewright/stylewright/xpath/Comparison$Operator") (F : Fld Z h0 r "java/lang/Enum" "ordinal" "I" (.int (2 : Int32))) :
    own_Pure l Z (⟨"com/example/stylewright/stylewright/xpath/Comparison$Operator", "test", "(DD)Z"⟩ : MethodName) prog_67_method_6_code 6 (some .boolean) ws ({ frames := 1, cells := 0, slots := 0, locals := 12 } : Room) #[(.ref r), (.double x), (.double y)] h0 (some (.int 0)) := by
  refine own_body (plainFor_of_name pn_2) ?_
  intro p e s m below meth c T0 hx hby hml hown hnm hret hlk hZ X0 e0
  replace hown : s.vm.findClass "com/example/stylewright/stylewright/xpath/Comparison$Operator" = some m.cls := hown
  replace hret : meth.sig.returnType = (some .boolean) := hret
  replace hnm : meth.name = "test" := hnm
  rw [ef_2 m r x y]
  refine own_via (T' := T0) (g' := (mkF m 1 #[.val (.ref r), .val (.double x), .second, .val (.double y), .second, .unset] [(.ref r)])) (fun _ kt => XS.aloadN X0.here hx rfl (hb hby d2_0) rfl rfl kt) ?_
  obtain ⟨v1, T1, L1, X1, hQ1, st1⟩ := own_callU X0 hx hZ (y := (⟨"com/example/stylewright/stylewright/xpath/Comparison$Operator", "ordinal", "()I"⟩ : MethodName)) (z := (⟨"java/lang/Enum", "ordinal", "()I"⟩ : MethodName)) hown (hw _ (List.mem_of_getElem? (i := 29) rfl)) (hw _ (List.mem_of_getElem? (i := 30) rfl)) (hw _ (List.mem_of_getElem? (i := 31) rfl)) (hw _ (List.mem_of_getElem? (i := 33) rfl)) (hw _ (List.mem_of_getElem? (i := 32) rfl)) (hw _ (List.mem_of_getElem? (i := 34) rfl)) (hw _ (List.mem_of_getElem? (i := 35) rfl)) (by decide) (b := r) (W := 0) (argsL := []) (rest := []) (rm3 l Z a0 hw [] r (2 : Int32) h0 F) (by decide) (by decide) (by decide) (by decide) e0 E (g := (mkF m 1 #[.val (.ref r), .val (.double x), .second, .val (.double y), .second, .unset] [(.ref r)])) rfl (by rw [hml]; rfl) (lenOf pd_0 rfl) rfl (by show 2 * 0 + _ ≤ _; exact Nat.le_of_eq rfl) (hb hby d2_1)
  obtain ⟨rfl, hL1, e1⟩ := hQ1
  replace X1 := own_pure (v := none) (r := none) X1 rfl rfl hL1
  refine own_via (T' := T1) (g' := (mkF m 4 #[.val (.ref r), .val (.double x), .second, .val (.double y), .second, .unset] [(.int (2 : Int32))])) (fun _ kt => st1 _ kt) ?_
  refine own_via (T' := T1) (g' := (mkF m 76 #[.val (.ref r), .val (.double x), .second, .val (.double y), .second, .unset] [])) (fun _ kt => XS.tswIn X1.here hx rfl (pc0 := 4) (pc' := 76) rfl (hb hby d2_4) rfl (by decide) (o := 72) (by decide) (by decide) (by decide) kt) ?_
  refine own_via (T' := T1) (g' := (mkF m 77 #[.val (.ref r), .val (.double x), .second, .val (.double y), .second, .unset] [(.double x)])) (fun _ kt => XS.dloadN X1.here hx rfl (hb hby d2_76) rfl kt) ?_
  refine own_via (T' := T1) (g' := (mkF m 78 #[.val (.ref r), .val (.double x), .second, .val (.double y), .second, .unset] [(.double y), (.double x)])) (fun _ kt => XS.dloadN X1.here hx rfl (hb hby d2_77) rfl kt) ?_
  refine own_via (T' := T1) (g' := (mkF m 79 #[.val (.ref r), .val (.double x), .second, .val (.double y), .second, .unset] [(.int (1 : Int32))])) (fun _ kt => XS.dcmpS X1.here hx rfl (hb hby d2_78) rfl hg kt) ?_
  refine own_via (T' := T1) (g' := (mkF m 86 #[.val (.ref r), .val (.double x), .second, .val (.double y), .second, .unset] [])) (fun _ kt => XS.ifYes X1.here hx rfl (pc0 := 79) (pc' := 86) rfl (hb hby d2_79) rfl ((if0 _ _).trans (flt (by decide : ¬ ((1 : Int32) < (0 : Int32)))).2.1) (by decide) (by decide) kt) ?_
  refine own_via (T' := T1) (g' := (mkF m 87 #[.val (.ref r), .val (.double x), .second, .val (.double y), .second, .unset] [(.int (0 : Int32))])) (fun _ kt => XS.iconst X1.here hx rfl (hb hby d2_86) kt) ?_
  refine own_via (T' := T1) (g' := (mkF m 89 #[.val (.ref r), .val (.double x), .second, .val (.double y), .second, .val (.int (0 : Int32))] [])) (fun _ kt => XS.istore X1.here hx rfl (hb hby d2_87) rfl (l' := #[.val (.ref r), .val (.double x), .second, .val (.double y), .second, .val (.int (0 : Int32))]) rfl kt) ?_
  refine own_via (T' := T1) (g' := (mkF m 157 #[.val (.ref r), .val (.double x), .second, .val (.double y), .second, .val (.int (0 : Int32))] [])) (fun _ kt => XS.goto X1.here hx rfl (pc0 := 89) (pc' := 157) rfl (hb hby d2_89) (by decide) (by decide) kt) ?_
  refine own_via (T' := T1) (g' := (mkF m 159 #[.val (.ref r), .val (.double x), .second, .val (.double y), .second, .val (.int (0 : Int32))] [(.int (0 : Int32))])) (fun _ kt => XS.iload X1.here hx rfl (hb hby d2_157) rfl kt) ?_
  exact own_retZ X1 hx hret hlk (hb hby d2_159) (by decide) ⟨rfl, rfl, e1⟩ (by decide) (by decide)
set_option maxRecDepth 65536 in
set_option maxHeartbeats 40000000 in
theorem rm2_3_lt (l : Launch) (Z : State) (a0 : Array Value) (hw : ∀ d ∈ tables_1, d.before a0 Z = true) (ws : List Jvm.Cond) (r : Addr) (x y : UInt64) (h0 : Heap) (hl : cmpValue (FP.dcmp x y) .l = -1) (hg : cmpValue (FP.dcmp x y) .g = -1) (E : Exa Z h0 r "com/example/stylewright/stylewright/xpath/Comparison$Operator") (F : Fld Z h0 r "java/lang/Enum" "ordinal" "I" (.int (3 : Int32))) :
    own_Pure l Z (⟨"com/example/stylewright/stylewright/xpath/Comparison$Operator", "test", "(DD)Z"⟩ : MethodName) prog_67_method_6_code 6 (some .boolean) ws ({ frames := 1, cells := 0, slots := 0, locals := 12 } : Room) #[(.ref r), (.double x), (.double y)] h0 (some (.int 1)) := by
  refine own_body (plainFor_of_name pn_2) ?_
  intro p e s m below meth c T0 hx hby hml hown hnm hret hlk hZ X0 e0
  replace hown : s.vm.findClass "com/example/stylewright/stylewright/xpath/Comparison$Operator" = some m.cls := hown
  replace hret : meth.sig.returnType = (some .boolean) := hret
  replace hnm : meth.name = "test" := hnm
  rw [ef_2 m r x y]
  refine own_via (T' := T0) (g' := (mkF m 1 #[.val (.ref r), .val (.double x), .second, .val (.double y), .second, .unset] [(.ref r)])) (fun _ kt => XS.aloadN X0.here hx rfl (hb hby d2_0) rfl rfl kt) ?_
  obtain ⟨v1, T1, L1, X1, hQ1, st1⟩ := own_callU X0 hx hZ (y := (⟨"com/example/stylewright/stylewright/xpath/Comparison$Operator", "ordinal", "()I"⟩ : MethodName)) (z := (⟨"java/lang/Enum", "ordinal", "()I"⟩ : MethodName)) hown (hw _ (List.mem_of_getElem? (i := 29) rfl)) (hw _ (List.mem_of_getElem? (i := 30) rfl)) (hw _ (List.mem_of_getElem? (i := 31) rfl)) (hw _ (List.mem_of_getElem? (i := 33) rfl)) (hw _ (List.mem_of_getElem? (i := 32) rfl)) (hw _ (List.mem_of_getElem? (i := 34) rfl)) (hw _ (List.mem_of_getElem? (i := 35) rfl)) (by decide) (b := r) (W := 0) (argsL := []) (rest := []) (rm3 l Z a0 hw [] r (3 : Int32) h0 F) (by decide) (by decide) (by decide) (by decide) e0 E (g := (mkF m 1 #[.val (.ref r), .val (.double x), .second, .val (.double y), .second, .unset] [(.ref r)])) rfl (by rw [hml]; rfl) (lenOf pd_0 rfl) rfl (by show 2 * 0 + _ ≤ _; exact Nat.le_of_eq rfl) (hb hby d2_1)
  obtain ⟨rfl, hL1, e1⟩ := hQ1
  replace X1 := own_pure (v := none) (r := none) X1 rfl rfl hL1
  refine own_via (T' := T1) (g' := (mkF m 4 #[.val (.ref r), .val (.double x), .second, .val (.double y), .second, .unset] [(.int (3 : Int32))])) (fun _ kt => st1 _ kt) ?_
  refine own_via (T' := T1) (g' := (mkF m 92 #[.val (.ref r), .val (.double x), .second, .val (.double y), .second, .unset] [])) (fun _ kt => XS.tswIn X1.here hx rfl (pc0 := 4) (pc' := 92) rfl (hb hby d2_4) rfl (by decide) (o := 88) (by decide) (by decide) (by decide) kt) ?_
  refine own_via (T' := T1) (g' := (mkF m 93 #[.val (.ref r), .val (.double x), .second, .val (.double y), .second, .unset] [(.double x)])) (fun _ kt => XS.dloadN X1.here hx rfl (hb hby d2_92) rfl kt) ?_
  refine own_via (T' := T1) (g' := (mkF m 94 #[.val (.ref r), .val (.double x), .second, .val (.double y), .second, .unset] [(.double y), (.double x)])) (fun _ kt => XS.dloadN X1.here hx rfl (hb hby d2_93) rfl kt) ?_
  refine own_via (T' := T1) (g' := (mkF m 95 #[.val (.ref r), .val (.double x), .second, .val (.double y), .second, .unset] [(.int (-1 : Int32))])) (fun _ kt => XS.dcmpS X1.here hx rfl (hb hby d2_94) rfl hg kt) ?_
  refine own_via (T' := T1) (g' := (mkF m 98 #[.val (.ref r), .val (.double x), .second, .val (.double y), .second, .unset] [])) (fun _ kt => XS.ifNo X1.here hx rfl (hb hby d2_95) rfl ((if0 _ _).trans (flt (by decide : ¬ ((0 : Int32) < (-1 : Int32)))).2.2.1) kt) ?_
  refine own_via (T' := T1) (g' := (mkF m 99 #[.val (.ref r), .val (.double x), .second, .val (.double y), .second, .unset] [(.int (1 : Int32))])) (fun _ kt => XS.iconst X1.here hx rfl (hb hby d2_98) kt) ?_
  refine own_via (T' := T1) (g' := (mkF m 103 #[.val (.ref r), .val (.double x), .second, .val (.double y), .second, .unset] [(.int (1 : Int32))])) (fun _ kt => XS.goto X1.here hx rfl (pc0 := 99) (pc' := 103) rfl (hb hby d2_99) (by decide) (by decide) kt) ?_
  refine own_via (T' := T1) (g' := (mkF m 105 #[.val (.ref r), .val (.double x), .second, .val (.double y), .second, .val (.int (1 : Int32))] [])) (fun _ kt => XS.istore X1.here hx rfl (hb hby d2_103) rfl (l' := #[.val (.ref r), .val (.double x), .second, .val (.double y), .second, .val (.int (1 : Int32))]) rfl kt) ?_
  refine own_via (T' := T1) (g' := (mkF m 157 #[.val (.ref r), .val (.double x), .second, .val (.double y), .second, .val (.int (1 : Int32))] [])) (fun _ kt => XS.goto X1.here hx rfl (pc0 := 105) (pc' := 157) rfl (hb hby d2_105) (by decide) (by decide) kt) ?_
  refine own_via (T' := T1) (g' := (mkF m 159 #[.val (.ref r), .val (.double x), .second, .val (.double y), .second, .val (.int (1 : Int32))] [(.int (1 : Int32))])) (fun _ kt => XS.iload X1.here hx rfl (hb hby d2_157) rfl kt) ?_
  exact own_retZ X1 hx hret hlk (hb hby d2_159) (by decide) ⟨rfl, rfl, e1⟩ (by decide) (by decide)
set_option maxRecDepth 65536 in
set_option maxHeartbeats 40000000 in
theorem rm2_3_gt (l : Launch) (Z : State) (a0 : Array Value) (hw : ∀ d ∈ tables_1, d.before a0 Z = true) (ws : List Jvm.Cond) (r : Addr) (x y : UInt64) (h0 : Heap) (hl : cmpValue (FP.dcmp x y) .l = 1) (hg : cmpValue (FP.dcmp x y) .g = 1) (E : Exa Z h0 r "com/example/stylewright/stylewright/xpath/Comparison$Operator") (F : Fld Z h0 r "java/lang/Enum" "ordinal" "I" (.int (3 : Int32))) :
    own_Pure l Z (⟨"com/example/stylewright/stylewright/xpath/Comparison$Operator", "test", "(DD)Z"⟩ : MethodName) prog_67_method_6_code 6 (some .boolean) ws ({ frames := 1, cells := 0, slots := 0, locals := 12 } : Room) #[(.ref r), (.double x), (.double y)] h0 (some (.int 0)) := by
  refine own_body (plainFor_of_name pn_2) ?_
  intro p e s m below meth c T0 hx hby hml hown hnm hret hlk hZ X0 e0
  replace hown : s.vm.findClass "com/example/stylewright/stylewright/xpath/Comparison$Operator" = some m.cls := hown
  replace hret : meth.sig.returnType = (some .boolean) := hret
  replace hnm : meth.name = "test" := hnm
  rw [ef_2 m r x y]
  refine own_via (T' := T0) (g' := (mkF m 1 #[.val (.ref r), .val (.double x), .second, .val (.double y), .second, .unset] [(.ref r)])) (fun _ kt => XS.aloadN X0.here hx rfl (hb hby d2_0) rfl rfl kt) ?_
  obtain ⟨v1, T1, L1, X1, hQ1, st1⟩ := own_callU X0 hx hZ (y := (⟨"com/example/stylewright/stylewright/xpath/Comparison$Operator", "ordinal", "()I"⟩ : MethodName)) (z := (⟨"java/lang/Enum", "ordinal", "()I"⟩ : MethodName)) hown (hw _ (List.mem_of_getElem? (i := 29) rfl)) (hw _ (List.mem_of_getElem? (i := 30) rfl)) (hw _ (List.mem_of_getElem? (i := 31) rfl)) (hw _ (List.mem_of_getElem? (i := 33) rfl)) (hw _ (List.mem_of_getElem? (i := 32) rfl)) (hw _ (List.mem_of_getElem? (i := 34) rfl)) (hw _ (List.mem_of_getElem? (i := 35) rfl)) (by decide) (b := r) (W := 0) (argsL := []) (rest := []) (rm3 l Z a0 hw [] r (3 : Int32) h0 F) (by decide) (by decide) (by decide) (by decide) e0 E (g := (mkF m 1 #[.val (.ref r), .val (.double x), .second, .val (.double y), .second, .unset] [(.ref r)])) rfl (by rw [hml]; rfl) (lenOf pd_0 rfl) rfl (by show 2 * 0 + _ ≤ _; exact Nat.le_of_eq rfl) (hb hby d2_1)
  obtain ⟨rfl, hL1, e1⟩ := hQ1
  replace X1 := own_pure (v := none) (r := none) X1 rfl rfl hL1
  refine own_via (T' := T1) (g' := (mkF m 4 #[.val (.ref r), .val (.double x), .second, .val (.double y), .second, .unset] [(.int (3 : Int32))])) (fun _ kt => st1 _ kt) ?_
  refine own_via (T' := T1) (g' := (mkF m 92 #[.val (.ref r), .val (.double x), .second, .val (.double y), .second, .unset] [])) (fun _ kt => XS.tswIn X1.here hx rfl (pc0 := 4) (pc' := 92) rfl (hb hby d2_4) rfl (by decide) (o := 88) (by decide) (by decide) (by decide) kt) ?_
  refine own_via (T' := T1) (g' := (mkF m 93 #[.val (.ref r), .val (.double x), .second, .val (.double y), .second, .unset] [(.double x)])) (fun _ kt => XS.dloadN X1.here hx rfl (hb hby d2_92) rfl kt) ?_
  refine own_via (T' := T1) (g' := (mkF m 94 #[.val (.ref r), .val (.double x), .second, .val (.double y), .second, .unset] [(.double y), (.double x)])) (fun _ kt => XS.dloadN X1.here hx rfl (hb hby d2_93) rfl kt) ?_
  refine own_via (T' := T1) (g' := (mkF m 95 #[.val (.ref r), .val (.double x), .second, .val (.double y), .second, .unset] [(.int (1 : Int32))])) (fun _ kt => XS.dcmpS X1.here hx rfl (hb hby d2_94) rfl hg kt) ?_
  refine own_via (T' := T1) (g' := (mkF m 102 #[.val (.ref r), .val (.double x), .second, .val (.double y), .second, .unset] [])) (fun _ kt => XS.ifYes X1.here hx rfl (pc0 := 95) (pc' := 102) rfl (hb hby d2_95) rfl ((if0 _ _).trans (tlt (by decide : ((0 : Int32) < (1 : Int32)))).2.2.1) (by decide) (by decide) kt) ?_
  refine own_via (T' := T1) (g' := (mkF m 103 #[.val (.ref r), .val (.double x), .second, .val (.double y), .second, .unset] [(.int (0 : Int32))])) (fun _ kt => XS.iconst X1.here hx rfl (hb hby d2_102) kt) ?_
  refine own_via (T' := T1) (g' := (mkF m 105 #[.val (.ref r), .val (.double x), .second, .val (.double y), .second, .val (.int (0 : Int32))] [])) (fun _ kt => XS.istore X1.here hx rfl (hb hby d2_103) rfl (l' := #[.val (.ref r), .val (.double x), .second, .val (.double y), .second, .val (.int (0 : Int32))]) rfl kt) ?_
  refine own_via (T' := T1) (g' := (mkF m 157 #[.val (.ref r), .val (.double x), .second, .val (.double y), .second, .val (.int (0 : Int32))] [])) (fun _ kt => XS.goto X1.here hx rfl (pc0 := 105) (pc' := 157) rfl (hb hby d2_105) (by decide) (by decide) kt) ?_
  refine own_via (T' := T1) (g' := (mkF m 159 #[.val (.ref r), .val (.double x), .second, .val (.double y), .second, .val (.int (0 : Int32))] [(.int (0 : Int32))])) (fun _ kt => XS.iload X1.here hx rfl (hb hby d2_157) rfl kt) ?_
  exact own_retZ X1 hx hret hlk (hb hby d2_159) (by decide) ⟨rfl, rfl, e1⟩ (by decide) (by decide)
set_option maxRecDepth 65536 in
set_option maxHeartbeats 40000000 in
theorem rm2_4_lt (l : Launch) (Z : State) (a0 : Array Value) (hw : ∀ d ∈ tables_1, d.before a0 Z = true) (ws : List Jvm.Cond) (r : Addr) (x y : UInt64) (h0 : Heap) (hl : cmpValue (FP.dcmp x y) .l = -1) (hg : cmpValue (FP.dcmp x y) .g = -1) (E : Exa Z h0 r "com/example/stylewright/stylewright/xpath/Comparison$Operator") (F : Fld Z h0 r "java/lang/Enum" "ordinal" "I" (.int (4 : Int32))) :
    own_Pure l Z (⟨"com/example/stylewright/stylewright/xpath/Comparison$Operator", "test", "(DD)Z"⟩ : MethodName) prog_67_method_6_code 6 (some .boolean) ws ({ frames := 1, cells := 0, slots := 0, locals := 12 } : Room) #[(.ref r), (.double x), (.double y)] h0 (some (.int 0)) := by
  refine own_body (plainFor_of_name pn_2) ?_
  intro p e s m below meth c T0 hx hby hml hown hnm hret hlk hZ X0 e0
  replace hown : s.vm.findClass "com/example/stylewright/stylewright/xpath/Comparison$Operator" = some m.cls := hown
  replace hret : meth.sig.returnType = (some .boolean) := hret
  replace hnm : meth.name = "test" := hnm
  rw [ef_2 m r x y]
  refine own_via (T' := T0) (g' := (mkF m 1 #[.val (.ref r), .val (.double x), .second, .val (.double y), .second, .unset] [(.ref r)])) (fun _ kt => XS.aloadN X0.here hx rfl (hb hby d2_0) rfl rfl kt) ?_
  obtain ⟨v1, T1, L1, X1, hQ1, st1⟩ := own_callU X0 hx hZ (y := (⟨"com/example/stylewright/stylewright/xpath/Comparison$Operator", "ordinal", "()I"⟩ : MethodName)) (z := (⟨"java/lang/Enum", "ordinal", "()I"⟩ : MethodName)) hown (hw _ (List.mem_of_getElem? (i := 29) rfl)) (hw _ (List.mem_of_getElem? (i := 30) rfl)) (hw _ (List.mem_of_getElem? (i := 31) rfl)) (hw _ (List.mem_of_getElem? (i := 33) rfl)) (hw _ (List.mem_of_getElem? (i := 32) rfl)) (hw _ (List.mem_of_getElem? (i := 34) rfl)) (hw _ (List.mem_of_getElem? (i := 35) rfl)) (by decide) (b := r) (W := 0) (argsL := []) (rest := []) (rm3 l Z a0 hw [] r (4 : Int32) h0 F) (by decide) (by decide) (by decide) (by decide) e0 E (g := (mkF m 1 #[.val (.ref r), .val (.double x), .second, .val (.double y), .second, .unset] [(.ref r)])) rfl (by rw [hml]; rfl) (lenOf pd_0 rfl) rfl (by show 2 * 0 + _ ≤ _; exact Nat.le_of_eq rfl) (hb hby d2_1)
  obtain ⟨rfl, hL1, e1⟩ := hQ1
  replace X1 := own_pure (v := none) (r := none) X1 rfl rfl hL1
  refine own_via (T' := T1) (g' := (mkF m 4 #[.val (.ref r), .val (.double x), .second, .val (.double y), .second, .unset] [(.int (4 : Int32))])) (fun _ kt => st1 _ kt) ?_
  refine own_via (T' := T1) (g' := (mkF m 108 #[.val (.ref r), .val (.double x), .second, .val (.double y), .second, .unset] [])) (fun _ kt => XS.tswIn X1.here hx rfl (pc0 := 4) (pc' := 108) rfl (hb hby d2_4) rfl (by decide) (o := 104) (by decide) (by decide) (by decide) kt) ?_
  refine own_via (T' := T1) (g' := (mkF m 109 #[.val (.ref r), .val (.double x), .second, .val (.double y), .second, .unset] [(.double x)])) (fun _ kt => XS.dloadN X1.here hx rfl (hb hby d2_108) rfl kt) ?_
  refine own_via (T' := T1) (g' := (mkF m 110 #[.val (.ref r), .val (.double x), .second, .val (.double y), .second, .unset] [(.double y), (.double x)])) (fun _ kt => XS.dloadN X1.here hx rfl (hb hby d2_109) rfl kt) ?_
  refine own_via (T' := T1) (g' := (mkF m 111 #[.val (.ref r), .val (.double x), .second, .val (.double y), .second, .unset] [(.int (-1 : Int32))])) (fun _ kt => XS.dcmpS X1.here hx rfl (hb hby d2_110) rfl hl kt) ?_
  refine own_via (T' := T1) (g' := (mkF m 118 #[.val (.ref r), .val (.double x), .second, .val (.double y), .second, .unset] [])) (fun _ kt => XS.ifYes X1.here hx rfl (pc0 := 111) (pc' := 118) rfl (hb hby d2_111) rfl ((if0 _ _).trans (flt (by decide : ¬ ((0 : Int32) < (-1 : Int32)))).2.2.2) (by decide) (by decide) kt) ?_
  refine own_via (T' := T1) (g' := (mkF m 119 #[.val (.ref r), .val (.double x), .second, .val (.double y), .second, .unset] [(.int (0 : Int32))])) (fun _ kt => XS.iconst X1.here hx rfl (hb hby d2_118) kt) ?_
  refine own_via (T' := T1) (g' := (mkF m 121 #[.val (.ref r), .val (.double x), .second, .val (.double y), .second, .val (.int (0 : Int32))] [])) (fun _ kt => XS.istore X1.here hx rfl (hb hby d2_119) rfl (l' := #[.val (.ref r), .val (.double x), .second, .val (.double y), .second, .val (.int (0 : Int32))]) rfl kt) ?_
  refine own_via (T' := T1) (g' := (mkF m 157 #[.val (.ref r), .val (.double x), .second, .val (.double y), .second, .val (.int (0 : Int32))] [])) (fun _ kt => XS.goto X1.here hx rfl (pc0 := 121) (pc' := 157) rfl (hb hby d2_121) (by decide) (by decide) kt) ?_
  refine own_via (T' := T1) (g' := (mkF m 159 #[.val (.ref r), .val (.double x), .second, .val (.double y), .second, .val (.int (0 : Int32))] [(.int (0 : Int32))])) (fun _ kt => XS.iload X1.here hx rfl (hb hby d2_157) rfl kt) ?_
  exact own_retZ X1 hx hret hlk (hb hby d2_159) (by decide) ⟨rfl, rfl, e1⟩ (by decide) (by decide)
set_option maxRecDepth 65536 in
set_option maxHeartbeats 40000000 in
theorem rm2_4_gt (l : Launch) (Z : State) (a0 : Array Value) (hw : ∀ d ∈ tables_1, d.before a0 Z = true) (ws : List Jvm.Cond) (r : Addr) (x y : UInt64) (h0 : Heap) (hl : cmpValue (FP.dcmp x y) .l = 1) (hg : cmpValue (FP.dcmp x y) .g = 1) (E : Exa Z h0 r "com/example/stylewright/stylewright/xpath/Comparison$Operator") (F : Fld Z h0 r "java/lang/Enum" "ordinal" "I" (.int (4 : Int32))) :
    own_Pure l Z (⟨"com/example/stylewright/stylewright/xpath/Comparison$Operator", "test", "(DD)Z"⟩ : MethodName) prog_67_method_6_code 6 (some .boolean) ws ({ frames := 1, cells := 0, slots := 0, locals := 12 } : Room) #[(.ref r), (.double x), (.double y)] h0 (some (.int 1)) := by
  refine own_body (plainFor_of_name pn_2) ?_
  intro p e s m below meth c T0 hx hby hml hown hnm hret hlk hZ X0 e0
  replace hown : s.vm.findClass "com/example/stylewright/stylewright/xpath/Comparison$Operator" = some m.cls := hown
  replace hret : meth.sig.returnType = (some .boolean) := hret
  replace hnm : meth.name = "test" := hnm
  rw [ef_2 m r x y]
  refine own_via (T' := T0) (g' := (mkF m 1 #[.val (.ref r), .val (.double x), .second, .val (.double y), .second, .unset] [(.ref r)])) (fun _ kt => XS.aloadN X0.here hx rfl (hb hby d2_0) rfl rfl kt) ?_
  obtain ⟨v1, T1, L1, X1, hQ1, st1⟩ := own_callU X0 hx hZ (y := (⟨"com/example/stylewright/stylewright/xpath/Comparison$Operator", "ordinal", "()I"⟩ : MethodName)) (z := (⟨"java/lang/Enum", "ordinal", "()I"⟩ : MethodName)) hown (hw _ (List.mem_of_getElem? (i := 29) rfl)) (hw _ (List.mem_of_getElem? (i := 30) rfl)) (hw _ (List.mem_of_getElem? (i := 31) rfl)) (hw _ (List.mem_of_getElem? (i := 33) rfl)) (hw _ (List.mem_of_getElem? (i := 32) rfl)) (hw _ (List.mem_of_getElem? (i := 34) rfl)) (hw _ (List.mem_of_getElem? (i := 35) rfl)) (by decide) (b := r) (W := 0) (argsL := []) (rest := []) (rm3 l Z a0 hw [] r (4 : Int32) h0 F) (by decide) (by decide) (by decide) (by decide) e0 E (g := (mkF m 1 #[.val (.ref r), .val (.double x), .second, .val (.double y), .second, .unset] [(.ref r)])) rfl (by rw [hml]; rfl) (lenOf pd_0 rfl) rfl (by show 2 * 0 + _ ≤ _; exact Nat.le_of_eq rfl) (hb hby d2_1)
  obtain ⟨rfl, hL1, e1⟩ := hQ1
  replace X1 := own_pure (v := none) (r := none) X1 rfl rfl hL1
  refine own_via (T' := T1) (g' := (mkF m 4 #[.val (.ref r), .val (.double x), .second, .val (.double y), .second, .unset] [(.int (4 : Int32))])) (fun _ kt => st1 _ kt) ?_
  refine own_via (T' := T1) (g' := (mkF m 108 #[.val (.ref r), .val (.double x), .second, .val (.double y), .second, .unset] [])) (fun _ kt => XS.tswIn X1.here hx rfl (pc0 := 4) (pc' := 108) rfl (hb hby d2_4) rfl (by decide) (o := 104) (by decide) (by decide) (by decide) kt) ?_
  refine own_via (T' := T1) (g' := (mkF m 109 #[.val (.ref r), .val (.double x), .second, .val (.double y), .second, .unset] [(.double x)])) (fun _ kt => XS.dloadN X1.here hx rfl (hb hby d2_108) rfl kt) ?_
  refine own_via (T' := T1) (g' := (mkF m 110 #[.val (.ref r), .val (.double x), .second, .val (.double y), .second, .unset] [(.double y), (.double x)])) (fun _ kt => XS.dloadN X1.here hx rfl (hb hby d2_109) rfl kt) ?_
  refine own_via (T' := T1) (g' := (mkF m 111 #[.val (.ref r), .val (.double x), .second, .val (.double y), .second, .unset] [(.int (1 : Int32))])) (fun _ kt => XS.dcmpS X1.here hx rfl (hb hby d2_110) rfl hl kt) ?_
  refine own_via (T' := T1) (g' := (mkF m 114 #[.val (.ref r), .val (.double x), .second, .val (.double y), .second, .unset] [])) (fun _ kt => XS.ifNo X1.here hx rfl (hb hby d2_111) rfl ((if0 _ _).trans (tlt (by decide : ((0 : Int32) < (1 : Int32)))).2.2.2) kt) ?_
  refine own_via (T' := T1) (g' := (mkF m 115 #[.val (.ref r), .val (.double x), .second, .val (.double y), .second, .unset] [(.int (1 : Int32))])) (fun _ kt => XS.iconst X1.here hx rfl (hb hby d2_114) kt) ?_
  refine own_via (T' := T1) (g' := (mkF m 119 #[.val (.ref r), .val (.double x), .second, .val (.double y), .second, .unset] [(.int (1 : Int32))])) (fun _ kt => XS.goto X1.here hx rfl (pc0 := 115) (pc' := 119) rfl (hb hby d2_115) (by decide) (by decide) kt) ?_
  refine own_via (T' := T1) (g' := (mkF m 121 #[.val (.ref r), .val (.double x), .second, .val (.double y), .second, .val (.int (1 : Int32))] [])) (fun _ kt => XS.istore X1.here hx rfl (hb hby d2_119) rfl (l' := #[.val (.ref r), .val (.double x), .second, .val (.double y), .second, .val (.int (1 : Int32))]) rfl kt) ?_
  refine own_via (T' := T1) (g' := (mkF m 157 #[.val (.ref r), .val (.double x), .second, .val (.double y), .second, .val (.int (1 : Int32))] [])) (fun _ kt => XS.goto X1.here hx rfl (pc0 := 121) (pc' := 157) rfl (hb hby d2_121) (by decide) (by decide) kt) ?_
  refine own_via (T' := T1) (g' := (mkF m 159 #[.val (.ref r), .val (.double x), .second, .val (.double y), .second, .val (.int (1 : Int32))] [(.int (1 : Int32))])) (fun _ kt => XS.iload X1.here hx rfl (hb hby d2_157) rfl kt) ?_
  exact own_retZ X1 hx hret hlk (hb hby d2_159) (by decide) ⟨rfl, rfl, e1⟩ (by decide) (by decide)
set_option maxRecDepth 65536 in
set_option maxHeartbeats 40000000 in
theorem rm2_5_lt (l : Launch) (Z : State) (a0 : Array Value) (hw : ∀ d ∈ tables_1, d.before a0 Z = true) (ws : List Jvm.Cond) (r : Addr) (x y : UInt64) (h0 : Heap) (hl : cmpValue (FP.dcmp x y) .l = -1) (hg : cmpValue (FP.dcmp x y) .g = -1) (E : Exa Z h0 r "com/example/stylewright/stylewright/xpath/Comparison$Operator") (F : Fld Z h0 r "java/lang/Enum" "ordinal" "I" (.int (5 : Int32))) :
    own_Pure l Z (⟨"com/example/stylewright/stylewright/xpath/Comparison$Operator", "test", "(DD)Z"⟩ : MethodName) prog_67_method_6_code 6 (some .boolean) ws ({ frames := 1, cells := 0, slots := 0, locals := 12 } : Room) #[(.ref r), (.double x), (.double y)] h0 (some (.int 0)) := by
  refine own_body (plainFor_of_name pn_2) ?_
  intro p e s m below meth c T0 hx hby hml hown hnm hret hlk hZ X0 e0
  replace hown : s.vm.findClass "com/example/stylewright/stylewright/xpath/Comparison$Operator" = some m.cls := hown
  replace hret : meth.sig.returnType = (some .boolean) := hret
  replace hnm : meth.name = "test" := hnm
  rw [ef_2 m r x y]
  refine own_via (T' := T0) (g' := (mkF m 1 #[.val (.ref r), .val (.double x), .second, .val (.double y), .second, .unset] [(.ref r)])) (fun _ kt => XS.aloadN X0.here hx rfl (hb hby d2_0) rfl rfl kt) ?_
  obtain ⟨v1, T1, L1, X1, hQ1, st1⟩ := own_callU X0 hx hZ (y := (⟨"com/example/stylewright/stylewright/xpath/Comparison$Operator", "ordinal", "()I"⟩ : MethodName)) (z := (⟨"java/lang/Enum", "ordinal", "()I"⟩ : MethodName)) hown (hw _ (List.mem_of_getElem? (i := 29) rfl)) (hw _ (List.mem_of_getElem? (i := 30) rfl)) (hw _ (List.mem_of_getElem? (i := 31) rfl)) (hw _ (List.mem_of_getElem? (i := 33) rfl)) (hw _ (List.mem_of_getElem? (i := 32) rfl)) (hw _ (List.mem_of_getElem? (i := 34) rfl)) (hw _ (List.mem_of_getElem? (i := 35) rfl)) (by decide) (b := r) (W := 0) (argsL := []) (rest := []) (rm3 l Z a0 hw [] r (5 : Int32) h0 F) (by decide) (by decide) (by decide) (by decide) e0 E (g := (mkF m 1 #[.val (.ref r), .val (.double x), .second, .val (.double y), .second, .unset] [(.ref r)])) rfl (by rw [hml]; rfl) (lenOf pd_0 rfl) rfl (by show 2 * 0 + _ ≤ _; exact Nat.le_of_eq rfl) (hb hby d2_1)
  obtain ⟨rfl, hL1, e1⟩ := hQ1
  replace X1 := own_pure (v := none) (r := none) X1 rfl rfl hL1
  refine own_via (T' := T1) (g' := (mkF m 4 #[.val (.ref r), .val (.double x), .second, .val (.double y), .second, .unset] [(.int (5 : Int32))])) (fun _ kt => st1 _ kt) ?_
  refine own_via (T' := T1) (g' := (mkF m 124 #[.val (.ref r), .val (.double x), .second, .val (.double y), .second, .unset] [])) (fun _ kt => XS.tswIn X1.here hx rfl (pc0 := 4) (pc' := 124) rfl (hb hby d2_4) rfl (by decide) (o := 120) (by decide) (by decide) (by decide) kt) ?_
  refine own_via (T' := T1) (g' := (mkF m 125 #[.val (.ref r), .val (.double x), .second, .val (.double y), .second, .unset] [(.double x)])) (fun _ kt => XS.dloadN X1.here hx rfl (hb hby d2_124) rfl kt) ?_
  refine own_via (T' := T1) (g' := (mkF m 126 #[.val (.ref r), .val (.double x), .second, .val (.double y), .second, .unset] [(.double y), (.double x)])) (fun _ kt => XS.dloadN X1.here hx rfl (hb hby d2_125) rfl kt) ?_
  refine own_via (T' := T1) (g' := (mkF m 127 #[.val (.ref r), .val (.double x), .second, .val (.double y), .second, .unset] [(.int (-1 : Int32))])) (fun _ kt => XS.dcmpS X1.here hx rfl (hb hby d2_126) rfl hl kt) ?_
  refine own_via (T' := T1) (g' := (mkF m 134 #[.val (.ref r), .val (.double x), .second, .val (.double y), .second, .unset] [])) (fun _ kt => XS.ifYes X1.here hx rfl (pc0 := 127) (pc' := 134) rfl (hb hby d2_127) rfl ((if0 _ _).trans (tlt (by decide : ((-1 : Int32) < (0 : Int32)))).1) (by decide) (by decide) kt) ?_
  refine own_via (T' := T1) (g' := (mkF m 135 #[.val (.ref r), .val (.double x), .second, .val (.double y), .second, .unset] [(.int (0 : Int32))])) (fun _ kt => XS.iconst X1.here hx rfl (hb hby d2_134) kt) ?_
  refine own_via (T' := T1) (g' := (mkF m 137 #[.val (.ref r), .val (.double x), .second, .val (.double y), .second, .val (.int (0 : Int32))] [])) (fun _ kt => XS.istore X1.here hx rfl (hb hby d2_135) rfl (l' := #[.val (.ref r), .val (.double x), .second, .val (.double y), .second, .val (.int (0 : Int32))]) rfl kt) ?_
  refine own_via (T' := T1) (g' := (mkF m 157 #[.val (.ref r), .val (.double x), .second, .val (.double y), .second, .val (.int (0 : Int32))] [])) (fun _ kt => XS.goto X1.here hx rfl (pc0 := 137) (pc' := 157) rfl (hb hby d2_137) (by decide) (by decide) kt) ?_
  refine own_via (T' := T1) (g' := (mkF m 159 #[.val (.ref r), .val (.double x), .second, .val (.double y), .second, .val (.int (0 : Int32))] [(.int (0 : Int32))])) (fun _ kt => XS.iload X1.here hx rfl (hb hby d2_157) rfl kt) ?_
  exact own_retZ X1 hx hret hlk (hb hby d2_159) (by decide) ⟨rfl, rfl, e1⟩ (by decide) (by decide)
set_option maxRecDepth 65536 in
set_option maxHeartbeats 40000000 in
theorem rm2_5_gt (l : Launch) (Z : State) (a0 : Array Value) (hw : ∀ d ∈ tables_1, d.before a0 Z = true) (ws : List Jvm.Cond) (r : Addr) (x y : UInt64) (h0 : Heap) (hl : cmpValue (FP.dcmp x y) .l = 1) (hg : cmpValue (FP.dcmp x y) .g = 1) (E : Exa Z h0 r "com/example/stylewright/stylewright/xpath/Comparison$Operator") (F : Fld Z h0 r "java/lang/Enum" "ordinal" "I" (.int (5 : Int32))) :
    own_Pure l Z (⟨"com/example/stylewright/stylewright/xpath/Comparison$Operator", "test", "(DD)Z"⟩ : MethodName) prog_67_method_6_code 6 (some .boolean) ws ({ frames := 1, cells := 0, slots := 0, locals := 12 } : Room) #[(.ref r), (.double x), (.double y)] h0 (some (.int 1)) := by
  refine own_body (plainFor_of_name pn_2) ?_
  intro p e s m below meth c T0 hx hby hml hown hnm hret hlk hZ X0 e0
  replace hown : s.vm.findClass "com/example/stylewright/stylewright/xpath/Comparison$Operator" = some m.cls := hown
  replace hret : meth.sig.returnType = (some .boolean) := hret
  replace hnm : meth.name = "test" := hnm
  rw [ef_2 m r x y]
  refine own_via (T' := T0) (g' := (mkF m 1 #[.val (.ref r), .val (.double x), .second, .val (.double y), .second, .unset] [(.ref r)])) (fun _ kt => XS.aloadN X0.here hx rfl (hb hby d2_0) rfl rfl kt) ?_
  obtain ⟨v1, T1, L1, X1, hQ1, st1⟩ := own_callU X0 hx hZ (y := (⟨"com/example/stylewright/stylewright/xpath/Comparison$Operator", "ordinal", "()I"⟩ : MethodName)) (z := (⟨"java/lang/Enum", "ordinal", "()I"⟩ : MethodName)) hown (hw _ (List.mem_of_getElem? (i := 29) rfl)) (hw _ (List.mem_of_getElem? (i := 30) rfl)) (hw _ (List.mem_of_getElem? (i := 31) rfl)) (hw _ (List.mem_of_getElem? (i := 33) rfl)) (hw _ (List.mem_of_getElem? (i := 32) rfl)) (hw _ (List.mem_of_getElem? (i := 34) rfl)) (hw _ (List.mem_of_getElem? (i := 35) rfl)) (by decide) (b := r) (W := 0) (argsL := []) (rest := []) (rm3 l Z a0 hw [] r (5 : Int32) h0 F) (by decide) (by decide) (by decide) (by decide) e0 E (g := (mkF m 1 #[.val (.ref r), .val (.double x), .second, .val (.double y), .second, .unset] [(.ref r)])) rfl (by rw [hml]; rfl) (lenOf pd_0 rfl) rfl (by show 2 * 0 + _ ≤ _; exact Nat.le_of_eq rfl) (hb hby d2_1)
  obtain ⟨rfl, hL1, e1⟩ := hQ1
  replace X1 := own_pure (v := none) (r := none) X1 rfl rfl hL1
  refine own_via (T' := T1) (g' := (mkF m 4 #[.val (.ref r), .val (.double x), .second, .val (.double y), .second, .unset] [(.int (5 : Int32))])) (fun _ kt => st1 _ kt) ?_
  refine own_via (T' := T1) (g' := (mkF m 124 #[.val (.ref r), .val (.double x), .second, .val (.double y), .second, .unset] [])) (fun _ kt => XS.tswIn X1.here hx rfl (pc0 := 4) (pc' := 124) rfl (hb hby d2_4) rfl (by decide) (o := 120) (by decide) (by decide) (by decide) kt) ?_
  refine own_via (T' := T1) (g' := (mkF m 125 #[.val (.ref r), .val (.double x), .second, .val (.double y), .second, .unset] [(.double x)])) (fun _ kt => XS.dloadN X1.here hx rfl (hb hby d2_124) rfl kt) ?_
  refine own_via (T' := T1) (g' := (mkF m 126 #[.val (.ref r), .val (.double x), .second, .val (.double y), .second, .unset] [(.double y), (.double x)])) (fun _ kt => XS.dloadN X1.here hx rfl (hb hby d2_125) rfl kt) ?_
  refine own_via (T' := T1) (g' := (mkF m 127 #[.val (.ref r), .val (.double x), .second, .val (.double y), .second, .unset] [(.int (1 : Int32))])) (fun _ kt => XS.dcmpS X1.here hx rfl (hb hby d2_126) rfl hl kt) ?_
  refine own_via (T' := T1) (g' := (mkF m 130 #[.val (.ref r), .val (.double x), .second, .val (.double y), .second, .unset] [])) (fun _ kt => XS.ifNo X1.here hx rfl (hb hby d2_127) rfl ((if0 _ _).trans (flt (by decide : ¬ ((1 : Int32) < (0 : Int32)))).1) kt) ?_
  refine own_via (T' := T1) (g' := (mkF m 131 #[.val (.ref r), .val (.double x), .second, .val (.double y), .second, .unset] [(.int (1 : Int32))])) (fun _ kt => XS.iconst X1.here hx rfl (hb hby d2_130) kt) ?_
  refine own_via (T' := T1) (g' := (mkF m 135 #[.val (.ref r), .val (.double x), .second, .val (.double y), .second, .unset] [(.int (1 : Int32))])) (fun _ kt => XS.goto X1.here hx rfl (pc0 := 131) (pc' := 135) rfl (hb hby d2_131) (by decide) (by decide) kt) ?_
  refine own_via (T' := T1) (g' := (mkF m 137 #[.val (.ref r), .val (.double x), .second, .val (.double y), .second, .val (.int (1 : Int32))] [])) (fun _ kt => XS.istore X1.here hx rfl (hb hby d2_135) rfl (l' := #[.val (.ref r), .val (.double x), .second, .val (.double y), .second, .val (.int (1 : Int32))]) rfl kt) ?_
  refine own_via (T' := T1) (g' := (mkF m 157 #[.val (.ref r), .val (.double x), .second, .val (.double y), .second, .val (.int (1 : Int32))] [])) (fun _ kt => XS.goto X1.here hx rfl (pc0 := 137) (pc' := 157) rfl (hb hby d2_137) (by decide) (by decide) kt) ?_
  refine own_via (T' := T1) (g' := (mkF m 159 #[.val (.ref r), .val (.double x), .second, .val (.double y), .second, .val (.int (1 : Int32))] [(.int (1 : Int32))])) (fun _ kt => XS.iload X1.here hx rfl (hb hby d2_157) rfl kt) ?_
  exact own_retZ X1 hx hret hlk (hb hby d2_159) (by decide) ⟨rfl, rfl, e1⟩ (by decide) (by decide)
theorem d4_0 : decode prog_67_method_5_code 0 = .ok (.aload_n 0, 1) := by decide +kernel
theorem d4_1 : decode prog_67_method_5_code 1 = .ok (.invokevirtual 41, 3) := by decide +kernel
theorem d4_4 : decode prog_67_method_5_code 4 = .ok (.tableswitch 60 2 5 #[32, 39, 46, 53], 32) := by decide +kernel
theorem d4_36 : decode prog_67_method_5_code 36 = .ok (.getstatic 16, 3) := by decide +kernel
theorem d4_39 : decode prog_67_method_5_code 39 = .ok (.astore_n 1, 1) := by decide +kernel
theorem d4_40 : decode prog_67_method_5_code 40 = .ok (.goto 26, 3) := by decide +kernel
theorem d4_43 : decode prog_67_method_5_code 43 = .ok (.getstatic 19, 3) := by decide +kernel
theorem d4_46 : decode prog_67_method_5_code 46 = .ok (.astore_n 1, 1) := by decide +kernel
theorem d4_47 : decode prog_67_method_5_code 47 = .ok (.goto 19, 3) := by decide +kernel
theorem d4_50 : decode prog_67_method_5_code 50 = .ok (.getstatic 10, 3) := by decide +kernel
theorem d4_53 : decode prog_67_method_5_code 53 = .ok (.astore_n 1, 1) := by decide +kernel
theorem d4_54 : decode prog_67_method_5_code 54 = .ok (.goto 12, 3) := by decide +kernel
theorem d4_57 : decode prog_67_method_5_code 57 = .ok (.getstatic 13, 3) := by decide +kernel
theorem d4_60 : decode prog_67_method_5_code 60 = .ok (.astore_n 1, 1) := by decide +kernel
theorem d4_61 : decode prog_67_method_5_code 61 = .ok (.goto 5, 3) := by decide +kernel
theorem d4_64 : decode prog_67_method_5_code 64 = .ok (.aload_n 0, 1) := by decide +kernel
theorem d4_65 : decode prog_67_method_5_code 65 = .ok (.astore_n 1, 1) := by decide +kernel
theorem d4_66 : decode prog_67_method_5_code 66 = .ok (.aload_n 1, 1) := by decide +kernel
theorem d4_67 : decode prog_67_method_5_code 67 = .ok (.areturn, 1) := by decide +kernel
theorem pn_4 : plainName "com/example/stylewright/stylewright/xpath/Comparison$Operator" = true := by first | (simp [plainName, overriddenIn]; done) | decide +kernel
theorem ef_4 (m : MethodId) (x0 : Addr) : entryFrame m #[(.ref x0)] 2 = mkF m 0 #[.val (.ref x0), .unset] [] := by first | (simp [entryFrame, mkF, argsToLocals, Value.category]; done) | rfl
set_option maxRecDepth 65536 in
set_option maxHeartbeats 40000000 in
theorem rm4_0 (l : Launch) (Z : State) (a0 : Array Value) (hw : ∀ d ∈ tables_1, d.before a0 Z = true) (ws : List Jvm.Cond) (r : Addr) (h0 : Heap)  (E : Exa Z h0 r "com/example/stylewright/stylewright/xpath/Comparison$Operator") (F : Fld Z h0 r "java/lang/Enum" "ordinal" "I" (.int (0 : Int32))) :
    own_Pure l Z (⟨"com/example/stylewright/stylewright/xpath/Comparison$Operator", "swapped", "()Lcom/example/stylewright/stylewright/xpath/Comparison$Operator;"⟩ : MethodName) prog_67_method_5_code 2 (some (.object "com/example/stylewright/stylewright/xpath/Comparison$Operator")) ws ({ frames := 1, cells := 0, slots := 0, locals := 12 } : Room) #[(.ref r)] h0 (some (.ref r)) := by
  refine own_body (plainFor_of_name pn_4) ?_
  intro p e s m below meth c T0 hx hby hml hown hnm hret hlk hZ X0 e0
  replace hown : s.vm.findClass "com/example/stylewright/stylewright/xpath/Comparison$Operator" = some m.cls := hown
  replace hret : meth.sig.returnType = (some (.object "com/example/stylewright/stylewright/xpath/Comparison$Operator")) := hret
  replace hnm : meth.name = "swapped" := hnm
  rw [ef_4 m r]
  refine own_via (T' := T0) (g' := (mkF m 1 #[.val (.ref r), .unset] [(.ref r)])) (fun _ kt => XS.aloadN X0.here hx rfl (hb hby d4_0) rfl rfl kt) ?_
  obtain ⟨v1, T1, L1, X1, hQ1, st1⟩ := own_callU X0 hx hZ (y := (⟨"com/example/stylewright/stylewright/xpath/Comparison$Operator", "ordinal", "()I"⟩ : MethodName)) (z := (⟨"java/lang/Enum", "ordinal", "()I"⟩ : MethodName)) hown (hw _ (List.mem_of_getElem? (i := 29) rfl)) (hw _ (List.mem_of_getElem? (i := 30) rfl)) (hw _ (List.mem_of_getElem? (i := 31) rfl)) (hw _ (List.mem_of_getElem? (i := 33) rfl)) (hw _ (List.mem_of_getElem? (i := 32) rfl)) (hw _ (List.mem_of_getElem? (i := 34) rfl)) (hw _ (List.mem_of_getElem? (i := 35) rfl)) (by decide) (b := r) (W := 0) (argsL := []) (rest := []) (rm3 l Z a0 hw [] r (0 : Int32) h0 F) (by decide) (by decide) (by decide) (by decide) e0 E (g := (mkF m 1 #[.val (.ref r), .unset] [(.ref r)])) rfl (by rw [hml]; rfl) (lenOf pd_0 rfl) rfl (by show 2 * 0 + _ ≤ _; exact Nat.le_of_eq rfl) (hb hby d4_1)
  obtain ⟨rfl, hL1, e1⟩ := hQ1
  replace X1 := own_pure (v := none) (r := none) X1 rfl rfl hL1
  refine own_via (T' := T1) (g' := (mkF m 4 #[.val (.ref r), .unset] [(.int (0 : Int32))])) (fun _ kt => st1 _ kt) ?_
  refine own_via (T' := T1) (g' := (mkF m 64 #[.val (.ref r), .unset] [])) (fun _ kt => XS.tswOut X1.here hx rfl (pc0 := 4) (pc' := 64) rfl (hb hby d4_4) rfl (by decide) (by decide) (by decide) kt) ?_
  refine own_via (T' := T1) (g' := (mkF m 65 #[.val (.ref r), .unset] [(.ref r)])) (fun _ kt => XS.aloadN X1.here hx rfl (hb hby d4_64) rfl rfl kt) ?_
  refine own_via (T' := T1) (g' := (mkF m 66 #[.val (.ref r), .val (.ref r)] [])) (fun _ kt => XS.astoreN X1.here hx rfl (hb hby d4_65) rfl rfl (l' := #[.val (.ref r), .val (.ref r)]) rfl kt) ?_
  refine own_via (T' := T1) (g' := (mkF m 67 #[.val (.ref r), .val (.ref r)] [(.ref r)])) (fun _ kt => XS.aloadN X1.here hx rfl (hb hby d4_66) rfl rfl kt) ?_
  exact own_retA X1 hx hret rfl hlk rfl rfl (hb hby d4_67) ⟨rfl, rfl, e1⟩ (by decide) (by decide)
set_option maxRecDepth 65536 in
set_option maxHeartbeats 40000000 in
theorem rm4_1 (l : Launch) (Z : State) (a0 : Array Value) (hw : ∀ d ∈ tables_1, d.before a0 Z = true) (ws : List Jvm.Cond) (r : Addr) (h0 : Heap)  (E : Exa Z h0 r "com/example/stylewright/stylewright/xpath/Comparison$Operator") (F : Fld Z h0 r "java/lang/Enum" "ordinal" "I" (.int (1 : Int32))) :
    own_Pure l Z (⟨"com/example/stylewright/stylewright/xpath/Comparison$Operator", "swapped", "()Lcom/example/stylewright/stylewright/xpath/Comparison$Operator;"⟩ : MethodName) prog_67_method_5_code 2 (some (.object "com/example/stylewright/stylewright/xpath/Comparison$Operator")) ws ({ frames := 1, cells := 0, slots := 0, locals := 12 } : Room) #[(.ref r)] h0 (some (.ref r)) := by
  refine own_body (plainFor_of_name pn_4) ?_
  intro p e s m below meth c T0 hx hby hml hown hnm hret hlk hZ X0 e0
  replace hown : s.vm.findClass "com/example/stylewright/stylewright/xpath/Comparison$Operator" = some m.cls := hown
  replace hret : meth.sig.returnType = (some (.object "com/example/stylewright/stylewright/xpath/Comparison$Operator")) := hret
  replace hnm : meth.name = "swapped" := hnm
  rw [ef_4 m r]
  refine own_via (T' := T0) (g' := (mkF m 1 #[.val (.ref r), .unset] [(.ref r)])) (fun _ kt => XS.aloadN X0.here hx rfl (hb hby d4_0) rfl rfl kt) ?_
  obtain ⟨v1, T1, L1, X1, hQ1, st1⟩ := own_callU X0 hx hZ (y := (⟨"com/example/stylewright/stylewright/xpath/Comparison$Operator", "ordinal", "()I"⟩ : MethodName)) (z := (⟨"java/lang/Enum", "ordinal", "()I"⟩ : MethodName)) hown (hw _ (List.mem_of_getElem? (i := 29) rfl)) (hw _ (List.mem_of_getElem? (i := 30) rfl)) (hw _ (List.mem_of_getElem? (i := 31) rfl)) (hw _ (List.mem_of_getElem? (i := 33) rfl)) (hw _ (List.mem_of_getElem? (i := 32) rfl)) (hw _ (List.mem_of_getElem? (i := 34) rfl)) (hw _ (List.mem_of_getElem? (i := 35) rfl)) (by decide) (b := r) (W := 0) (argsL := []) (rest := []) (rm3 l Z a0 hw [] r (1 : Int32) h0 F) (by decide) (by decide) (by decide) (by decide) e0 E (g := (mkF m 1 #[.val (.ref r), .unset] [(.ref r)])) rfl (by rw [hml]; rfl) (lenOf pd_0 rfl) rfl (by show 2 * 0 + _ ≤ _; exact Nat.le_of_eq rfl) (hb hby d4_1)
  obtain ⟨rfl, hL1, e1⟩ := hQ1
  replace X1 := own_pure (v := none) (r := none) X1 rfl rfl hL1
  refine own_via (T' := T1) (g' := (mkF m 4 #[.val (.ref r), .unset] [(.int (1 : Int32))])) (fun _ kt => st1 _ kt) ?_
  refine own_via (T' := T1) (g' := (mkF m 64 #[.val (.ref r), .unset] [])) (fun _ kt => XS.tswOut X1.here hx rfl (pc0 := 4) (pc' := 64) rfl (hb hby d4_4) rfl (by decide) (by decide) (by decide) kt) ?_
  refine own_via (T' := T1) (g' := (mkF m 65 #[.val (.ref r), .unset] [(.ref r)])) (fun _ kt => XS.aloadN X1.here hx rfl (hb hby d4_64) rfl rfl kt) ?_
  refine own_via (T' := T1) (g' := (mkF m 66 #[.val (.ref r), .val (.ref r)] [])) (fun _ kt => XS.astoreN X1.here hx rfl (hb hby d4_65) rfl rfl (l' := #[.val (.ref r), .val (.ref r)]) rfl kt) ?_
  refine own_via (T' := T1) (g' := (mkF m 67 #[.val (.ref r), .val (.ref r)] [(.ref r)])) (fun _ kt => XS.aloadN X1.here hx rfl (hb hby d4_66) rfl rfl kt) ?_
  exact own_retA X1 hx hret rfl hlk rfl rfl (hb hby d4_67) ⟨rfl, rfl, e1⟩ (by decide) (by decide)
set_option maxRecDepth 65536 in
set_option maxHeartbeats 40000000 in
theorem rm4_2 (l : Launch) (Z : State) (a0 : Array Value) (hw : ∀ d ∈ tables_1, d.before a0 Z = true) (ws : List Jvm.Cond) (r x4 : Addr) (h0 : Heap) (S4 : Sta Z h0 "com/example/stylewright/stylewright/xpath/Comparison$Operator" "GREATER" "Lcom/example/stylewright/stylewright/xpath/Comparison$Operator;" (.ref x4)) (E : Exa Z h0 r "com/example/stylewright/stylewright/xpath/Comparison$Operator") (F : Fld Z h0 r "java/lang/Enum" "ordinal" "I" (.int (2 : Int32))) :
    own_Pure l Z (⟨"com/example/stylewright/stylewright/xpath/Comparison$Operator", "swapped", "()Lcom/example/stylewright/stylewright/xpath/Comparison$Operator;"⟩ : MethodName) prog_67_method_5_code 2 (some (.object "com/example/stylewright/stylewright/xpath/Comparison$Operator")) ws ({ frames := 1, cells := 0, slots := 0, locals := 12 } : Room) #[(.ref r)] h0 (some (.ref x4)) := by
  refine own_body (plainFor_of_name pn_4) ?_
  intro p e s m below meth c T0 hx hby hml hown hnm hret hlk hZ X0 e0
  replace hown : s.vm.findClass "com/example/stylewright/stylewright/xpath/Comparison$Operator" = some m.cls := hown
  replace hret : meth.sig.returnType = (some (.object "com/example/stylewright/stylewright/xpath/Comparison$Operator")) := hret
  replace hnm : meth.name = "swapped" := hnm
  rw [ef_4 m r]
  refine own_via (T' := T0) (g' := (mkF m 1 #[.val (.ref r), .unset] [(.ref r)])) (fun _ kt => XS.aloadN X0.here hx rfl (hb hby d4_0) rfl rfl kt) ?_
  obtain ⟨v1, T1, L1, X1, hQ1, st1⟩ := own_callU X0 hx hZ (y := (⟨"com/example/stylewright/stylewright/xpath/Comparison$Operator", "ordinal", "()I"⟩ : MethodName)) (z := (⟨"java/lang/Enum", "ordinal", "()I"⟩ : MethodName)) hown (hw _ (List.mem_of_getElem? (i := 29) rfl)) (hw _ (List.mem_of_getElem? (i := 30) rfl)) (hw _ (List.mem_of_getElem? (i := 31) rfl)) (hw _ (List.mem_of_getElem? (i := 33) rfl)) (hw _ (List.mem_of_getElem? (i := 32) rfl)) (hw _ (List.mem_of_getElem? (i := 34) rfl)) (hw _ (List.mem_of_getElem? (i := 35) rfl)) (by decide) (b := r) (W := 0) (argsL := []) (rest := []) (rm3 l Z a0 hw [] r (2 : Int32) h0 F) (by decide) (by decide) (by decide) (by decide) e0 E (g := (mkF m 1 #[.val (.ref r), .unset] [(.ref r)])) rfl (by rw [hml]; rfl) (lenOf pd_0 rfl) rfl (by show 2 * 0 + _ ≤ _; exact Nat.le_of_eq rfl) (hb hby d4_1)
  obtain ⟨rfl, hL1, e1⟩ := hQ1
  replace X1 := own_pure (v := none) (r := none) X1 rfl rfl hL1
  refine own_via (T' := T1) (g' := (mkF m 4 #[.val (.ref r), .unset] [(.int (2 : Int32))])) (fun _ kt => st1 _ kt) ?_
  refine own_via (T' := T1) (g' := (mkF m 36 #[.val (.ref r), .unset] [])) (fun _ kt => XS.tswIn X1.here hx rfl (pc0 := 4) (pc' := 36) rfl (hb hby d4_4) rfl (by decide) (o := 32) (by decide) (by decide) (by decide) kt) ?_
  obtain ⟨T2, X2, e2, st2⟩ := getS2 X1 hx hZ hown (host := "") (Or.inl (hw _ (List.mem_of_getElem? (i := 45) rfl))) Via.refl e1 S4 (g := (mkF m 36 #[.val (.ref r), .unset] [])) rfl (hb hby d4_36)
  refine own_via (T' := T2) (g' := (mkF m 39 #[.val (.ref r), .unset] [(.ref x4)])) (fun _ kt => st2 _ kt) ?_
  refine own_via (T' := T2) (g' := (mkF m 40 #[.val (.ref r), .val (.ref x4)] [])) (fun _ kt => XS.astoreN X2.here hx rfl (hb hby d4_39) rfl rfl (l' := #[.val (.ref r), .val (.ref x4)]) rfl kt) ?_
  refine own_via (T' := T2) (g' := (mkF m 66 #[.val (.ref r), .val (.ref x4)] [])) (fun _ kt => XS.goto X2.here hx rfl (pc0 := 40) (pc' := 66) rfl (hb hby d4_40) (by decide) (by decide) kt) ?_
  refine own_via (T' := T2) (g' := (mkF m 67 #[.val (.ref r), .val (.ref x4)] [(.ref x4)])) (fun _ kt => XS.aloadN X2.here hx rfl (hb hby d4_66) rfl rfl kt) ?_
  exact own_retA X2 hx hret rfl hlk rfl rfl (hb hby d4_67) ⟨rfl, rfl, e2⟩ (by decide) (by decide)
set_option maxRecDepth 65536 in
set_option maxHeartbeats 40000000 in
theorem rm4_3 (l : Launch) (Z : State) (a0 : Array Value) (hw : ∀ d ∈ tables_1, d.before a0 Z = true) (ws : List Jvm.Cond) (r x5 : Addr) (h0 : Heap) (S5 : Sta Z h0 "com/example/stylewright/stylewright/xpath/Comparison$Operator" "GREATER_OR_EQUAL" "Lcom/example/stylewright/stylewright/xpath/Comparison$Operator;" (.ref x5)) (E : Exa Z h0 r "com/example/stylewright/stylewright/xpath/Comparison$Operator") (F : Fld Z h0 r "java/lang/Enum" "ordinal" "I" (.int (3 : Int32))) :
    own_Pure l Z (⟨"com/example/stylewright/stylewright/xpath/Comparison$Operator", "swapped", "()Lcom/example/stylewright/stylewright/xpath/Comparison$Operator;"⟩ : MethodName) prog_67_method_5_code 2 (some (.object "com/example/stylewright/stylewright/xpath/Comparison$Operator")) ws ({ frames := 1, cells := 0, slots := 0, locals := 12 } : Room) #[(.ref r)] h0 (some (.ref x5)) := by
  refine own_body (plainFor_of_name pn_4) ?_
  intro p e s m below meth c T0 hx hby hml hown hnm hret hlk hZ X0 e0
  replace hown : s.vm.findClass "com/example/stylewright/stylewright/xpath/Comparison$Operator" = some m.cls := hown
  replace hret : meth.sig.returnType = (some (.object "com/example/stylewright/stylewright/xpath/Comparison$Operator")) := hret
  replace hnm : meth.name = "swapped" := hnm
  rw [ef_4 m r]
  refine own_via (T' := T0) (g' := (mkF m 1 #[.val (.ref r), .unset] [(.ref r)])) (fun _ kt => XS.aloadN X0.here hx rfl (hb hby d4_0) rfl rfl kt) ?_
  obtain ⟨v1, T1, L1, X1, hQ1, st1⟩ := own_callU X0 hx hZ (y := (⟨"com/example/stylewright/stylewright/xpath/Comparison$Operator", "ordinal", "()I"⟩ : MethodName)) (z := (⟨"java/lang/Enum", "ordinal", "()I"⟩ : MethodName)) hown (hw _ (List.mem_of_getElem? (i := 29) rfl)) (hw _ (List.mem_of_getElem? (i := 30) rfl)) (hw _ (List.mem_of_getElem? (i := 31) rfl)) (hw _ (List.mem_of_getElem? (i := 33) rfl)) (hw _ (List.mem_of_getElem? (i := 32) rfl)) (hw _ (List.mem_of_getElem? (i := 34) rfl)) (hw _ (List.mem_of_getElem? (i := 35) rfl)) (by decide) (b := r) (W := 0) (argsL := []) (rest := []) (rm3 l Z a0 hw [] r (3 : Int32) h0 F) (by decide) (by decide) (by decide) (by decide) e0 E (g := (mkF m 1 #[.val (.ref r), .unset] [(.ref r)])) rfl (by rw [hml]; rfl) (lenOf pd_0 rfl) rfl (by show 2 * 0 + _ ≤ _; exact Nat.le_of_eq rfl) (hb hby d4_1)
  obtain ⟨rfl, hL1, e1⟩ := hQ1
  replace X1 := own_pure (v := none) (r := none) X1 rfl rfl hL1
  refine own_via (T' := T1) (g' := (mkF m 4 #[.val (.ref r), .unset] [(.int (3 : Int32))])) (fun _ kt => st1 _ kt) ?_
  refine own_via (T' := T1) (g' := (mkF m 43 #[.val (.ref r), .unset] [])) (fun _ kt => XS.tswIn X1.here hx rfl (pc0 := 4) (pc' := 43) rfl (hb hby d4_4) rfl (by decide) (o := 39) (by decide) (by decide) (by decide) kt) ?_
  obtain ⟨T2, X2, e2, st2⟩ := getS2 X1 hx hZ hown (host := "") (Or.inl (hw _ (List.mem_of_getElem? (i := 44) rfl))) Via.refl e1 S5 (g := (mkF m 43 #[.val (.ref r), .unset] [])) rfl (hb hby d4_43)
  refine own_via (T' := T2) (g' := (mkF m 46 #[.val (.ref r), .unset] [(.ref x5)])) (fun _ kt => st2 _ kt) ?_
  refine own_via (T' := T2) (g' := (mkF m 47 #[.val (.ref r), .val (.ref x5)] [])) (fun _ kt => XS.astoreN X2.here hx rfl (hb hby d4_46) rfl rfl (l' := #[.val (.ref r), .val (.ref x5)]) rfl kt) ?_
  refine own_via (T' := T2) (g' := (mkF m 66 #[.val (.ref r), .val (.ref x5)] [])) (fun _ kt => XS.goto X2.here hx rfl (pc0 := 47) (pc' := 66) rfl (hb hby d4_47) (by decide) (by decide) kt) ?_
  refine own_via (T' := T2) (g' := (mkF m 67 #[.val (.ref r), .val (.ref x5)] [(.ref x5)])) (fun _ kt => XS.aloadN X2.here hx rfl (hb hby d4_66) rfl rfl kt) ?_
  exact own_retA X2 hx hret rfl hlk rfl rfl (hb hby d4_67) ⟨rfl, rfl, e2⟩ (by decide) (by decide)
set_option maxRecDepth 65536 in
set_option maxHeartbeats 40000000 in
theorem rm4_4 (l : Launch) (Z : State) (a0 : Array Value) (hw : ∀ d ∈ tables_1, d.before a0 Z = true) (ws : List Jvm.Cond) (r x2 : Addr) (h0 : Heap) (S2 : Sta Z h0 "com/example/stylewright/stylewright/xpath/Comparison$Operator" "LESS" "Lcom/example/stylewright/stylewright/xpath/Comparison$Operator;" (.ref x2)) (E : Exa Z h0 r "com/example/stylewright/stylewright/xpath/Comparison$Operator") (F : Fld Z h0 r "java/lang/Enum" "ordinal" "I" (.int (4 : Int32))) :
    own_Pure l Z (⟨"com/example/stylewright/stylewright/xpath/Comparison$Operator", "swapped", "()Lcom/example/stylewright/stylewright/xpath/Comparison$Operator;"⟩ : MethodName) prog_67_method_5_code 2 (some (.object "com/example/stylewright/stylewright/xpath/Comparison$Operator")) ws ({ frames := 1, cells := 0, slots := 0, locals := 12 } : Room) #[(.ref r)] h0 (some (.ref x2)) := by
  refine own_body (plainFor_of_name pn_4) ?_
  intro p e s m below meth c T0 hx hby hml hown hnm hret hlk hZ X0 e0
  replace hown : s.vm.findClass "com/example/stylewright/stylewright/xpath/Comparison$Operator" = some m.cls := hown
  replace hret : meth.sig.returnType = (some (.object "com/example/stylewright/stylewright/xpath/Comparison$Operator")) := hret
  replace hnm : meth.name = "swapped" := hnm
  rw [ef_4 m r]
  refine own_via (T' := T0) (g' := (mkF m 1 #[.val (.ref r), .unset] [(.ref r)])) (fun _ kt => XS.aloadN X0.here hx rfl (hb hby d4_0) rfl rfl kt) ?_
  obtain ⟨v1, T1, L1, X1, hQ1, st1⟩ := own_callU X0 hx hZ (y := (⟨"com/example/stylewright/stylewright/xpath/Comparison$Operator", "ordinal", "()I"⟩ : MethodName)) (z := (⟨"java/lang/Enum", "ordinal", "()I"⟩ : MethodName)) hown (hw _ (List.mem_of_getElem? (i := 29) rfl)) (hw _ (List.mem_of_getElem? (i := 30) rfl)) (hw _ (List.mem_of_getElem? (i := 31) rfl)) (hw _ (List.mem_of_getElem? (i := 33) rfl)) (hw _ (List.mem_of_getElem? (i := 32) rfl)) (hw _ (List.mem_of_getElem? (i := 34) rfl)) (hw _ (List.mem_of_getElem? (i := 35) rfl)) (by decide) (b := r) (W := 0) (argsL := []) (rest := []) (rm3 l Z a0 hw [] r (4 : Int32) h0 F) (by decide) (by decide) (by decide) (by decide) e0 E (g := (mkF m 1 #[.val (.ref r), .unset] [(.ref r)])) rfl (by rw [hml]; rfl) (lenOf pd_0 rfl) rfl (by show 2 * 0 + _ ≤ _; exact Nat.le_of_eq rfl) (hb hby d4_1)
  obtain ⟨rfl, hL1, e1⟩ := hQ1
  replace X1 := own_pure (v := none) (r := none) X1 rfl rfl hL1
  refine own_via (T' := T1) (g' := (mkF m 4 #[.val (.ref r), .unset] [(.int (4 : Int32))])) (fun _ kt => st1 _ kt) ?_
  refine own_via (T' := T1) (g' := (mkF m 50 #[.val (.ref r), .unset] [])) (fun _ kt => XS.tswIn X1.here hx rfl (pc0 := 4) (pc' := 50) rfl (hb hby d4_4) rfl (by decide) (o := 46) (by decide) (by decide) (by decide) kt) ?_
  obtain ⟨T2, X2, e2, st2⟩ := getS2 X1 hx hZ hown (host := "") (Or.inl (hw _ (List.mem_of_getElem? (i := 47) rfl))) Via.refl e1 S2 (g := (mkF m 50 #[.val (.ref r), .unset] [])) rfl (hb hby d4_50)
  refine own_via (T' := T2) (g' := (mkF m 53 #[.val (.ref r), .unset] [(.ref x2)])) (fun _ kt => st2 _ kt) ?_
  refine own_via (T' := T2) (g' := (mkF m 54 #[.val (.ref r), .val (.ref x2)] [])) (fun _ kt => XS.astoreN X2.here hx rfl (hb hby d4_53) rfl rfl (l' := #[.val (.ref r), .val (.ref x2)]) rfl kt) ?_
  refine own_via (T' := T2) (g' := (mkF m 66 #[.val (.ref r), .val (.ref x2)] [])) (fun _ kt => XS.goto X2.here hx rfl (pc0 := 54) (pc' := 66) rfl (hb hby d4_54) (by decide) (by decide) kt) ?_
  refine own_via (T' := T2) (g' := (mkF m 67 #[.val (.ref r), .val (.ref x2)] [(.ref x2)])) (fun _ kt => XS.aloadN X2.here hx rfl (hb hby d4_66) rfl rfl kt) ?_
  exact own_retA X2 hx hret rfl hlk rfl rfl (hb hby d4_67) ⟨rfl, rfl, e2⟩ (by decide) (by decide)
set_option maxRecDepth 65536 in
set_option maxHeartbeats 40000000 in
theorem rm4_5 (l : Launch) (Z : State) (a0 : Array Value) (hw : ∀ d ∈ tables_1, d.before a0 Z = true) (ws : List Jvm.Cond) (r x3 : Addr) (h0 : Heap) (S3 : Sta Z h0 "com/example/stylewright/stylewright/xpath/Comparison$Operator" "LESS_OR_EQUAL" "Lcom/example/stylewright/stylewright/xpath/Comparison$Operator;" (.ref x3)) (E : Exa Z h0 r "com/example/stylewright/stylewright/xpath/Comparison$Operator") (F : Fld Z h0 r "java/lang/Enum" "ordinal" "I" (.int (5 : Int32))) :
    own_Pure l Z (⟨"com/example/stylewright/stylewright/xpath/Comparison$Operator", "swapped", "()Lcom/example/stylewright/stylewright/xpath/Comparison$Operator;"⟩ : MethodName) prog_67_method_5_code 2 (some (.object "com/example/stylewright/stylewright/xpath/Comparison$Operator")) ws ({ frames := 1, cells := 0, slots := 0, locals := 12 } : Room) #[(.ref r)] h0 (some (.ref x3)) := by
  refine own_body (plainFor_of_name pn_4) ?_
  intro p e s m below meth c T0 hx hby hml hown hnm hret hlk hZ X0 e0
  replace hown : s.vm.findClass "com/example/stylewright/stylewright/xpath/Comparison$Operator" = some m.cls := hown
  replace hret : meth.sig.returnType = (some (.object "com/example/stylewright/stylewright/xpath/Comparison$Operator")) := hret
  replace hnm : meth.name = "swapped" := hnm
  rw [ef_4 m r]
  refine own_via (T' := T0) (g' := (mkF m 1 #[.val (.ref r), .unset] [(.ref r)])) (fun _ kt => XS.aloadN X0.here hx rfl (hb hby d4_0) rfl rfl kt) ?_
  obtain ⟨v1, T1, L1, X1, hQ1, st1⟩ := own_callU X0 hx hZ (y := (⟨"com/example/stylewright/stylewright/xpath/Comparison$Operator", "ordinal", "()I"⟩ : MethodName)) (z := (⟨"java/lang/Enum", "ordinal", "()I"⟩ : MethodName)) hown (hw _ (List.mem_of_getElem? (i := 29) rfl)) (hw _ (List.mem_of_getElem? (i := 30) rfl)) (hw _ (List.mem_of_getElem? (i := 31) rfl)) (hw _ (List.mem_of_getElem? (i := 33) rfl)) (hw _ (List.mem_of_getElem? (i := 32) rfl)) (hw _ (List.mem_of_getElem? (i := 34) rfl)) (hw _ (List.mem_of_getElem? (i := 35) rfl)) (by decide) (b := r) (W := 0) (argsL := []) (rest := []) (rm3 l Z a0 hw [] r (5 : Int32) h0 F) (by decide) (by decide) (by decide) (by decide) e0 E (g := (mkF m 1 #[.val (.ref r), .unset] [(.ref r)])) rfl (by rw [hml]; rfl) (lenOf pd_0 rfl) rfl (by show 2 * 0 + _ ≤ _; exact Nat.le_of_eq rfl) (hb hby d4_1)
  obtain ⟨rfl, hL1, e1⟩ := hQ1
  replace X1 := own_pure (v := none) (r := none) X1 rfl rfl hL1
  refine own_via (T' := T1) (g' := (mkF m 4 #[.val (.ref r), .unset] [(.int (5 : Int32))])) (fun _ kt => st1 _ kt) ?_
  refine own_via (T' := T1) (g' := (mkF m 57 #[.val (.ref r), .unset] [])) (fun _ kt => XS.tswIn X1.here hx rfl (pc0 := 4) (pc' := 57) rfl (hb hby d4_4) rfl (by decide) (o := 53) (by decide) (by decide) (by decide) kt) ?_
  obtain ⟨T2, X2, e2, st2⟩ := getS2 X1 hx hZ hown (host := "") (Or.inl (hw _ (List.mem_of_getElem? (i := 46) rfl))) Via.refl e1 S3 (g := (mkF m 57 #[.val (.ref r), .unset] [])) rfl (hb hby d4_57)
  refine own_via (T' := T2) (g' := (mkF m 60 #[.val (.ref r), .unset] [(.ref x3)])) (fun _ kt => st2 _ kt) ?_
  refine own_via (T' := T2) (g' := (mkF m 61 #[.val (.ref r), .val (.ref x3)] [])) (fun _ kt => XS.astoreN X2.here hx rfl (hb hby d4_60) rfl rfl (l' := #[.val (.ref r), .val (.ref x3)]) rfl kt) ?_
  refine own_via (T' := T2) (g' := (mkF m 66 #[.val (.ref r), .val (.ref x3)] [])) (fun _ kt => XS.goto X2.here hx rfl (pc0 := 61) (pc' := 66) rfl (hb hby d4_61) (by decide) (by decide) kt) ?_
  refine own_via (T' := T2) (g' := (mkF m 67 #[.val (.ref r), .val (.ref x3)] [(.ref x3)])) (fun _ kt => XS.aloadN X2.here hx rfl (hb hby d4_66) rfl rfl kt) ?_
  exact own_retA X2 hx hret rfl hlk rfl rfl (hb hby d4_67) ⟨rfl, rfl, e2⟩ (by decide) (by decide)
theorem own_rem (x : Int32) : 0 ≤ ((x &&& (2147483647 : Int32)) % (6 : Int32)).toInt ∧ ((x &&& (2147483647 : Int32)) % (6 : Int32)).toInt < (6 : Nat) := by
  have h := c_and x 2147483647 (by decide)
  have q := (c_irem (x &&& 2147483647) 6 6 rfl).1 h.1
  rw [q]; omega
theorem pn_0 : plainName "com/example/stylewright/stylewright/xpath/OperatorIsEqualityPinLaw" = true := by first | (simp [plainName, overriddenIn]; done) | decide +kernel
theorem ef_0 (m : MethodId) (x0 : Int32) : entryFrame m #[(.int x0)] maxLocals = mkF m 0 #[.val (.int x0), .unset, .unset, .unset, .unset, .unset, .unset, .unset, .unset, .unset, .unset] [] := by first | (simp [entryFrame, mkF, argsToLocals, Value.category, maxLocals]; done) | rfl
set_option maxRecDepth 65536 in
set_option maxHeartbeats 40000000 in
theorem rm0 (l : Launch) (Z : State) (a0 : Array Value) (hw : ∀ d ∈ tables_1, d.before a0 Z = true) (ws : List Jvm.Cond) (p1 : Int32) (h0 : Heap) (n0 : Nat) (Z0 : n0 ≤ h0.size) (x0 x1 x2 x3 x4 x5 : Addr) (sS0 : Sta Z h0 "com/example/stylewright/stylewright/xpath/Comparison$Operator" "EQUALS" "Lcom/example/stylewright/stylewright/xpath/Comparison$Operator;" (.ref x0)) (sS1 : Sta Z h0 "com/example/stylewright/stylewright/xpath/Comparison$Operator" "NOT_EQUALS" "Lcom/example/stylewright/stylewright/xpath/Comparison$Operator;" (.ref x1)) (sS2 : Sta Z h0 "com/example/stylewright/stylewright/xpath/Comparison$Operator" "LESS" "Lcom/example/stylewright/stylewright/xpath/Comparison$Operator;" (.ref x2)) (sS3 : Sta Z h0 "com/example/stylewright/stylewright/xpath/Comparison$Operator" "LESS_OR_EQUAL" "Lcom/example/stylewright/stylewright/xpath/Comparison$Operator;" (.ref x3)) (sS4 : Sta Z h0 "com/example/stylewright/stylewright/xpath/Comparison$Operator" "GREATER" "Lcom/example/stylewright/stylewright/xpath/Comparison$Operator;" (.ref x4)) (sS5 : Sta Z h0 "com/example/stylewright/stylewright/xpath/Comparison$Operator" "GREATER_OR_EQUAL" "Lcom/example/stylewright/stylewright/xpath/Comparison$Operator;" (.ref x5)) (sE0 : Exa Z h0 x0 "com/example/stylewright/stylewright/xpath/Comparison$Operator") (sE1 : Exa Z h0 x1 "com/example/stylewright/stylewright/xpath/Comparison$Operator") (sE2 : Exa Z h0 x2 "com/example/stylewright/stylewright/xpath/Comparison$Operator") (sE3 : Exa Z h0 x3 "com/example/stylewright/stylewright/xpath/Comparison$Operator") (sE4 : Exa Z h0 x4 "com/example/stylewright/stylewright/xpath/Comparison$Operator") (sE5 : Exa Z h0 x5 "com/example/stylewright/stylewright/xpath/Comparison$Operator") (sF0 : Fld Z h0 x0 "java/lang/Enum" "ordinal" "I" (.int (0 : Int32))) (sF1 : Fld Z h0 x1 "java/lang/Enum" "ordinal" "I" (.int (1 : Int32))) (sF2 : Fld Z h0 x2 "java/lang/Enum" "ordinal" "I" (.int (2 : Int32))) (sF3 : Fld Z h0 x3 "java/lang/Enum" "ordinal" "I" (.int (3 : Int32))) (sF4 : Fld Z h0 x4 "java/lang/Enum" "ordinal" "I" (.int (4 : Int32))) (sF5 : Fld Z h0 x5 "java/lang/Enum" "ordinal" "I" (.int (5 : Int32))) :
    own_Con l Z x code maxLocals ret ws room_1 #[(.int p1)] h0 (fun v h L => v = some (.int 1) ∧ Fr n0 L) := by
  have ne0_1 : ¬ x0 = x1 := sF0.ne sF1 (fun q => absurd (Value.int.inj q) (by decide))
  have ne0_2 : ¬ x0 = x2 := sF0.ne sF2 (fun q => absurd (Value.int.inj q) (by decide))
  have ne0_3 : ¬ x0 = x3 := sF0.ne sF3 (fun q => absurd (Value.int.inj q) (by decide))
  have ne0_4 : ¬ x0 = x4 := sF0.ne sF4 (fun q => absurd (Value.int.inj q) (by decide))
  have ne0_5 : ¬ x0 = x5 := sF0.ne sF5 (fun q => absurd (Value.int.inj q) (by decide))
  have ne1_0 : ¬ x1 = x0 := sF1.ne sF0 (fun q => absurd (Value.int.inj q) (by decide))
  have ne1_2 : ¬ x1 = x2 := sF1.ne sF2 (fun q => absurd (Value.int.inj q) (by decide))
  have ne1_3 : ¬ x1 = x3 := sF1.ne sF3 (fun q => absurd (Value.int.inj q) (by decide))
  have ne1_4 : ¬ x1 = x4 := sF1.ne sF4 (fun q => absurd (Value.int.inj q) (by decide))
  have ne1_5 : ¬ x1 = x5 := sF1.ne sF5 (fun q => absurd (Value.int.inj q) (by decide))
  have ne2_0 : ¬ x2 = x0 := sF2.ne sF0 (fun q => absurd (Value.int.inj q) (by decide))
  have ne2_1 : ¬ x2 = x1 := sF2.ne sF1 (fun q => absurd (Value.int.inj q) (by decide))
  have ne2_3 : ¬ x2 = x3 := sF2.ne sF3 (fun q => absurd (Value.int.inj q) (by decide))
  have ne2_4 : ¬ x2 = x4 := sF2.ne sF4 (fun q => absurd (Value.int.inj q) (by decide))
  have ne2_5 : ¬ x2 = x5 := sF2.ne sF5 (fun q => absurd (Value.int.inj q) (by decide))
  have ne3_0 : ¬ x3 = x0 := sF3.ne sF0 (fun q => absurd (Value.int.inj q) (by decide))
  have ne3_1 : ¬ x3 = x1 := sF3.ne sF1 (fun q => absurd (Value.int.inj q) (by decide))
  have ne3_2 : ¬ x3 = x2 := sF3.ne sF2 (fun q => absurd (Value.int.inj q) (by decide))
  have ne3_4 : ¬ x3 = x4 := sF3.ne sF4 (fun q => absurd (Value.int.inj q) (by decide))
  have ne3_5 : ¬ x3 = x5 := sF3.ne sF5 (fun q => absurd (Value.int.inj q) (by decide))
  have ne4_0 : ¬ x4 = x0 := sF4.ne sF0 (fun q => absurd (Value.int.inj q) (by decide))
  have ne4_1 : ¬ x4 = x1 := sF4.ne sF1 (fun q => absurd (Value.int.inj q) (by decide))
  have ne4_2 : ¬ x4 = x2 := sF4.ne sF2 (fun q => absurd (Value.int.inj q) (by decide))
  have ne4_3 : ¬ x4 = x3 := sF4.ne sF3 (fun q => absurd (Value.int.inj q) (by decide))
  have ne4_5 : ¬ x4 = x5 := sF4.ne sF5 (fun q => absurd (Value.int.inj q) (by decide))
  have ne5_0 : ¬ x5 = x0 := sF5.ne sF0 (fun q => absurd (Value.int.inj q) (by decide))
  have ne5_1 : ¬ x5 = x1 := sF5.ne sF1 (fun q => absurd (Value.int.inj q) (by decide))
  have ne5_2 : ¬ x5 = x2 := sF5.ne sF2 (fun q => absurd (Value.int.inj q) (by decide))
  have ne5_3 : ¬ x5 = x3 := sF5.ne sF3 (fun q => absurd (Value.int.inj q) (by decide))
  have ne5_4 : ¬ x5 = x4 := sF5.ne sF4 (fun q => absurd (Value.int.inj q) (by decide))
  refine own_body (plainFor_of_name pn_0) ?_
  intro p e s m below meth c T0 hx hby hml hown hnm hret hlk hZ X0 e0
  replace hown : s.vm.findClass "com/example/stylewright/stylewright/xpath/OperatorIsEqualityPinLaw" = some m.cls := hown
  replace hret : meth.sig.returnType = (some .boolean) := hret
  replace hnm : meth.name = "law" := hnm
  rw [ef_0 m p1]
  have N0 := Fr.nil n0
  refine own_via (T' := T0) (g' := (mkF m 2 #[.val (.int p1), .unset, .unset, .unset, .unset, .unset, .unset, .unset, .unset, .unset, .unset] [(.int (6 : Int32))])) (fun _ kt => XS.bipush X0.here hx rfl (hb hby at_0) kt) ?_
  obtain ⟨T1, h1, b1, gb1, X1, e1, E1, A1, O1, st1⟩ := own_newref X0 hx hZ hown (hw _ (List.mem_of_getElem? (i := 0) rfl)) (hw _ (List.mem_of_getElem? (i := 1) rfl)) e0 (g := (mkF m 2 #[.val (.int p1), .unset, .unset, .unset, .unset, .unset, .unset, .unset, .unset, .unset, .unset] [(.int (6 : Int32))])) rfl (hb hby at_2) (j := (6 : Int32)) (n := 6) rfl (by decide) rfl (by decide) (by decide)
  have ne_x0_b1 : x0 ≠ b1 := Nat.ne_of_lt (Nat.lt_of_lt_of_le sE0.lt (Nat.le_of_eq gb1.symm))
  have ne_x1_b1 : x1 ≠ b1 := Nat.ne_of_lt (Nat.lt_of_lt_of_le sE1.lt (Nat.le_of_eq gb1.symm))
  have ne_x2_b1 : x2 ≠ b1 := Nat.ne_of_lt (Nat.lt_of_lt_of_le sE2.lt (Nat.le_of_eq gb1.symm))
  have ne_x3_b1 : x3 ≠ b1 := Nat.ne_of_lt (Nat.lt_of_lt_of_le sE3.lt (Nat.le_of_eq gb1.symm))
  have ne_x4_b1 : x4 ≠ b1 := Nat.ne_of_lt (Nat.lt_of_lt_of_le sE4.lt (Nat.le_of_eq gb1.symm))
  have ne_x5_b1 : x5 ≠ b1 := Nat.ne_of_lt (Nat.lt_of_lt_of_le sE5.lt (Nat.le_of_eq gb1.symm))
  have gg1 : n0 ≤ b1 := Nat.le_trans Z0 (Nat.le_of_eq gb1.symm)
  have f2 := sS0.ext E1
  have f3 := sE0.ext E1
  have f4 := sF0.ext E1
  have f5 := sS1.ext E1
  have f6 := sE1.ext E1
  have f7 := sF1.ext E1
  have f8 := sS2.ext E1
  have f9 := sE2.ext E1
  have f10 := sF2.ext E1
  have f11 := sS3.ext E1
  have f12 := sE3.ext E1
  have f13 := sF3.ext E1
  have f14 := sS4.ext E1
  have f15 := sE4.ext E1
  have f16 := sF4.ext E1
  have f17 := sS5.ext E1
  have f18 := sE5.ext E1
  have f19 := sF5.ext E1
  have z1 : n0 ≤ h1.size := Nat.le_trans Z0 E1.1
  refine own_via (T' := T1) (g' := (mkF m 5 #[.val (.int p1), .unset, .unset, .unset, .unset, .unset, .unset, .unset, .unset, .unset, .unset] [(.ref b1)])) (fun _ kt => st1 _ kt) ?_
  refine own_via (T' := T1) (g' := (mkF m 6 #[.val (.int p1), .unset, .unset, .unset, .unset, .unset, .unset, .unset, .unset, .unset, .unset] [(.ref b1), (.ref b1)])) (fun _ kt => XS.dup X1.here hx rfl (hb hby at_5) rfl rfl kt) ?_
  refine own_via (T' := T1) (g' := (mkF m 7 #[.val (.int p1), .unset, .unset, .unset, .unset, .unset, .unset, .unset, .unset, .unset, .unset] [(.int (0 : Int32)), (.ref b1), (.ref b1)])) (fun _ kt => XS.iconst X1.here hx rfl (hb hby at_6) kt) ?_
  obtain ⟨T20, X20, e20, st20⟩ := getS2 X1 hx hZ hown (host := "") (Or.inl (hw _ (List.mem_of_getElem? (i := 2) rfl))) Via.refl e1 f2 (g := (mkF m 7 #[.val (.int p1), .unset, .unset, .unset, .unset, .unset, .unset, .unset, .unset, .unset, .unset] [(.int (0 : Int32)), (.ref b1), (.ref b1)])) rfl (hb hby at_7)
  refine own_via (T' := T20) (g' := (mkF m 10 #[.val (.int p1), .unset, .unset, .unset, .unset, .unset, .unset, .unset, .unset, .unset, .unset] [(.ref x0), (.int (0 : Int32)), (.ref b1), (.ref b1)])) (fun _ kt => st20 _ kt) ?_
  obtain ⟨T21, h21, X21, e21, W21, A21, st21⟩ := own_aastore X20 hx hZ e20 A1 (j := (0 : Int32)) (i := 0) rfl (by decide) rfl (own_sto A1 O1 (Ins.self f3)) (g := (mkF m 10 #[.val (.int p1), .unset, .unset, .unset, .unset, .unset, .unset, .unset, .unset, .unset, .unset] [(.ref x0), (.int (0 : Int32)), (.ref b1), (.ref b1)])) rfl rfl (hb hby at_10)
  have f22 := f2.wr W21
  have f23 := f3.wr W21
  have f24 := f4.other W21 (Or.inl ne_x0_b1)
  have f25 := f5.wr W21
  have f26 := f6.wr W21
  have f27 := f7.other W21 (Or.inl ne_x1_b1)
  have f28 := f8.wr W21
  have f29 := f9.wr W21
  have f30 := f10.other W21 (Or.inl ne_x2_b1)
  have f31 := f11.wr W21
  have f32 := f12.wr W21
  have f33 := f13.other W21 (Or.inl ne_x3_b1)
  have f34 := f14.wr W21
  have f35 := f15.wr W21
  have f36 := f16.other W21 (Or.inl ne_x4_b1)
  have f37 := f17.wr W21
  have f38 := f18.wr W21
  have f39 := f19.other W21 (Or.inl ne_x5_b1)
  have f40 := O1.wr W21
  have z21 : n0 ≤ h21.size := Nat.le_trans z1 (Nat.le_of_eq W21.size.symm)
  have N21 := Fr.snoc X21 N0 gg1
  refine own_via (T' := T21) (g' := (mkF m 11 #[.val (.int p1), .unset, .unset, .unset, .unset, .unset, .unset, .unset, .unset, .unset, .unset] [(.ref b1)])) (fun _ kt => st21 _ kt) ?_
  refine own_via (T' := T21) (g' := (mkF m 12 #[.val (.int p1), .unset, .unset, .unset, .unset, .unset, .unset, .unset, .unset, .unset, .unset] [(.ref b1), (.ref b1)])) (fun _ kt => XS.dup X21.here hx rfl (hb hby at_11) rfl rfl kt) ?_
  refine own_via (T' := T21) (g' := (mkF m 13 #[.val (.int p1), .unset, .unset, .unset, .unset, .unset, .unset, .unset, .unset, .unset, .unset] [(.int (1 : Int32)), (.ref b1), (.ref b1)])) (fun _ kt => XS.iconst X21.here hx rfl (hb hby at_12) kt) ?_
  obtain ⟨T41, X41, e41, st41⟩ := getS2 X21 hx hZ hown (host := "") (Or.inl (hw _ (List.mem_of_getElem? (i := 6) rfl))) Via.refl e21 f25 (g := (mkF m 13 #[.val (.int p1), .unset, .unset, .unset, .unset, .unset, .unset, .unset, .unset, .unset, .unset] [(.int (1 : Int32)), (.ref b1), (.ref b1)])) rfl (hb hby at_13)
  refine own_via (T' := T41) (g' := (mkF m 16 #[.val (.int p1), .unset, .unset, .unset, .unset, .unset, .unset, .unset, .unset, .unset, .unset] [(.ref x1), (.int (1 : Int32)), (.ref b1), (.ref b1)])) (fun _ kt => st41 _ kt) ?_
  obtain ⟨T42, h42, X42, e42, W42, A42, st42⟩ := own_aastore X41 hx hZ e41 A21 (j := (1 : Int32)) (i := 1) rfl (by decide) rfl (own_sto A21 f40 (Ins.self f26)) (g := (mkF m 16 #[.val (.int p1), .unset, .unset, .unset, .unset, .unset, .unset, .unset, .unset, .unset, .unset] [(.ref x1), (.int (1 : Int32)), (.ref b1), (.ref b1)])) rfl rfl (hb hby at_16)
  have f43 := f22.wr W42
  have f44 := f23.wr W42
  have f45 := f24.other W42 (Or.inl ne_x0_b1)
  have f46 := f25.wr W42
  have f47 := f26.wr W42
  have f48 := f27.other W42 (Or.inl ne_x1_b1)
  have f49 := f28.wr W42
  have f50 := f29.wr W42
  have f51 := f30.other W42 (Or.inl ne_x2_b1)
  have f52 := f31.wr W42
  have f53 := f32.wr W42
  have f54 := f33.other W42 (Or.inl ne_x3_b1)
  have f55 := f34.wr W42
  have f56 := f35.wr W42
  have f57 := f36.other W42 (Or.inl ne_x4_b1)
  have f58 := f37.wr W42
  have f59 := f38.wr W42
  have f60 := f39.other W42 (Or.inl ne_x5_b1)
  have f61 := f40.wr W42
  have z42 : n0 ≤ h42.size := Nat.le_trans z21 (Nat.le_of_eq W42.size.symm)
  have N42 := Fr.snoc X42 N21 gg1
  refine own_via (T' := T42) (g' := (mkF m 17 #[.val (.int p1), .unset, .unset, .unset, .unset, .unset, .unset, .unset, .unset, .unset, .unset] [(.ref b1)])) (fun _ kt => st42 _ kt) ?_
  refine own_via (T' := T42) (g' := (mkF m 18 #[.val (.int p1), .unset, .unset, .unset, .unset, .unset, .unset, .unset, .unset, .unset, .unset] [(.ref b1), (.ref b1)])) (fun _ kt => XS.dup X42.here hx rfl (hb hby at_17) rfl rfl kt) ?_
  refine own_via (T' := T42) (g' := (mkF m 19 #[.val (.int p1), .unset, .unset, .unset, .unset, .unset, .unset, .unset, .unset, .unset, .unset] [(.int (2 : Int32)), (.ref b1), (.ref b1)])) (fun _ kt => XS.iconst X42.here hx rfl (hb hby at_18) kt) ?_
  obtain ⟨T62, X62, e62, st62⟩ := getS2 X42 hx hZ hown (host := "") (Or.inl (hw _ (List.mem_of_getElem? (i := 8) rfl))) Via.refl e42 f49 (g := (mkF m 19 #[.val (.int p1), .unset, .unset, .unset, .unset, .unset, .unset, .unset, .unset, .unset, .unset] [(.int (2 : Int32)), (.ref b1), (.ref b1)])) rfl (hb hby at_19)
  refine own_via (T' := T62) (g' := (mkF m 22 #[.val (.int p1), .unset, .unset, .unset, .unset, .unset, .unset, .unset, .unset, .unset, .unset] [(.ref x2), (.int (2 : Int32)), (.ref b1), (.ref b1)])) (fun _ kt => st62 _ kt) ?_
  obtain ⟨T63, h63, X63, e63, W63, A63, st63⟩ := own_aastore X62 hx hZ e62 A42 (j := (2 : Int32)) (i := 2) rfl (by decide) rfl (own_sto A42 f61 (Ins.self f50)) (g := (mkF m 22 #[.val (.int p1), .unset, .unset, .unset, .unset, .unset, .unset, .unset, .unset, .unset, .unset] [(.ref x2), (.int (2 : Int32)), (.ref b1), (.ref b1)])) rfl rfl (hb hby at_22)
  have f64 := f43.wr W63
  have f65 := f44.wr W63
  have f66 := f45.other W63 (Or.inl ne_x0_b1)
  have f67 := f46.wr W63
  have f68 := f47.wr W63
  have f69 := f48.other W63 (Or.inl ne_x1_b1)
  have f70 := f49.wr W63
  have f71 := f50.wr W63
  have f72 := f51.other W63 (Or.inl ne_x2_b1)
  have f73 := f52.wr W63
  have f74 := f53.wr W63
  have f75 := f54.other W63 (Or.inl ne_x3_b1)
  have f76 := f55.wr W63
  have f77 := f56.wr W63
  have f78 := f57.other W63 (Or.inl ne_x4_b1)
  have f79 := f58.wr W63
  have f80 := f59.wr W63
  have f81 := f60.other W63 (Or.inl ne_x5_b1)
  have f82 := f61.wr W63
  have z63 : n0 ≤ h63.size := Nat.le_trans z42 (Nat.le_of_eq W63.size.symm)
  have N63 := Fr.snoc X63 N42 gg1
  refine own_via (T' := T63) (g' := (mkF m 23 #[.val (.int p1), .unset, .unset, .unset, .unset, .unset, .unset, .unset, .unset, .unset, .unset] [(.ref b1)])) (fun _ kt => st63 _ kt) ?_
  refine own_via (T' := T63) (g' := (mkF m 24 #[.val (.int p1), .unset, .unset, .unset, .unset, .unset, .unset, .unset, .unset, .unset, .unset] [(.ref b1), (.ref b1)])) (fun _ kt => XS.dup X63.here hx rfl (hb hby at_23) rfl rfl kt) ?_
  refine own_via (T' := T63) (g' := (mkF m 25 #[.val (.int p1), .unset, .unset, .unset, .unset, .unset, .unset, .unset, .unset, .unset, .unset] [(.int (3 : Int32)), (.ref b1), (.ref b1)])) (fun _ kt => XS.iconst X63.here hx rfl (hb hby at_24) kt) ?_
  obtain ⟨T83, X83, e83, st83⟩ := getS2 X63 hx hZ hown (host := "") (Or.inl (hw _ (List.mem_of_getElem? (i := 10) rfl))) Via.refl e63 f73 (g := (mkF m 25 #[.val (.int p1), .unset, .unset, .unset, .unset, .unset, .unset, .unset, .unset, .unset, .unset] [(.int (3 : Int32)), (.ref b1), (.ref b1)])) rfl (hb hby at_25)
  refine own_via (T' := T83) (g' := (mkF m 28 #[.val (.int p1), .unset, .unset, .unset, .unset, .unset, .unset, .unset, .unset, .unset, .unset] [(.ref x3), (.int (3 : Int32)), (.ref b1), (.ref b1)])) (fun _ kt => st83 _ kt) ?_
  obtain ⟨T84, h84, X84, e84, W84, A84, st84⟩ := own_aastore X83 hx hZ e83 A63 (j := (3 : Int32)) (i := 3) rfl (by decide) rfl (own_sto A63 f82 (Ins.self f74)) (g := (mkF m 28 #[.val (.int p1), .unset, .unset, .unset, .unset, .unset, .unset, .unset, .unset, .unset, .unset] [(.ref x3), (.int (3 : Int32)), (.ref b1), (.ref b1)])) rfl rfl (hb hby at_28)
  have f85 := f64.wr W84
  have f86 := f65.wr W84
  have f87 := f66.other W84 (Or.inl ne_x0_b1)
  have f88 := f67.wr W84
  have f89 := f68.wr W84
  have f90 := f69.other W84 (Or.inl ne_x1_b1)
  have f91 := f70.wr W84
  have f92 := f71.wr W84
  have f93 := f72.other W84 (Or.inl ne_x2_b1)
  have f94 := f73.wr W84
  have f95 := f74.wr W84
  have f96 := f75.other W84 (Or.inl ne_x3_b1)
  have f97 := f76.wr W84
  have f98 := f77.wr W84
  have f99 := f78.other W84 (Or.inl ne_x4_b1)
  have f100 := f79.wr W84
  have f101 := f80.wr W84
  have f102 := f81.other W84 (Or.inl ne_x5_b1)
  have f103 := f82.wr W84
  have z84 : n0 ≤ h84.size := Nat.le_trans z63 (Nat.le_of_eq W84.size.symm)
  have N84 := Fr.snoc X84 N63 gg1
  refine own_via (T' := T84) (g' := (mkF m 29 #[.val (.int p1), .unset, .unset, .unset, .unset, .unset, .unset, .unset, .unset, .unset, .unset] [(.ref b1)])) (fun _ kt => st84 _ kt) ?_
  refine own_via (T' := T84) (g' := (mkF m 30 #[.val (.int p1), .unset, .unset, .unset, .unset, .unset, .unset, .unset, .unset, .unset, .unset] [(.ref b1), (.ref b1)])) (fun _ kt => XS.dup X84.here hx rfl (hb hby at_29) rfl rfl kt) ?_
  refine own_via (T' := T84) (g' := (mkF m 31 #[.val (.int p1), .unset, .unset, .unset, .unset, .unset, .unset, .unset, .unset, .unset, .unset] [(.int (4 : Int32)), (.ref b1), (.ref b1)])) (fun _ kt => XS.iconst X84.here hx rfl (hb hby at_30) kt) ?_
  obtain ⟨T104, X104, e104, st104⟩ := getS2 X84 hx hZ hown (host := "") (Or.inl (hw _ (List.mem_of_getElem? (i := 12) rfl))) Via.refl e84 f97 (g := (mkF m 31 #[.val (.int p1), .unset, .unset, .unset, .unset, .unset, .unset, .unset, .unset, .unset, .unset] [(.int (4 : Int32)), (.ref b1), (.ref b1)])) rfl (hb hby at_31)
  refine own_via (T' := T104) (g' := (mkF m 34 #[.val (.int p1), .unset, .unset, .unset, .unset, .unset, .unset, .unset, .unset, .unset, .unset] [(.ref x4), (.int (4 : Int32)), (.ref b1), (.ref b1)])) (fun _ kt => st104 _ kt) ?_
  obtain ⟨T105, h105, X105, e105, W105, A105, st105⟩ := own_aastore X104 hx hZ e104 A84 (j := (4 : Int32)) (i := 4) rfl (by decide) rfl (own_sto A84 f103 (Ins.self f98)) (g := (mkF m 34 #[.val (.int p1), .unset, .unset, .unset, .unset, .unset, .unset, .unset, .unset, .unset, .unset] [(.ref x4), (.int (4 : Int32)), (.ref b1), (.ref b1)])) rfl rfl (hb hby at_34)
  have f106 := f85.wr W105
  have f107 := f86.wr W105
  have f108 := f87.other W105 (Or.inl ne_x0_b1)
  have f109 := f88.wr W105
  have f110 := f89.wr W105
  have f111 := f90.other W105 (Or.inl ne_x1_b1)
  have f112 := f91.wr W105
  have f113 := f92.wr W105
  have f114 := f93.other W105 (Or.inl ne_x2_b1)
  have f115 := f94.wr W105
  have f116 := f95.wr W105
  have f117 := f96.other W105 (Or.inl ne_x3_b1)
  have f118 := f97.wr W105
  have f119 := f98.wr W105
  have f120 := f99.other W105 (Or.inl ne_x4_b1)
  have f121 := f100.wr W105
  have f122 := f101.wr W105
  have f123 := f102.other W105 (Or.inl ne_x5_b1)
  have f124 := f103.wr W105
  have z105 : n0 ≤ h105.size := Nat.le_trans z84 (Nat.le_of_eq W105.size.symm)
  have N105 := Fr.snoc X105 N84 gg1
  refine own_via (T' := T105) (g' := (mkF m 35 #[.val (.int p1), .unset, .unset, .unset, .unset, .unset, .unset, .unset, .unset, .unset, .unset] [(.ref b1)])) (fun _ kt => st105 _ kt) ?_
  refine own_via (T' := T105) (g' := (mkF m 36 #[.val (.int p1), .unset, .unset, .unset, .unset, .unset, .unset, .unset, .unset, .unset, .unset] [(.ref b1), (.ref b1)])) (fun _ kt => XS.dup X105.here hx rfl (hb hby at_35) rfl rfl kt) ?_
  refine own_via (T' := T105) (g' := (mkF m 37 #[.val (.int p1), .unset, .unset, .unset, .unset, .unset, .unset, .unset, .unset, .unset, .unset] [(.int (5 : Int32)), (.ref b1), (.ref b1)])) (fun _ kt => XS.iconst X105.here hx rfl (hb hby at_36) kt) ?_
  obtain ⟨T125, X125, e125, st125⟩ := getS2 X105 hx hZ hown (host := "") (Or.inl (hw _ (List.mem_of_getElem? (i := 14) rfl))) Via.refl e105 f121 (g := (mkF m 37 #[.val (.int p1), .unset, .unset, .unset, .unset, .unset, .unset, .unset, .unset, .unset, .unset] [(.int (5 : Int32)), (.ref b1), (.ref b1)])) rfl (hb hby at_37)
  refine own_via (T' := T125) (g' := (mkF m 40 #[.val (.int p1), .unset, .unset, .unset, .unset, .unset, .unset, .unset, .unset, .unset, .unset] [(.ref x5), (.int (5 : Int32)), (.ref b1), (.ref b1)])) (fun _ kt => st125 _ kt) ?_
  obtain ⟨T126, h126, X126, e126, W126, A126, st126⟩ := own_aastore X125 hx hZ e125 A105 (j := (5 : Int32)) (i := 5) rfl (by decide) rfl (own_sto A105 f124 (Ins.self f122)) (g := (mkF m 40 #[.val (.int p1), .unset, .unset, .unset, .unset, .unset, .unset, .unset, .unset, .unset, .unset] [(.ref x5), (.int (5 : Int32)), (.ref b1), (.ref b1)])) rfl rfl (hb hby at_40)
  have f127 := f106.wr W126
  have f128 := f107.wr W126
  have f129 := f108.other W126 (Or.inl ne_x0_b1)
  have f130 := f109.wr W126
  have f131 := f110.wr W126
  have f132 := f111.other W126 (Or.inl ne_x1_b1)
  have f133 := f112.wr W126
  have f134 := f113.wr W126
  have f135 := f114.other W126 (Or.inl ne_x2_b1)
  have f136 := f115.wr W126
  have f137 := f116.wr W126
  have f138 := f117.other W126 (Or.inl ne_x3_b1)
  have f139 := f118.wr W126
  have f140 := f119.wr W126
  have f141 := f120.other W126 (Or.inl ne_x4_b1)
  have f142 := f121.wr W126
  have f143 := f122.wr W126
  have f144 := f123.other W126 (Or.inl ne_x5_b1)
  have f145 := f124.wr W126
  have z126 : n0 ≤ h126.size := Nat.le_trans z105 (Nat.le_of_eq W126.size.symm)
  have N126 := Fr.snoc X126 N105 gg1
  refine own_via (T' := T126) (g' := (mkF m 41 #[.val (.int p1), .unset, .unset, .unset, .unset, .unset, .unset, .unset, .unset, .unset, .unset] [(.ref b1)])) (fun _ kt => st126 _ kt) ?_
  refine own_via (T' := T126) (g' := (mkF m 42 #[.val (.int p1), .val (.ref b1), .unset, .unset, .unset, .unset, .unset, .unset, .unset, .unset, .unset] [])) (fun _ kt => XS.astoreN X126.here hx rfl (hb hby at_41) rfl rfl (l' := #[.val (.int p1), .val (.ref b1), .unset, .unset, .unset, .unset, .unset, .unset, .unset, .unset, .unset]) rfl kt) ?_
  refine own_via (T' := T126) (g' := (mkF m 43 #[.val (.int p1), .val (.ref b1), .unset, .unset, .unset, .unset, .unset, .unset, .unset, .unset, .unset] [(.int p1)])) (fun _ kt => XS.iloadN X126.here hx rfl (hb hby at_42) rfl kt) ?_
  refine own_via (T' := T126) (g' := (mkF m 45 #[.val (.int p1), .val (.ref b1), .unset, .unset, .unset, .unset, .unset, .unset, .unset, .unset, .unset] [(.int (2147483647 : Int32)), (.int p1)])) (fun _ kt => X126.ldcInt hx hown (mvT hZ (hw _ (List.mem_of_getElem? (i := 16) rfl))) (g := (mkF m 43 #[.val (.int p1), .val (.ref b1), .unset, .unset, .unset, .unset, .unset, .unset, .unset, .unset, .unset] [(.int p1)])) rfl (hb hby at_43) _ kt) ?_
  refine own_via (T' := T126) (g' := (mkF m 46 #[.val (.int p1), .val (.ref b1), .unset, .unset, .unset, .unset, .unset, .unset, .unset, .unset, .unset] [(.int (p1 &&& (2147483647 : Int32)))])) (fun _ kt => XS.iand X126.here hx rfl (hb hby at_45) rfl kt) ?_
  refine own_via (T' := T126) (g' := (mkF m 48 #[.val (.int p1), .val (.ref b1), .unset, .unset, .unset, .unset, .unset, .unset, .unset, .unset, .unset] [(.int (6 : Int32)), (.int (p1 &&& (2147483647 : Int32)))])) (fun _ kt => XS.bipush X126.here hx rfl (hb hby at_46) kt) ?_
  refine own_via (T' := T126) (g' := (mkF m 49 #[.val (.int p1), .val (.ref b1), .unset, .unset, .unset, .unset, .unset, .unset, .unset, .unset, .unset] [(.int ((p1 &&& (2147483647 : Int32)) % (6 : Int32)))])) (fun _ kt => Jvm.RoadKit.iremM X126 hx rfl (hb hby at_48) rfl (by decide) kt) ?_
  obtain ⟨n, hn, hz⟩ : ∃ n : Nat, n < 6 ∧ ((p1 &&& (2147483647 : Int32)) % (6 : Int32)) = Int32.ofNat n := own_nat (c := 6) (own_rem p1).1 (own_rem p1).2
  rw [hz]
  rcases (by omega : n = 0 ∨ n = 1 ∨ n = 2 ∨ n = 3 ∨ n = 4 ∨ n = 5) with rfl | rfl | rfl | rfl | rfl | rfl
  · refine own_via (T' := T126) (g' := (mkF m 50 #[.val (.int p1), .val (.ref b1), .val (.int (Int32.ofNat 0)), .unset, .unset, .unset, .unset, .unset, .unset, .unset, .unset] [])) (fun _ kt => XS.istoreN X126.here hx rfl (hb hby at_49) rfl (l' := #[.val (.int p1), .val (.ref b1), .val (.int (Int32.ofNat 0)), .unset, .unset, .unset, .unset, .unset, .unset, .unset, .unset]) rfl kt) ?_
    refine own_via (T' := T126) (g' := (mkF m 51 #[.val (.int p1), .val (.ref b1), .val (.int (Int32.ofNat 0)), .unset, .unset, .unset, .unset, .unset, .unset, .unset, .unset] [(.ref b1)])) (fun _ kt => XS.aloadN X126.here hx rfl (hb hby at_50) rfl rfl kt) ?_
    refine own_via (T' := T126) (g' := (mkF m 52 #[.val (.int p1), .val (.ref b1), .val (.int (Int32.ofNat 0)), .unset, .unset, .unset, .unset, .unset, .unset, .unset, .unset] [(.int (Int32.ofNat 0)), (.ref b1)])) (fun _ kt => XS.iloadN X126.here hx rfl (hb hby at_51) rfl kt) ?_
    refine own_via (T' := T126) (g' := (mkF m 53 #[.val (.int p1), .val (.ref b1), .val (.int (Int32.ofNat 0)), .unset, .unset, .unset, .unset, .unset, .unset, .unset, .unset] [(.ref x0)])) (fun _ kt => own_aaload X126 hx hZ e126 A126 rfl (j := (Int32.ofNat 0)) (i := 0) rfl (by decide) (g := (mkF m 52 #[.val (.int p1), .val (.ref b1), .val (.int (Int32.ofNat 0)), .unset, .unset, .unset, .unset, .unset, .unset, .unset, .unset] [(.int (Int32.ofNat 0)), (.ref b1)])) rfl rfl (hb hby at_52) _ kt) ?_
    refine own_via (T' := T126) (g' := (mkF m 54 #[.val (.int p1), .val (.ref b1), .val (.int (Int32.ofNat 0)), .val (.ref x0), .unset, .unset, .unset, .unset, .unset, .unset, .unset] [])) (fun _ kt => XS.astoreN X126.here hx rfl (hb hby at_53) rfl rfl (l' := #[.val (.int p1), .val (.ref b1), .val (.int (Int32.ofNat 0)), .val (.ref x0), .unset, .unset, .unset, .unset, .unset, .unset, .unset]) rfl kt) ?_
    refine own_via (T' := T126) (g' := (mkF m 55 #[.val (.int p1), .val (.ref b1), .val (.int (Int32.ofNat 0)), .val (.ref x0), .unset, .unset, .unset, .unset, .unset, .unset, .unset] [(.double (4607182418800017408 : UInt64))])) (fun _ kt => XS.dconst1 X126.here hx rfl (hb hby at_54) rfl kt) ?_
    refine own_via (T' := T126) (g' := (mkF m 57 #[.val (.int p1), .val (.ref b1), .val (.int (Int32.ofNat 0)), .val (.ref x0), .val (.double (4607182418800017408 : UInt64)), .second, .unset, .unset, .unset, .unset, .unset] [])) (fun _ kt => XS.dstore X126.here hx rfl (hb hby at_55) rfl (l' := #[.val (.int p1), .val (.ref b1), .val (.int (Int32.ofNat 0)), .val (.ref x0), .val (.double (4607182418800017408 : UInt64)), .second, .unset, .unset, .unset, .unset, .unset]) rfl kt) ?_
    refine own_via (T' := T126) (g' := (mkF m 60 #[.val (.int p1), .val (.ref b1), .val (.int (Int32.ofNat 0)), .val (.ref x0), .val (.double (4607182418800017408 : UInt64)), .second, .unset, .unset, .unset, .unset, .unset] [(.double (4611686018427387904 : UInt64))])) (fun _ kt => X126.ldc2DoubleC hx hown (mvT hZ (hw _ (List.mem_of_getElem? (i := 17) rfl))) (g := (mkF m 57 #[.val (.int p1), .val (.ref b1), .val (.int (Int32.ofNat 0)), .val (.ref x0), .val (.double (4607182418800017408 : UInt64)), .second, .unset, .unset, .unset, .unset, .unset] [])) rfl (hb hby at_57) _ kt) ?_
    refine own_via (T' := T126) (g' := (mkF m 62 #[.val (.int p1), .val (.ref b1), .val (.int (Int32.ofNat 0)), .val (.ref x0), .val (.double (4607182418800017408 : UInt64)), .second, .val (.double (4611686018427387904 : UInt64)), .second, .unset, .unset, .unset] [])) (fun _ kt => XS.dstore X126.here hx rfl (hb hby at_60) rfl (l' := #[.val (.int p1), .val (.ref b1), .val (.int (Int32.ofNat 0)), .val (.ref x0), .val (.double (4607182418800017408 : UInt64)), .second, .val (.double (4611686018427387904 : UInt64)), .second, .unset, .unset, .unset]) rfl kt) ?_
    refine own_via (T' := T126) (g' := (mkF m 63 #[.val (.int p1), .val (.ref b1), .val (.int (Int32.ofNat 0)), .val (.ref x0), .val (.double (4607182418800017408 : UInt64)), .second, .val (.double (4611686018427387904 : UInt64)), .second, .unset, .unset, .unset] [(.ref x0)])) (fun _ kt => XS.aloadN X126.here hx rfl (hb hby at_62) rfl rfl kt) ?_
    obtain ⟨v146, T146, L146, X146, hQ146, st146⟩ := own_callV X126 hx hZ (y := (⟨"com/example/stylewright/stylewright/xpath/Comparison$Operator", "isEquality", "()Z"⟩ : MethodName)) (z := (⟨"com/example/stylewright/stylewright/xpath/Comparison$Operator", "isEquality", "()Z"⟩ : MethodName)) hown (hw _ (List.mem_of_getElem? (i := 18) rfl)) (hw _ (List.mem_of_getElem? (i := 19) rfl)) (notFace_of_selects (args := #[]) (mvT hZ (hw _ (List.mem_of_getElem? (i := 21) rfl)))) (hw _ (List.mem_of_getElem? (i := 21) rfl)) (hw _ (List.mem_of_getElem? (i := 20) rfl)) (hw _ (List.mem_of_getElem? (i := 3) rfl)) (hw _ (List.mem_of_getElem? (i := 22) rfl)) (by decide) (b := x0) (W := 0) (argsL := []) (rest := []) (rm1_0 l Z a0 hw [] x0 x0 x1 h126 f127 f130 rfl) (by decide) (by decide) (by decide) (by decide) e126 f128 (g := (mkF m 63 #[.val (.int p1), .val (.ref b1), .val (.int (Int32.ofNat 0)), .val (.ref x0), .val (.double (4607182418800017408 : UInt64)), .second, .val (.double (4611686018427387904 : UInt64)), .second, .unset, .unset, .unset] [(.ref x0)])) rfl (by rw [hml]; rfl) (lenOf pd_1 rfl) rfl (by show 2 * 0 + _ ≤ _; exact Nat.le_of_eq rfl) (hb hby at_63)
    obtain ⟨rfl, hL146, e146⟩ := hQ146
    replace X146 := own_pure (v := none) (r := none) X146 rfl rfl hL146
    refine own_via (T' := T146) (g' := (mkF m 66 #[.val (.int p1), .val (.ref b1), .val (.int (Int32.ofNat 0)), .val (.ref x0), .val (.double (4607182418800017408 : UInt64)), .second, .val (.double (4611686018427387904 : UInt64)), .second, .unset, .unset, .unset] [(.int (1 : Int32))])) (fun _ kt => st146 _ kt) ?_
    refine own_via (T' := T146) (g' := (mkF m 68 #[.val (.int p1), .val (.ref b1), .val (.int (Int32.ofNat 0)), .val (.ref x0), .val (.double (4607182418800017408 : UInt64)), .second, .val (.double (4611686018427387904 : UInt64)), .second, .val (.int (1 : Int32)), .unset, .unset] [])) (fun _ kt => XS.istore X146.here hx rfl (hb hby at_66) rfl (l' := #[.val (.int p1), .val (.ref b1), .val (.int (Int32.ofNat 0)), .val (.ref x0), .val (.double (4607182418800017408 : UInt64)), .second, .val (.double (4611686018427387904 : UInt64)), .second, .val (.int (1 : Int32)), .unset, .unset]) rfl kt) ?_
    refine own_via (T' := T146) (g' := (mkF m 69 #[.val (.int p1), .val (.ref b1), .val (.int (Int32.ofNat 0)), .val (.ref x0), .val (.double (4607182418800017408 : UInt64)), .second, .val (.double (4611686018427387904 : UInt64)), .second, .val (.int (1 : Int32)), .unset, .unset] [(.ref x0)])) (fun _ kt => XS.aloadN X146.here hx rfl (hb hby at_68) rfl rfl kt) ?_
    refine own_via (T' := T146) (g' := (mkF m 71 #[.val (.int p1), .val (.ref b1), .val (.int (Int32.ofNat 0)), .val (.ref x0), .val (.double (4607182418800017408 : UInt64)), .second, .val (.double (4611686018427387904 : UInt64)), .second, .val (.int (1 : Int32)), .unset, .unset] [(.double (4607182418800017408 : UInt64)), (.ref x0)])) (fun _ kt => XS.dload X146.here hx rfl (hb hby at_69) rfl kt) ?_
    refine own_via (T' := T146) (g' := (mkF m 73 #[.val (.int p1), .val (.ref b1), .val (.int (Int32.ofNat 0)), .val (.ref x0), .val (.double (4607182418800017408 : UInt64)), .second, .val (.double (4611686018427387904 : UInt64)), .second, .val (.int (1 : Int32)), .unset, .unset] [(.double (4611686018427387904 : UInt64)), (.double (4607182418800017408 : UInt64)), (.ref x0)])) (fun _ kt => XS.dload X146.here hx rfl (hb hby at_71) rfl kt) ?_
    obtain ⟨v147, T147, L147, X147, hQ147, st147⟩ := own_callV X146 hx hZ (y := (⟨"com/example/stylewright/stylewright/xpath/Comparison$Operator", "test", "(DD)Z"⟩ : MethodName)) (z := (⟨"com/example/stylewright/stylewright/xpath/Comparison$Operator", "test", "(DD)Z"⟩ : MethodName)) hown (hw _ (List.mem_of_getElem? (i := 24) rfl)) (hw _ (List.mem_of_getElem? (i := 25) rfl)) (notFace_of_selects (args := #[]) (mvT hZ (hw _ (List.mem_of_getElem? (i := 27) rfl)))) (hw _ (List.mem_of_getElem? (i := 27) rfl)) (hw _ (List.mem_of_getElem? (i := 26) rfl)) (hw _ (List.mem_of_getElem? (i := 3) rfl)) (hw _ (List.mem_of_getElem? (i := 28) rfl)) (by decide) (b := x0) (W := 0) (argsL := [(.double (4607182418800017408 : UInt64)), (.double (4611686018427387904 : UInt64))]) (rest := []) (rm2_0_lt l Z a0 hw [] x0 (4607182418800017408 : UInt64) (4611686018427387904 : UInt64) h126 own_c12l own_c12g f128 f129) (by decide) (by decide) (by decide) (by decide) e146 f128 (g := (mkF m 73 #[.val (.int p1), .val (.ref b1), .val (.int (Int32.ofNat 0)), .val (.ref x0), .val (.double (4607182418800017408 : UInt64)), .second, .val (.double (4611686018427387904 : UInt64)), .second, .val (.int (1 : Int32)), .unset, .unset] [(.double (4611686018427387904 : UInt64)), (.double (4607182418800017408 : UInt64)), (.ref x0)])) rfl (by rw [hml]; rfl) (lenOf pd_2 rfl) rfl (by show 2 * 0 + _ ≤ _; exact Nat.le_of_eq rfl) (hb hby at_73)
    obtain ⟨rfl, hL147, e147⟩ := hQ147
    replace X147 := own_pure (v := none) (r := none) X147 rfl rfl hL147
    refine own_via (T' := T147) (g' := (mkF m 76 #[.val (.int p1), .val (.ref b1), .val (.int (Int32.ofNat 0)), .val (.ref x0), .val (.double (4607182418800017408 : UInt64)), .second, .val (.double (4611686018427387904 : UInt64)), .second, .val (.int (1 : Int32)), .unset, .unset] [(.int (0 : Int32))])) (fun _ kt => st147 _ kt) ?_
    refine own_via (T' := T147) (g' := (mkF m 77 #[.val (.int p1), .val (.ref b1), .val (.int (Int32.ofNat 0)), .val (.ref x0), .val (.double (4607182418800017408 : UInt64)), .second, .val (.double (4611686018427387904 : UInt64)), .second, .val (.int (1 : Int32)), .unset, .unset] [(.ref x0), (.int (0 : Int32))])) (fun _ kt => XS.aloadN X147.here hx rfl (hb hby at_76) rfl rfl kt) ?_
    refine own_via (T' := T147) (g' := (mkF m 79 #[.val (.int p1), .val (.ref b1), .val (.int (Int32.ofNat 0)), .val (.ref x0), .val (.double (4607182418800017408 : UInt64)), .second, .val (.double (4611686018427387904 : UInt64)), .second, .val (.int (1 : Int32)), .unset, .unset] [(.double (4611686018427387904 : UInt64)), (.ref x0), (.int (0 : Int32))])) (fun _ kt => XS.dload X147.here hx rfl (hb hby at_77) rfl kt) ?_
    refine own_via (T' := T147) (g' := (mkF m 81 #[.val (.int p1), .val (.ref b1), .val (.int (Int32.ofNat 0)), .val (.ref x0), .val (.double (4607182418800017408 : UInt64)), .second, .val (.double (4611686018427387904 : UInt64)), .second, .val (.int (1 : Int32)), .unset, .unset] [(.double (4607182418800017408 : UInt64)), (.double (4611686018427387904 : UInt64)), (.ref x0), (.int (0 : Int32))])) (fun _ kt => XS.dload X147.here hx rfl (hb hby at_79) rfl kt) ?_
    obtain ⟨v148, T148, L148, X148, hQ148, st148⟩ := own_callV X147 hx hZ (y := (⟨"com/example/stylewright/stylewright/xpath/Comparison$Operator", "test", "(DD)Z"⟩ : MethodName)) (z := (⟨"com/example/stylewright/stylewright/xpath/Comparison$Operator", "test", "(DD)Z"⟩ : MethodName)) hown (hw _ (List.mem_of_getElem? (i := 24) rfl)) (hw _ (List.mem_of_getElem? (i := 25) rfl)) (notFace_of_selects (args := #[]) (mvT hZ (hw _ (List.mem_of_getElem? (i := 27) rfl)))) (hw _ (List.mem_of_getElem? (i := 27) rfl)) (hw _ (List.mem_of_getElem? (i := 26) rfl)) (hw _ (List.mem_of_getElem? (i := 3) rfl)) (hw _ (List.mem_of_getElem? (i := 28) rfl)) (by decide) (b := x0) (W := 1) (argsL := [(.double (4611686018427387904 : UInt64)), (.double (4607182418800017408 : UInt64))]) (rest := [(.int (0 : Int32))]) (rm2_0_gt l Z a0 hw [] x0 (4611686018427387904 : UInt64) (4607182418800017408 : UInt64) h126 own_c21l own_c21g f128 f129) (by decide) (by decide) (by decide) (by decide) e147 f128 (g := (mkF m 81 #[.val (.int p1), .val (.ref b1), .val (.int (Int32.ofNat 0)), .val (.ref x0), .val (.double (4607182418800017408 : UInt64)), .second, .val (.double (4611686018427387904 : UInt64)), .second, .val (.int (1 : Int32)), .unset, .unset] [(.double (4607182418800017408 : UInt64)), (.double (4611686018427387904 : UInt64)), (.ref x0), (.int (0 : Int32))])) rfl (by rw [hml]; rfl) (lenOf pd_2 rfl) rfl (by show 2 * 0 + _ ≤ _; exact Nat.le_of_eq rfl) (hb hby at_81)
    obtain ⟨rfl, hL148, e148⟩ := hQ148
    replace X148 := own_pure (v := none) (r := none) X148 rfl rfl hL148
    refine own_via (T' := T148) (g' := (mkF m 84 #[.val (.int p1), .val (.ref b1), .val (.int (Int32.ofNat 0)), .val (.ref x0), .val (.double (4607182418800017408 : UInt64)), .second, .val (.double (4611686018427387904 : UInt64)), .second, .val (.int (1 : Int32)), .unset, .unset] [(.int (0 : Int32)), (.int (0 : Int32))])) (fun _ kt => st148 _ kt) ?_
    refine own_via (T' := T148) (g' := (mkF m 87 #[.val (.int p1), .val (.ref b1), .val (.int (Int32.ofNat 0)), .val (.ref x0), .val (.double (4607182418800017408 : UInt64)), .second, .val (.double (4611686018427387904 : UInt64)), .second, .val (.int (1 : Int32)), .unset, .unset] [])) (fun _ kt => XS.icmpNo X148.here hx rfl (hb hby at_84) rfl (teq (by decide : ((0 : Int32) = (0 : Int32)))).2 kt) ?_
    refine own_via (T' := T148) (g' := (mkF m 88 #[.val (.int p1), .val (.ref b1), .val (.int (Int32.ofNat 0)), .val (.ref x0), .val (.double (4607182418800017408 : UInt64)), .second, .val (.double (4611686018427387904 : UInt64)), .second, .val (.int (1 : Int32)), .unset, .unset] [(.int (1 : Int32))])) (fun _ kt => XS.iconst X148.here hx rfl (hb hby at_87) kt) ?_
    refine own_via (T' := T148) (g' := (mkF m 92 #[.val (.int p1), .val (.ref b1), .val (.int (Int32.ofNat 0)), .val (.ref x0), .val (.double (4607182418800017408 : UInt64)), .second, .val (.double (4611686018427387904 : UInt64)), .second, .val (.int (1 : Int32)), .unset, .unset] [(.int (1 : Int32))])) (fun _ kt => XS.goto X148.here hx rfl (pc0 := 88) (pc' := 92) rfl (hb hby at_88) (by decide) (by decide) kt) ?_
    refine own_via (T' := T148) (g' := (mkF m 94 #[.val (.int p1), .val (.ref b1), .val (.int (Int32.ofNat 0)), .val (.ref x0), .val (.double (4607182418800017408 : UInt64)), .second, .val (.double (4611686018427387904 : UInt64)), .second, .val (.int (1 : Int32)), .val (.int (1 : Int32)), .unset] [])) (fun _ kt => XS.istore X148.here hx rfl (hb hby at_92) rfl (l' := #[.val (.int p1), .val (.ref b1), .val (.int (Int32.ofNat 0)), .val (.ref x0), .val (.double (4607182418800017408 : UInt64)), .second, .val (.double (4611686018427387904 : UInt64)), .second, .val (.int (1 : Int32)), .val (.int (1 : Int32)), .unset]) rfl kt) ?_
    refine own_via (T' := T148) (g' := (mkF m 95 #[.val (.int p1), .val (.ref b1), .val (.int (Int32.ofNat 0)), .val (.ref x0), .val (.double (4607182418800017408 : UInt64)), .second, .val (.double (4611686018427387904 : UInt64)), .second, .val (.int (1 : Int32)), .val (.int (1 : Int32)), .unset] [(.ref x0)])) (fun _ kt => XS.aloadN X148.here hx rfl (hb hby at_94) rfl rfl kt) ?_
    obtain ⟨v149, T149, L149, X149, hQ149, st149⟩ := own_callV X148 hx hZ (y := (⟨"com/example/stylewright/stylewright/xpath/Comparison$Operator", "swapped", "()Lcom/example/stylewright/stylewright/xpath/Comparison$Operator;"⟩ : MethodName)) (z := (⟨"com/example/stylewright/stylewright/xpath/Comparison$Operator", "swapped", "()Lcom/example/stylewright/stylewright/xpath/Comparison$Operator;"⟩ : MethodName)) hown (hw _ (List.mem_of_getElem? (i := 38) rfl)) (hw _ (List.mem_of_getElem? (i := 39) rfl)) (notFace_of_selects (args := #[]) (mvT hZ (hw _ (List.mem_of_getElem? (i := 41) rfl)))) (hw _ (List.mem_of_getElem? (i := 41) rfl)) (hw _ (List.mem_of_getElem? (i := 40) rfl)) (hw _ (List.mem_of_getElem? (i := 3) rfl)) (hw _ (List.mem_of_getElem? (i := 42) rfl)) (by decide) (b := x0) (W := 0) (argsL := []) (rest := []) (rm4_0 l Z a0 hw [] x0 h126 f128 f129) (by decide) (by decide) (by decide) (by decide) e148 f128 (g := (mkF m 95 #[.val (.int p1), .val (.ref b1), .val (.int (Int32.ofNat 0)), .val (.ref x0), .val (.double (4607182418800017408 : UInt64)), .second, .val (.double (4611686018427387904 : UInt64)), .second, .val (.int (1 : Int32)), .val (.int (1 : Int32)), .unset] [(.ref x0)])) rfl (by rw [hml]; rfl) (lenOf pd_3 rfl) rfl (by show 2 * 0 + _ ≤ _; exact Nat.le_of_eq rfl) (hb hby at_95)
    obtain ⟨rfl, hL149, e149⟩ := hQ149
    replace X149 := own_pure (v := none) (r := none) X149 rfl rfl hL149
    refine own_via (T' := T149) (g' := (mkF m 98 #[.val (.int p1), .val (.ref b1), .val (.int (Int32.ofNat 0)), .val (.ref x0), .val (.double (4607182418800017408 : UInt64)), .second, .val (.double (4611686018427387904 : UInt64)), .second, .val (.int (1 : Int32)), .val (.int (1 : Int32)), .unset] [(.ref x0)])) (fun _ kt => st149 _ kt) ?_
    refine own_via (T' := T149) (g' := (mkF m 99 #[.val (.int p1), .val (.ref b1), .val (.int (Int32.ofNat 0)), .val (.ref x0), .val (.double (4607182418800017408 : UInt64)), .second, .val (.double (4611686018427387904 : UInt64)), .second, .val (.int (1 : Int32)), .val (.int (1 : Int32)), .unset] [(.ref x0), (.ref x0)])) (fun _ kt => XS.aloadN X149.here hx rfl (hb hby at_98) rfl rfl kt) ?_
    refine own_via (T' := T149) (g' := (mkF m 102 #[.val (.int p1), .val (.ref b1), .val (.int (Int32.ofNat 0)), .val (.ref x0), .val (.double (4607182418800017408 : UInt64)), .second, .val (.double (4611686018427387904 : UInt64)), .second, .val (.int (1 : Int32)), .val (.int (1 : Int32)), .unset] [])) (fun _ kt => Jvm.RoadKit.acmp (g := (mkF m 99 #[.val (.int p1), .val (.ref b1), .val (.int (Int32.ofNat 0)), .val (.ref x0), .val (.double (4607182418800017408 : UInt64)), .second, .val (.double (4611686018427387904 : UInt64)), .second, .val (.int (1 : Int32)), .val (.int (1 : Int32)), .unset] [(.ref x0), (.ref x0)])) X149 hx rfl rfl rfl (pc0 := 99) (pc' := 102) (same := true) rfl (hb hby at_99) rfl (decide_eq_true rfl) (by decide) (by decide) kt) ?_
    refine own_via (T' := T149) (g' := (mkF m 103 #[.val (.int p1), .val (.ref b1), .val (.int (Int32.ofNat 0)), .val (.ref x0), .val (.double (4607182418800017408 : UInt64)), .second, .val (.double (4611686018427387904 : UInt64)), .second, .val (.int (1 : Int32)), .val (.int (1 : Int32)), .unset] [(.int (1 : Int32))])) (fun _ kt => XS.iconst X149.here hx rfl (hb hby at_102) kt) ?_
    refine own_via (T' := T149) (g' := (mkF m 107 #[.val (.int p1), .val (.ref b1), .val (.int (Int32.ofNat 0)), .val (.ref x0), .val (.double (4607182418800017408 : UInt64)), .second, .val (.double (4611686018427387904 : UInt64)), .second, .val (.int (1 : Int32)), .val (.int (1 : Int32)), .unset] [(.int (1 : Int32))])) (fun _ kt => XS.goto X149.here hx rfl (pc0 := 103) (pc' := 107) rfl (hb hby at_103) (by decide) (by decide) kt) ?_
    refine own_via (T' := T149) (g' := (mkF m 109 #[.val (.int p1), .val (.ref b1), .val (.int (Int32.ofNat 0)), .val (.ref x0), .val (.double (4607182418800017408 : UInt64)), .second, .val (.double (4611686018427387904 : UInt64)), .second, .val (.int (1 : Int32)), .val (.int (1 : Int32)), .val (.int (1 : Int32))] [])) (fun _ kt => XS.istore X149.here hx rfl (hb hby at_107) rfl (l' := #[.val (.int p1), .val (.ref b1), .val (.int (Int32.ofNat 0)), .val (.ref x0), .val (.double (4607182418800017408 : UInt64)), .second, .val (.double (4611686018427387904 : UInt64)), .second, .val (.int (1 : Int32)), .val (.int (1 : Int32)), .val (.int (1 : Int32))]) rfl kt) ?_
    refine own_via (T' := T149) (g' := (mkF m 111 #[.val (.int p1), .val (.ref b1), .val (.int (Int32.ofNat 0)), .val (.ref x0), .val (.double (4607182418800017408 : UInt64)), .second, .val (.double (4611686018427387904 : UInt64)), .second, .val (.int (1 : Int32)), .val (.int (1 : Int32)), .val (.int (1 : Int32))] [(.int (1 : Int32))])) (fun _ kt => XS.iload X149.here hx rfl (hb hby at_109) rfl kt) ?_
    refine own_via (T' := T149) (g' := (mkF m 113 #[.val (.int p1), .val (.ref b1), .val (.int (Int32.ofNat 0)), .val (.ref x0), .val (.double (4607182418800017408 : UInt64)), .second, .val (.double (4611686018427387904 : UInt64)), .second, .val (.int (1 : Int32)), .val (.int (1 : Int32)), .val (.int (1 : Int32))] [(.int (1 : Int32)), (.int (1 : Int32))])) (fun _ kt => XS.iload X149.here hx rfl (hb hby at_111) rfl kt) ?_
    refine own_via (T' := T149) (g' := (mkF m 116 #[.val (.int p1), .val (.ref b1), .val (.int (Int32.ofNat 0)), .val (.ref x0), .val (.double (4607182418800017408 : UInt64)), .second, .val (.double (4611686018427387904 : UInt64)), .second, .val (.int (1 : Int32)), .val (.int (1 : Int32)), .val (.int (1 : Int32))] [])) (fun _ kt => XS.icmpNo X149.here hx rfl (hb hby at_113) rfl (teq (by decide : ((1 : Int32) = (1 : Int32)))).2 kt) ?_
    refine own_via (T' := T149) (g' := (mkF m 118 #[.val (.int p1), .val (.ref b1), .val (.int (Int32.ofNat 0)), .val (.ref x0), .val (.double (4607182418800017408 : UInt64)), .second, .val (.double (4611686018427387904 : UInt64)), .second, .val (.int (1 : Int32)), .val (.int (1 : Int32)), .val (.int (1 : Int32))] [(.int (1 : Int32))])) (fun _ kt => XS.iload X149.here hx rfl (hb hby at_116) rfl kt) ?_
    refine own_via (T' := T149) (g' := (mkF m 120 #[.val (.int p1), .val (.ref b1), .val (.int (Int32.ofNat 0)), .val (.ref x0), .val (.double (4607182418800017408 : UInt64)), .second, .val (.double (4611686018427387904 : UInt64)), .second, .val (.int (1 : Int32)), .val (.int (1 : Int32)), .val (.int (1 : Int32))] [(.int (1 : Int32)), (.int (1 : Int32))])) (fun _ kt => XS.iload X149.here hx rfl (hb hby at_118) rfl kt) ?_
    refine own_via (T' := T149) (g' := (mkF m 123 #[.val (.int p1), .val (.ref b1), .val (.int (Int32.ofNat 0)), .val (.ref x0), .val (.double (4607182418800017408 : UInt64)), .second, .val (.double (4611686018427387904 : UInt64)), .second, .val (.int (1 : Int32)), .val (.int (1 : Int32)), .val (.int (1 : Int32))] [])) (fun _ kt => XS.icmpNo X149.here hx rfl (hb hby at_120) rfl (teq (by decide : ((1 : Int32) = (1 : Int32)))).2 kt) ?_
    refine own_via (T' := T149) (g' := (mkF m 124 #[.val (.int p1), .val (.ref b1), .val (.int (Int32.ofNat 0)), .val (.ref x0), .val (.double (4607182418800017408 : UInt64)), .second, .val (.double (4611686018427387904 : UInt64)), .second, .val (.int (1 : Int32)), .val (.int (1 : Int32)), .val (.int (1 : Int32))] [(.int (1 : Int32))])) (fun _ kt => XS.iconst X149.here hx rfl (hb hby at_123) kt) ?_
    refine own_via (T' := T149) (g' := (mkF m 128 #[.val (.int p1), .val (.ref b1), .val (.int (Int32.ofNat 0)), .val (.ref x0), .val (.double (4607182418800017408 : UInt64)), .second, .val (.double (4611686018427387904 : UInt64)), .second, .val (.int (1 : Int32)), .val (.int (1 : Int32)), .val (.int (1 : Int32))] [(.int (1 : Int32))])) (fun _ kt => XS.goto X149.here hx rfl (pc0 := 124) (pc' := 128) rfl (hb hby at_124) (by decide) (by decide) kt) ?_
    exact own_retZ X149 hx hret hlk (hb hby at_128) (by decide) ⟨rfl, N126⟩ (by decide) (by decide)
  · refine own_via (T' := T126) (g' := (mkF m 50 #[.val (.int p1), .val (.ref b1), .val (.int (Int32.ofNat 1)), .unset, .unset, .unset, .unset, .unset, .unset, .unset, .unset] [])) (fun _ kt => XS.istoreN X126.here hx rfl (hb hby at_49) rfl (l' := #[.val (.int p1), .val (.ref b1), .val (.int (Int32.ofNat 1)), .unset, .unset, .unset, .unset, .unset, .unset, .unset, .unset]) rfl kt) ?_
    refine own_via (T' := T126) (g' := (mkF m 51 #[.val (.int p1), .val (.ref b1), .val (.int (Int32.ofNat 1)), .unset, .unset, .unset, .unset, .unset, .unset, .unset, .unset] [(.ref b1)])) (fun _ kt => XS.aloadN X126.here hx rfl (hb hby at_50) rfl rfl kt) ?_
    refine own_via (T' := T126) (g' := (mkF m 52 #[.val (.int p1), .val (.ref b1), .val (.int (Int32.ofNat 1)), .unset, .unset, .unset, .unset, .unset, .unset, .unset, .unset] [(.int (Int32.ofNat 1)), (.ref b1)])) (fun _ kt => XS.iloadN X126.here hx rfl (hb hby at_51) rfl kt) ?_
    refine own_via (T' := T126) (g' := (mkF m 53 #[.val (.int p1), .val (.ref b1), .val (.int (Int32.ofNat 1)), .unset, .unset, .unset, .unset, .unset, .unset, .unset, .unset] [(.ref x1)])) (fun _ kt => own_aaload X126 hx hZ e126 A126 rfl (j := (Int32.ofNat 1)) (i := 1) rfl (by decide) (g := (mkF m 52 #[.val (.int p1), .val (.ref b1), .val (.int (Int32.ofNat 1)), .unset, .unset, .unset, .unset, .unset, .unset, .unset, .unset] [(.int (Int32.ofNat 1)), (.ref b1)])) rfl rfl (hb hby at_52) _ kt) ?_
    refine own_via (T' := T126) (g' := (mkF m 54 #[.val (.int p1), .val (.ref b1), .val (.int (Int32.ofNat 1)), .val (.ref x1), .unset, .unset, .unset, .unset, .unset, .unset, .unset] [])) (fun _ kt => XS.astoreN X126.here hx rfl (hb hby at_53) rfl rfl (l' := #[.val (.int p1), .val (.ref b1), .val (.int (Int32.ofNat 1)), .val (.ref x1), .unset, .unset, .unset, .unset, .unset, .unset, .unset]) rfl kt) ?_
    refine own_via (T' := T126) (g' := (mkF m 55 #[.val (.int p1), .val (.ref b1), .val (.int (Int32.ofNat 1)), .val (.ref x1), .unset, .unset, .unset, .unset, .unset, .unset, .unset] [(.double (4607182418800017408 : UInt64))])) (fun _ kt => XS.dconst1 X126.here hx rfl (hb hby at_54) rfl kt) ?_
    refine own_via (T' := T126) (g' := (mkF m 57 #[.val (.int p1), .val (.ref b1), .val (.int (Int32.ofNat 1)), .val (.ref x1), .val (.double (4607182418800017408 : UInt64)), .second, .unset, .unset, .unset, .unset, .unset] [])) (fun _ kt => XS.dstore X126.here hx rfl (hb hby at_55) rfl (l' := #[.val (.int p1), .val (.ref b1), .val (.int (Int32.ofNat 1)), .val (.ref x1), .val (.double (4607182418800017408 : UInt64)), .second, .unset, .unset, .unset, .unset, .unset]) rfl kt) ?_
    refine own_via (T' := T126) (g' := (mkF m 60 #[.val (.int p1), .val (.ref b1), .val (.int (Int32.ofNat 1)), .val (.ref x1), .val (.double (4607182418800017408 : UInt64)), .second, .unset, .unset, .unset, .unset, .unset] [(.double (4611686018427387904 : UInt64))])) (fun _ kt => X126.ldc2DoubleC hx hown (mvT hZ (hw _ (List.mem_of_getElem? (i := 17) rfl))) (g := (mkF m 57 #[.val (.int p1), .val (.ref b1), .val (.int (Int32.ofNat 1)), .val (.ref x1), .val (.double (4607182418800017408 : UInt64)), .second, .unset, .unset, .unset, .unset, .unset] [])) rfl (hb hby at_57) _ kt) ?_
    refine own_via (T' := T126) (g' := (mkF m 62 #[.val (.int p1), .val (.ref b1), .val (.int (Int32.ofNat 1)), .val (.ref x1), .val (.double (4607182418800017408 : UInt64)), .second, .val (.double (4611686018427387904 : UInt64)), .second, .unset, .unset, .unset] [])) (fun _ kt => XS.dstore X126.here hx rfl (hb hby at_60) rfl (l' := #[.val (.int p1), .val (.ref b1), .val (.int (Int32.ofNat 1)), .val (.ref x1), .val (.double (4607182418800017408 : UInt64)), .second, .val (.double (4611686018427387904 : UInt64)), .second, .unset, .unset, .unset]) rfl kt) ?_
    refine own_via (T' := T126) (g' := (mkF m 63 #[.val (.int p1), .val (.ref b1), .val (.int (Int32.ofNat 1)), .val (.ref x1), .val (.double (4607182418800017408 : UInt64)), .second, .val (.double (4611686018427387904 : UInt64)), .second, .unset, .unset, .unset] [(.ref x1)])) (fun _ kt => XS.aloadN X126.here hx rfl (hb hby at_62) rfl rfl kt) ?_
    obtain ⟨v150, T150, L150, X150, hQ150, st150⟩ := own_callV X126 hx hZ (y := (⟨"com/example/stylewright/stylewright/xpath/Comparison$Operator", "isEquality", "()Z"⟩ : MethodName)) (z := (⟨"com/example/stylewright/stylewright/xpath/Comparison$Operator", "isEquality", "()Z"⟩ : MethodName)) hown (hw _ (List.mem_of_getElem? (i := 18) rfl)) (hw _ (List.mem_of_getElem? (i := 19) rfl)) (notFace_of_selects (args := #[]) (mvT hZ (hw _ (List.mem_of_getElem? (i := 21) rfl)))) (hw _ (List.mem_of_getElem? (i := 21) rfl)) (hw _ (List.mem_of_getElem? (i := 20) rfl)) (hw _ (List.mem_of_getElem? (i := 3) rfl)) (hw _ (List.mem_of_getElem? (i := 22) rfl)) (by decide) (b := x1) (W := 0) (argsL := []) (rest := []) (rm1_1 l Z a0 hw [] x1 x0 x1 h126 f127 f130 ne1_0 rfl) (by decide) (by decide) (by decide) (by decide) e126 f131 (g := (mkF m 63 #[.val (.int p1), .val (.ref b1), .val (.int (Int32.ofNat 1)), .val (.ref x1), .val (.double (4607182418800017408 : UInt64)), .second, .val (.double (4611686018427387904 : UInt64)), .second, .unset, .unset, .unset] [(.ref x1)])) rfl (by rw [hml]; rfl) (lenOf pd_1 rfl) rfl (by show 2 * 0 + _ ≤ _; exact Nat.le_of_eq rfl) (hb hby at_63)
    obtain ⟨rfl, hL150, e150⟩ := hQ150
    replace X150 := own_pure (v := none) (r := none) X150 rfl rfl hL150
    refine own_via (T' := T150) (g' := (mkF m 66 #[.val (.int p1), .val (.ref b1), .val (.int (Int32.ofNat 1)), .val (.ref x1), .val (.double (4607182418800017408 : UInt64)), .second, .val (.double (4611686018427387904 : UInt64)), .second, .unset, .unset, .unset] [(.int (1 : Int32))])) (fun _ kt => st150 _ kt) ?_
    refine own_via (T' := T150) (g' := (mkF m 68 #[.val (.int p1), .val (.ref b1), .val (.int (Int32.ofNat 1)), .val (.ref x1), .val (.double (4607182418800017408 : UInt64)), .second, .val (.double (4611686018427387904 : UInt64)), .second, .val (.int (1 : Int32)), .unset, .unset] [])) (fun _ kt => XS.istore X150.here hx rfl (hb hby at_66) rfl (l' := #[.val (.int p1), .val (.ref b1), .val (.int (Int32.ofNat 1)), .val (.ref x1), .val (.double (4607182418800017408 : UInt64)), .second, .val (.double (4611686018427387904 : UInt64)), .second, .val (.int (1 : Int32)), .unset, .unset]) rfl kt) ?_
    refine own_via (T' := T150) (g' := (mkF m 69 #[.val (.int p1), .val (.ref b1), .val (.int (Int32.ofNat 1)), .val (.ref x1), .val (.double (4607182418800017408 : UInt64)), .second, .val (.double (4611686018427387904 : UInt64)), .second, .val (.int (1 : Int32)), .unset, .unset] [(.ref x1)])) (fun _ kt => XS.aloadN X150.here hx rfl (hb hby at_68) rfl rfl kt) ?_
    refine own_via (T' := T150) (g' := (mkF m 71 #[.val (.int p1), .val (.ref b1), .val (.int (Int32.ofNat 1)), .val (.ref x1), .val (.double (4607182418800017408 : UInt64)), .second, .val (.double (4611686018427387904 : UInt64)), .second, .val (.int (1 : Int32)), .unset, .unset] [(.double (4607182418800017408 : UInt64)), (.ref x1)])) (fun _ kt => XS.dload X150.here hx rfl (hb hby at_69) rfl kt) ?_
    refine own_via (T' := T150) (g' := (mkF m 73 #[.val (.int p1), .val (.ref b1), .val (.int (Int32.ofNat 1)), .val (.ref x1), .val (.double (4607182418800017408 : UInt64)), .second, .val (.double (4611686018427387904 : UInt64)), .second, .val (.int (1 : Int32)), .unset, .unset] [(.double (4611686018427387904 : UInt64)), (.double (4607182418800017408 : UInt64)), (.ref x1)])) (fun _ kt => XS.dload X150.here hx rfl (hb hby at_71) rfl kt) ?_
    obtain ⟨v151, T151, L151, X151, hQ151, st151⟩ := own_callV X150 hx hZ (y := (⟨"com/example/stylewright/stylewright/xpath/Comparison$Operator", "test", "(DD)Z"⟩ : MethodName)) (z := (⟨"com/example/stylewright/stylewright/xpath/Comparison$Operator", "test", "(DD)Z"⟩ : MethodName)) hown (hw _ (List.mem_of_getElem? (i := 24) rfl)) (hw _ (List.mem_of_getElem? (i := 25) rfl)) (notFace_of_selects (args := #[]) (mvT hZ (hw _ (List.mem_of_getElem? (i := 27) rfl)))) (hw _ (List.mem_of_getElem? (i := 27) rfl)) (hw _ (List.mem_of_getElem? (i := 26) rfl)) (hw _ (List.mem_of_getElem? (i := 3) rfl)) (hw _ (List.mem_of_getElem? (i := 28) rfl)) (by decide) (b := x1) (W := 0) (argsL := [(.double (4607182418800017408 : UInt64)), (.double (4611686018427387904 : UInt64))]) (rest := []) (rm2_1_lt l Z a0 hw [] x1 (4607182418800017408 : UInt64) (4611686018427387904 : UInt64) h126 own_c12l own_c12g f131 f132) (by decide) (by decide) (by decide) (by decide) e150 f131 (g := (mkF m 73 #[.val (.int p1), .val (.ref b1), .val (.int (Int32.ofNat 1)), .val (.ref x1), .val (.double (4607182418800017408 : UInt64)), .second, .val (.double (4611686018427387904 : UInt64)), .second, .val (.int (1 : Int32)), .unset, .unset] [(.double (4611686018427387904 : UInt64)), (.double (4607182418800017408 : UInt64)), (.ref x1)])) rfl (by rw [hml]; rfl) (lenOf pd_2 rfl) rfl (by show 2 * 0 + _ ≤ _; exact Nat.le_of_eq rfl) (hb hby at_73)
    obtain ⟨rfl, hL151, e151⟩ := hQ151
    replace X151 := own_pure (v := none) (r := none) X151 rfl rfl hL151
    refine own_via (T' := T151) (g' := (mkF m 76 #[.val (.int p1), .val (.ref b1), .val (.int (Int32.ofNat 1)), .val (.ref x1), .val (.double (4607182418800017408 : UInt64)), .second, .val (.double (4611686018427387904 : UInt64)), .second, .val (.int (1 : Int32)), .unset, .unset] [(.int (1 : Int32))])) (fun _ kt => st151 _ kt) ?_
    refine own_via (T' := T151) (g' := (mkF m 77 #[.val (.int p1), .val (.ref b1), .val (.int (Int32.ofNat 1)), .val (.ref x1), .val (.double (4607182418800017408 : UInt64)), .second, .val (.double (4611686018427387904 : UInt64)), .second, .val (.int (1 : Int32)), .unset, .unset] [(.ref x1), (.int (1 : Int32))])) (fun _ kt => XS.aloadN X151.here hx rfl (hb hby at_76) rfl rfl kt) ?_
    refine own_via (T' := T151) (g' := (mkF m 79 #[.val (.int p1), .val (.ref b1), .val (.int (Int32.ofNat 1)), .val (.ref x1), .val (.double (4607182418800017408 : UInt64)), .second, .val (.double (4611686018427387904 : UInt64)), .second, .val (.int (1 : Int32)), .unset, .unset] [(.double (4611686018427387904 : UInt64)), (.ref x1), (.int (1 : Int32))])) (fun _ kt => XS.dload X151.here hx rfl (hb hby at_77) rfl kt) ?_
    refine own_via (T' := T151) (g' := (mkF m 81 #[.val (.int p1), .val (.ref b1), .val (.int (Int32.ofNat 1)), .val (.ref x1), .val (.double (4607182418800017408 : UInt64)), .second, .val (.double (4611686018427387904 : UInt64)), .second, .val (.int (1 : Int32)), .unset, .unset] [(.double (4607182418800017408 : UInt64)), (.double (4611686018427387904 : UInt64)), (.ref x1), (.int (1 : Int32))])) (fun _ kt => XS.dload X151.here hx rfl (hb hby at_79) rfl kt) ?_
    obtain ⟨v152, T152, L152, X152, hQ152, st152⟩ := own_callV X151 hx hZ (y := (⟨"com/example/stylewright/stylewright/xpath/Comparison$Operator", "test", "(DD)Z"⟩ : MethodName)) (z := (⟨"com/example/stylewright/stylewright/xpath/Comparison$Operator", "test", "(DD)Z"⟩ : MethodName)) hown (hw _ (List.mem_of_getElem? (i := 24) rfl)) (hw _ (List.mem_of_getElem? (i := 25) rfl)) (notFace_of_selects (args := #[]) (mvT hZ (hw _ (List.mem_of_getElem? (i := 27) rfl)))) (hw _ (List.mem_of_getElem? (i := 27) rfl)) (hw _ (List.mem_of_getElem? (i := 26) rfl)) (hw _ (List.mem_of_getElem? (i := 3) rfl)) (hw _ (List.mem_of_getElem? (i := 28) rfl)) (by decide) (b := x1) (W := 1) (argsL := [(.double (4611686018427387904 : UInt64)), (.double (4607182418800017408 : UInt64))]) (rest := [(.int (1 : Int32))]) (rm2_1_gt l Z a0 hw [] x1 (4611686018427387904 : UInt64) (4607182418800017408 : UInt64) h126 own_c21l own_c21g f131 f132) (by decide) (by decide) (by decide) (by decide) e151 f131 (g := (mkF m 81 #[.val (.int p1), .val (.ref b1), .val (.int (Int32.ofNat 1)), .val (.ref x1), .val (.double (4607182418800017408 : UInt64)), .second, .val (.double (4611686018427387904 : UInt64)), .second, .val (.int (1 : Int32)), .unset, .unset] [(.double (4607182418800017408 : UInt64)), (.double (4611686018427387904 : UInt64)), (.ref x1), (.int (1 : Int32))])) rfl (by rw [hml]; rfl) (lenOf pd_2 rfl) rfl (by show 2 * 0 + _ ≤ _; exact Nat.le_of_eq rfl) (hb hby at_81)
    obtain ⟨rfl, hL152, e152⟩ := hQ152
    replace X152 := own_pure (v := none) (r := none) X152 rfl rfl hL152
    refine own_via (T' := T152) (g' := (mkF m 84 #[.val (.int p1), .val (.ref b1), .val (.int (Int32.ofNat 1)), .val (.ref x1), .val (.double (4607182418800017408 : UInt64)), .second, .val (.double (4611686018427387904 : UInt64)), .second, .val (.int (1 : Int32)), .unset, .unset] [(.int (1 : Int32)), (.int (1 : Int32))])) (fun _ kt => st152 _ kt) ?_
    refine own_via (T' := T152) (g' := (mkF m 87 #[.val (.int p1), .val (.ref b1), .val (.int (Int32.ofNat 1)), .val (.ref x1), .val (.double (4607182418800017408 : UInt64)), .second, .val (.double (4611686018427387904 : UInt64)), .second, .val (.int (1 : Int32)), .unset, .unset] [])) (fun _ kt => XS.icmpNo X152.here hx rfl (hb hby at_84) rfl (teq (by decide : ((1 : Int32) = (1 : Int32)))).2 kt) ?_
    refine own_via (T' := T152) (g' := (mkF m 88 #[.val (.int p1), .val (.ref b1), .val (.int (Int32.ofNat 1)), .val (.ref x1), .val (.double (4607182418800017408 : UInt64)), .second, .val (.double (4611686018427387904 : UInt64)), .second, .val (.int (1 : Int32)), .unset, .unset] [(.int (1 : Int32))])) (fun _ kt => XS.iconst X152.here hx rfl (hb hby at_87) kt) ?_
    refine own_via (T' := T152) (g' := (mkF m 92 #[.val (.int p1), .val (.ref b1), .val (.int (Int32.ofNat 1)), .val (.ref x1), .val (.double (4607182418800017408 : UInt64)), .second, .val (.double (4611686018427387904 : UInt64)), .second, .val (.int (1 : Int32)), .unset, .unset] [(.int (1 : Int32))])) (fun _ kt => XS.goto X152.here hx rfl (pc0 := 88) (pc' := 92) rfl (hb hby at_88) (by decide) (by decide) kt) ?_
    refine own_via (T' := T152) (g' := (mkF m 94 #[.val (.int p1), .val (.ref b1), .val (.int (Int32.ofNat 1)), .val (.ref x1), .val (.double (4607182418800017408 : UInt64)), .second, .val (.double (4611686018427387904 : UInt64)), .second, .val (.int (1 : Int32)), .val (.int (1 : Int32)), .unset] [])) (fun _ kt => XS.istore X152.here hx rfl (hb hby at_92) rfl (l' := #[.val (.int p1), .val (.ref b1), .val (.int (Int32.ofNat 1)), .val (.ref x1), .val (.double (4607182418800017408 : UInt64)), .second, .val (.double (4611686018427387904 : UInt64)), .second, .val (.int (1 : Int32)), .val (.int (1 : Int32)), .unset]) rfl kt) ?_
    refine own_via (T' := T152) (g' := (mkF m 95 #[.val (.int p1), .val (.ref b1), .val (.int (Int32.ofNat 1)), .val (.ref x1), .val (.double (4607182418800017408 : UInt64)), .second, .val (.double (4611686018427387904 : UInt64)), .second, .val (.int (1 : Int32)), .val (.int (1 : Int32)), .unset] [(.ref x1)])) (fun _ kt => XS.aloadN X152.here hx rfl (hb hby at_94) rfl rfl kt) ?_
    obtain ⟨v153, T153, L153, X153, hQ153, st153⟩ := own_callV X152 hx hZ (y := (⟨"com/example/stylewright/stylewright/xpath/Comparison$Operator", "swapped", "()Lcom/example/stylewright/stylewright/xpath/Comparison$Operator;"⟩ : MethodName)) (z := (⟨"com/example/stylewright/stylewright/xpath/Comparison$Operator", "swapped", "()Lcom/example/stylewright/stylewright/xpath/Comparison$Operator;"⟩ : MethodName)) hown (hw _ (List.mem_of_getElem? (i := 38) rfl)) (hw _ (List.mem_of_getElem? (i := 39) rfl)) (notFace_of_selects (args := #[]) (mvT hZ (hw _ (List.mem_of_getElem? (i := 41) rfl)))) (hw _ (List.mem_of_getElem? (i := 41) rfl)) (hw _ (List.mem_of_getElem? (i := 40) rfl)) (hw _ (List.mem_of_getElem? (i := 3) rfl)) (hw _ (List.mem_of_getElem? (i := 42) rfl)) (by decide) (b := x1) (W := 0) (argsL := []) (rest := []) (rm4_1 l Z a0 hw [] x1 h126 f131 f132) (by decide) (by decide) (by decide) (by decide) e152 f131 (g := (mkF m 95 #[.val (.int p1), .val (.ref b1), .val (.int (Int32.ofNat 1)), .val (.ref x1), .val (.double (4607182418800017408 : UInt64)), .second, .val (.double (4611686018427387904 : UInt64)), .second, .val (.int (1 : Int32)), .val (.int (1 : Int32)), .unset] [(.ref x1)])) rfl (by rw [hml]; rfl) (lenOf pd_3 rfl) rfl (by show 2 * 0 + _ ≤ _; exact Nat.le_of_eq rfl) (hb hby at_95)
    obtain ⟨rfl, hL153, e153⟩ := hQ153
    replace X153 := own_pure (v := none) (r := none) X153 rfl rfl hL153
    refine own_via (T' := T153) (g' := (mkF m 98 #[.val (.int p1), .val (.ref b1), .val (.int (Int32.ofNat 1)), .val (.ref x1), .val (.double (4607182418800017408 : UInt64)), .second, .val (.double (4611686018427387904 : UInt64)), .second, .val (.int (1 : Int32)), .val (.int (1 : Int32)), .unset] [(.ref x1)])) (fun _ kt => st153 _ kt) ?_
    refine own_via (T' := T153) (g' := (mkF m 99 #[.val (.int p1), .val (.ref b1), .val (.int (Int32.ofNat 1)), .val (.ref x1), .val (.double (4607182418800017408 : UInt64)), .second, .val (.double (4611686018427387904 : UInt64)), .second, .val (.int (1 : Int32)), .val (.int (1 : Int32)), .unset] [(.ref x1), (.ref x1)])) (fun _ kt => XS.aloadN X153.here hx rfl (hb hby at_98) rfl rfl kt) ?_
    refine own_via (T' := T153) (g' := (mkF m 102 #[.val (.int p1), .val (.ref b1), .val (.int (Int32.ofNat 1)), .val (.ref x1), .val (.double (4607182418800017408 : UInt64)), .second, .val (.double (4611686018427387904 : UInt64)), .second, .val (.int (1 : Int32)), .val (.int (1 : Int32)), .unset] [])) (fun _ kt => Jvm.RoadKit.acmp (g := (mkF m 99 #[.val (.int p1), .val (.ref b1), .val (.int (Int32.ofNat 1)), .val (.ref x1), .val (.double (4607182418800017408 : UInt64)), .second, .val (.double (4611686018427387904 : UInt64)), .second, .val (.int (1 : Int32)), .val (.int (1 : Int32)), .unset] [(.ref x1), (.ref x1)])) X153 hx rfl rfl rfl (pc0 := 99) (pc' := 102) (same := true) rfl (hb hby at_99) rfl (decide_eq_true rfl) (by decide) (by decide) kt) ?_
    refine own_via (T' := T153) (g' := (mkF m 103 #[.val (.int p1), .val (.ref b1), .val (.int (Int32.ofNat 1)), .val (.ref x1), .val (.double (4607182418800017408 : UInt64)), .second, .val (.double (4611686018427387904 : UInt64)), .second, .val (.int (1 : Int32)), .val (.int (1 : Int32)), .unset] [(.int (1 : Int32))])) (fun _ kt => XS.iconst X153.here hx rfl (hb hby at_102) kt) ?_
    refine own_via (T' := T153) (g' := (mkF m 107 #[.val (.int p1), .val (.ref b1), .val (.int (Int32.ofNat 1)), .val (.ref x1), .val (.double (4607182418800017408 : UInt64)), .second, .val (.double (4611686018427387904 : UInt64)), .second, .val (.int (1 : Int32)), .val (.int (1 : Int32)), .unset] [(.int (1 : Int32))])) (fun _ kt => XS.goto X153.here hx rfl (pc0 := 103) (pc' := 107) rfl (hb hby at_103) (by decide) (by decide) kt) ?_
    refine own_via (T' := T153) (g' := (mkF m 109 #[.val (.int p1), .val (.ref b1), .val (.int (Int32.ofNat 1)), .val (.ref x1), .val (.double (4607182418800017408 : UInt64)), .second, .val (.double (4611686018427387904 : UInt64)), .second, .val (.int (1 : Int32)), .val (.int (1 : Int32)), .val (.int (1 : Int32))] [])) (fun _ kt => XS.istore X153.here hx rfl (hb hby at_107) rfl (l' := #[.val (.int p1), .val (.ref b1), .val (.int (Int32.ofNat 1)), .val (.ref x1), .val (.double (4607182418800017408 : UInt64)), .second, .val (.double (4611686018427387904 : UInt64)), .second, .val (.int (1 : Int32)), .val (.int (1 : Int32)), .val (.int (1 : Int32))]) rfl kt) ?_
    refine own_via (T' := T153) (g' := (mkF m 111 #[.val (.int p1), .val (.ref b1), .val (.int (Int32.ofNat 1)), .val (.ref x1), .val (.double (4607182418800017408 : UInt64)), .second, .val (.double (4611686018427387904 : UInt64)), .second, .val (.int (1 : Int32)), .val (.int (1 : Int32)), .val (.int (1 : Int32))] [(.int (1 : Int32))])) (fun _ kt => XS.iload X153.here hx rfl (hb hby at_109) rfl kt) ?_
    refine own_via (T' := T153) (g' := (mkF m 113 #[.val (.int p1), .val (.ref b1), .val (.int (Int32.ofNat 1)), .val (.ref x1), .val (.double (4607182418800017408 : UInt64)), .second, .val (.double (4611686018427387904 : UInt64)), .second, .val (.int (1 : Int32)), .val (.int (1 : Int32)), .val (.int (1 : Int32))] [(.int (1 : Int32)), (.int (1 : Int32))])) (fun _ kt => XS.iload X153.here hx rfl (hb hby at_111) rfl kt) ?_
    refine own_via (T' := T153) (g' := (mkF m 116 #[.val (.int p1), .val (.ref b1), .val (.int (Int32.ofNat 1)), .val (.ref x1), .val (.double (4607182418800017408 : UInt64)), .second, .val (.double (4611686018427387904 : UInt64)), .second, .val (.int (1 : Int32)), .val (.int (1 : Int32)), .val (.int (1 : Int32))] [])) (fun _ kt => XS.icmpNo X153.here hx rfl (hb hby at_113) rfl (teq (by decide : ((1 : Int32) = (1 : Int32)))).2 kt) ?_
    refine own_via (T' := T153) (g' := (mkF m 118 #[.val (.int p1), .val (.ref b1), .val (.int (Int32.ofNat 1)), .val (.ref x1), .val (.double (4607182418800017408 : UInt64)), .second, .val (.double (4611686018427387904 : UInt64)), .second, .val (.int (1 : Int32)), .val (.int (1 : Int32)), .val (.int (1 : Int32))] [(.int (1 : Int32))])) (fun _ kt => XS.iload X153.here hx rfl (hb hby at_116) rfl kt) ?_
    refine own_via (T' := T153) (g' := (mkF m 120 #[.val (.int p1), .val (.ref b1), .val (.int (Int32.ofNat 1)), .val (.ref x1), .val (.double (4607182418800017408 : UInt64)), .second, .val (.double (4611686018427387904 : UInt64)), .second, .val (.int (1 : Int32)), .val (.int (1 : Int32)), .val (.int (1 : Int32))] [(.int (1 : Int32)), (.int (1 : Int32))])) (fun _ kt => XS.iload X153.here hx rfl (hb hby at_118) rfl kt) ?_
    refine own_via (T' := T153) (g' := (mkF m 123 #[.val (.int p1), .val (.ref b1), .val (.int (Int32.ofNat 1)), .val (.ref x1), .val (.double (4607182418800017408 : UInt64)), .second, .val (.double (4611686018427387904 : UInt64)), .second, .val (.int (1 : Int32)), .val (.int (1 : Int32)), .val (.int (1 : Int32))] [])) (fun _ kt => XS.icmpNo X153.here hx rfl (hb hby at_120) rfl (teq (by decide : ((1 : Int32) = (1 : Int32)))).2 kt) ?_
    refine own_via (T' := T153) (g' := (mkF m 124 #[.val (.int p1), .val (.ref b1), .val (.int (Int32.ofNat 1)), .val (.ref x1), .val (.double (4607182418800017408 : UInt64)), .second, .val (.double (4611686018427387904 : UInt64)), .second, .val (.int (1 : Int32)), .val (.int (1 : Int32)), .val (.int (1 : Int32))] [(.int (1 : Int32))])) (fun _ kt => XS.iconst X153.here hx rfl (hb hby at_123) kt) ?_
    refine own_via (T' := T153) (g' := (mkF m 128 #[.val (.int p1), .val (.ref b1), .val (.int (Int32.ofNat 1)), .val (.ref x1), .val (.double (4607182418800017408 : UInt64)), .second, .val (.double (4611686018427387904 : UInt64)), .second, .val (.int (1 : Int32)), .val (.int (1 : Int32)), .val (.int (1 : Int32))] [(.int (1 : Int32))])) (fun _ kt => XS.goto X153.here hx rfl (pc0 := 124) (pc' := 128) rfl (hb hby at_124) (by decide) (by decide) kt) ?_
    exact own_retZ X153 hx hret hlk (hb hby at_128) (by decide) ⟨rfl, N126⟩ (by decide) (by decide)
  · refine own_via (T' := T126) (g' := (mkF m 50 #[.val (.int p1), .val (.ref b1), .val (.int (Int32.ofNat 2)), .unset, .unset, .unset, .unset, .unset, .unset, .unset, .unset] [])) (fun _ kt => XS.istoreN X126.here hx rfl (hb hby at_49) rfl (l' := #[.val (.int p1), .val (.ref b1), .val (.int (Int32.ofNat 2)), .unset, .unset, .unset, .unset, .unset, .unset, .unset, .unset]) rfl kt) ?_
    refine own_via (T' := T126) (g' := (mkF m 51 #[.val (.int p1), .val (.ref b1), .val (.int (Int32.ofNat 2)), .unset, .unset, .unset, .unset, .unset, .unset, .unset, .unset] [(.ref b1)])) (fun _ kt => XS.aloadN X126.here hx rfl (hb hby at_50) rfl rfl kt) ?_
    refine own_via (T' := T126) (g' := (mkF m 52 #[.val (.int p1), .val (.ref b1), .val (.int (Int32.ofNat 2)), .unset, .unset, .unset, .unset, .unset, .unset, .unset, .unset] [(.int (Int32.ofNat 2)), (.ref b1)])) (fun _ kt => XS.iloadN X126.here hx rfl (hb hby at_51) rfl kt) ?_
    refine own_via (T' := T126) (g' := (mkF m 53 #[.val (.int p1), .val (.ref b1), .val (.int (Int32.ofNat 2)), .unset, .unset, .unset, .unset, .unset, .unset, .unset, .unset] [(.ref x2)])) (fun _ kt => own_aaload X126 hx hZ e126 A126 rfl (j := (Int32.ofNat 2)) (i := 2) rfl (by decide) (g := (mkF m 52 #[.val (.int p1), .val (.ref b1), .val (.int (Int32.ofNat 2)), .unset, .unset, .unset, .unset, .unset, .unset, .unset, .unset] [(.int (Int32.ofNat 2)), (.ref b1)])) rfl rfl (hb hby at_52) _ kt) ?_
    refine own_via (T' := T126) (g' := (mkF m 54 #[.val (.int p1), .val (.ref b1), .val (.int (Int32.ofNat 2)), .val (.ref x2), .unset, .unset, .unset, .unset, .unset, .unset, .unset] [])) (fun _ kt => XS.astoreN X126.here hx rfl (hb hby at_53) rfl rfl (l' := #[.val (.int p1), .val (.ref b1), .val (.int (Int32.ofNat 2)), .val (.ref x2), .unset, .unset, .unset, .unset, .unset, .unset, .unset]) rfl kt) ?_
    refine own_via (T' := T126) (g' := (mkF m 55 #[.val (.int p1), .val (.ref b1), .val (.int (Int32.ofNat 2)), .val (.ref x2), .unset, .unset, .unset, .unset, .unset, .unset, .unset] [(.double (4607182418800017408 : UInt64))])) (fun _ kt => XS.dconst1 X126.here hx rfl (hb hby at_54) rfl kt) ?_
    refine own_via (T' := T126) (g' := (mkF m 57 #[.val (.int p1), .val (.ref b1), .val (.int (Int32.ofNat 2)), .val (.ref x2), .val (.double (4607182418800017408 : UInt64)), .second, .unset, .unset, .unset, .unset, .unset] [])) (fun _ kt => XS.dstore X126.here hx rfl (hb hby at_55) rfl (l' := #[.val (.int p1), .val (.ref b1), .val (.int (Int32.ofNat 2)), .val (.ref x2), .val (.double (4607182418800017408 : UInt64)), .second, .unset, .unset, .unset, .unset, .unset]) rfl kt) ?_
    refine own_via (T' := T126) (g' := (mkF m 60 #[.val (.int p1), .val (.ref b1), .val (.int (Int32.ofNat 2)), .val (.ref x2), .val (.double (4607182418800017408 : UInt64)), .second, .unset, .unset, .unset, .unset, .unset] [(.double (4611686018427387904 : UInt64))])) (fun _ kt => X126.ldc2DoubleC hx hown (mvT hZ (hw _ (List.mem_of_getElem? (i := 17) rfl))) (g := (mkF m 57 #[.val (.int p1), .val (.ref b1), .val (.int (Int32.ofNat 2)), .val (.ref x2), .val (.double (4607182418800017408 : UInt64)), .second, .unset, .unset, .unset, .unset, .unset] [])) rfl (hb hby at_57) _ kt) ?_
    refine own_via (T' := T126) (g' := (mkF m 62 #[.val (.int p1), .val (.ref b1), .val (.int (Int32.ofNat 2)), .val (.ref x2), .val (.double (4607182418800017408 : UInt64)), .second, .val (.double (4611686018427387904 : UInt64)), .second, .unset, .unset, .unset] [])) (fun _ kt => XS.dstore X126.here hx rfl (hb hby at_60) rfl (l' := #[.val (.int p1), .val (.ref b1), .val (.int (Int32.ofNat 2)), .val (.ref x2), .val (.double (4607182418800017408 : UInt64)), .second, .val (.double (4611686018427387904 : UInt64)), .second, .unset, .unset, .unset]) rfl kt) ?_
    refine own_via (T' := T126) (g' := (mkF m 63 #[.val (.int p1), .val (.ref b1), .val (.int (Int32.ofNat 2)), .val (.ref x2), .val (.double (4607182418800017408 : UInt64)), .second, .val (.double (4611686018427387904 : UInt64)), .second, .unset, .unset, .unset] [(.ref x2)])) (fun _ kt => XS.aloadN X126.here hx rfl (hb hby at_62) rfl rfl kt) ?_
    obtain ⟨v154, T154, L154, X154, hQ154, st154⟩ := own_callV X126 hx hZ (y := (⟨"com/example/stylewright/stylewright/xpath/Comparison$Operator", "isEquality", "()Z"⟩ : MethodName)) (z := (⟨"com/example/stylewright/stylewright/xpath/Comparison$Operator", "isEquality", "()Z"⟩ : MethodName)) hown (hw _ (List.mem_of_getElem? (i := 18) rfl)) (hw _ (List.mem_of_getElem? (i := 19) rfl)) (notFace_of_selects (args := #[]) (mvT hZ (hw _ (List.mem_of_getElem? (i := 21) rfl)))) (hw _ (List.mem_of_getElem? (i := 21) rfl)) (hw _ (List.mem_of_getElem? (i := 20) rfl)) (hw _ (List.mem_of_getElem? (i := 3) rfl)) (hw _ (List.mem_of_getElem? (i := 22) rfl)) (by decide) (b := x2) (W := 0) (argsL := []) (rest := []) (rm1_2 l Z a0 hw [] x2 x0 x1 h126 f127 f130 ne2_0 ne2_1) (by decide) (by decide) (by decide) (by decide) e126 f134 (g := (mkF m 63 #[.val (.int p1), .val (.ref b1), .val (.int (Int32.ofNat 2)), .val (.ref x2), .val (.double (4607182418800017408 : UInt64)), .second, .val (.double (4611686018427387904 : UInt64)), .second, .unset, .unset, .unset] [(.ref x2)])) rfl (by rw [hml]; rfl) (lenOf pd_1 rfl) rfl (by show 2 * 0 + _ ≤ _; exact Nat.le_of_eq rfl) (hb hby at_63)
    obtain ⟨rfl, hL154, e154⟩ := hQ154
    replace X154 := own_pure (v := none) (r := none) X154 rfl rfl hL154
    refine own_via (T' := T154) (g' := (mkF m 66 #[.val (.int p1), .val (.ref b1), .val (.int (Int32.ofNat 2)), .val (.ref x2), .val (.double (4607182418800017408 : UInt64)), .second, .val (.double (4611686018427387904 : UInt64)), .second, .unset, .unset, .unset] [(.int (0 : Int32))])) (fun _ kt => st154 _ kt) ?_
    refine own_via (T' := T154) (g' := (mkF m 68 #[.val (.int p1), .val (.ref b1), .val (.int (Int32.ofNat 2)), .val (.ref x2), .val (.double (4607182418800017408 : UInt64)), .second, .val (.double (4611686018427387904 : UInt64)), .second, .val (.int (0 : Int32)), .unset, .unset] [])) (fun _ kt => XS.istore X154.here hx rfl (hb hby at_66) rfl (l' := #[.val (.int p1), .val (.ref b1), .val (.int (Int32.ofNat 2)), .val (.ref x2), .val (.double (4607182418800017408 : UInt64)), .second, .val (.double (4611686018427387904 : UInt64)), .second, .val (.int (0 : Int32)), .unset, .unset]) rfl kt) ?_
    refine own_via (T' := T154) (g' := (mkF m 69 #[.val (.int p1), .val (.ref b1), .val (.int (Int32.ofNat 2)), .val (.ref x2), .val (.double (4607182418800017408 : UInt64)), .second, .val (.double (4611686018427387904 : UInt64)), .second, .val (.int (0 : Int32)), .unset, .unset] [(.ref x2)])) (fun _ kt => XS.aloadN X154.here hx rfl (hb hby at_68) rfl rfl kt) ?_
    refine own_via (T' := T154) (g' := (mkF m 71 #[.val (.int p1), .val (.ref b1), .val (.int (Int32.ofNat 2)), .val (.ref x2), .val (.double (4607182418800017408 : UInt64)), .second, .val (.double (4611686018427387904 : UInt64)), .second, .val (.int (0 : Int32)), .unset, .unset] [(.double (4607182418800017408 : UInt64)), (.ref x2)])) (fun _ kt => XS.dload X154.here hx rfl (hb hby at_69) rfl kt) ?_
    refine own_via (T' := T154) (g' := (mkF m 73 #[.val (.int p1), .val (.ref b1), .val (.int (Int32.ofNat 2)), .val (.ref x2), .val (.double (4607182418800017408 : UInt64)), .second, .val (.double (4611686018427387904 : UInt64)), .second, .val (.int (0 : Int32)), .unset, .unset] [(.double (4611686018427387904 : UInt64)), (.double (4607182418800017408 : UInt64)), (.ref x2)])) (fun _ kt => XS.dload X154.here hx rfl (hb hby at_71) rfl kt) ?_
    obtain ⟨v155, T155, L155, X155, hQ155, st155⟩ := own_callV X154 hx hZ (y := (⟨"com/example/stylewright/stylewright/xpath/Comparison$Operator", "test", "(DD)Z"⟩ : MethodName)) (z := (⟨"com/example/stylewright/stylewright/xpath/Comparison$Operator", "test", "(DD)Z"⟩ : MethodName)) hown (hw _ (List.mem_of_getElem? (i := 24) rfl)) (hw _ (List.mem_of_getElem? (i := 25) rfl)) (notFace_of_selects (args := #[]) (mvT hZ (hw _ (List.mem_of_getElem? (i := 27) rfl)))) (hw _ (List.mem_of_getElem? (i := 27) rfl)) (hw _ (List.mem_of_getElem? (i := 26) rfl)) (hw _ (List.mem_of_getElem? (i := 3) rfl)) (hw _ (List.mem_of_getElem? (i := 28) rfl)) (by decide) (b := x2) (W := 0) (argsL := [(.double (4607182418800017408 : UInt64)), (.double (4611686018427387904 : UInt64))]) (rest := []) (rm2_2_lt l Z a0 hw [] x2 (4607182418800017408 : UInt64) (4611686018427387904 : UInt64) h126 own_c12l own_c12g f134 f135) (by decide) (by decide) (by decide) (by decide) e154 f134 (g := (mkF m 73 #[.val (.int p1), .val (.ref b1), .val (.int (Int32.ofNat 2)), .val (.ref x2), .val (.double (4607182418800017408 : UInt64)), .second, .val (.double (4611686018427387904 : UInt64)), .second, .val (.int (0 : Int32)), .unset, .unset] [(.double (4611686018427387904 : UInt64)), (.double (4607182418800017408 : UInt64)), (.ref x2)])) rfl (by rw [hml]; rfl) (lenOf pd_2 rfl) rfl (by show 2 * 0 + _ ≤ _; exact Nat.le_of_eq rfl) (hb hby at_73)
    obtain ⟨rfl, hL155, e155⟩ := hQ155
    replace X155 := own_pure (v := none) (r := none) X155 rfl rfl hL155
    refine own_via (T' := T155) (g' := (mkF m 76 #[.val (.int p1), .val (.ref b1), .val (.int (Int32.ofNat 2)), .val (.ref x2), .val (.double (4607182418800017408 : UInt64)), .second, .val (.double (4611686018427387904 : UInt64)), .second, .val (.int (0 : Int32)), .unset, .unset] [(.int (1 : Int32))])) (fun _ kt => st155 _ kt) ?_
    refine own_via (T' := T155) (g' := (mkF m 77 #[.val (.int p1), .val (.ref b1), .val (.int (Int32.ofNat 2)), .val (.ref x2), .val (.double (4607182418800017408 : UInt64)), .second, .val (.double (4611686018427387904 : UInt64)), .second, .val (.int (0 : Int32)), .unset, .unset] [(.ref x2), (.int (1 : Int32))])) (fun _ kt => XS.aloadN X155.here hx rfl (hb hby at_76) rfl rfl kt) ?_
    refine own_via (T' := T155) (g' := (mkF m 79 #[.val (.int p1), .val (.ref b1), .val (.int (Int32.ofNat 2)), .val (.ref x2), .val (.double (4607182418800017408 : UInt64)), .second, .val (.double (4611686018427387904 : UInt64)), .second, .val (.int (0 : Int32)), .unset, .unset] [(.double (4611686018427387904 : UInt64)), (.ref x2), (.int (1 : Int32))])) (fun _ kt => XS.dload X155.here hx rfl (hb hby at_77) rfl kt) ?_
    refine own_via (T' := T155) (g' := (mkF m 81 #[.val (.int p1), .val (.ref b1), .val (.int (Int32.ofNat 2)), .val (.ref x2), .val (.double (4607182418800017408 : UInt64)), .second, .val (.double (4611686018427387904 : UInt64)), .second, .val (.int (0 : Int32)), .unset, .unset] [(.double (4607182418800017408 : UInt64)), (.double (4611686018427387904 : UInt64)), (.ref x2), (.int (1 : Int32))])) (fun _ kt => XS.dload X155.here hx rfl (hb hby at_79) rfl kt) ?_
    obtain ⟨v156, T156, L156, X156, hQ156, st156⟩ := own_callV X155 hx hZ (y := (⟨"com/example/stylewright/stylewright/xpath/Comparison$Operator", "test", "(DD)Z"⟩ : MethodName)) (z := (⟨"com/example/stylewright/stylewright/xpath/Comparison$Operator", "test", "(DD)Z"⟩ : MethodName)) hown (hw _ (List.mem_of_getElem? (i := 24) rfl)) (hw _ (List.mem_of_getElem? (i := 25) rfl)) (notFace_of_selects (args := #[]) (mvT hZ (hw _ (List.mem_of_getElem? (i := 27) rfl)))) (hw _ (List.mem_of_getElem? (i := 27) rfl)) (hw _ (List.mem_of_getElem? (i := 26) rfl)) (hw _ (List.mem_of_getElem? (i := 3) rfl)) (hw _ (List.mem_of_getElem? (i := 28) rfl)) (by decide) (b := x2) (W := 1) (argsL := [(.double (4611686018427387904 : UInt64)), (.double (4607182418800017408 : UInt64))]) (rest := [(.int (1 : Int32))]) (rm2_2_gt l Z a0 hw [] x2 (4611686018427387904 : UInt64) (4607182418800017408 : UInt64) h126 own_c21l own_c21g f134 f135) (by decide) (by decide) (by decide) (by decide) e155 f134 (g := (mkF m 81 #[.val (.int p1), .val (.ref b1), .val (.int (Int32.ofNat 2)), .val (.ref x2), .val (.double (4607182418800017408 : UInt64)), .second, .val (.double (4611686018427387904 : UInt64)), .second, .val (.int (0 : Int32)), .unset, .unset] [(.double (4607182418800017408 : UInt64)), (.double (4611686018427387904 : UInt64)), (.ref x2), (.int (1 : Int32))])) rfl (by rw [hml]; rfl) (lenOf pd_2 rfl) rfl (by show 2 * 0 + _ ≤ _; exact Nat.le_of_eq rfl) (hb hby at_81)
    obtain ⟨rfl, hL156, e156⟩ := hQ156
    replace X156 := own_pure (v := none) (r := none) X156 rfl rfl hL156
    refine own_via (T' := T156) (g' := (mkF m 84 #[.val (.int p1), .val (.ref b1), .val (.int (Int32.ofNat 2)), .val (.ref x2), .val (.double (4607182418800017408 : UInt64)), .second, .val (.double (4611686018427387904 : UInt64)), .second, .val (.int (0 : Int32)), .unset, .unset] [(.int (0 : Int32)), (.int (1 : Int32))])) (fun _ kt => st156 _ kt) ?_
    refine own_via (T' := T156) (g' := (mkF m 91 #[.val (.int p1), .val (.ref b1), .val (.int (Int32.ofNat 2)), .val (.ref x2), .val (.double (4607182418800017408 : UInt64)), .second, .val (.double (4611686018427387904 : UInt64)), .second, .val (.int (0 : Int32)), .unset, .unset] [])) (fun _ kt => XS.icmpYes X156.here hx rfl (pc0 := 84) (pc' := 91) rfl (hb hby at_84) rfl (feq (by decide : ¬ ((1 : Int32) = (0 : Int32)))).2 (by decide) (by decide) kt) ?_
    refine own_via (T' := T156) (g' := (mkF m 92 #[.val (.int p1), .val (.ref b1), .val (.int (Int32.ofNat 2)), .val (.ref x2), .val (.double (4607182418800017408 : UInt64)), .second, .val (.double (4611686018427387904 : UInt64)), .second, .val (.int (0 : Int32)), .unset, .unset] [(.int (0 : Int32))])) (fun _ kt => XS.iconst X156.here hx rfl (hb hby at_91) kt) ?_
    refine own_via (T' := T156) (g' := (mkF m 94 #[.val (.int p1), .val (.ref b1), .val (.int (Int32.ofNat 2)), .val (.ref x2), .val (.double (4607182418800017408 : UInt64)), .second, .val (.double (4611686018427387904 : UInt64)), .second, .val (.int (0 : Int32)), .val (.int (0 : Int32)), .unset] [])) (fun _ kt => XS.istore X156.here hx rfl (hb hby at_92) rfl (l' := #[.val (.int p1), .val (.ref b1), .val (.int (Int32.ofNat 2)), .val (.ref x2), .val (.double (4607182418800017408 : UInt64)), .second, .val (.double (4611686018427387904 : UInt64)), .second, .val (.int (0 : Int32)), .val (.int (0 : Int32)), .unset]) rfl kt) ?_
    refine own_via (T' := T156) (g' := (mkF m 95 #[.val (.int p1), .val (.ref b1), .val (.int (Int32.ofNat 2)), .val (.ref x2), .val (.double (4607182418800017408 : UInt64)), .second, .val (.double (4611686018427387904 : UInt64)), .second, .val (.int (0 : Int32)), .val (.int (0 : Int32)), .unset] [(.ref x2)])) (fun _ kt => XS.aloadN X156.here hx rfl (hb hby at_94) rfl rfl kt) ?_
    obtain ⟨v157, T157, L157, X157, hQ157, st157⟩ := own_callV X156 hx hZ (y := (⟨"com/example/stylewright/stylewright/xpath/Comparison$Operator", "swapped", "()Lcom/example/stylewright/stylewright/xpath/Comparison$Operator;"⟩ : MethodName)) (z := (⟨"com/example/stylewright/stylewright/xpath/Comparison$Operator", "swapped", "()Lcom/example/stylewright/stylewright/xpath/Comparison$Operator;"⟩ : MethodName)) hown (hw _ (List.mem_of_getElem? (i := 38) rfl)) (hw _ (List.mem_of_getElem? (i := 39) rfl)) (notFace_of_selects (args := #[]) (mvT hZ (hw _ (List.mem_of_getElem? (i := 41) rfl)))) (hw _ (List.mem_of_getElem? (i := 41) rfl)) (hw _ (List.mem_of_getElem? (i := 40) rfl)) (hw _ (List.mem_of_getElem? (i := 3) rfl)) (hw _ (List.mem_of_getElem? (i := 42) rfl)) (by decide) (b := x2) (W := 0) (argsL := []) (rest := []) (rm4_2 l Z a0 hw [] x2 x4 h126 f139 f134 f135) (by decide) (by decide) (by decide) (by decide) e156 f134 (g := (mkF m 95 #[.val (.int p1), .val (.ref b1), .val (.int (Int32.ofNat 2)), .val (.ref x2), .val (.double (4607182418800017408 : UInt64)), .second, .val (.double (4611686018427387904 : UInt64)), .second, .val (.int (0 : Int32)), .val (.int (0 : Int32)), .unset] [(.ref x2)])) rfl (by rw [hml]; rfl) (lenOf pd_3 rfl) rfl (by show 2 * 0 + _ ≤ _; exact Nat.le_of_eq rfl) (hb hby at_95)
    obtain ⟨rfl, hL157, e157⟩ := hQ157
    replace X157 := own_pure (v := none) (r := none) X157 rfl rfl hL157
    refine own_via (T' := T157) (g' := (mkF m 98 #[.val (.int p1), .val (.ref b1), .val (.int (Int32.ofNat 2)), .val (.ref x2), .val (.double (4607182418800017408 : UInt64)), .second, .val (.double (4611686018427387904 : UInt64)), .second, .val (.int (0 : Int32)), .val (.int (0 : Int32)), .unset] [(.ref x4)])) (fun _ kt => st157 _ kt) ?_
    refine own_via (T' := T157) (g' := (mkF m 99 #[.val (.int p1), .val (.ref b1), .val (.int (Int32.ofNat 2)), .val (.ref x2), .val (.double (4607182418800017408 : UInt64)), .second, .val (.double (4611686018427387904 : UInt64)), .second, .val (.int (0 : Int32)), .val (.int (0 : Int32)), .unset] [(.ref x2), (.ref x4)])) (fun _ kt => XS.aloadN X157.here hx rfl (hb hby at_98) rfl rfl kt) ?_
    refine own_via (T' := T157) (g' := (mkF m 106 #[.val (.int p1), .val (.ref b1), .val (.int (Int32.ofNat 2)), .val (.ref x2), .val (.double (4607182418800017408 : UInt64)), .second, .val (.double (4611686018427387904 : UInt64)), .second, .val (.int (0 : Int32)), .val (.int (0 : Int32)), .unset] [])) (fun _ kt => Jvm.RoadKit.acmp (g := (mkF m 99 #[.val (.int p1), .val (.ref b1), .val (.int (Int32.ofNat 2)), .val (.ref x2), .val (.double (4607182418800017408 : UInt64)), .second, .val (.double (4611686018427387904 : UInt64)), .second, .val (.int (0 : Int32)), .val (.int (0 : Int32)), .unset] [(.ref x2), (.ref x4)])) X157 hx rfl rfl rfl (pc0 := 99) (pc' := 106) (same := false) rfl (hb hby at_99) rfl (decide_eq_false fun q => ne4_2 (Value.ref.inj q)) (by decide) (by decide) kt) ?_
    refine own_via (T' := T157) (g' := (mkF m 107 #[.val (.int p1), .val (.ref b1), .val (.int (Int32.ofNat 2)), .val (.ref x2), .val (.double (4607182418800017408 : UInt64)), .second, .val (.double (4611686018427387904 : UInt64)), .second, .val (.int (0 : Int32)), .val (.int (0 : Int32)), .unset] [(.int (0 : Int32))])) (fun _ kt => XS.iconst X157.here hx rfl (hb hby at_106) kt) ?_
    refine own_via (T' := T157) (g' := (mkF m 109 #[.val (.int p1), .val (.ref b1), .val (.int (Int32.ofNat 2)), .val (.ref x2), .val (.double (4607182418800017408 : UInt64)), .second, .val (.double (4611686018427387904 : UInt64)), .second, .val (.int (0 : Int32)), .val (.int (0 : Int32)), .val (.int (0 : Int32))] [])) (fun _ kt => XS.istore X157.here hx rfl (hb hby at_107) rfl (l' := #[.val (.int p1), .val (.ref b1), .val (.int (Int32.ofNat 2)), .val (.ref x2), .val (.double (4607182418800017408 : UInt64)), .second, .val (.double (4611686018427387904 : UInt64)), .second, .val (.int (0 : Int32)), .val (.int (0 : Int32)), .val (.int (0 : Int32))]) rfl kt) ?_
    refine own_via (T' := T157) (g' := (mkF m 111 #[.val (.int p1), .val (.ref b1), .val (.int (Int32.ofNat 2)), .val (.ref x2), .val (.double (4607182418800017408 : UInt64)), .second, .val (.double (4611686018427387904 : UInt64)), .second, .val (.int (0 : Int32)), .val (.int (0 : Int32)), .val (.int (0 : Int32))] [(.int (0 : Int32))])) (fun _ kt => XS.iload X157.here hx rfl (hb hby at_109) rfl kt) ?_
    refine own_via (T' := T157) (g' := (mkF m 113 #[.val (.int p1), .val (.ref b1), .val (.int (Int32.ofNat 2)), .val (.ref x2), .val (.double (4607182418800017408 : UInt64)), .second, .val (.double (4611686018427387904 : UInt64)), .second, .val (.int (0 : Int32)), .val (.int (0 : Int32)), .val (.int (0 : Int32))] [(.int (0 : Int32)), (.int (0 : Int32))])) (fun _ kt => XS.iload X157.here hx rfl (hb hby at_111) rfl kt) ?_
    refine own_via (T' := T157) (g' := (mkF m 116 #[.val (.int p1), .val (.ref b1), .val (.int (Int32.ofNat 2)), .val (.ref x2), .val (.double (4607182418800017408 : UInt64)), .second, .val (.double (4611686018427387904 : UInt64)), .second, .val (.int (0 : Int32)), .val (.int (0 : Int32)), .val (.int (0 : Int32))] [])) (fun _ kt => XS.icmpNo X157.here hx rfl (hb hby at_113) rfl (teq (by decide : ((0 : Int32) = (0 : Int32)))).2 kt) ?_
    refine own_via (T' := T157) (g' := (mkF m 118 #[.val (.int p1), .val (.ref b1), .val (.int (Int32.ofNat 2)), .val (.ref x2), .val (.double (4607182418800017408 : UInt64)), .second, .val (.double (4611686018427387904 : UInt64)), .second, .val (.int (0 : Int32)), .val (.int (0 : Int32)), .val (.int (0 : Int32))] [(.int (0 : Int32))])) (fun _ kt => XS.iload X157.here hx rfl (hb hby at_116) rfl kt) ?_
    refine own_via (T' := T157) (g' := (mkF m 120 #[.val (.int p1), .val (.ref b1), .val (.int (Int32.ofNat 2)), .val (.ref x2), .val (.double (4607182418800017408 : UInt64)), .second, .val (.double (4611686018427387904 : UInt64)), .second, .val (.int (0 : Int32)), .val (.int (0 : Int32)), .val (.int (0 : Int32))] [(.int (0 : Int32)), (.int (0 : Int32))])) (fun _ kt => XS.iload X157.here hx rfl (hb hby at_118) rfl kt) ?_
    refine own_via (T' := T157) (g' := (mkF m 123 #[.val (.int p1), .val (.ref b1), .val (.int (Int32.ofNat 2)), .val (.ref x2), .val (.double (4607182418800017408 : UInt64)), .second, .val (.double (4611686018427387904 : UInt64)), .second, .val (.int (0 : Int32)), .val (.int (0 : Int32)), .val (.int (0 : Int32))] [])) (fun _ kt => XS.icmpNo X157.here hx rfl (hb hby at_120) rfl (teq (by decide : ((0 : Int32) = (0 : Int32)))).2 kt) ?_
    refine own_via (T' := T157) (g' := (mkF m 124 #[.val (.int p1), .val (.ref b1), .val (.int (Int32.ofNat 2)), .val (.ref x2), .val (.double (4607182418800017408 : UInt64)), .second, .val (.double (4611686018427387904 : UInt64)), .second, .val (.int (0 : Int32)), .val (.int (0 : Int32)), .val (.int (0 : Int32))] [(.int (1 : Int32))])) (fun _ kt => XS.iconst X157.here hx rfl (hb hby at_123) kt) ?_
    refine own_via (T' := T157) (g' := (mkF m 128 #[.val (.int p1), .val (.ref b1), .val (.int (Int32.ofNat 2)), .val (.ref x2), .val (.double (4607182418800017408 : UInt64)), .second, .val (.double (4611686018427387904 : UInt64)), .second, .val (.int (0 : Int32)), .val (.int (0 : Int32)), .val (.int (0 : Int32))] [(.int (1 : Int32))])) (fun _ kt => XS.goto X157.here hx rfl (pc0 := 124) (pc' := 128) rfl (hb hby at_124) (by decide) (by decide) kt) ?_
    exact own_retZ X157 hx hret hlk (hb hby at_128) (by decide) ⟨rfl, N126⟩ (by decide) (by decide)
  · refine own_via (T' := T126) (g' := (mkF m 50 #[.val (.int p1), .val (.ref b1), .val (.int (Int32.ofNat 3)), .unset, .unset, .unset, .unset, .unset, .unset, .unset, .unset] [])) (fun _ kt => XS.istoreN X126.here hx rfl (hb hby at_49) rfl (l' := #[.val (.int p1), .val (.ref b1), .val (.int (Int32.ofNat 3)), .unset, .unset, .unset, .unset, .unset, .unset, .unset, .unset]) rfl kt) ?_
    refine own_via (T' := T126) (g' := (mkF m 51 #[.val (.int p1), .val (.ref b1), .val (.int (Int32.ofNat 3)), .unset, .unset, .unset, .unset, .unset, .unset, .unset, .unset] [(.ref b1)])) (fun _ kt => XS.aloadN X126.here hx rfl (hb hby at_50) rfl rfl kt) ?_
    refine own_via (T' := T126) (g' := (mkF m 52 #[.val (.int p1), .val (.ref b1), .val (.int (Int32.ofNat 3)), .unset, .unset, .unset, .unset, .unset, .unset, .unset, .unset] [(.int (Int32.ofNat 3)), (.ref b1)])) (fun _ kt => XS.iloadN X126.here hx rfl (hb hby at_51) rfl kt) ?_
    refine own_via (T' := T126) (g' := (mkF m 53 #[.val (.int p1), .val (.ref b1), .val (.int (Int32.ofNat 3)), .unset, .unset, .unset, .unset, .unset, .unset, .unset, .unset] [(.ref x3)])) (fun _ kt => own_aaload X126 hx hZ e126 A126 rfl (j := (Int32.ofNat 3)) (i := 3) rfl (by decide) (g := (mkF m 52 #[.val (.int p1), .val (.ref b1), .val (.int (Int32.ofNat 3)), .unset, .unset, .unset, .unset, .unset, .unset, .unset, .unset] [(.int (Int32.ofNat 3)), (.ref b1)])) rfl rfl (hb hby at_52) _ kt) ?_
    refine own_via (T' := T126) (g' := (mkF m 54 #[.val (.int p1), .val (.ref b1), .val (.int (Int32.ofNat 3)), .val (.ref x3), .unset, .unset, .unset, .unset, .unset, .unset, .unset] [])) (fun _ kt => XS.astoreN X126.here hx rfl (hb hby at_53) rfl rfl (l' := #[.val (.int p1), .val (.ref b1), .val (.int (Int32.ofNat 3)), .val (.ref x3), .unset, .unset, .unset, .unset, .unset, .unset, .unset]) rfl kt) ?_
    refine own_via (T' := T126) (g' := (mkF m 55 #[.val (.int p1), .val (.ref b1), .val (.int (Int32.ofNat 3)), .val (.ref x3), .unset, .unset, .unset, .unset, .unset, .unset, .unset] [(.double (4607182418800017408 : UInt64))])) (fun _ kt => XS.dconst1 X126.here hx rfl (hb hby at_54) rfl kt) ?_
    refine own_via (T' := T126) (g' := (mkF m 57 #[.val (.int p1), .val (.ref b1), .val (.int (Int32.ofNat 3)), .val (.ref x3), .val (.double (4607182418800017408 : UInt64)), .second, .unset, .unset, .unset, .unset, .unset] [])) (fun _ kt => XS.dstore X126.here hx rfl (hb hby at_55) rfl (l' := #[.val (.int p1), .val (.ref b1), .val (.int (Int32.ofNat 3)), .val (.ref x3), .val (.double (4607182418800017408 : UInt64)), .second, .unset, .unset, .unset, .unset, .unset]) rfl kt) ?_
    refine own_via (T' := T126) (g' := (mkF m 60 #[.val (.int p1), .val (.ref b1), .val (.int (Int32.ofNat 3)), .val (.ref x3), .val (.double (4607182418800017408 : UInt64)), .second, .unset, .unset, .unset, .unset, .unset] [(.double (4611686018427387904 : UInt64))])) (fun _ kt => X126.ldc2DoubleC hx hown (mvT hZ (hw _ (List.mem_of_getElem? (i := 17) rfl))) (g := (mkF m 57 #[.val (.int p1), .val (.ref b1), .val (.int (Int32.ofNat 3)), .val (.ref x3), .val (.double (4607182418800017408 : UInt64)), .second, .unset, .unset, .unset, .unset, .unset] [])) rfl (hb hby at_57) _ kt) ?_
    refine own_via (T' := T126) (g' := (mkF m 62 #[.val (.int p1), .val (.ref b1), .val (.int (Int32.ofNat 3)), .val (.ref x3), .val (.double (4607182418800017408 : UInt64)), .second, .val (.double (4611686018427387904 : UInt64)), .second, .unset, .unset, .unset] [])) (fun _ kt => XS.dstore X126.here hx rfl (hb hby at_60) rfl (l' := #[.val (.int p1), .val (.ref b1), .val (.int (Int32.ofNat 3)), .val (.ref x3), .val (.double (4607182418800017408 : UInt64)), .second, .val (.double (4611686018427387904 : UInt64)), .second, .unset, .unset, .unset]) rfl kt) ?_
    refine own_via (T' := T126) (g' := (mkF m 63 #[.val (.int p1), .val (.ref b1), .val (.int (Int32.ofNat 3)), .val (.ref x3), .val (.double (4607182418800017408 : UInt64)), .second, .val (.double (4611686018427387904 : UInt64)), .second, .unset, .unset, .unset] [(.ref x3)])) (fun _ kt => XS.aloadN X126.here hx rfl (hb hby at_62) rfl rfl kt) ?_
    obtain ⟨v158, T158, L158, X158, hQ158, st158⟩ := own_callV X126 hx hZ (y := (⟨"com/example/stylewright/stylewright/xpath/Comparison$Operator", "isEquality", "()Z"⟩ : MethodName)) (z := (⟨"com/example/stylewright/stylewright/xpath/Comparison$Operator", "isEquality", "()Z"⟩ : MethodName)) hown (hw _ (List.mem_of_getElem? (i := 18) rfl)) (hw _ (List.mem_of_getElem? (i := 19) rfl)) (notFace_of_selects (args := #[]) (mvT hZ (hw _ (List.mem_of_getElem? (i := 21) rfl)))) (hw _ (List.mem_of_getElem? (i := 21) rfl)) (hw _ (List.mem_of_getElem? (i := 20) rfl)) (hw _ (List.mem_of_getElem? (i := 3) rfl)) (hw _ (List.mem_of_getElem? (i := 22) rfl)) (by decide) (b := x3) (W := 0) (argsL := []) (rest := []) (rm1_2 l Z a0 hw [] x3 x0 x1 h126 f127 f130 ne3_0 ne3_1) (by decide) (by decide) (by decide) (by decide) e126 f137 (g := (mkF m 63 #[.val (.int p1), .val (.ref b1), .val (.int (Int32.ofNat 3)), .val (.ref x3), .val (.double (4607182418800017408 : UInt64)), .second, .val (.double (4611686018427387904 : UInt64)), .second, .unset, .unset, .unset] [(.ref x3)])) rfl (by rw [hml]; rfl) (lenOf pd_1 rfl) rfl (by show 2 * 0 + _ ≤ _; exact Nat.le_of_eq rfl) (hb hby at_63)
    obtain ⟨rfl, hL158, e158⟩ := hQ158
    replace X158 := own_pure (v := none) (r := none) X158 rfl rfl hL158
    refine own_via (T' := T158) (g' := (mkF m 66 #[.val (.int p1), .val (.ref b1), .val (.int (Int32.ofNat 3)), .val (.ref x3), .val (.double (4607182418800017408 : UInt64)), .second, .val (.double (4611686018427387904 : UInt64)), .second, .unset, .unset, .unset] [(.int (0 : Int32))])) (fun _ kt => st158 _ kt) ?_
    refine own_via (T' := T158) (g' := (mkF m 68 #[.val (.int p1), .val (.ref b1), .val (.int (Int32.ofNat 3)), .val (.ref x3), .val (.double (4607182418800017408 : UInt64)), .second, .val (.double (4611686018427387904 : UInt64)), .second, .val (.int (0 : Int32)), .unset, .unset] [])) (fun _ kt => XS.istore X158.here hx rfl (hb hby at_66) rfl (l' := #[.val (.int p1), .val (.ref b1), .val (.int (Int32.ofNat 3)), .val (.ref x3), .val (.double (4607182418800017408 : UInt64)), .second, .val (.double (4611686018427387904 : UInt64)), .second, .val (.int (0 : Int32)), .unset, .unset]) rfl kt) ?_
    refine own_via (T' := T158) (g' := (mkF m 69 #[.val (.int p1), .val (.ref b1), .val (.int (Int32.ofNat 3)), .val (.ref x3), .val (.double (4607182418800017408 : UInt64)), .second, .val (.double (4611686018427387904 : UInt64)), .second, .val (.int (0 : Int32)), .unset, .unset] [(.ref x3)])) (fun _ kt => XS.aloadN X158.here hx rfl (hb hby at_68) rfl rfl kt) ?_
    refine own_via (T' := T158) (g' := (mkF m 71 #[.val (.int p1), .val (.ref b1), .val (.int (Int32.ofNat 3)), .val (.ref x3), .val (.double (4607182418800017408 : UInt64)), .second, .val (.double (4611686018427387904 : UInt64)), .second, .val (.int (0 : Int32)), .unset, .unset] [(.double (4607182418800017408 : UInt64)), (.ref x3)])) (fun _ kt => XS.dload X158.here hx rfl (hb hby at_69) rfl kt) ?_
    refine own_via (T' := T158) (g' := (mkF m 73 #[.val (.int p1), .val (.ref b1), .val (.int (Int32.ofNat 3)), .val (.ref x3), .val (.double (4607182418800017408 : UInt64)), .second, .val (.double (4611686018427387904 : UInt64)), .second, .val (.int (0 : Int32)), .unset, .unset] [(.double (4611686018427387904 : UInt64)), (.double (4607182418800017408 : UInt64)), (.ref x3)])) (fun _ kt => XS.dload X158.here hx rfl (hb hby at_71) rfl kt) ?_
    obtain ⟨v159, T159, L159, X159, hQ159, st159⟩ := own_callV X158 hx hZ (y := (⟨"com/example/stylewright/stylewright/xpath/Comparison$Operator", "test", "(DD)Z"⟩ : MethodName)) (z := (⟨"com/example/stylewright/stylewright/xpath/Comparison$Operator", "test", "(DD)Z"⟩ : MethodName)) hown (hw _ (List.mem_of_getElem? (i := 24) rfl)) (hw _ (List.mem_of_getElem? (i := 25) rfl)) (notFace_of_selects (args := #[]) (mvT hZ (hw _ (List.mem_of_getElem? (i := 27) rfl)))) (hw _ (List.mem_of_getElem? (i := 27) rfl)) (hw _ (List.mem_of_getElem? (i := 26) rfl)) (hw _ (List.mem_of_getElem? (i := 3) rfl)) (hw _ (List.mem_of_getElem? (i := 28) rfl)) (by decide) (b := x3) (W := 0) (argsL := [(.double (4607182418800017408 : UInt64)), (.double (4611686018427387904 : UInt64))]) (rest := []) (rm2_3_lt l Z a0 hw [] x3 (4607182418800017408 : UInt64) (4611686018427387904 : UInt64) h126 own_c12l own_c12g f137 f138) (by decide) (by decide) (by decide) (by decide) e158 f137 (g := (mkF m 73 #[.val (.int p1), .val (.ref b1), .val (.int (Int32.ofNat 3)), .val (.ref x3), .val (.double (4607182418800017408 : UInt64)), .second, .val (.double (4611686018427387904 : UInt64)), .second, .val (.int (0 : Int32)), .unset, .unset] [(.double (4611686018427387904 : UInt64)), (.double (4607182418800017408 : UInt64)), (.ref x3)])) rfl (by rw [hml]; rfl) (lenOf pd_2 rfl) rfl (by show 2 * 0 + _ ≤ _; exact Nat.le_of_eq rfl) (hb hby at_73)
    obtain ⟨rfl, hL159, e159⟩ := hQ159
    replace X159 := own_pure (v := none) (r := none) X159 rfl rfl hL159
    refine own_via (T' := T159) (g' := (mkF m 76 #[.val (.int p1), .val (.ref b1), .val (.int (Int32.ofNat 3)), .val (.ref x3), .val (.double (4607182418800017408 : UInt64)), .second, .val (.double (4611686018427387904 : UInt64)), .second, .val (.int (0 : Int32)), .unset, .unset] [(.int (1 : Int32))])) (fun _ kt => st159 _ kt) ?_
    refine own_via (T' := T159) (g' := (mkF m 77 #[.val (.int p1), .val (.ref b1), .val (.int (Int32.ofNat 3)), .val (.ref x3), .val (.double (4607182418800017408 : UInt64)), .second, .val (.double (4611686018427387904 : UInt64)), .second, .val (.int (0 : Int32)), .unset, .unset] [(.ref x3), (.int (1 : Int32))])) (fun _ kt => XS.aloadN X159.here hx rfl (hb hby at_76) rfl rfl kt) ?_
    refine own_via (T' := T159) (g' := (mkF m 79 #[.val (.int p1), .val (.ref b1), .val (.int (Int32.ofNat 3)), .val (.ref x3), .val (.double (4607182418800017408 : UInt64)), .second, .val (.double (4611686018427387904 : UInt64)), .second, .val (.int (0 : Int32)), .unset, .unset] [(.double (4611686018427387904 : UInt64)), (.ref x3), (.int (1 : Int32))])) (fun _ kt => XS.dload X159.here hx rfl (hb hby at_77) rfl kt) ?_
    refine own_via (T' := T159) (g' := (mkF m 81 #[.val (.int p1), .val (.ref b1), .val (.int (Int32.ofNat 3)), .val (.ref x3), .val (.double (4607182418800017408 : UInt64)), .second, .val (.double (4611686018427387904 : UInt64)), .second, .val (.int (0 : Int32)), .unset, .unset] [(.double (4607182418800017408 : UInt64)), (.double (4611686018427387904 : UInt64)), (.ref x3), (.int (1 : Int32))])) (fun _ kt => XS.dload X159.here hx rfl (hb hby at_79) rfl kt) ?_
    obtain ⟨v160, T160, L160, X160, hQ160, st160⟩ := own_callV X159 hx hZ (y := (⟨"com/example/stylewright/stylewright/xpath/Comparison$Operator", "test", "(DD)Z"⟩ : MethodName)) (z := (⟨"com/example/stylewright/stylewright/xpath/Comparison$Operator", "test", "(DD)Z"⟩ : MethodName)) hown (hw _ (List.mem_of_getElem? (i := 24) rfl)) (hw _ (List.mem_of_getElem? (i := 25) rfl)) (notFace_of_selects (args := #[]) (mvT hZ (hw _ (List.mem_of_getElem? (i := 27) rfl)))) (hw _ (List.mem_of_getElem? (i := 27) rfl)) (hw _ (List.mem_of_getElem? (i := 26) rfl)) (hw _ (List.mem_of_getElem? (i := 3) rfl)) (hw _ (List.mem_of_getElem? (i := 28) rfl)) (by decide) (b := x3) (W := 1) (argsL := [(.double (4611686018427387904 : UInt64)), (.double (4607182418800017408 : UInt64))]) (rest := [(.int (1 : Int32))]) (rm2_3_gt l Z a0 hw [] x3 (4611686018427387904 : UInt64) (4607182418800017408 : UInt64) h126 own_c21l own_c21g f137 f138) (by decide) (by decide) (by decide) (by decide) e159 f137 (g := (mkF m 81 #[.val (.int p1), .val (.ref b1), .val (.int (Int32.ofNat 3)), .val (.ref x3), .val (.double (4607182418800017408 : UInt64)), .second, .val (.double (4611686018427387904 : UInt64)), .second, .val (.int (0 : Int32)), .unset, .unset] [(.double (4607182418800017408 : UInt64)), (.double (4611686018427387904 : UInt64)), (.ref x3), (.int (1 : Int32))])) rfl (by rw [hml]; rfl) (lenOf pd_2 rfl) rfl (by show 2 * 0 + _ ≤ _; exact Nat.le_of_eq rfl) (hb hby at_81)
    obtain ⟨rfl, hL160, e160⟩ := hQ160
    replace X160 := own_pure (v := none) (r := none) X160 rfl rfl hL160
    refine own_via (T' := T160) (g' := (mkF m 84 #[.val (.int p1), .val (.ref b1), .val (.int (Int32.ofNat 3)), .val (.ref x3), .val (.double (4607182418800017408 : UInt64)), .second, .val (.double (4611686018427387904 : UInt64)), .second, .val (.int (0 : Int32)), .unset, .unset] [(.int (0 : Int32)), (.int (1 : Int32))])) (fun _ kt => st160 _ kt) ?_
    refine own_via (T' := T160) (g' := (mkF m 91 #[.val (.int p1), .val (.ref b1), .val (.int (Int32.ofNat 3)), .val (.ref x3), .val (.double (4607182418800017408 : UInt64)), .second, .val (.double (4611686018427387904 : UInt64)), .second, .val (.int (0 : Int32)), .unset, .unset] [])) (fun _ kt => XS.icmpYes X160.here hx rfl (pc0 := 84) (pc' := 91) rfl (hb hby at_84) rfl (feq (by decide : ¬ ((1 : Int32) = (0 : Int32)))).2 (by decide) (by decide) kt) ?_
    refine own_via (T' := T160) (g' := (mkF m 92 #[.val (.int p1), .val (.ref b1), .val (.int (Int32.ofNat 3)), .val (.ref x3), .val (.double (4607182418800017408 : UInt64)), .second, .val (.double (4611686018427387904 : UInt64)), .second, .val (.int (0 : Int32)), .unset, .unset] [(.int (0 : Int32))])) (fun _ kt => XS.iconst X160.here hx rfl (hb hby at_91) kt) ?_
    refine own_via (T' := T160) (g' := (mkF m 94 #[.val (.int p1), .val (.ref b1), .val (.int (Int32.ofNat 3)), .val (.ref x3), .val (.double (4607182418800017408 : UInt64)), .second, .val (.double (4611686018427387904 : UInt64)), .second, .val (.int (0 : Int32)), .val (.int (0 : Int32)), .unset] [])) (fun _ kt => XS.istore X160.here hx rfl (hb hby at_92) rfl (l' := #[.val (.int p1), .val (.ref b1), .val (.int (Int32.ofNat 3)), .val (.ref x3), .val (.double (4607182418800017408 : UInt64)), .second, .val (.double (4611686018427387904 : UInt64)), .second, .val (.int (0 : Int32)), .val (.int (0 : Int32)), .unset]) rfl kt) ?_
    refine own_via (T' := T160) (g' := (mkF m 95 #[.val (.int p1), .val (.ref b1), .val (.int (Int32.ofNat 3)), .val (.ref x3), .val (.double (4607182418800017408 : UInt64)), .second, .val (.double (4611686018427387904 : UInt64)), .second, .val (.int (0 : Int32)), .val (.int (0 : Int32)), .unset] [(.ref x3)])) (fun _ kt => XS.aloadN X160.here hx rfl (hb hby at_94) rfl rfl kt) ?_
    obtain ⟨v161, T161, L161, X161, hQ161, st161⟩ := own_callV X160 hx hZ (y := (⟨"com/example/stylewright/stylewright/xpath/Comparison$Operator", "swapped", "()Lcom/example/stylewright/stylewright/xpath/Comparison$Operator;"⟩ : MethodName)) (z := (⟨"com/example/stylewright/stylewright/xpath/Comparison$Operator", "swapped", "()Lcom/example/stylewright/stylewright/xpath/Comparison$Operator;"⟩ : MethodName)) hown (hw _ (List.mem_of_getElem? (i := 38) rfl)) (hw _ (List.mem_of_getElem? (i := 39) rfl)) (notFace_of_selects (args := #[]) (mvT hZ (hw _ (List.mem_of_getElem? (i := 41) rfl)))) (hw _ (List.mem_of_getElem? (i := 41) rfl)) (hw _ (List.mem_of_getElem? (i := 40) rfl)) (hw _ (List.mem_of_getElem? (i := 3) rfl)) (hw _ (List.mem_of_getElem? (i := 42) rfl)) (by decide) (b := x3) (W := 0) (argsL := []) (rest := []) (rm4_3 l Z a0 hw [] x3 x5 h126 f142 f137 f138) (by decide) (by decide) (by decide) (by decide) e160 f137 (g := (mkF m 95 #[.val (.int p1), .val (.ref b1), .val (.int (Int32.ofNat 3)), .val (.ref x3), .val (.double (4607182418800017408 : UInt64)), .second, .val (.double (4611686018427387904 : UInt64)), .second, .val (.int (0 : Int32)), .val (.int (0 : Int32)), .unset] [(.ref x3)])) rfl (by rw [hml]; rfl) (lenOf pd_3 rfl) rfl (by show 2 * 0 + _ ≤ _; exact Nat.le_of_eq rfl) (hb hby at_95)
    obtain ⟨rfl, hL161, e161⟩ := hQ161
    replace X161 := own_pure (v := none) (r := none) X161 rfl rfl hL161
    refine own_via (T' := T161) (g' := (mkF m 98 #[.val (.int p1), .val (.ref b1), .val (.int (Int32.ofNat 3)), .val (.ref x3), .val (.double (4607182418800017408 : UInt64)), .second, .val (.double (4611686018427387904 : UInt64)), .second, .val (.int (0 : Int32)), .val (.int (0 : Int32)), .unset] [(.ref x5)])) (fun _ kt => st161 _ kt) ?_
    refine own_via (T' := T161) (g' := (mkF m 99 #[.val (.int p1), .val (.ref b1), .val (.int (Int32.ofNat 3)), .val (.ref x3), .val (.double (4607182418800017408 : UInt64)), .second, .val (.double (4611686018427387904 : UInt64)), .second, .val (.int (0 : Int32)), .val (.int (0 : Int32)), .unset] [(.ref x3), (.ref x5)])) (fun _ kt => XS.aloadN X161.here hx rfl (hb hby at_98) rfl rfl kt) ?_
    refine own_via (T' := T161) (g' := (mkF m 106 #[.val (.int p1), .val (.ref b1), .val (.int (Int32.ofNat 3)), .val (.ref x3), .val (.double (4607182418800017408 : UInt64)), .second, .val (.double (4611686018427387904 : UInt64)), .second, .val (.int (0 : Int32)), .val (.int (0 : Int32)), .unset] [])) (fun _ kt => Jvm.RoadKit.acmp (g := (mkF m 99 #[.val (.int p1), .val (.ref b1), .val (.int (Int32.ofNat 3)), .val (.ref x3), .val (.double (4607182418800017408 : UInt64)), .second, .val (.double (4611686018427387904 : UInt64)), .second, .val (.int (0 : Int32)), .val (.int (0 : Int32)), .unset] [(.ref x3), (.ref x5)])) X161 hx rfl rfl rfl (pc0 := 99) (pc' := 106) (same := false) rfl (hb hby at_99) rfl (decide_eq_false fun q => ne5_3 (Value.ref.inj q)) (by decide) (by decide) kt) ?_
    refine own_via (T' := T161) (g' := (mkF m 107 #[.val (.int p1), .val (.ref b1), .val (.int (Int32.ofNat 3)), .val (.ref x3), .val (.double (4607182418800017408 : UInt64)), .second, .val (.double (4611686018427387904 : UInt64)), .second, .val (.int (0 : Int32)), .val (.int (0 : Int32)), .unset] [(.int (0 : Int32))])) (fun _ kt => XS.iconst X161.here hx rfl (hb hby at_106) kt) ?_
    refine own_via (T' := T161) (g' := (mkF m 109 #[.val (.int p1), .val (.ref b1), .val (.int (Int32.ofNat 3)), .val (.ref x3), .val (.double (4607182418800017408 : UInt64)), .second, .val (.double (4611686018427387904 : UInt64)), .second, .val (.int (0 : Int32)), .val (.int (0 : Int32)), .val (.int (0 : Int32))] [])) (fun _ kt => XS.istore X161.here hx rfl (hb hby at_107) rfl (l' := #[.val (.int p1), .val (.ref b1), .val (.int (Int32.ofNat 3)), .val (.ref x3), .val (.double (4607182418800017408 : UInt64)), .second, .val (.double (4611686018427387904 : UInt64)), .second, .val (.int (0 : Int32)), .val (.int (0 : Int32)), .val (.int (0 : Int32))]) rfl kt) ?_
    refine own_via (T' := T161) (g' := (mkF m 111 #[.val (.int p1), .val (.ref b1), .val (.int (Int32.ofNat 3)), .val (.ref x3), .val (.double (4607182418800017408 : UInt64)), .second, .val (.double (4611686018427387904 : UInt64)), .second, .val (.int (0 : Int32)), .val (.int (0 : Int32)), .val (.int (0 : Int32))] [(.int (0 : Int32))])) (fun _ kt => XS.iload X161.here hx rfl (hb hby at_109) rfl kt) ?_
    refine own_via (T' := T161) (g' := (mkF m 113 #[.val (.int p1), .val (.ref b1), .val (.int (Int32.ofNat 3)), .val (.ref x3), .val (.double (4607182418800017408 : UInt64)), .second, .val (.double (4611686018427387904 : UInt64)), .second, .val (.int (0 : Int32)), .val (.int (0 : Int32)), .val (.int (0 : Int32))] [(.int (0 : Int32)), (.int (0 : Int32))])) (fun _ kt => XS.iload X161.here hx rfl (hb hby at_111) rfl kt) ?_
    refine own_via (T' := T161) (g' := (mkF m 116 #[.val (.int p1), .val (.ref b1), .val (.int (Int32.ofNat 3)), .val (.ref x3), .val (.double (4607182418800017408 : UInt64)), .second, .val (.double (4611686018427387904 : UInt64)), .second, .val (.int (0 : Int32)), .val (.int (0 : Int32)), .val (.int (0 : Int32))] [])) (fun _ kt => XS.icmpNo X161.here hx rfl (hb hby at_113) rfl (teq (by decide : ((0 : Int32) = (0 : Int32)))).2 kt) ?_
    refine own_via (T' := T161) (g' := (mkF m 118 #[.val (.int p1), .val (.ref b1), .val (.int (Int32.ofNat 3)), .val (.ref x3), .val (.double (4607182418800017408 : UInt64)), .second, .val (.double (4611686018427387904 : UInt64)), .second, .val (.int (0 : Int32)), .val (.int (0 : Int32)), .val (.int (0 : Int32))] [(.int (0 : Int32))])) (fun _ kt => XS.iload X161.here hx rfl (hb hby at_116) rfl kt) ?_
    refine own_via (T' := T161) (g' := (mkF m 120 #[.val (.int p1), .val (.ref b1), .val (.int (Int32.ofNat 3)), .val (.ref x3), .val (.double (4607182418800017408 : UInt64)), .second, .val (.double (4611686018427387904 : UInt64)), .second, .val (.int (0 : Int32)), .val (.int (0 : Int32)), .val (.int (0 : Int32))] [(.int (0 : Int32)), (.int (0 : Int32))])) (fun _ kt => XS.iload X161.here hx rfl (hb hby at_118) rfl kt) ?_
    refine own_via (T' := T161) (g' := (mkF m 123 #[.val (.int p1), .val (.ref b1), .val (.int (Int32.ofNat 3)), .val (.ref x3), .val (.double (4607182418800017408 : UInt64)), .second, .val (.double (4611686018427387904 : UInt64)), .second, .val (.int (0 : Int32)), .val (.int (0 : Int32)), .val (.int (0 : Int32))] [])) (fun _ kt => XS.icmpNo X161.here hx rfl (hb hby at_120) rfl (teq (by decide : ((0 : Int32) = (0 : Int32)))).2 kt) ?_
    refine own_via (T' := T161) (g' := (mkF m 124 #[.val (.int p1), .val (.ref b1), .val (.int (Int32.ofNat 3)), .val (.ref x3), .val (.double (4607182418800017408 : UInt64)), .second, .val (.double (4611686018427387904 : UInt64)), .second, .val (.int (0 : Int32)), .val (.int (0 : Int32)), .val (.int (0 : Int32))] [(.int (1 : Int32))])) (fun _ kt => XS.iconst X161.here hx rfl (hb hby at_123) kt) ?_
    refine own_via (T' := T161) (g' := (mkF m 128 #[.val (.int p1), .val (.ref b1), .val (.int (Int32.ofNat 3)), .val (.ref x3), .val (.double (4607182418800017408 : UInt64)), .second, .val (.double (4611686018427387904 : UInt64)), .second, .val (.int (0 : Int32)), .val (.int (0 : Int32)), .val (.int (0 : Int32))] [(.int (1 : Int32))])) (fun _ kt => XS.goto X161.here hx rfl (pc0 := 124) (pc' := 128) rfl (hb hby at_124) (by decide) (by decide) kt) ?_
    exact own_retZ X161 hx hret hlk (hb hby at_128) (by decide) ⟨rfl, N126⟩ (by decide) (by decide)
  · refine own_via (T' := T126) (g' := (mkF m 50 #[.val (.int p1), .val (.ref b1), .val (.int (Int32.ofNat 4)), .unset, .unset, .unset, .unset, .unset, .unset, .unset, .unset] [])) (fun _ kt => XS.istoreN X126.here hx rfl (hb hby at_49) rfl (l' := #[.val (.int p1), .val (.ref b1), .val (.int (Int32.ofNat 4)), .unset, .unset, .unset, .unset, .unset, .unset, .unset, .unset]) rfl kt) ?_
    refine own_via (T' := T126) (g' := (mkF m 51 #[.val (.int p1), .val (.ref b1), .val (.int (Int32.ofNat 4)), .unset, .unset, .unset, .unset, .unset, .unset, .unset, .unset] [(.ref b1)])) (fun _ kt => XS.aloadN X126.here hx rfl (hb hby at_50) rfl rfl kt) ?_
    refine own_via (T' := T126) (g' := (mkF m 52 #[.val (.int p1), .val (.ref b1), .val (.int (Int32.ofNat 4)), .unset, .unset, .unset, .unset, .unset, .unset, .unset, .unset] [(.int (Int32.ofNat 4)), (.ref b1)])) (fun _ kt => XS.iloadN X126.here hx rfl (hb hby at_51) rfl kt) ?_
    refine own_via (T' := T126) (g' := (mkF m 53 #[.val (.int p1), .val (.ref b1), .val (.int (Int32.ofNat 4)), .unset, .unset, .unset, .unset, .unset, .unset, .unset, .unset] [(.ref x4)])) (fun _ kt => own_aaload X126 hx hZ e126 A126 rfl (j := (Int32.ofNat 4)) (i := 4) rfl (by decide) (g := (mkF m 52 #[.val (.int p1), .val (.ref b1), .val (.int (Int32.ofNat 4)), .unset, .unset, .unset, .unset, .unset, .unset, .unset, .unset] [(.int (Int32.ofNat 4)), (.ref b1)])) rfl rfl (hb hby at_52) _ kt) ?_
    refine own_via (T' := T126) (g' := (mkF m 54 #[.val (.int p1), .val (.ref b1), .val (.int (Int32.ofNat 4)), .val (.ref x4), .unset, .unset, .unset, .unset, .unset, .unset, .unset] [])) (fun _ kt => XS.astoreN X126.here hx rfl (hb hby at_53) rfl rfl (l' := #[.val (.int p1), .val (.ref b1), .val (.int (Int32.ofNat 4)), .val (.ref x4), .unset, .unset, .unset, .unset, .unset, .unset, .unset]) rfl kt) ?_
    refine own_via (T' := T126) (g' := (mkF m 55 #[.val (.int p1), .val (.ref b1), .val (.int (Int32.ofNat 4)), .val (.ref x4), .unset, .unset, .unset, .unset, .unset, .unset, .unset] [(.double (4607182418800017408 : UInt64))])) (fun _ kt => XS.dconst1 X126.here hx rfl (hb hby at_54) rfl kt) ?_
    refine own_via (T' := T126) (g' := (mkF m 57 #[.val (.int p1), .val (.ref b1), .val (.int (Int32.ofNat 4)), .val (.ref x4), .val (.double (4607182418800017408 : UInt64)), .second, .unset, .unset, .unset, .unset, .unset] [])) (fun _ kt => XS.dstore X126.here hx rfl (hb hby at_55) rfl (l' := #[.val (.int p1), .val (.ref b1), .val (.int (Int32.ofNat 4)), .val (.ref x4), .val (.double (4607182418800017408 : UInt64)), .second, .unset, .unset, .unset, .unset, .unset]) rfl kt) ?_
    refine own_via (T' := T126) (g' := (mkF m 60 #[.val (.int p1), .val (.ref b1), .val (.int (Int32.ofNat 4)), .val (.ref x4), .val (.double (4607182418800017408 : UInt64)), .second, .unset, .unset, .unset, .unset, .unset] [(.double (4611686018427387904 : UInt64))])) (fun _ kt => X126.ldc2DoubleC hx hown (mvT hZ (hw _ (List.mem_of_getElem? (i := 17) rfl))) (g := (mkF m 57 #[.val (.int p1), .val (.ref b1), .val (.int (Int32.ofNat 4)), .val (.ref x4), .val (.double (4607182418800017408 : UInt64)), .second, .unset, .unset, .unset, .unset, .unset] [])) rfl (hb hby at_57) _ kt) ?_
    refine own_via (T' := T126) (g' := (mkF m 62 #[.val (.int p1), .val (.ref b1), .val (.int (Int32.ofNat 4)), .val (.ref x4), .val (.double (4607182418800017408 : UInt64)), .second, .val (.double (4611686018427387904 : UInt64)), .second, .unset, .unset, .unset] [])) (fun _ kt => XS.dstore X126.here hx rfl (hb hby at_60) rfl (l' := #[.val (.int p1), .val (.ref b1), .val (.int (Int32.ofNat 4)), .val (.ref x4), .val (.double (4607182418800017408 : UInt64)), .second, .val (.double (4611686018427387904 : UInt64)), .second, .unset, .unset, .unset]) rfl kt) ?_
    refine own_via (T' := T126) (g' := (mkF m 63 #[.val (.int p1), .val (.ref b1), .val (.int (Int32.ofNat 4)), .val (.ref x4), .val (.double (4607182418800017408 : UInt64)), .second, .val (.double (4611686018427387904 : UInt64)), .second, .unset, .unset, .unset] [(.ref x4)])) (fun _ kt => XS.aloadN X126.here hx rfl (hb hby at_62) rfl rfl kt) ?_
    obtain ⟨v162, T162, L162, X162, hQ162, st162⟩ := own_callV X126 hx hZ (y := (⟨"com/example/stylewright/stylewright/xpath/Comparison$Operator", "isEquality", "()Z"⟩ : MethodName)) (z := (⟨"com/example/stylewright/stylewright/xpath/Comparison$Operator", "isEquality", "()Z"⟩ : MethodName)) hown (hw _ (List.mem_of_getElem? (i := 18) rfl)) (hw _ (List.mem_of_getElem? (i := 19) rfl)) (notFace_of_selects (args := #[]) (mvT hZ (hw _ (List.mem_of_getElem? (i := 21) rfl)))) (hw _ (List.mem_of_getElem? (i := 21) rfl)) (hw _ (List.mem_of_getElem? (i := 20) rfl)) (hw _ (List.mem_of_getElem? (i := 3) rfl)) (hw _ (List.mem_of_getElem? (i := 22) rfl)) (by decide) (b := x4) (W := 0) (argsL := []) (rest := []) (rm1_2 l Z a0 hw [] x4 x0 x1 h126 f127 f130 ne4_0 ne4_1) (by decide) (by decide) (by decide) (by decide) e126 f140 (g := (mkF m 63 #[.val (.int p1), .val (.ref b1), .val (.int (Int32.ofNat 4)), .val (.ref x4), .val (.double (4607182418800017408 : UInt64)), .second, .val (.double (4611686018427387904 : UInt64)), .second, .unset, .unset, .unset] [(.ref x4)])) rfl (by rw [hml]; rfl) (lenOf pd_1 rfl) rfl (by show 2 * 0 + _ ≤ _; exact Nat.le_of_eq rfl) (hb hby at_63)
    obtain ⟨rfl, hL162, e162⟩ := hQ162
    replace X162 := own_pure (v := none) (r := none) X162 rfl rfl hL162
    refine own_via (T' := T162) (g' := (mkF m 66 #[.val (.int p1), .val (.ref b1), .val (.int (Int32.ofNat 4)), .val (.ref x4), .val (.double (4607182418800017408 : UInt64)), .second, .val (.double (4611686018427387904 : UInt64)), .second, .unset, .unset, .unset] [(.int (0 : Int32))])) (fun _ kt => st162 _ kt) ?_
    refine own_via (T' := T162) (g' := (mkF m 68 #[.val (.int p1), .val (.ref b1), .val (.int (Int32.ofNat 4)), .val (.ref x4), .val (.double (4607182418800017408 : UInt64)), .second, .val (.double (4611686018427387904 : UInt64)), .second, .val (.int (0 : Int32)), .unset, .unset] [])) (fun _ kt => XS.istore X162.here hx rfl (hb hby at_66) rfl (l' := #[.val (.int p1), .val (.ref b1), .val (.int (Int32.ofNat 4)), .val (.ref x4), .val (.double (4607182418800017408 : UInt64)), .second, .val (.double (4611686018427387904 : UInt64)), .second, .val (.int (0 : Int32)), .unset, .unset]) rfl kt) ?_
    refine own_via (T' := T162) (g' := (mkF m 69 #[.val (.int p1), .val (.ref b1), .val (.int (Int32.ofNat 4)), .val (.ref x4), .val (.double (4607182418800017408 : UInt64)), .second, .val (.double (4611686018427387904 : UInt64)), .second, .val (.int (0 : Int32)), .unset, .unset] [(.ref x4)])) (fun _ kt => XS.aloadN X162.here hx rfl (hb hby at_68) rfl rfl kt) ?_
    refine own_via (T' := T162) (g' := (mkF m 71 #[.val (.int p1), .val (.ref b1), .val (.int (Int32.ofNat 4)), .val (.ref x4), .val (.double (4607182418800017408 : UInt64)), .second, .val (.double (4611686018427387904 : UInt64)), .second, .val (.int (0 : Int32)), .unset, .unset] [(.double (4607182418800017408 : UInt64)), (.ref x4)])) (fun _ kt => XS.dload X162.here hx rfl (hb hby at_69) rfl kt) ?_
    refine own_via (T' := T162) (g' := (mkF m 73 #[.val (.int p1), .val (.ref b1), .val (.int (Int32.ofNat 4)), .val (.ref x4), .val (.double (4607182418800017408 : UInt64)), .second, .val (.double (4611686018427387904 : UInt64)), .second, .val (.int (0 : Int32)), .unset, .unset] [(.double (4611686018427387904 : UInt64)), (.double (4607182418800017408 : UInt64)), (.ref x4)])) (fun _ kt => XS.dload X162.here hx rfl (hb hby at_71) rfl kt) ?_
    obtain ⟨v163, T163, L163, X163, hQ163, st163⟩ := own_callV X162 hx hZ (y := (⟨"com/example/stylewright/stylewright/xpath/Comparison$Operator", "test", "(DD)Z"⟩ : MethodName)) (z := (⟨"com/example/stylewright/stylewright/xpath/Comparison$Operator", "test", "(DD)Z"⟩ : MethodName)) hown (hw _ (List.mem_of_getElem? (i := 24) rfl)) (hw _ (List.mem_of_getElem? (i := 25) rfl)) (notFace_of_selects (args := #[]) (mvT hZ (hw _ (List.mem_of_getElem? (i := 27) rfl)))) (hw _ (List.mem_of_getElem? (i := 27) rfl)) (hw _ (List.mem_of_getElem? (i := 26) rfl)) (hw _ (List.mem_of_getElem? (i := 3) rfl)) (hw _ (List.mem_of_getElem? (i := 28) rfl)) (by decide) (b := x4) (W := 0) (argsL := [(.double (4607182418800017408 : UInt64)), (.double (4611686018427387904 : UInt64))]) (rest := []) (rm2_4_lt l Z a0 hw [] x4 (4607182418800017408 : UInt64) (4611686018427387904 : UInt64) h126 own_c12l own_c12g f140 f141) (by decide) (by decide) (by decide) (by decide) e162 f140 (g := (mkF m 73 #[.val (.int p1), .val (.ref b1), .val (.int (Int32.ofNat 4)), .val (.ref x4), .val (.double (4607182418800017408 : UInt64)), .second, .val (.double (4611686018427387904 : UInt64)), .second, .val (.int (0 : Int32)), .unset, .unset] [(.double (4611686018427387904 : UInt64)), (.double (4607182418800017408 : UInt64)), (.ref x4)])) rfl (by rw [hml]; rfl) (lenOf pd_2 rfl) rfl (by show 2 * 0 + _ ≤ _; exact Nat.le_of_eq rfl) (hb hby at_73)
    obtain ⟨rfl, hL163, e163⟩ := hQ163
    replace X163 := own_pure (v := none) (r := none) X163 rfl rfl hL163
    refine own_via (T' := T163) (g' := (mkF m 76 #[.val (.int p1), .val (.ref b1), .val (.int (Int32.ofNat 4)), .val (.ref x4), .val (.double (4607182418800017408 : UInt64)), .second, .val (.double (4611686018427387904 : UInt64)), .second, .val (.int (0 : Int32)), .unset, .unset] [(.int (0 : Int32))])) (fun _ kt => st163 _ kt) ?_
    refine own_via (T' := T163) (g' := (mkF m 77 #[.val (.int p1), .val (.ref b1), .val (.int (Int32.ofNat 4)), .val (.ref x4), .val (.double (4607182418800017408 : UInt64)), .second, .val (.double (4611686018427387904 : UInt64)), .second, .val (.int (0 : Int32)), .unset, .unset] [(.ref x4), (.int (0 : Int32))])) (fun _ kt => XS.aloadN X163.here hx rfl (hb hby at_76) rfl rfl kt) ?_
    refine own_via (T' := T163) (g' := (mkF m 79 #[.val (.int p1), .val (.ref b1), .val (.int (Int32.ofNat 4)), .val (.ref x4), .val (.double (4607182418800017408 : UInt64)), .second, .val (.double (4611686018427387904 : UInt64)), .second, .val (.int (0 : Int32)), .unset, .unset] [(.double (4611686018427387904 : UInt64)), (.ref x4), (.int (0 : Int32))])) (fun _ kt => XS.dload X163.here hx rfl (hb hby at_77) rfl kt) ?_
    refine own_via (T' := T163) (g' := (mkF m 81 #[.val (.int p1), .val (.ref b1), .val (.int (Int32.ofNat 4)), .val (.ref x4), .val (.double (4607182418800017408 : UInt64)), .second, .val (.double (4611686018427387904 : UInt64)), .second, .val (.int (0 : Int32)), .unset, .unset] [(.double (4607182418800017408 : UInt64)), (.double (4611686018427387904 : UInt64)), (.ref x4), (.int (0 : Int32))])) (fun _ kt => XS.dload X163.here hx rfl (hb hby at_79) rfl kt) ?_
    obtain ⟨v164, T164, L164, X164, hQ164, st164⟩ := own_callV X163 hx hZ (y := (⟨"com/example/stylewright/stylewright/xpath/Comparison$Operator", "test", "(DD)Z"⟩ : MethodName)) (z := (⟨"com/example/stylewright/stylewright/xpath/Comparison$Operator", "test", "(DD)Z"⟩ : MethodName)) hown (hw _ (List.mem_of_getElem? (i := 24) rfl)) (hw _ (List.mem_of_getElem? (i := 25) rfl)) (notFace_of_selects (args := #[]) (mvT hZ (hw _ (List.mem_of_getElem? (i := 27) rfl)))) (hw _ (List.mem_of_getElem? (i := 27) rfl)) (hw _ (List.mem_of_getElem? (i := 26) rfl)) (hw _ (List.mem_of_getElem? (i := 3) rfl)) (hw _ (List.mem_of_getElem? (i := 28) rfl)) (by decide) (b := x4) (W := 1) (argsL := [(.double (4611686018427387904 : UInt64)), (.double (4607182418800017408 : UInt64))]) (rest := [(.int (0 : Int32))]) (rm2_4_gt l Z a0 hw [] x4 (4611686018427387904 : UInt64) (4607182418800017408 : UInt64) h126 own_c21l own_c21g f140 f141) (by decide) (by decide) (by decide) (by decide) e163 f140 (g := (mkF m 81 #[.val (.int p1), .val (.ref b1), .val (.int (Int32.ofNat 4)), .val (.ref x4), .val (.double (4607182418800017408 : UInt64)), .second, .val (.double (4611686018427387904 : UInt64)), .second, .val (.int (0 : Int32)), .unset, .unset] [(.double (4607182418800017408 : UInt64)), (.double (4611686018427387904 : UInt64)), (.ref x4), (.int (0 : Int32))])) rfl (by rw [hml]; rfl) (lenOf pd_2 rfl) rfl (by show 2 * 0 + _ ≤ _; exact Nat.le_of_eq rfl) (hb hby at_81)
    obtain ⟨rfl, hL164, e164⟩ := hQ164
    replace X164 := own_pure (v := none) (r := none) X164 rfl rfl hL164
    refine own_via (T' := T164) (g' := (mkF m 84 #[.val (.int p1), .val (.ref b1), .val (.int (Int32.ofNat 4)), .val (.ref x4), .val (.double (4607182418800017408 : UInt64)), .second, .val (.double (4611686018427387904 : UInt64)), .second, .val (.int (0 : Int32)), .unset, .unset] [(.int (1 : Int32)), (.int (0 : Int32))])) (fun _ kt => st164 _ kt) ?_
    refine own_via (T' := T164) (g' := (mkF m 91 #[.val (.int p1), .val (.ref b1), .val (.int (Int32.ofNat 4)), .val (.ref x4), .val (.double (4607182418800017408 : UInt64)), .second, .val (.double (4611686018427387904 : UInt64)), .second, .val (.int (0 : Int32)), .unset, .unset] [])) (fun _ kt => XS.icmpYes X164.here hx rfl (pc0 := 84) (pc' := 91) rfl (hb hby at_84) rfl (feq (by decide : ¬ ((0 : Int32) = (1 : Int32)))).2 (by decide) (by decide) kt) ?_
    refine own_via (T' := T164) (g' := (mkF m 92 #[.val (.int p1), .val (.ref b1), .val (.int (Int32.ofNat 4)), .val (.ref x4), .val (.double (4607182418800017408 : UInt64)), .second, .val (.double (4611686018427387904 : UInt64)), .second, .val (.int (0 : Int32)), .unset, .unset] [(.int (0 : Int32))])) (fun _ kt => XS.iconst X164.here hx rfl (hb hby at_91) kt) ?_
    refine own_via (T' := T164) (g' := (mkF m 94 #[.val (.int p1), .val (.ref b1), .val (.int (Int32.ofNat 4)), .val (.ref x4), .val (.double (4607182418800017408 : UInt64)), .second, .val (.double (4611686018427387904 : UInt64)), .second, .val (.int (0 : Int32)), .val (.int (0 : Int32)), .unset] [])) (fun _ kt => XS.istore X164.here hx rfl (hb hby at_92) rfl (l' := #[.val (.int p1), .val (.ref b1), .val (.int (Int32.ofNat 4)), .val (.ref x4), .val (.double (4607182418800017408 : UInt64)), .second, .val (.double (4611686018427387904 : UInt64)), .second, .val (.int (0 : Int32)), .val (.int (0 : Int32)), .unset]) rfl kt) ?_
    refine own_via (T' := T164) (g' := (mkF m 95 #[.val (.int p1), .val (.ref b1), .val (.int (Int32.ofNat 4)), .val (.ref x4), .val (.double (4607182418800017408 : UInt64)), .second, .val (.double (4611686018427387904 : UInt64)), .second, .val (.int (0 : Int32)), .val (.int (0 : Int32)), .unset] [(.ref x4)])) (fun _ kt => XS.aloadN X164.here hx rfl (hb hby at_94) rfl rfl kt) ?_
    obtain ⟨v165, T165, L165, X165, hQ165, st165⟩ := own_callV X164 hx hZ (y := (⟨"com/example/stylewright/stylewright/xpath/Comparison$Operator", "swapped", "()Lcom/example/stylewright/stylewright/xpath/Comparison$Operator;"⟩ : MethodName)) (z := (⟨"com/example/stylewright/stylewright/xpath/Comparison$Operator", "swapped", "()Lcom/example/stylewright/stylewright/xpath/Comparison$Operator;"⟩ : MethodName)) hown (hw _ (List.mem_of_getElem? (i := 38) rfl)) (hw _ (List.mem_of_getElem? (i := 39) rfl)) (notFace_of_selects (args := #[]) (mvT hZ (hw _ (List.mem_of_getElem? (i := 41) rfl)))) (hw _ (List.mem_of_getElem? (i := 41) rfl)) (hw _ (List.mem_of_getElem? (i := 40) rfl)) (hw _ (List.mem_of_getElem? (i := 3) rfl)) (hw _ (List.mem_of_getElem? (i := 42) rfl)) (by decide) (b := x4) (W := 0) (argsL := []) (rest := []) (rm4_4 l Z a0 hw [] x4 x2 h126 f133 f140 f141) (by decide) (by decide) (by decide) (by decide) e164 f140 (g := (mkF m 95 #[.val (.int p1), .val (.ref b1), .val (.int (Int32.ofNat 4)), .val (.ref x4), .val (.double (4607182418800017408 : UInt64)), .second, .val (.double (4611686018427387904 : UInt64)), .second, .val (.int (0 : Int32)), .val (.int (0 : Int32)), .unset] [(.ref x4)])) rfl (by rw [hml]; rfl) (lenOf pd_3 rfl) rfl (by show 2 * 0 + _ ≤ _; exact Nat.le_of_eq rfl) (hb hby at_95)
    obtain ⟨rfl, hL165, e165⟩ := hQ165
    replace X165 := own_pure (v := none) (r := none) X165 rfl rfl hL165
    refine own_via (T' := T165) (g' := (mkF m 98 #[.val (.int p1), .val (.ref b1), .val (.int (Int32.ofNat 4)), .val (.ref x4), .val (.double (4607182418800017408 : UInt64)), .second, .val (.double (4611686018427387904 : UInt64)), .second, .val (.int (0 : Int32)), .val (.int (0 : Int32)), .unset] [(.ref x2)])) (fun _ kt => st165 _ kt) ?_
    refine own_via (T' := T165) (g' := (mkF m 99 #[.val (.int p1), .val (.ref b1), .val (.int (Int32.ofNat 4)), .val (.ref x4), .val (.double (4607182418800017408 : UInt64)), .second, .val (.double (4611686018427387904 : UInt64)), .second, .val (.int (0 : Int32)), .val (.int (0 : Int32)), .unset] [(.ref x4), (.ref x2)])) (fun _ kt => XS.aloadN X165.here hx rfl (hb hby at_98) rfl rfl kt) ?_
    refine own_via (T' := T165) (g' := (mkF m 106 #[.val (.int p1), .val (.ref b1), .val (.int (Int32.ofNat 4)), .val (.ref x4), .val (.double (4607182418800017408 : UInt64)), .second, .val (.double (4611686018427387904 : UInt64)), .second, .val (.int (0 : Int32)), .val (.int (0 : Int32)), .unset] [])) (fun _ kt => Jvm.RoadKit.acmp (g := (mkF m 99 #[.val (.int p1), .val (.ref b1), .val (.int (Int32.ofNat 4)), .val (.ref x4), .val (.double (4607182418800017408 : UInt64)), .second, .val (.double (4611686018427387904 : UInt64)), .second, .val (.int (0 : Int32)), .val (.int (0 : Int32)), .unset] [(.ref x4), (.ref x2)])) X165 hx rfl rfl rfl (pc0 := 99) (pc' := 106) (same := false) rfl (hb hby at_99) rfl (decide_eq_false fun q => ne2_4 (Value.ref.inj q)) (by decide) (by decide) kt) ?_
    refine own_via (T' := T165) (g' := (mkF m 107 #[.val (.int p1), .val (.ref b1), .val (.int (Int32.ofNat 4)), .val (.ref x4), .val (.double (4607182418800017408 : UInt64)), .second, .val (.double (4611686018427387904 : UInt64)), .second, .val (.int (0 : Int32)), .val (.int (0 : Int32)), .unset] [(.int (0 : Int32))])) (fun _ kt => XS.iconst X165.here hx rfl (hb hby at_106) kt) ?_
    refine own_via (T' := T165) (g' := (mkF m 109 #[.val (.int p1), .val (.ref b1), .val (.int (Int32.ofNat 4)), .val (.ref x4), .val (.double (4607182418800017408 : UInt64)), .second, .val (.double (4611686018427387904 : UInt64)), .second, .val (.int (0 : Int32)), .val (.int (0 : Int32)), .val (.int (0 : Int32))] [])) (fun _ kt => XS.istore X165.here hx rfl (hb hby at_107) rfl (l' := #[.val (.int p1), .val (.ref b1), .val (.int (Int32.ofNat 4)), .val (.ref x4), .val (.double (4607182418800017408 : UInt64)), .second, .val (.double (4611686018427387904 : UInt64)), .second, .val (.int (0 : Int32)), .val (.int (0 : Int32)), .val (.int (0 : Int32))]) rfl kt) ?_
    refine own_via (T' := T165) (g' := (mkF m 111 #[.val (.int p1), .val (.ref b1), .val (.int (Int32.ofNat 4)), .val (.ref x4), .val (.double (4607182418800017408 : UInt64)), .second, .val (.double (4611686018427387904 : UInt64)), .second, .val (.int (0 : Int32)), .val (.int (0 : Int32)), .val (.int (0 : Int32))] [(.int (0 : Int32))])) (fun _ kt => XS.iload X165.here hx rfl (hb hby at_109) rfl kt) ?_
    refine own_via (T' := T165) (g' := (mkF m 113 #[.val (.int p1), .val (.ref b1), .val (.int (Int32.ofNat 4)), .val (.ref x4), .val (.double (4607182418800017408 : UInt64)), .second, .val (.double (4611686018427387904 : UInt64)), .second, .val (.int (0 : Int32)), .val (.int (0 : Int32)), .val (.int (0 : Int32))] [(.int (0 : Int32)), (.int (0 : Int32))])) (fun _ kt => XS.iload X165.here hx rfl (hb hby at_111) rfl kt) ?_
    refine own_via (T' := T165) (g' := (mkF m 116 #[.val (.int p1), .val (.ref b1), .val (.int (Int32.ofNat 4)), .val (.ref x4), .val (.double (4607182418800017408 : UInt64)), .second, .val (.double (4611686018427387904 : UInt64)), .second, .val (.int (0 : Int32)), .val (.int (0 : Int32)), .val (.int (0 : Int32))] [])) (fun _ kt => XS.icmpNo X165.here hx rfl (hb hby at_113) rfl (teq (by decide : ((0 : Int32) = (0 : Int32)))).2 kt) ?_
    refine own_via (T' := T165) (g' := (mkF m 118 #[.val (.int p1), .val (.ref b1), .val (.int (Int32.ofNat 4)), .val (.ref x4), .val (.double (4607182418800017408 : UInt64)), .second, .val (.double (4611686018427387904 : UInt64)), .second, .val (.int (0 : Int32)), .val (.int (0 : Int32)), .val (.int (0 : Int32))] [(.int (0 : Int32))])) (fun _ kt => XS.iload X165.here hx rfl (hb hby at_116) rfl kt) ?_
    refine own_via (T' := T165) (g' := (mkF m 120 #[.val (.int p1), .val (.ref b1), .val (.int (Int32.ofNat 4)), .val (.ref x4), .val (.double (4607182418800017408 : UInt64)), .second, .val (.double (4611686018427387904 : UInt64)), .second, .val (.int (0 : Int32)), .val (.int (0 : Int32)), .val (.int (0 : Int32))] [(.int (0 : Int32)), (.int (0 : Int32))])) (fun _ kt => XS.iload X165.here hx rfl (hb hby at_118) rfl kt) ?_
    refine own_via (T' := T165) (g' := (mkF m 123 #[.val (.int p1), .val (.ref b1), .val (.int (Int32.ofNat 4)), .val (.ref x4), .val (.double (4607182418800017408 : UInt64)), .second, .val (.double (4611686018427387904 : UInt64)), .second, .val (.int (0 : Int32)), .val (.int (0 : Int32)), .val (.int (0 : Int32))] [])) (fun _ kt => XS.icmpNo X165.here hx rfl (hb hby at_120) rfl (teq (by decide : ((0 : Int32) = (0 : Int32)))).2 kt) ?_
    refine own_via (T' := T165) (g' := (mkF m 124 #[.val (.int p1), .val (.ref b1), .val (.int (Int32.ofNat 4)), .val (.ref x4), .val (.double (4607182418800017408 : UInt64)), .second, .val (.double (4611686018427387904 : UInt64)), .second, .val (.int (0 : Int32)), .val (.int (0 : Int32)), .val (.int (0 : Int32))] [(.int (1 : Int32))])) (fun _ kt => XS.iconst X165.here hx rfl (hb hby at_123) kt) ?_
    refine own_via (T' := T165) (g' := (mkF m 128 #[.val (.int p1), .val (.ref b1), .val (.int (Int32.ofNat 4)), .val (.ref x4), .val (.double (4607182418800017408 : UInt64)), .second, .val (.double (4611686018427387904 : UInt64)), .second, .val (.int (0 : Int32)), .val (.int (0 : Int32)), .val (.int (0 : Int32))] [(.int (1 : Int32))])) (fun _ kt => XS.goto X165.here hx rfl (pc0 := 124) (pc' := 128) rfl (hb hby at_124) (by decide) (by decide) kt) ?_
    exact own_retZ X165 hx hret hlk (hb hby at_128) (by decide) ⟨rfl, N126⟩ (by decide) (by decide)
  · refine own_via (T' := T126) (g' := (mkF m 50 #[.val (.int p1), .val (.ref b1), .val (.int (Int32.ofNat 5)), .unset, .unset, .unset, .unset, .unset, .unset, .unset, .unset] [])) (fun _ kt => XS.istoreN X126.here hx rfl (hb hby at_49) rfl (l' := #[.val (.int p1), .val (.ref b1), .val (.int (Int32.ofNat 5)), .unset, .unset, .unset, .unset, .unset, .unset, .unset, .unset]) rfl kt) ?_
    refine own_via (T' := T126) (g' := (mkF m 51 #[.val (.int p1), .val (.ref b1), .val (.int (Int32.ofNat 5)), .unset, .unset, .unset, .unset, .unset, .unset, .unset, .unset] [(.ref b1)])) (fun _ kt => XS.aloadN X126.here hx rfl (hb hby at_50) rfl rfl kt) ?_
    refine own_via (T' := T126) (g' := (mkF m 52 #[.val (.int p1), .val (.ref b1), .val (.int (Int32.ofNat 5)), .unset, .unset, .unset, .unset, .unset, .unset, .unset, .unset] [(.int (Int32.ofNat 5)), (.ref b1)])) (fun _ kt => XS.iloadN X126.here hx rfl (hb hby at_51) rfl kt) ?_
    refine own_via (T' := T126) (g' := (mkF m 53 #[.val (.int p1), .val (.ref b1), .val (.int (Int32.ofNat 5)), .unset, .unset, .unset, .unset, .unset, .unset, .unset, .unset] [(.ref x5)])) (fun _ kt => own_aaload X126 hx hZ e126 A126 rfl (j := (Int32.ofNat 5)) (i := 5) rfl (by decide) (g := (mkF m 52 #[.val (.int p1), .val (.ref b1), .val (.int (Int32.ofNat 5)), .unset, .unset, .unset, .unset, .unset, .unset, .unset, .unset] [(.int (Int32.ofNat 5)), (.ref b1)])) rfl rfl (hb hby at_52) _ kt) ?_
    refine own_via (T' := T126) (g' := (mkF m 54 #[.val (.int p1), .val (.ref b1), .val (.int (Int32.ofNat 5)), .val (.ref x5), .unset, .unset, .unset, .unset, .unset, .unset, .unset] [])) (fun _ kt => XS.astoreN X126.here hx rfl (hb hby at_53) rfl rfl (l' := #[.val (.int p1), .val (.ref b1), .val (.int (Int32.ofNat 5)), .val (.ref x5), .unset, .unset, .unset, .unset, .unset, .unset, .unset]) rfl kt) ?_
    refine own_via (T' := T126) (g' := (mkF m 55 #[.val (.int p1), .val (.ref b1), .val (.int (Int32.ofNat 5)), .val (.ref x5), .unset, .unset, .unset, .unset, .unset, .unset, .unset] [(.double (4607182418800017408 : UInt64))])) (fun _ kt => XS.dconst1 X126.here hx rfl (hb hby at_54) rfl kt) ?_
    refine own_via (T' := T126) (g' := (mkF m 57 #[.val (.int p1), .val (.ref b1), .val (.int (Int32.ofNat 5)), .val (.ref x5), .val (.double (4607182418800017408 : UInt64)), .second, .unset, .unset, .unset, .unset, .unset] [])) (fun _ kt => XS.dstore X126.here hx rfl (hb hby at_55) rfl (l' := #[.val (.int p1), .val (.ref b1), .val (.int (Int32.ofNat 5)), .val (.ref x5), .val (.double (4607182418800017408 : UInt64)), .second, .unset, .unset, .unset, .unset, .unset]) rfl kt) ?_
    refine own_via (T' := T126) (g' := (mkF m 60 #[.val (.int p1), .val (.ref b1), .val (.int (Int32.ofNat 5)), .val (.ref x5), .val (.double (4607182418800017408 : UInt64)), .second, .unset, .unset, .unset, .unset, .unset] [(.double (4611686018427387904 : UInt64))])) (fun _ kt => X126.ldc2DoubleC hx hown (mvT hZ (hw _ (List.mem_of_getElem? (i := 17) rfl))) (g := (mkF m 57 #[.val (.int p1), .val (.ref b1), .val (.int (Int32.ofNat 5)), .val (.ref x5), .val (.double (4607182418800017408 : UInt64)), .second, .unset, .unset, .unset, .unset, .unset] [])) rfl (hb hby at_57) _ kt) ?_
    refine own_via (T' := T126) (g' := (mkF m 62 #[.val (.int p1), .val (.ref b1), .val (.int (Int32.ofNat 5)), .val (.ref x5), .val (.double (4607182418800017408 : UInt64)), .second, .val (.double (4611686018427387904 : UInt64)), .second, .unset, .unset, .unset] [])) (fun _ kt => XS.dstore X126.here hx rfl (hb hby at_60) rfl (l' := #[.val (.int p1), .val (.ref b1), .val (.int (Int32.ofNat 5)), .val (.ref x5), .val (.double (4607182418800017408 : UInt64)), .second, .val (.double (4611686018427387904 : UInt64)), .second, .unset, .unset, .unset]) rfl kt) ?_
    refine own_via (T' := T126) (g' := (mkF m 63 #[.val (.int p1), .val (.ref b1), .val (.int (Int32.ofNat 5)), .val (.ref x5), .val (.double (4607182418800017408 : UInt64)), .second, .val (.double (4611686018427387904 : UInt64)), .second, .unset, .unset, .unset] [(.ref x5)])) (fun _ kt => XS.aloadN X126.here hx rfl (hb hby at_62) rfl rfl kt) ?_
    obtain ⟨v166, T166, L166, X166, hQ166, st166⟩ := own_callV X126 hx hZ (y := (⟨"com/example/stylewright/stylewright/xpath/Comparison$Operator", "isEquality", "()Z"⟩ : MethodName)) (z := (⟨"com/example/stylewright/stylewright/xpath/Comparison$Operator", "isEquality", "()Z"⟩ : MethodName)) hown (hw _ (List.mem_of_getElem? (i := 18) rfl)) (hw _ (List.mem_of_getElem? (i := 19) rfl)) (notFace_of_selects (args := #[]) (mvT hZ (hw _ (List.mem_of_getElem? (i := 21) rfl)))) (hw _ (List.mem_of_getElem? (i := 21) rfl)) (hw _ (List.mem_of_getElem? (i := 20) rfl)) (hw _ (List.mem_of_getElem? (i := 3) rfl)) (hw _ (List.mem_of_getElem? (i := 22) rfl)) (by decide) (b := x5) (W := 0) (argsL := []) (rest := []) (rm1_2 l Z a0 hw [] x5 x0 x1 h126 f127 f130 ne5_0 ne5_1) (by decide) (by decide) (by decide) (by decide) e126 f143 (g := (mkF m 63 #[.val (.int p1), .val (.ref b1), .val (.int (Int32.ofNat 5)), .val (.ref x5), .val (.double (4607182418800017408 : UInt64)), .second, .val (.double (4611686018427387904 : UInt64)), .second, .unset, .unset, .unset] [(.ref x5)])) rfl (by rw [hml]; rfl) (lenOf pd_1 rfl) rfl (by show 2 * 0 + _ ≤ _; exact Nat.le_of_eq rfl) (hb hby at_63)
    obtain ⟨rfl, hL166, e166⟩ := hQ166
    replace X166 := own_pure (v := none) (r := none) X166 rfl rfl hL166
    refine own_via (T' := T166) (g' := (mkF m 66 #[.val (.int p1), .val (.ref b1), .val (.int (Int32.ofNat 5)), .val (.ref x5), .val (.double (4607182418800017408 : UInt64)), .second, .val (.double (4611686018427387904 : UInt64)), .second, .unset, .unset, .unset] [(.int (0 : Int32))])) (fun _ kt => st166 _ kt) ?_
    refine own_via (T' := T166) (g' := (mkF m 68 #[.val (.int p1), .val (.ref b1), .val (.int (Int32.ofNat 5)), .val (.ref x5), .val (.double (4607182418800017408 : UInt64)), .second, .val (.double (4611686018427387904 : UInt64)), .second, .val (.int (0 : Int32)), .unset, .unset] [])) (fun _ kt => XS.istore X166.here hx rfl (hb hby at_66) rfl (l' := #[.val (.int p1), .val (.ref b1), .val (.int (Int32.ofNat 5)), .val (.ref x5), .val (.double (4607182418800017408 : UInt64)), .second, .val (.double (4611686018427387904 : UInt64)), .second, .val (.int (0 : Int32)), .unset, .unset]) rfl kt) ?_
    refine own_via (T' := T166) (g' := (mkF m 69 #[.val (.int p1), .val (.ref b1), .val (.int (Int32.ofNat 5)), .val (.ref x5), .val (.double (4607182418800017408 : UInt64)), .second, .val (.double (4611686018427387904 : UInt64)), .second, .val (.int (0 : Int32)), .unset, .unset] [(.ref x5)])) (fun _ kt => XS.aloadN X166.here hx rfl (hb hby at_68) rfl rfl kt) ?_
    refine own_via (T' := T166) (g' := (mkF m 71 #[.val (.int p1), .val (.ref b1), .val (.int (Int32.ofNat 5)), .val (.ref x5), .val (.double (4607182418800017408 : UInt64)), .second, .val (.double (4611686018427387904 : UInt64)), .second, .val (.int (0 : Int32)), .unset, .unset] [(.double (4607182418800017408 : UInt64)), (.ref x5)])) (fun _ kt => XS.dload X166.here hx rfl (hb hby at_69) rfl kt) ?_
    refine own_via (T' := T166) (g' := (mkF m 73 #[.val (.int p1), .val (.ref b1), .val (.int (Int32.ofNat 5)), .val (.ref x5), .val (.double (4607182418800017408 : UInt64)), .second, .val (.double (4611686018427387904 : UInt64)), .second, .val (.int (0 : Int32)), .unset, .unset] [(.double (4611686018427387904 : UInt64)), (.double (4607182418800017408 : UInt64)), (.ref x5)])) (fun _ kt => XS.dload X166.here hx rfl (hb hby at_71) rfl kt) ?_
    obtain ⟨v167, T167, L167, X167, hQ167, st167⟩ := own_callV X166 hx hZ (y := (⟨"com/example/stylewright/stylewright/xpath/Comparison$Operator", "test", "(DD)Z"⟩ : MethodName)) (z := (⟨"com/example/stylewright/stylewright/xpath/Comparison$Operator", "test", "(DD)Z"⟩ : MethodName)) hown (hw _ (List.mem_of_getElem? (i := 24) rfl)) (hw _ (List.mem_of_getElem? (i := 25) rfl)) (notFace_of_selects (args := #[]) (mvT hZ (hw _ (List.mem_of_getElem? (i := 27) rfl)))) (hw _ (List.mem_of_getElem? (i := 27) rfl)) (hw _ (List.mem_of_getElem? (i := 26) rfl)) (hw _ (List.mem_of_getElem? (i := 3) rfl)) (hw _ (List.mem_of_getElem? (i := 28) rfl)) (by decide) (b := x5) (W := 0) (argsL := [(.double (4607182418800017408 : UInt64)), (.double (4611686018427387904 : UInt64))]) (rest := []) (rm2_5_lt l Z a0 hw [] x5 (4607182418800017408 : UInt64) (4611686018427387904 : UInt64) h126 own_c12l own_c12g f143 f144) (by decide) (by decide) (by decide) (by decide) e166 f143 (g := (mkF m 73 #[.val (.int p1), .val (.ref b1), .val (.int (Int32.ofNat 5)), .val (.ref x5), .val (.double (4607182418800017408 : UInt64)), .second, .val (.double (4611686018427387904 : UInt64)), .second, .val (.int (0 : Int32)), .unset, .unset] [(.double (4611686018427387904 : UInt64)), (.double (4607182418800017408 : UInt64)), (.ref x5)])) rfl (by rw [hml]; rfl) (lenOf pd_2 rfl) rfl (by show 2 * 0 + _ ≤ _; exact Nat.le_of_eq rfl) (hb hby at_73)
    obtain ⟨rfl, hL167, e167⟩ := hQ167
    replace X167 := own_pure (v := none) (r := none) X167 rfl rfl hL167
    refine own_via (T' := T167) (g' := (mkF m 76 #[.val (.int p1), .val (.ref b1), .val (.int (Int32.ofNat 5)), .val (.ref x5), .val (.double (4607182418800017408 : UInt64)), .second, .val (.double (4611686018427387904 : UInt64)), .second, .val (.int (0 : Int32)), .unset, .unset] [(.int (0 : Int32))])) (fun _ kt => st167 _ kt) ?_
    refine own_via (T' := T167) (g' := (mkF m 77 #[.val (.int p1), .val (.ref b1), .val (.int (Int32.ofNat 5)), .val (.ref x5), .val (.double (4607182418800017408 : UInt64)), .second, .val (.double (4611686018427387904 : UInt64)), .second, .val (.int (0 : Int32)), .unset, .unset] [(.ref x5), (.int (0 : Int32))])) (fun _ kt => XS.aloadN X167.here hx rfl (hb hby at_76) rfl rfl kt) ?_
    refine own_via (T' := T167) (g' := (mkF m 79 #[.val (.int p1), .val (.ref b1), .val (.int (Int32.ofNat 5)), .val (.ref x5), .val (.double (4607182418800017408 : UInt64)), .second, .val (.double (4611686018427387904 : UInt64)), .second, .val (.int (0 : Int32)), .unset, .unset] [(.double (4611686018427387904 : UInt64)), (.ref x5), (.int (0 : Int32))])) (fun _ kt => XS.dload X167.here hx rfl (hb hby at_77) rfl kt) ?_
    refine own_via (T' := T167) (g' := (mkF m 81 #[.val (.int p1), .val (.ref b1), .val (.int (Int32.ofNat 5)), .val (.ref x5), .val (.double (4607182418800017408 : UInt64)), .second, .val (.double (4611686018427387904 : UInt64)), .second, .val (.int (0 : Int32)), .unset, .unset] [(.double (4607182418800017408 : UInt64)), (.double (4611686018427387904 : UInt64)), (.ref x5), (.int (0 : Int32))])) (fun _ kt => XS.dload X167.here hx rfl (hb hby at_79) rfl kt) ?_
    obtain ⟨v168, T168, L168, X168, hQ168, st168⟩ := own_callV X167 hx hZ (y := (⟨"com/example/stylewright/stylewright/xpath/Comparison$Operator", "test", "(DD)Z"⟩ : MethodName)) (z := (⟨"com/example/stylewright/stylewright/xpath/Comparison$Operator", "test", "(DD)Z"⟩ : MethodName)) hown (hw _ (List.mem_of_getElem? (i := 24) rfl)) (hw _ (List.mem_of_getElem? (i := 25) rfl)) (notFace_of_selects (args := #[]) (mvT hZ (hw _ (List.mem_of_getElem? (i := 27) rfl)))) (hw _ (List.mem_of_getElem? (i := 27) rfl)) (hw _ (List.mem_of_getElem? (i := 26) rfl)) (hw _ (List.mem_of_getElem? (i := 3) rfl)) (hw _ (List.mem_of_getElem? (i := 28) rfl)) (by decide) (b := x5) (W := 1) (argsL := [(.double (4611686018427387904 : UInt64)), (.double (4607182418800017408 : UInt64))]) (rest := [(.int (0 : Int32))]) (rm2_5_gt l Z a0 hw [] x5 (4611686018427387904 : UInt64) (4607182418800017408 : UInt64) h126 own_c21l own_c21g f143 f144) (by decide) (by decide) (by decide) (by decide) e167 f143 (g := (mkF m 81 #[.val (.int p1), .val (.ref b1), .val (.int (Int32.ofNat 5)), .val (.ref x5), .val (.double (4607182418800017408 : UInt64)), .second, .val (.double (4611686018427387904 : UInt64)), .second, .val (.int (0 : Int32)), .unset, .unset] [(.double (4607182418800017408 : UInt64)), (.double (4611686018427387904 : UInt64)), (.ref x5), (.int (0 : Int32))])) rfl (by rw [hml]; rfl) (lenOf pd_2 rfl) rfl (by show 2 * 0 + _ ≤ _; exact Nat.le_of_eq rfl) (hb hby at_81)
    obtain ⟨rfl, hL168, e168⟩ := hQ168
    replace X168 := own_pure (v := none) (r := none) X168 rfl rfl hL168
    refine own_via (T' := T168) (g' := (mkF m 84 #[.val (.int p1), .val (.ref b1), .val (.int (Int32.ofNat 5)), .val (.ref x5), .val (.double (4607182418800017408 : UInt64)), .second, .val (.double (4611686018427387904 : UInt64)), .second, .val (.int (0 : Int32)), .unset, .unset] [(.int (1 : Int32)), (.int (0 : Int32))])) (fun _ kt => st168 _ kt) ?_
    refine own_via (T' := T168) (g' := (mkF m 91 #[.val (.int p1), .val (.ref b1), .val (.int (Int32.ofNat 5)), .val (.ref x5), .val (.double (4607182418800017408 : UInt64)), .second, .val (.double (4611686018427387904 : UInt64)), .second, .val (.int (0 : Int32)), .unset, .unset] [])) (fun _ kt => XS.icmpYes X168.here hx rfl (pc0 := 84) (pc' := 91) rfl (hb hby at_84) rfl (feq (by decide : ¬ ((0 : Int32) = (1 : Int32)))).2 (by decide) (by decide) kt) ?_
    refine own_via (T' := T168) (g' := (mkF m 92 #[.val (.int p1), .val (.ref b1), .val (.int (Int32.ofNat 5)), .val (.ref x5), .val (.double (4607182418800017408 : UInt64)), .second, .val (.double (4611686018427387904 : UInt64)), .second, .val (.int (0 : Int32)), .unset, .unset] [(.int (0 : Int32))])) (fun _ kt => XS.iconst X168.here hx rfl (hb hby at_91) kt) ?_
    refine own_via (T' := T168) (g' := (mkF m 94 #[.val (.int p1), .val (.ref b1), .val (.int (Int32.ofNat 5)), .val (.ref x5), .val (.double (4607182418800017408 : UInt64)), .second, .val (.double (4611686018427387904 : UInt64)), .second, .val (.int (0 : Int32)), .val (.int (0 : Int32)), .unset] [])) (fun _ kt => XS.istore X168.here hx rfl (hb hby at_92) rfl (l' := #[.val (.int p1), .val (.ref b1), .val (.int (Int32.ofNat 5)), .val (.ref x5), .val (.double (4607182418800017408 : UInt64)), .second, .val (.double (4611686018427387904 : UInt64)), .second, .val (.int (0 : Int32)), .val (.int (0 : Int32)), .unset]) rfl kt) ?_
    refine own_via (T' := T168) (g' := (mkF m 95 #[.val (.int p1), .val (.ref b1), .val (.int (Int32.ofNat 5)), .val (.ref x5), .val (.double (4607182418800017408 : UInt64)), .second, .val (.double (4611686018427387904 : UInt64)), .second, .val (.int (0 : Int32)), .val (.int (0 : Int32)), .unset] [(.ref x5)])) (fun _ kt => XS.aloadN X168.here hx rfl (hb hby at_94) rfl rfl kt) ?_
    obtain ⟨v169, T169, L169, X169, hQ169, st169⟩ := own_callV X168 hx hZ (y := (⟨"com/example/stylewright/stylewright/xpath/Comparison$Operator", "swapped", "()Lcom/example/stylewright/stylewright/xpath/Comparison$Operator;"⟩ : MethodName)) (z := (⟨"com/example/stylewright/stylewright/xpath/Comparison$Operator", "swapped", "()Lcom/example/stylewright/stylewright/xpath/Comparison$Operator;"⟩ : MethodName)) hown (hw _ (List.mem_of_getElem? (i := 38) rfl)) (hw _ (List.mem_of_getElem? (i := 39) rfl)) (notFace_of_selects (args := #[]) (mvT hZ (hw _ (List.mem_of_getElem? (i := 41) rfl)))) (hw _ (List.mem_of_getElem? (i := 41) rfl)) (hw _ (List.mem_of_getElem? (i := 40) rfl)) (hw _ (List.mem_of_getElem? (i := 3) rfl)) (hw _ (List.mem_of_getElem? (i := 42) rfl)) (by decide) (b := x5) (W := 0) (argsL := []) (rest := []) (rm4_5 l Z a0 hw [] x5 x3 h126 f136 f143 f144) (by decide) (by decide) (by decide) (by decide) e168 f143 (g := (mkF m 95 #[.val (.int p1), .val (.ref b1), .val (.int (Int32.ofNat 5)), .val (.ref x5), .val (.double (4607182418800017408 : UInt64)), .second, .val (.double (4611686018427387904 : UInt64)), .second, .val (.int (0 : Int32)), .val (.int (0 : Int32)), .unset] [(.ref x5)])) rfl (by rw [hml]; rfl) (lenOf pd_3 rfl) rfl (by show 2 * 0 + _ ≤ _; exact Nat.le_of_eq rfl) (hb hby at_95)
    obtain ⟨rfl, hL169, e169⟩ := hQ169
    replace X169 := own_pure (v := none) (r := none) X169 rfl rfl hL169
    refine own_via (T' := T169) (g' := (mkF m 98 #[.val (.int p1), .val (.ref b1), .val (.int (Int32.ofNat 5)), .val (.ref x5), .val (.double (4607182418800017408 : UInt64)), .second, .val (.double (4611686018427387904 : UInt64)), .second, .val (.int (0 : Int32)), .val (.int (0 : Int32)), .unset] [(.ref x3)])) (fun _ kt => st169 _ kt) ?_
    refine own_via (T' := T169) (g' := (mkF m 99 #[.val (.int p1), .val (.ref b1), .val (.int (Int32.ofNat 5)), .val (.ref x5), .val (.double (4607182418800017408 : UInt64)), .second, .val (.double (4611686018427387904 : UInt64)), .second, .val (.int (0 : Int32)), .val (.int (0 : Int32)), .unset] [(.ref x5), (.ref x3)])) (fun _ kt => XS.aloadN X169.here hx rfl (hb hby at_98) rfl rfl kt) ?_
    refine own_via (T' := T169) (g' := (mkF m 106 #[.val (.int p1), .val (.ref b1), .val (.int (Int32.ofNat 5)), .val (.ref x5), .val (.double (4607182418800017408 : UInt64)), .second, .val (.double (4611686018427387904 : UInt64)), .second, .val (.int (0 : Int32)), .val (.int (0 : Int32)), .unset] [])) (fun _ kt => Jvm.RoadKit.acmp (g := (mkF m 99 #[.val (.int p1), .val (.ref b1), .val (.int (Int32.ofNat 5)), .val (.ref x5), .val (.double (4607182418800017408 : UInt64)), .second, .val (.double (4611686018427387904 : UInt64)), .second, .val (.int (0 : Int32)), .val (.int (0 : Int32)), .unset] [(.ref x5), (.ref x3)])) X169 hx rfl rfl rfl (pc0 := 99) (pc' := 106) (same := false) rfl (hb hby at_99) rfl (decide_eq_false fun q => ne3_5 (Value.ref.inj q)) (by decide) (by decide) kt) ?_
    refine own_via (T' := T169) (g' := (mkF m 107 #[.val (.int p1), .val (.ref b1), .val (.int (Int32.ofNat 5)), .val (.ref x5), .val (.double (4607182418800017408 : UInt64)), .second, .val (.double (4611686018427387904 : UInt64)), .second, .val (.int (0 : Int32)), .val (.int (0 : Int32)), .unset] [(.int (0 : Int32))])) (fun _ kt => XS.iconst X169.here hx rfl (hb hby at_106) kt) ?_
    refine own_via (T' := T169) (g' := (mkF m 109 #[.val (.int p1), .val (.ref b1), .val (.int (Int32.ofNat 5)), .val (.ref x5), .val (.double (4607182418800017408 : UInt64)), .second, .val (.double (4611686018427387904 : UInt64)), .second, .val (.int (0 : Int32)), .val (.int (0 : Int32)), .val (.int (0 : Int32))] [])) (fun _ kt => XS.istore X169.here hx rfl (hb hby at_107) rfl (l' := #[.val (.int p1), .val (.ref b1), .val (.int (Int32.ofNat 5)), .val (.ref x5), .val (.double (4607182418800017408 : UInt64)), .second, .val (.double (4611686018427387904 : UInt64)), .second, .val (.int (0 : Int32)), .val (.int (0 : Int32)), .val (.int (0 : Int32))]) rfl kt) ?_
    refine own_via (T' := T169) (g' := (mkF m 111 #[.val (.int p1), .val (.ref b1), .val (.int (Int32.ofNat 5)), .val (.ref x5), .val (.double (4607182418800017408 : UInt64)), .second, .val (.double (4611686018427387904 : UInt64)), .second, .val (.int (0 : Int32)), .val (.int (0 : Int32)), .val (.int (0 : Int32))] [(.int (0 : Int32))])) (fun _ kt => XS.iload X169.here hx rfl (hb hby at_109) rfl kt) ?_
    refine own_via (T' := T169) (g' := (mkF m 113 #[.val (.int p1), .val (.ref b1), .val (.int (Int32.ofNat 5)), .val (.ref x5), .val (.double (4607182418800017408 : UInt64)), .second, .val (.double (4611686018427387904 : UInt64)), .second, .val (.int (0 : Int32)), .val (.int (0 : Int32)), .val (.int (0 : Int32))] [(.int (0 : Int32)), (.int (0 : Int32))])) (fun _ kt => XS.iload X169.here hx rfl (hb hby at_111) rfl kt) ?_
    refine own_via (T' := T169) (g' := (mkF m 116 #[.val (.int p1), .val (.ref b1), .val (.int (Int32.ofNat 5)), .val (.ref x5), .val (.double (4607182418800017408 : UInt64)), .second, .val (.double (4611686018427387904 : UInt64)), .second, .val (.int (0 : Int32)), .val (.int (0 : Int32)), .val (.int (0 : Int32))] [])) (fun _ kt => XS.icmpNo X169.here hx rfl (hb hby at_113) rfl (teq (by decide : ((0 : Int32) = (0 : Int32)))).2 kt) ?_
    refine own_via (T' := T169) (g' := (mkF m 118 #[.val (.int p1), .val (.ref b1), .val (.int (Int32.ofNat 5)), .val (.ref x5), .val (.double (4607182418800017408 : UInt64)), .second, .val (.double (4611686018427387904 : UInt64)), .second, .val (.int (0 : Int32)), .val (.int (0 : Int32)), .val (.int (0 : Int32))] [(.int (0 : Int32))])) (fun _ kt => XS.iload X169.here hx rfl (hb hby at_116) rfl kt) ?_
    refine own_via (T' := T169) (g' := (mkF m 120 #[.val (.int p1), .val (.ref b1), .val (.int (Int32.ofNat 5)), .val (.ref x5), .val (.double (4607182418800017408 : UInt64)), .second, .val (.double (4611686018427387904 : UInt64)), .second, .val (.int (0 : Int32)), .val (.int (0 : Int32)), .val (.int (0 : Int32))] [(.int (0 : Int32)), (.int (0 : Int32))])) (fun _ kt => XS.iload X169.here hx rfl (hb hby at_118) rfl kt) ?_
    refine own_via (T' := T169) (g' := (mkF m 123 #[.val (.int p1), .val (.ref b1), .val (.int (Int32.ofNat 5)), .val (.ref x5), .val (.double (4607182418800017408 : UInt64)), .second, .val (.double (4611686018427387904 : UInt64)), .second, .val (.int (0 : Int32)), .val (.int (0 : Int32)), .val (.int (0 : Int32))] [])) (fun _ kt => XS.icmpNo X169.here hx rfl (hb hby at_120) rfl (teq (by decide : ((0 : Int32) = (0 : Int32)))).2 kt) ?_
    refine own_via (T' := T169) (g' := (mkF m 124 #[.val (.int p1), .val (.ref b1), .val (.int (Int32.ofNat 5)), .val (.ref x5), .val (.double (4607182418800017408 : UInt64)), .second, .val (.double (4611686018427387904 : UInt64)), .second, .val (.int (0 : Int32)), .val (.int (0 : Int32)), .val (.int (0 : Int32))] [(.int (1 : Int32))])) (fun _ kt => XS.iconst X169.here hx rfl (hb hby at_123) kt) ?_
    refine own_via (T' := T169) (g' := (mkF m 128 #[.val (.int p1), .val (.ref b1), .val (.int (Int32.ofNat 5)), .val (.ref x5), .val (.double (4607182418800017408 : UInt64)), .second, .val (.double (4611686018427387904 : UInt64)), .second, .val (.int (0 : Int32)), .val (.int (0 : Int32)), .val (.int (0 : Int32))] [(.int (1 : Int32))])) (fun _ kt => XS.goto X169.here hx rfl (pc0 := 124) (pc' := 128) rfl (hb hby at_124) (by decide) (by decide) kt) ?_
    exact own_retZ X169 hx hret hlk (hb hby at_128) (by decide) ⟨rfl, N126⟩ (by decide) (by decide)
set_option maxRecDepth 65536 in
set_option maxHeartbeats 40000000 in
theorem comes_1 {Post : Tables → Env → Array Value → State → Outcome → State → Prop} (hpost : ∀ tb e args s v u, (limb_1_1.after args s (.returned v) u = true ∧ limb_1_2.after args s (.returned v) u = true ∧ True) → FrameEnd s (.returned v) u (Jvm.fieldLocs frame_1_writes args s ++ Jvm.arrayLocs frame_1_arrays args s ++ Jvm.staticLocs frame_1_statics s) 16 128 → Post tb e args s (.returned v) u) :
    ArmFor flags0 classFile x code maxLocals ret World_1 tables_1 room_1 Calls_1 rest_1 Pre_1 Post := by
  intro l hfl _ _ p e ha hc hk s m args below hf hA hF happ hP
  obtain ⟨hcalls, hrest, hpre⟩ := hP
  obtain ⟨-, -, -, hnamed, -, -, -, hat⟩ := (Spec.applies_iff hf).mp happ
  obtain ⟨hg, hn⟩ := and_e (Cond.before_iff.mp (show (Jvm.Cond.and given_1 narrow_1).before args s = true from hpre))
  obtain ⟨gc, g0⟩ := and_e hg
  obtain ⟨w0, rfl⟩ : ∃ w0 : Value, args = #[w0] := by
    have hs : args.size = 1 := by simpa [Cond.value, given_1] using gc
    obtain ⟨L⟩ := args
    match L, hs with
    | [w0], _ => exact ⟨w0, rfl⟩
  have hw := fun d (hd : d ∈ tables_1) => atoms_spec (ws := Jvm.Cond.code x code maxLocals ret :: tables_1) hat d (List.mem_cons_of_mem _ hd)
  have hfit : Fit s := fun {y c} hc i hi => by
    obtain ⟨ha, rfl⟩ := Array.getElem?_eq_some_iff.mp hc
    have q := List.all_eq_true.mp ((Array.all_eq_true_iff_forall_mem.mp hF) _ (Array.getElem_mem ha)) i (List.mem_range.mpr hi)
    simpa [Array.getElem?_eq_getElem hi] using q
  obtain ⟨i0, ei0⟩ := is_v g0
  obtain rfl : w0 = (.int i0) := Option.some.inj ei0
  obtain ⟨c0, nn0⟩ := and_e hn
  obtain ⟨x0, ev0, S0, E0⟩ := own_stat c0 (hw _ (List.mem_of_getElem? (i := 3) rfl)) (hw _ (List.mem_of_getElem? (i := 4) rfl))
  obtain ⟨c1, nn1⟩ := and_e nn0
  obtain ⟨x1, ev1, S1, E1⟩ := own_stat c1 (hw _ (List.mem_of_getElem? (i := 3) rfl)) (hw _ (List.mem_of_getElem? (i := 7) rfl))
  obtain ⟨c2, nn2⟩ := and_e nn1
  obtain ⟨x2, ev2, S2, E2⟩ := own_stat c2 (hw _ (List.mem_of_getElem? (i := 3) rfl)) (hw _ (List.mem_of_getElem? (i := 9) rfl))
  obtain ⟨c3, nn3⟩ := and_e nn2
  obtain ⟨x3, ev3, S3, E3⟩ := own_stat c3 (hw _ (List.mem_of_getElem? (i := 3) rfl)) (hw _ (List.mem_of_getElem? (i := 11) rfl))
  obtain ⟨c4, nn4⟩ := and_e nn3
  obtain ⟨x4, ev4, S4, E4⟩ := own_stat c4 (hw _ (List.mem_of_getElem? (i := 3) rfl)) (hw _ (List.mem_of_getElem? (i := 13) rfl))
  obtain ⟨c5, nn5⟩ := and_e nn4
  obtain ⟨x5, ev5, S5, E5⟩ := own_stat c5 (hw _ (List.mem_of_getElem? (i := 3) rfl)) (hw _ (List.mem_of_getElem? (i := 15) rfl))
  obtain ⟨c6, nn6⟩ := and_e nn5
  have F0 := own_ord ev0 c6
  obtain ⟨c7, nn7⟩ := and_e nn6
  have F3 := own_ord ev3 c7
  obtain ⟨c8, nn8⟩ := and_e nn7
  have F1 := own_ord ev1 c8
  obtain ⟨c9, nn9⟩ := and_e nn8
  have F5 := own_ord ev5 c9
  obtain ⟨c10, nn10⟩ := and_e nn9
  have F2 := own_ord ev2 c10
  have F4 := own_ord ev4 nn10
  obtain ⟨n, o, h1, h2, h3, _, L, rfl, ⟨rfl, N⟩, hq⟩ := rm0 l s _ hw tables_1 i0 s.heap s.heap.size (Nat.le_refl _) x0 x1 x2 x3 x4 x5 S0 S1 S2 S3 S4 S5 E0 E1 E2 E3 E4 E5 F0 F1 F2 F3 F4 F5 p e ha hc hk s m _ below hf ((Spec.applies_iff_loose hf).mp happ).1 ⟨rfl, State.Warmed39.refl s, rfl⟩ trivial
  refine ⟨n, _, h1, h2, h3, hpost _ _ _ _ _ _ ⟨Cond.after_iff.mpr rfl, Cond.after_iff.mpr (eq_i res_at (Term.int_eval (1)) rfl), trivial⟩ ⟨hq.1, hq.2.1, (hq.2.2.sift fun y hy => Or.inr (N y hy)).mono (by decide) (by decide)⟩⟩
theorem main_1_1 : Claimed_1_1 := comes_1 fun _ _ _ _ _ _ h hF => ⟨h.1, hF⟩
theorem main_1_2 : Claimed_1_2 := comes_1 fun _ _ _ _ _ _ h hF => ⟨h.2.1, hF⟩
end Jvm.Pilot.@@N@@
namespace Jvm.Pilot.@@N@@
open Jvm Jvm.ClassFile Sem Op Lib Jvm.Free Jvm.Stand Jvm.Pilot.@@N@@.Jvm.D
/-! MADE BY PROGRAM (witnessworld.py) out of the Statement's table words and the real class files: 13 classes; the members and pool entries that the words name. The judged class is class 1, her method 1. -/
namespace start1
open Jvm.ClassFile
def u (s : String) : CpInfo := .utf8 (stringToUtf16 s)
/-- a pool by its gaps: so many unusable entries, then the entry; so many at the end -/
def gap : Nat → List CpInfo → List CpInfo
  | 0, r => r
  | n + 1, r => .unusable :: gap n r
def poolList (es : List (Nat × CpInfo)) (last : Nat) : List CpInfo := es.foldr (fun e r => gap e.1 (e.2 :: r)) (gap last [])
def pool (es : List (Nat × CpInfo)) (last : Nat) : Array CpInfo := ⟨poolList es last⟩
def fileOf (pool : Array CpInfo) (this : Nat) (attrs : Array Attribute := #[]) (ms : Array MethodInfo := #[]) (fl : Nat := 33) (sup : Nat := 0) (ifs : Array Nat := #[]) (fds : Array FieldInfo := #[]) : ClassFile where
  minorVersion := 0
  majorVersion := 65
  constantPool := pool
  accessFlags := fl
  thisClass := this
  superClass := sup
  interfaces := ifs
  fields := fds
  methods := ms
  attributes := attrs
def plain (name : String) (sup : Option ClassId) : Class where
  name := name
  kind := .ordinary
  loader := none
  accessFlags := 33
  super := sup
  interfaces := #[]
  cf := none
  fields := #[]
  methods := #[]
  instanceTypes := #[]
  staticTypes := #[]
  resolved := #[]
  callSites := []
  init := .initialized
  statics := none
  mirror := none

def pool0 : Array CpInfo := pool [(5, u "<init>"), (0, u "()V"), (1, .class_ 10), (1, u "java/lang/Object")] 113

def k0m0 : Method := { name := "<init>", desc := "()V", sig := { parameters := [], returnType := none }, accessFlags := 1, code := none }
/-- java/lang/Object -/
def k0 : Class := { plain "java/lang/Object" none with
  accessFlags := 33
  interfaces := #[]
  cf := some (fileOf pool0 8 #[] #[{ accessFlags := 1, nameIndex := 5, descriptorIndex := 6, attributes := #[] }] 33 0 #[] #[])
  fields := #[]
  methods := #[k0m0]
  instanceTypes := #[]
  staticTypes := #[]
  resolved := Array.replicate 124 none
  statics := none }

def pool1 : Array CpInfo := pool [(2, .class_ 4), (1, u "java/lang/Object"), (0, u "<init>"), (0, u "()V"), (0, .class_ 8), (0, u "com/example/stylewright/stylewright/xpath/Comparison$Operator"), (0, .fieldref 7 10), (0, .nameAndType 11 12), (0, u "EQUALS"), (0, u "Lcom/example/stylewright/stylewright/xpath/Comparison$Operator;"), (0, .fieldref 7 14), (0, .nameAndType 15 12), (0, u "NOT_EQUALS"), (0, .fieldref 7 17), (0, .nameAndType 18 12), (0, u "LESS"), (0, .fieldref 7 20), (0, .nameAndType 21 12), (0, u "LESS_OR_EQUAL"), (0, .fieldref 7 23), (0, .nameAndType 24 12), (0, u "GREATER"), (0, .fieldref 7 26), (0, .nameAndType 27 12), (0, u "GREATER_OR_EQUAL"), (0, .integer 2147483647), (0, .double 4611686018427387904), (1, .methodref 7 32), (0, .nameAndType 33 34), (0, u "isEquality"), (0, u "()Z"), (0, .methodref 7 36), (0, .nameAndType 37 38), (0, u "test"), (0, u "(DD)Z"), (0, .methodref 7 40), (0, .nameAndType 41 42), (0, u "swapped"), (0, u "()Lcom/example/stylewright/stylewright/xpath/Comparison$Operator;"), (0, .class_ 44), (0, u "com/example/stylewright/stylewright/xpath/OperatorIsEqualityPinLaw"), (2, u "law"), (0, u "(I)Z")] 9

def k1m0 : Method := { name := "<init>", desc := "()V", sig := { parameters := [], returnType := none }, accessFlags := 2, code := none }
def k1c1 : Code := { maxStack := 6, maxLocals := 11, code := code, exceptionTable := #[], attributes := #[] }
def k1m1 : Method := { name := "law", desc := "(I)Z", sig := { parameters := [.int], returnType := some .boolean }, accessFlags := 9, code := some k1c1 }
/-- com/example/stylewright/stylewright/xpath/OperatorIsEqualityPinLaw -/
def k1 : Class := { plain "com/example/stylewright/stylewright/xpath/OperatorIsEqualityPinLaw" (some 0) with
  accessFlags := 49
  interfaces := #[]
  cf := some (fileOf pool1 43 #[] #[{ accessFlags := 2, nameIndex := 5, descriptorIndex := 6, attributes := #[] }, { accessFlags := 9, nameIndex := 47, descriptorIndex := 48, attributes := #[] }] 49 2 #[] #[])
  fields := #[]
  methods := #[k1m0, k1m1]
  instanceTypes := #[]
  staticTypes := #[]
  resolved := Array.replicate 58 none
  statics := none }

def pool2 : Array CpInfo := pool [(1, .class_ 2), (0, u "java/lang/constant/Constable"), (0, .class_ 4), (0, u "java/lang/Object")] 6

/-- java/lang/constant/Constable -/
def k2 : Class := { plain "java/lang/constant/Constable" (some 0) with
  accessFlags := 1537
  interfaces := #[]
  cf := some (fileOf pool2 1 #[] #[] 1537 3 #[] #[])
  fields := #[]
  methods := #[]
  instanceTypes := #[]
  staticTypes := #[]
  resolved := Array.replicate 11 none
  statics := none }

def pool3 : Array CpInfo := pool [(1, .class_ 2), (0, u "java/lang/Comparable"), (0, .class_ 4), (0, u "java/lang/Object")] 7

/-- java/lang/Comparable -/
def k3 : Class := { plain "java/lang/Comparable" (some 0) with
  accessFlags := 1537
  interfaces := #[]
  cf := some (fileOf pool3 1 #[] #[] 1537 3 #[] #[])
  fields := #[]
  methods := #[]
  instanceTypes := #[]
  staticTypes := #[]
  resolved := Array.replicate 12 none
  statics := none }

def pool4 : Array CpInfo := pool [(1, .class_ 2), (0, u "java/io/Serializable"), (0, .class_ 4), (0, u "java/lang/Object")] 2

/-- java/io/Serializable -/
def k4 : Class := { plain "java/io/Serializable" (some 0) with
  accessFlags := 1537
  interfaces := #[]
  cf := some (fileOf pool4 1 #[] #[] 1537 3 #[] #[])
  fields := #[]
  methods := #[]
  instanceTypes := #[]
  staticTypes := #[]
  resolved := Array.replicate 7 none
  statics := none }

def pool5 : Array CpInfo := pool [(2, .class_ 4), (1, u "java/lang/Enum"), (0, u "name"), (0, u "Ljava/lang/String;"), (0, .fieldref 2 8), (0, .nameAndType 9 10), (0, u "ordinal"), (0, u "I"), (1, .class_ 14), (1, u "java/lang/Object"), (4, u "hash"), (86, .class_ 108), (1, u "java/lang/Enum$EnumDesc"), (2, .class_ 112), (0, u "java/lang/constant/Constable"), (0, .class_ 114), (0, u "java/lang/Comparable"), (0, .class_ 116), (0, u "java/io/Serializable"), (9, u "()I")] 77

def k5c0 : Code := { maxStack := 1, maxLocals := 1, code := jdk_37_method_2_code, exceptionTable := #[], attributes := #[] }
def k5m0 : Method := { name := "ordinal", desc := "()I", sig := { parameters := [], returnType := some .int }, accessFlags := 17, code := some k5c0 }
/-- java/lang/Enum -/
def k5 : Class := { plain "java/lang/Enum" (some 0) with
  accessFlags := 1057
  interfaces := #[2, 3, 4]
  cf := some (fileOf pool5 2 #[.nestMembers #[106]] #[{ accessFlags := 17, nameIndex := 9, descriptorIndex := 126, attributes := #[] }] 1057 12 #[111, 113, 115] #[{ accessFlags := 18, nameIndex := 5, descriptorIndex := 6, attributes := #[] }, { accessFlags := 18, nameIndex := 9, descriptorIndex := 10, attributes := #[] }, { accessFlags := 2, nameIndex := 19, descriptorIndex := 10, attributes := #[] }])
  fields := #[{ name := "name", type := (.object "java/lang/String"), accessFlags := 18, slot := 0, constantValue := 0 }, { name := "ordinal", type := .int, accessFlags := 18, slot := 1, constantValue := 0 }, { name := "hash", type := .int, accessFlags := 2, slot := 2, constantValue := 0 }]
  methods := #[k5m0]
  instanceTypes := #[(.object "java/lang/String"), .int, .int]
  staticTypes := #[]
  resolved := Array.replicate 204 none
  statics := none }

def pool6 : Array CpInfo := pool [(1, .class_ 2), (0, u "com/example/stylewright/stylewright/xpath/Comparison$Operator"), (0, .fieldref 1 4), (0, .nameAndType 5 6), (0, u "EQUALS"), (0, u "Lcom/example/stylewright/stylewright/xpath/Comparison$Operator;"), (0, .fieldref 1 8), (0, .nameAndType 9 6), (0, u "NOT_EQUALS"), (0, .fieldref 1 11), (0, .nameAndType 12 6), (0, u "LESS"), (0, .fieldref 1 14), (0, .nameAndType 15 6), (0, u "LESS_OR_EQUAL"), (0, .fieldref 1 17), (0, .nameAndType 18 6), (0, u "GREATER"), (0, .fieldref 1 20), (0, .nameAndType 21 6), (0, u "GREATER_OR_EQUAL"), (2, u "$VALUES"), (0, u "[Lcom/example/stylewright/stylewright/xpath/Comparison$Operator;"), (6, .class_ 34), (1, u "java/lang/Enum"), (6, .methodref 1 42), (0, .nameAndType 43 44), (0, u "ordinal"), (0, u "()I"), (32, u "isEquality"), (0, u "()Z"), (1, u "swapped"), (0, u "()Lcom/example/stylewright/stylewright/xpath/Comparison$Operator;"), (0, u "test"), (0, u "(DD)Z"), (5, .class_ 90), (0, u "com/example/stylewright/stylewright/xpath/Comparison")] 16

def k6c0 : Code := { maxStack := 2, maxLocals := 1, code := prog_67_method_4_code, exceptionTable := #[], attributes := #[] }
def k6m0 : Method := { name := "isEquality", desc := "()Z", sig := { parameters := [], returnType := some .boolean }, accessFlags := 0, code := some k6c0 }
def k6c1 : Code := { maxStack := 1, maxLocals := 2, code := prog_67_method_5_code, exceptionTable := #[], attributes := #[] }
def k6m1 : Method := { name := "swapped", desc := "()Lcom/example/stylewright/stylewright/xpath/Comparison$Operator;", sig := { parameters := [], returnType := some (.object "com/example/stylewright/stylewright/xpath/Comparison$Operator") }, accessFlags := 0, code := some k6c1 }
def k6c2 : Code := { maxStack := 4, maxLocals := 6, code := prog_67_method_6_code, exceptionTable := #[], attributes := #[] }
def k6m2 : Method := { name := "test", desc := "(DD)Z", sig := { parameters := [.double, .double], returnType := some .boolean }, accessFlags := 0, code := some k6c2 }
/-- com/example/stylewright/stylewright/xpath/Comparison$Operator -/
def k6 : Class := { plain "com/example/stylewright/stylewright/xpath/Comparison$Operator" (some 5) with
  accessFlags := 16432
  interfaces := #[]
  cf := some (fileOf pool6 1 #[.nestHost 89] #[{ accessFlags := 0, nameIndex := 77, descriptorIndex := 78, attributes := #[] }, { accessFlags := 0, nameIndex := 80, descriptorIndex := 81, attributes := #[] }, { accessFlags := 0, nameIndex := 82, descriptorIndex := 83, attributes := #[] }] 16432 32 #[] #[{ accessFlags := 16409, nameIndex := 5, descriptorIndex := 6, attributes := #[] }, { accessFlags := 16409, nameIndex := 9, descriptorIndex := 6, attributes := #[] }, { accessFlags := 16409, nameIndex := 12, descriptorIndex := 6, attributes := #[] }, { accessFlags := 16409, nameIndex := 15, descriptorIndex := 6, attributes := #[] }, { accessFlags := 16409, nameIndex := 18, descriptorIndex := 6, attributes := #[] }, { accessFlags := 16409, nameIndex := 21, descriptorIndex := 6, attributes := #[] }, { accessFlags := 4122, nameIndex := 24, descriptorIndex := 25, attributes := #[] }])
  fields := #[{ name := "EQUALS", type := (.object "com/example/stylewright/stylewright/xpath/Comparison$Operator"), accessFlags := 16409, slot := 0, constantValue := 0 }, { name := "NOT_EQUALS", type := (.object "com/example/stylewright/stylewright/xpath/Comparison$Operator"), accessFlags := 16409, slot := 1, constantValue := 0 }, { name := "LESS", type := (.object "com/example/stylewright/stylewright/xpath/Comparison$Operator"), accessFlags := 16409, slot := 2, constantValue := 0 }, { name := "LESS_OR_EQUAL", type := (.object "com/example/stylewright/stylewright/xpath/Comparison$Operator"), accessFlags := 16409, slot := 3, constantValue := 0 }, { name := "GREATER", type := (.object "com/example/stylewright/stylewright/xpath/Comparison$Operator"), accessFlags := 16409, slot := 4, constantValue := 0 }, { name := "GREATER_OR_EQUAL", type := (.object "com/example/stylewright/stylewright/xpath/Comparison$Operator"), accessFlags := 16409, slot := 5, constantValue := 0 }, { name := "$VALUES", type := (.array (.object "com/example/stylewright/stylewright/xpath/Comparison$Operator")), accessFlags := 4122, slot := 6, constantValue := 0 }]
  methods := #[k6m0, k6m1, k6m2]
  instanceTypes := #[(.object "java/lang/String"), .int, .int]
  staticTypes := #[(.object "com/example/stylewright/stylewright/xpath/Comparison$Operator"), (.object "com/example/stylewright/stylewright/xpath/Comparison$Operator"), (.object "com/example/stylewright/stylewright/xpath/Comparison$Operator"), (.object "com/example/stylewright/stylewright/xpath/Comparison$Operator"), (.object "com/example/stylewright/stylewright/xpath/Comparison$Operator"), (.object "com/example/stylewright/stylewright/xpath/Comparison$Operator"), (.array (.object "com/example/stylewright/stylewright/xpath/Comparison$Operator"))]
  resolved := Array.replicate 107 none
  statics := some 0 }

def pool7 : Array CpInfo := pool [(1, u "java/lang/Cloneable"), (0, .class_ 1), (0, u "java/lang/Object"), (0, .class_ 3)] 3

/-- java/lang/Cloneable -/
def k7 : Class := { plain "java/lang/Cloneable" (some 0) with
  accessFlags := 1537
  interfaces := #[]
  cf := some (fileOf pool7 2 #[] #[] 1537 4 #[] #[])
  fields := #[]
  methods := #[]
  instanceTypes := #[]
  staticTypes := #[]
  resolved := Array.replicate 8 none
  statics := none }

/-- the primitive byte -/
def k8 : Class := { plain "byte" none with kind := .primitive 'B', accessFlags := 0x411 }
/-- [B -/
def k9 : Class := { plain "[B" (some 0) with kind := .array 8 .byte, interfaces := #[7, 4], accessFlags := 1041 }

/-- the primitive int -/
def k10 : Class := { plain "int" none with kind := .primitive 'I', accessFlags := 0x411 }
/-- [I -/
def k11 : Class := { plain "[I" (some 0) with kind := .array 10 .int, interfaces := #[7, 4], accessFlags := 1041 }

/-- [Lcom/example/stylewright/stylewright/xpath/Comparison$Operator; -/
def k12 : Class := { plain "[Lcom/example/stylewright/stylewright/xpath/Comparison$Operator;" (some 0) with kind := .array 6 (.object "com/example/stylewright/stylewright/xpath/Comparison$Operator"), interfaces := #[7, 4], accessFlags := 1041 }

def heap : Heap := #[{ cls := 6, slots := #[.ref 1, .ref 2, .ref 3, .ref 4, .ref 5, .ref 6, .null], vm := .statics 6 },
  { cls := 6, slots := #[.null, .int 0, .int 0], vm := .none },
  { cls := 6, slots := #[.null, .int 1, .int 0], vm := .none },
  { cls := 6, slots := #[.null, .int 2, .int 0], vm := .none },
  { cls := 6, slots := #[.null, .int 3, .int 0], vm := .none },
  { cls := 6, slots := #[.null, .int 4, .int 0], vm := .none },
  { cls := 6, slots := #[.null, .int 5, .int 0], vm := .none }]
def classes : Array Class := #[k0, k1, k2, k3, k4, k5, k6, k7, k8, k9, k10, k11, k12]
def interned : List (Array UInt16 × Addr) := []
def slotsUsed : Nat := 25
def theMethod : MethodId := ⟨1, 1⟩
def args0 : Array Value := #[.int 5]
def aboutOver (below : List Frame) : State where
  vm := { classes := classes, interned := interned.toArray }
  heap := heap
  slotsUsed := slotsUsed
  threads := #[{ frames := .invoking theMethod args0 :: below }]
def below0 : List Frame := [.native { method := ⟨0, 0⟩, args := #[] }]
def about1 : State := aboutOver below0
def p0 : Program := .bare "" "" ""
def e0 : Env := launch0.env 0 0 0
theorem w_frames : about1.frames = Frame.invoking theMethod args0 :: below0 := rfl
set_option maxRecDepth 65536 in
theorem w_args : argsFit about1.vm theMethod args0 = true := by decide +kernel
set_option maxRecDepth 65536 in
theorem w_heap : heapFits about1 = true := by decide +kernel
set_option maxRecDepth 65536 in
theorem w_runnable : about1.curStatus? = some .runnable := by decide +kernel
set_option maxRecDepth 65536 in
theorem w_alone : about1.alone = true := by decide +kernel
set_option maxRecDepth 65536 in
theorem w_named : about1.methodNamed? x = some theMethod := by decide +kernel
set_option maxRecDepth 65536 in
theorem w_hears : about1.hears theMethod below0 = true := by decide +kernel
set_option maxRecDepth 65536 in
theorem w_ripe : about1.ripe theMethod args0 below0 = true := by decide +kernel
theorem w_running : about1.status = .running := rfl
set_option maxRecDepth 65536 in
theorem w_room : about1.hasRoom e0.platform room_1 = true :=
  launch0.hasRoom_least _ room_1 (by decide +kernel) (by decide +kernel) (by decide +kernel) (by decide +kernel) (by decide +kernel) (by decide +kernel)
theorem allAtoms_all (ts : List Jvm.Cond) (a : Array Jvm.Value) (st : Jvm.State) : (allAtoms ts).before a st = ts.all (fun c => c.before a st) := by
  induction ts with
  | nil => rfl
  | cons c t ih =>
    show (Jvm.Cond.and c (allAtoms t)).before a st = _
    rw [Jvm.Cond.before_and, ih, List.all_cons]
def words1 : List Jvm.Cond := Jvm.Cond.code x code maxLocals ret :: tables_1
/-- a 'code' word, met by the world's own term for the bytes: nothing is compared byte by byte -/
theorem code_word {y : MethodName} {bytes : ByteArray} {mx : Nat} {rt : Option FieldType} {a : Array Value} {s : State} {m : MethodId} {meth : Method} {c : Code} (h1 : s.methodNamed? y = some m) (h2 : s.vm.method? m = some meth) (h3 : meth.code = some c) (h4 : c.code = bytes)
    (h5 : (c.maxLocals == mx && c.exceptionTable.isEmpty && decide (c.maxStack ≤ mostOperands) && decide (meth.sig.returnType = rt) && !meth.locks && decide (parseMethodDescriptor y.desc = some meth.sig)) = true) : (Jvm.Cond.code y bytes mx rt).before a s = true := by
  simp only [Bool.and_eq_true, beq_iff_eq, Bool.not_eq_true', decide_eq_true_eq] at h5
  obtain ⟨⟨⟨⟨⟨g1, g2⟩, g3⟩, g4⟩, g5⟩, g6⟩ := h5
  simp [Cond.before, Cond.holds, Cond.value, h1, h2, h3, h4, g1, g2, g3, g4, g5, g6]
def isCode : Jvm.Cond → Bool
  | .code _ _ _ _ => true
  | _ => false
theorem all_split {L : List Jvm.Cond} {P : Jvm.Cond → Bool} (h1 : L.all (fun c => isCode c || P c) = true) (h2 : ∀ c ∈ L.filter isCode, P c = true) : L.all P = true := by
  refine List.all_eq_true.mpr fun c hc => ?_
  have h := List.all_eq_true.mp h1 c hc
  rcases Bool.eq_false_or_eq_true (isCode c) with hi | hi
  · exact h2 c (List.mem_filter.mpr ⟨hc, hi⟩)
  · simpa [hi] using h
set_option maxRecDepth 65536 in
theorem w_c0 : (Jvm.Cond.code x code maxLocals ret).before args0 about1 = true := code_word (m := ⟨1, 1⟩) (meth := k1m1) (c := k1c1) (by decide +kernel) rfl rfl rfl (by decide +kernel)
set_option maxRecDepth 65536 in
theorem w_c1 : (Jvm.Cond.code ({ cls := "com/example/stylewright/stylewright/xpath/Comparison$Operator", name := "isEquality", desc := "()Z" } : Jvm.MethodName) prog_67_method_4_code (1 : Nat) (Option.some Jvm.ClassFile.FieldType.boolean)).before args0 about1 = true := code_word (m := ⟨6, 0⟩) (meth := k6m0) (c := k6c0) (by decide +kernel) rfl rfl rfl (by decide +kernel)
set_option maxRecDepth 65536 in
theorem w_c2 : (Jvm.Cond.code ({ cls := "com/example/stylewright/stylewright/xpath/Comparison$Operator", name := "test", desc := "(DD)Z" } : Jvm.MethodName) prog_67_method_6_code (6 : Nat) (Option.some Jvm.ClassFile.FieldType.boolean)).before args0 about1 = true := code_word (m := ⟨6, 2⟩) (meth := k6m2) (c := k6c2) (by decide +kernel) rfl rfl rfl (by decide +kernel)
set_option maxRecDepth 65536 in
theorem w_c3 : (Jvm.Cond.code ({ cls := "java/lang/Enum", name := "ordinal", desc := "()I" } : Jvm.MethodName) jdk_37_method_2_code (1 : Nat) (Option.some Jvm.ClassFile.FieldType.int)).before args0 about1 = true := code_word (m := ⟨5, 0⟩) (meth := k5m0) (c := k5c0) (by decide +kernel) rfl rfl rfl (by decide +kernel)
set_option maxRecDepth 65536 in
theorem w_c4 : (Jvm.Cond.code ({ cls := "com/example/stylewright/stylewright/xpath/Comparison$Operator", name := "swapped", desc := "()Lcom/example/stylewright/stylewright/xpath/Comparison$Operator;" } : Jvm.MethodName) prog_67_method_5_code (2 : Nat) (Option.some (Jvm.ClassFile.FieldType.object "com/example/stylewright/stylewright/xpath/Comparison$Operator"))).before args0 about1 = true := code_word (m := ⟨6, 1⟩) (meth := k6m1) (c := k6c1) (by decide +kernel) rfl rfl rfl (by decide +kernel)
def codes1 : List Jvm.Cond := [Jvm.Cond.code x code maxLocals ret, Jvm.Cond.code ({ cls := "com/example/stylewright/stylewright/xpath/Comparison$Operator", name := "isEquality", desc := "()Z" } : Jvm.MethodName) prog_67_method_4_code (1 : Nat) (Option.some Jvm.ClassFile.FieldType.boolean), Jvm.Cond.code ({ cls := "com/example/stylewright/stylewright/xpath/Comparison$Operator", name := "test", desc := "(DD)Z" } : Jvm.MethodName) prog_67_method_6_code (6 : Nat) (Option.some Jvm.ClassFile.FieldType.boolean), Jvm.Cond.code ({ cls := "java/lang/Enum", name := "ordinal", desc := "()I" } : Jvm.MethodName) jdk_37_method_2_code (1 : Nat) (Option.some Jvm.ClassFile.FieldType.int), Jvm.Cond.code ({ cls := "com/example/stylewright/stylewright/xpath/Comparison$Operator", name := "swapped", desc := "()Lcom/example/stylewright/stylewright/xpath/Comparison$Operator;" } : Jvm.MethodName) prog_67_method_5_code (2 : Nat) (Option.some (Jvm.ClassFile.FieldType.object "com/example/stylewright/stylewright/xpath/Comparison$Operator"))]
set_option maxRecDepth 65536 in
theorem codes_eq : words1.filter isCode = codes1 := rfl
theorem w_codes : ∀ c ∈ words1.filter isCode, c.before args0 about1 = true := by
  rw [codes_eq]
  intro c hc
  simp only [codes1, List.mem_cons, List.not_mem_nil, or_false] at hc
  rcases hc with rfl | rfl | rfl | rfl | rfl
  · exact w_c0
  · exact w_c1
  · exact w_c2
  · exact w_c3
  · exact w_c4
set_option maxRecDepth 65536 in
theorem w_t1 : (words1.take 24).all (fun c => isCode c || c.before args0 about1) = true := by decide +kernel
set_option maxRecDepth 65536 in
theorem w_t2 : ((words1.drop 24).take 24).all (fun c => isCode c || c.before args0 about1) = true := by decide +kernel
set_option maxRecDepth 65536 in
theorem w_t3 : ((words1.drop 24).drop 24).all (fun c => isCode c || c.before args0 about1) = true := by decide +kernel
theorem w_tables : (allAtoms (Jvm.Cond.code x code maxLocals ret :: tables_1)).before args0 about1 = true := by
  rw [allAtoms_all]
  show words1.all (fun c => c.before args0 about1) = true
  refine all_split ?_ w_codes
  rw [← List.take_append_drop 24 words1, List.all_append, w_t1, ← List.take_append_drop 24 (words1.drop 24), List.all_append, w_t2, w_t3]
  rfl
set_option maxRecDepth 65536 in
theorem w_case : (Jvm.Cond.and given_1 narrow_1).before args0 about1 = true := by decide +kernel
theorem w_applies : (headSpec (Jvm.Cond.code x code maxLocals ret :: tables_1) room_1).applies x e0.platform about1 = true :=
  (Spec.applies_iff w_frames).mpr ⟨w_running, w_runnable, w_alone, w_named, w_hears, w_ripe, w_room, w_tables⟩
theorem atStart : AtStart classFile x code maxLocals ret World_1 tables_1 room_1 Calls_1 rest_1 Pre_1 launch0 p0 e0 about1 theMethod args0 below0 :=
  ⟨lists_1, trivial, launch0.admits_env _ _ _, launch0.least_env, fairChoices_fair.cas, fairChoices_fair.clock, w_frames, w_args, w_heap, w_applies, trivial, trivial, w_case⟩
end start1
theorem witness_1 : WitnessClaimed_1 := ⟨start1.p0, start1.e0, start1.about1, start1.theMethod, start1.args0, start1.below0, start1.atStart⟩
end Jvm.Pilot.@@N@@
