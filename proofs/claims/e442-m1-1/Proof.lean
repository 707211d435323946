import JvmDerived
import JvmDerived.Pilot.@@N@@Statement
import JvmDerived.Pilot.@@N@@Code
set_option linter.unusedVariables false
set_option linter.unusedSimpArgs false
namespace Jvm.Pilot.@@N@@
open Jvm Jvm.ClassFile Sem Op Lib Jvm.Free Jvm.Stand Jvm.LawKit Jvm.RoadKit Bundle Jvm.Pilot.@@N@@.Jvm.D
/-! own layer: a walk in continuation style. own_Ends: from T with the frame g on top the run comes to an end of which G holds. -/
def own_Fin (below : List Frame) (s : State) (k n : Nat) (Q : Option Value → Heap → List Loc → Prop) (t : State) : Prop :=
  t.status = .running ∧ ∃ o, Ended t below o ∧ ∃ v L, o = .returned v ∧ Q v t.heap L ∧ FrameEnd s o t L k n
def own_Ends (p : Program) (e : Env) (below : List Frame) (G : State → Prop) (T : State) (g : JFrame) : Prop := ∃ t, Steps p.tables e below (T.setTop g) t ∧ G t
theorem own_via {p : Program} {e : Env} {below : List Frame} {G : State → Prop} {T T' : State} {g g' : JFrame} (h : ∀ t, Steps p.tables e below (T'.setTop g') t → Steps p.tables e below (T.setTop g) t) (k : own_Ends p e below G T' g') : own_Ends p e below G T g := by
  obtain ⟨t, a, b⟩ := k; exact ⟨t, h t a, b⟩
abbrev own_Con (l : Launch) (Z : State) (y : MethodName) (code : ByteArray) (ml : Nat) (ret : Option FieldType) (ws : List Jvm.Cond) (rm : Room) (as : Array Value) (h0 : Heap) (Q : Option Value → Heap → List Loc → Prop) : Prop :=
  MetFree l y (head1 (Jvm.Cond.code y code ml ret :: ws) rm) (fun a U => a = as ∧ Z.Warmed39 U.vm ∧ U.heap = h0) (fun _ _ _ _ _ => True) (fun _ U o U' => ∃ v L, o = .returned v ∧ Q v U'.heap L ∧ FrameEnd U o U' L rm.cells rm.slots)
theorem own_body {l : Launch} {Z : State} {y : MethodName} {code : ByteArray} {ml : Nat} {ret : Option FieldType} {ws : List Jvm.Cond} {rm : Room} {as : Array Value} {h0 : Heap} {Q : Option Value → Heap → List Loc → Prop} (hpl : plainFor y = true)
    (H : ∀ (p : Program) (e : Env) (s : State) (m : MethodId) (below : List Frame) (meth : Method) (c : Code) (T : State), p.tables.exec = Jvm.exec → c.code = code → c.maxLocals = ml → s.vm.findClass y.cls = some m.cls → meth.name = y.name → meth.sig.returnType = ret → meth.locks = false → Z.Warmed39 s.vm → Stand p l e rm s m as below meth c T [] 0 0 → T.heap = h0 → own_Ends p e below (own_Fin below s rm.cells rm.slots Q) T (entryFrame m as ml)) : own_Con l Z y code ml ret ws rm as h0 Q := by
  refine MetFree.of_bodySF hpl hisR ?_
  intro p e s m args below meth c s₁ Bd hml0 hP hK
  obtain ⟨rfl, hZ, hh⟩ := hP
  obtain ⟨t, h1, h2, o, h3, h4⟩ := H p e s m below meth c s₁ Bd.exec Bd.bytes hml0 (findClass_of_methodNamed Bd.named) (name_of_methodNamed Bd.named Bd.method).1 Bd.returns Bd.notSynchronized hZ (Stand.of_body Bd) (by rw [← hh, Bd.state]; rfl)
  exact ⟨t, o, h1, h2, h3, h4⟩
section OwnStand
variable {p : Program} {l : Launch} {e : Env} {R : Room} {s : State} {m : MethodId} {args : Array Value} {below : List Frame} {meth : Method} {c : Code} {T : State} {locs : List Loc} {cells slots : Nat} {Z : State} {a0 : Array Value} {h : Heap}
theorem own_leaf (X : Stand p l e R s m args below meth c T locs cells slots) (hlk : meth.locks = false) {v : Option Value} (hv : meth.sig.returnType = none → v = none) {g : JFrame} {k n : Nat} {Q : Option Value → Heap → List Loc → Prop}
    (hst : ∀ fs, (∀ (f : JFrame) (acts : List Action), f.method = m → f.locked = none → f.entered = [] → (doReturn e (T.setTop f) acts v).1 = T.setFrames fs) → Steps p.tables e below (T.setTop g) (T.setFrames fs))
    (hQ : Q v T.heap locs) (hk : cells ≤ k) (hn : slots ≤ n) : own_Ends p e below (own_Fin below s k n Q) T g := by
  obtain ⟨fs, hr, hrun, hended, hW, hsame⟩ := X.leave (v := v) hv hlk
  exact ⟨_, hst fs hr, hrun, _, hended, _, _, rfl, hQ, ⟨_, rfl⟩, hW, hsame.mono hk hn⟩
theorem own_retZ (X : Stand p l e R s m args below meth c T locs cells slots) (hx : p.tables.exec = Jvm.exec) (hret : meth.sig.returnType = some .boolean) (hlk : meth.locks = false) {pc : Nat} {Ls : Array Slot} {z : Int32} {rest : List Value} (hd : decode c.code pc = .ok (.ireturn, 1)) (hz : nar .boolean z = z) {k n : Nat} {Q : Option Value → Heap → List Loc → Prop}
    (hQ : Q (some (.int z)) T.heap locs) (hk : cells ≤ k) (hn : slots ≤ n) : own_Ends p e below (own_Fin below s k n Q) T (mkF m pc Ls (.int z :: rest)) :=
  own_leaf X hlk (fun h => by rw [hret] at h; cases h) (fun fs hl => retN X hx hret (by simp) hd (by rw [hz]; exact hl)) hQ hk hn
theorem own_retI (X : Stand p l e R s m args below meth c T locs cells slots) (hx : p.tables.exec = Jvm.exec) (hret : meth.sig.returnType = some .int) (hlk : meth.locks = false) {pc : Nat} {Ls : Array Slot} {z : Int32} {rest : List Value} (hd : decode c.code pc = .ok (.ireturn, 1)) {k n : Nat} {Q : Option Value → Heap → List Loc → Prop}
    (hQ : Q (some (.int z)) T.heap locs) (hk : cells ≤ k) (hn : slots ≤ n) : own_Ends p e below (own_Fin below s k n Q) T (mkF m pc Ls (.int z :: rest)) :=
  own_leaf X hlk (fun h => by rw [hret] at h; cases h) (fun fs hl => retOut X hx hret rfl (Or.inl ⟨rfl, Or.inl rfl, z, rfl⟩) hd hl) hQ hk hn
theorem own_retJ (X : Stand p l e R s m args below meth c T locs cells slots) (hx : p.tables.exec = Jvm.exec) (hret : meth.sig.returnType = some .long) (hlk : meth.locks = false) {pc : Nat} {Ls : Array Slot} {z : Int64} {rest : List Value} (hd : decode c.code pc = .ok (.lreturn, 1)) {k n : Nat} {Q : Option Value → Heap → List Loc → Prop}
    (hQ : Q (some (.long z)) T.heap locs) (hk : cells ≤ k) (hn : slots ≤ n) : own_Ends p e below (own_Fin below s k n Q) T (mkF m pc Ls (.long z :: rest)) :=
  own_leaf X hlk (fun h => by rw [hret] at h; cases h) (fun fs hl => retOut X hx hret rfl (Or.inr (Or.inl ⟨rfl, rfl, z, rfl⟩)) hd hl) hQ hk hn
theorem own_retA (X : Stand p l e R s m args below meth c T locs cells slots) (hx : p.tables.exec = Jvm.exec) {t : FieldType} (hret : meth.sig.returnType = some t) (ht : t.isReference = true) (hlk : meth.locks = false) {pc : Nat} {Ls : Array Slot} {z : Value} (hz : z.isRef = true) (hn' : narrow t z = z) {rest : List Value} (hd : decode c.code pc = .ok (.areturn, 1)) {k n : Nat} {Q : Option Value → Heap → List Loc → Prop}
    (hQ : Q (some z) T.heap locs) (hk : cells ≤ k) (hn : slots ≤ n) : own_Ends p e below (own_Fin below s k n Q) T (mkF m pc Ls (z :: rest)) :=
  own_leaf X hlk (fun h => by rw [hret] at h; cases h) (fun fs hl => retOut X hx hret hn' (Or.inr (Or.inr (Or.inr (Or.inr ⟨rfl, ht, hz⟩)))) hd hl) hQ hk hn
theorem own_retV (X : Stand p l e R s m args below meth c T locs cells slots) (hx : p.tables.exec = Jvm.exec) (hret : meth.sig.returnType = none) (hlk : meth.locks = false) {pc : Nat} {Ls : Array Slot} (hd : decode c.code pc = .ok (.return_, 1)) {k n : Nat} {Q : Option Value → Heap → List Loc → Prop}
    (hQ : Q none T.heap locs) (hk : cells ≤ k) (hn : slots ≤ n) : own_Ends p e below (own_Fin below s k n Q) T (mkF m pc Ls []) :=
  own_leaf X hlk (fun _ => rfl) (fun fs hl => X.returnOut hx hret hd hl) hQ hk hn
theorem own_callS (X : Stand p l e R s m args below meth c T locs cells slots) (hx : p.tables.exec = Jvm.exec) (hZ : Z.Warmed39 s.vm) {own : String} {index : Nat} {y : MethodName} {bytes : ByteArray} {ml : Nat} {ret : Option FieldType} {rm : Room} {Q : Option Value → Heap → List Loc → Prop} {W : Nat} (hown : s.vm.findClass own = some m.cls)
    (w1 : (Jvm.Cond.methodLink own index y).before a0 Z = true) (w2 : (Jvm.Cond.static y).before a0 Z = true) (w3 : (Jvm.Cond.initialized y.cls).before a0 Z = true) (w4 : (Jvm.Cond.code y bytes ml ret).before a0 Z = true) (hy : y.cls ≠ "java/lang/invoke/MethodHandle" ∧ y.cls ≠ "java/lang/invoke/VarHandle") {argsL rest : List Value}
    (hM : own_Con l Z y bytes ml ret [] rm argsL.toArray h Q) (hf : rm.frames + 1 ≤ R.frames) (hl : W + (ml + 11) + rm.locals ≤ R.locals) (hc : cells + rm.cells ≤ R.cells) (hn : slots + rm.slots ≤ R.slots) (eT : T.heap = h)
    {g : JFrame} (hg : g.method = m) (hsize : g.locals.size = c.maxLocals) (hlen : ∀ sig, parseMethodDescriptor y.desc = some sig → argsL.length = sig.parameters.length) (hstack : g.stack = argsL.reverse ++ rest) (hW : 2 * g.monitorRoom + (rest.map fun v => v.category).sum ≤ W) (hd : decode c.code g.pc = .ok (.invokestatic index, 3)) :
    ∃ v T' L, Stand p l e R s m args below meth c T' (locs ++ L) (cells + rm.cells) (slots + rm.slots) ∧ Q v T'.heap L ∧ ∀ t, Steps p.tables e below (T'.setTop { g with pc := g.pc + 3, stack := v.toList ++ rest }) t → Steps p.tables e below (T.setTop g) t := by
  obtain ⟨v, vm₁, ⟨T', L', k', n'⟩, -, X', ⟨L, hQ, e1, e2, e3⟩, st⟩ := Jvm.LawKit.callS X hx (y := y) hown (mvT hZ w1) (mvT hZ w2) (mvT hZ w3) (mvT hZ w4) hy (backOf (W := W) hM hZ w4 w3 hf hl) hg hsize (argsL := argsL) (rest := rest) hlen hstack hW hd (fun _ _ => ⟨rfl, eT, hc, hn⟩)
  dsimp only [Pt.U, Pt.locs, Pt.cells, Pt.slots] at X' e1 e2 e3 st hQ
  subst e1 e2 e3
  exact ⟨v, T', L, X', hQ, st⟩
theorem own_callV (X : Stand p l e R s m args below meth c T locs cells slots) (hx : p.tables.exec = Jvm.exec) (hZ : Z.Warmed39 s.vm) {own C : String} {index : Nat} {y z : MethodName} {bytes : ByteArray} {ml : Nat} {ret : Option FieldType} {rm : Room} {Q : Option Value → Heap → List Loc → Prop} {W : Nat} (hown : s.vm.findClass own = some m.cls)
    (w1 : (Jvm.Cond.methodLink own index y).before a0 Z = true) (w2 : (Jvm.Cond.declares y).before a0 Z = true) (nf : NotFace s y) (w3 : (Jvm.Cond.selects C y z).before a0 Z = true) (w4 : (Jvm.Cond.instanceMethod z).before a0 Z = true) (wz : (Jvm.Cond.initialized z.cls).before a0 Z = true) (wc : (Jvm.Cond.code z bytes ml ret).before a0 Z = true) (hy : y.cls ≠ "java/lang/invoke/MethodHandle" ∧ y.cls ≠ "java/lang/invoke/VarHandle") {b : Addr} {argsL rest : List Value}
    (hM : own_Con l Z z bytes ml ret [] rm (.ref b :: argsL).toArray h Q) (hf : rm.frames + 1 ≤ R.frames) (hl : W + (ml + 11) + rm.locals ≤ R.locals) (hc : cells + rm.cells ≤ R.cells) (hn : slots + rm.slots ≤ R.slots) (eT : T.heap = h) (E : Exa Z h b C)
    {g : JFrame} (hg : g.method = m) (hsize : g.locals.size = c.maxLocals) (hlen : ∀ sig, parseMethodDescriptor y.desc = some sig → argsL.length = sig.parameters.length) (hstack : g.stack = argsL.reverse ++ .ref b :: rest) (hW : 2 * g.monitorRoom + (rest.map fun v => v.category).sum ≤ W) (hd : decode c.code g.pc = .ok (.invokevirtual index, 3)) :
    ∃ v T' L, Stand p l e R s m args below meth c T' (locs ++ L) (cells + rm.cells) (slots + rm.slots) ∧ Q v T'.heap L ∧ ∀ t, Steps p.tables e below (T'.setTop { g with pc := g.pc + 3, stack := v.toList ++ rest }) t → Steps p.tables e below (T.setTop g) t := by
  obtain ⟨cq, kq, q1, q2, q3⟩ := isOf hZ eT E
  obtain ⟨v, vm₁, ⟨T', L', k', n'⟩, -, X', ⟨L, hQ, e1, e2, e3⟩, st⟩ := X.virtualBack hx (y := y) (z := z) hown (mvT hZ w1) (mvT hZ w2) nf (mvT hZ w3) (mvT hZ w4) hy (backOf (W := W) hM hZ wc wz hf hl) q1 q3 hg hsize (Steps.refl _) (argsL := argsL) (rest := rest) hlen hstack hW hd (fun _ _ => ⟨rfl, eT, hc, hn⟩)
  dsimp only [Pt.U, Pt.locs, Pt.cells, Pt.slots] at X' e1 e2 e3 st hQ
  subst e1 e2 e3
  exact ⟨v, T', L, X', hQ, fun t k => st.trans k⟩
theorem own_callI (X : Stand p l e R s m args below meth c T locs cells slots) (hx : p.tables.exec = Jvm.exec) (hZ : Z.Warmed39 s.vm) {own : String} {index : Nat} {y : MethodName} (hy1 : y.name = "<init>") {bytes : ByteArray} {ml : Nat} {rm : Room} {Q : Option Value → Heap → List Loc → Prop} {W : Nat} (hown : s.vm.findClass own = some m.cls)
    (w1 : (Jvm.Cond.methodLink own index y).before a0 Z = true) (w2 : (Jvm.Cond.instanceMethod y).before a0 Z = true) (wz : (Jvm.Cond.initialized y.cls).before a0 Z = true) (wc : (Jvm.Cond.code y bytes ml none).before a0 Z = true) (hy : y.cls ≠ "java/lang/invoke/MethodHandle" ∧ y.cls ≠ "java/lang/invoke/VarHandle") {b : Addr} {argsL rest : List Value}
    (hM : own_Con l Z y bytes ml none [] rm (.ref b :: argsL).toArray h Q) (hf : rm.frames + 1 ≤ R.frames) (hl : W + (ml + 11) + rm.locals ≤ R.locals) (hc : cells + rm.cells ≤ R.cells) (hn : slots + rm.slots ≤ R.slots) (eT : T.heap = h)
    {g : JFrame} (hg : g.method = m) (hsize : g.locals.size = c.maxLocals) (hlen : ∀ sig, parseMethodDescriptor y.desc = some sig → argsL.length = sig.parameters.length) (hstack : g.stack = argsL.reverse ++ .ref b :: rest) (hW : 2 * g.monitorRoom + (rest.map fun v => v.category).sum ≤ W) (hd : decode c.code g.pc = .ok (.invokespecial index, 3)) :
    ∃ v T' L, Stand p l e R s m args below meth c T' (locs ++ L) (cells + rm.cells) (slots + rm.slots) ∧ Q v T'.heap L ∧ ∀ t, Steps p.tables e below (T'.setTop { g with pc := g.pc + 3, stack := v.toList ++ rest }) t → Steps p.tables e below (T.setTop g) t := by
  obtain ⟨v, vm₁, ⟨T', L', k', n'⟩, -, X', ⟨L, hQ, e1, e2, e3⟩, st⟩ := X.specialBack hx (y := y) hy1 hown (mvT hZ w1) (mvT hZ w2) (mvT hZ wc) hy (backOf (W := W) hM hZ wc wz hf hl) hg hsize (Steps.refl _) (a := b) (argsL := argsL) (rest := rest) hlen hstack hW hd (fun _ _ => ⟨rfl, eT, hc, hn⟩)
  dsimp only [Pt.U, Pt.locs, Pt.cells, Pt.slots] at X' e1 e2 e3 st hQ
  subst e1 e2 e3
  exact ⟨v, T', L, X', hQ, fun t k => st.trans k⟩
theorem own_callU (X : Stand p l e R s m args below meth c T locs cells slots) (hx : p.tables.exec = Jvm.exec) (hZ : Z.Warmed39 s.vm) {own C owner : String} {index : Nat} {y z : MethodName} {bytes : ByteArray} {ml : Nat} {ret : Option FieldType} {rm : Room} {Q : Option Value → Heap → List Loc → Prop} {W : Nat} (hown : s.vm.findClass own = some m.cls)
    (w1 : (Jvm.Cond.methodLink own index y).before a0 Z = true) (w2 : (Jvm.Cond.sameMethod y.cls owner y.name y.desc).before a0 Z = true) (w2' : (Jvm.Cond.declares ⟨owner, y.name, y.desc⟩).before a0 Z = true) (w3 : (Jvm.Cond.selects C y z).before a0 Z = true) (w4 : (Jvm.Cond.instanceMethod z).before a0 Z = true) (wz : (Jvm.Cond.initialized z.cls).before a0 Z = true) (wc : (Jvm.Cond.code z bytes ml ret).before a0 Z = true) (hy : owner ≠ "java/lang/invoke/MethodHandle" ∧ owner ≠ "java/lang/invoke/VarHandle") {b : Addr} {argsL rest : List Value}
    (hM : own_Con l Z z bytes ml ret [] rm (.ref b :: argsL).toArray h Q) (hf : rm.frames + 1 ≤ R.frames) (hl : W + (ml + 11) + rm.locals ≤ R.locals) (hc : cells + rm.cells ≤ R.cells) (hn : slots + rm.slots ≤ R.slots) (eT : T.heap = h) (E : Exa Z h b C)
    {g : JFrame} (hg : g.method = m) (hsize : g.locals.size = c.maxLocals) (hlen : ∀ sig, parseMethodDescriptor y.desc = some sig → argsL.length = sig.parameters.length) (hstack : g.stack = argsL.reverse ++ .ref b :: rest) (hW : 2 * g.monitorRoom + (rest.map fun v => v.category).sum ≤ W) (hd : decode c.code g.pc = .ok (.invokevirtual index, 3)) :
    ∃ v T' L, Stand p l e R s m args below meth c T' (locs ++ L) (cells + rm.cells) (slots + rm.slots) ∧ Q v T'.heap L ∧ ∀ t, Steps p.tables e below (T'.setTop { g with pc := g.pc + 3, stack := v.toList ++ rest }) t → Steps p.tables e below (T.setTop g) t := by
  obtain ⟨cq, kq, q1, q2, q3⟩ := isOf hZ eT E
  obtain ⟨v, vm₁, ⟨T', L', k', n'⟩, -, X', ⟨L, hQ, e1, e2, e3⟩, st⟩ := X.virtualBackUp hx (x := y) (y := z) hown (mvT hZ w1) (mvT hZ w2) (mvT hZ w2') hy (mvT hZ w3) (mvT hZ w4) (backOf (W := W) hM hZ wc wz hf hl) q1 q3 hg hsize (Steps.refl _) (argsL := argsL) (rest := rest) hlen hstack hW hd (fun _ _ => ⟨rfl, eT, hc, hn⟩)
  dsimp only [Pt.U, Pt.locs, Pt.cells, Pt.slots] at X' e1 e2 e3 st hQ
  subst e1 e2 e3
  exact ⟨v, T', L, X', hQ, fun t k => st.trans k⟩
/-- a callee that writes nothing and makes nothing: it returns r -/
abbrev own_Pure (l : Launch) (Z : State) (y : MethodName) (code : ByteArray) (ml : Nat) (ret : Option FieldType) (ws : List Jvm.Cond) (rm : Room) (as : Array Value) (h0 : Heap) (r : Option Value) : Prop := own_Con l Z y code ml ret ws rm as h0 (fun v h L => v = r ∧ L = [] ∧ h = h0)
theorem own_pure {c0 : Code} {T' : State} {v r : Option Value} {L : List Loc} {kc ks : Nat} (X : Stand p l e R s m args below meth c0 T' (locs ++ L) (cells + kc) (slots + ks)) (h1 : kc = 0) (h2 : ks = 0) (hL : L = []) : Stand p l e R s m args below meth c0 T' locs cells slots := by
  subst h1 h2 hL; rw [List.append_nil] at X; exact X
end OwnStand
theorem own_stat {s : State} {args : Array Value} {C C' f d : String} (hx : (Jvm.Cond.exactly (.static C f d) C').value args s none s [] = some true) (wi : (Jvm.Cond.initialized C).before args s = true) (wl : (Jvm.Cond.laysStatic C f d).before args s = true) :
    ∃ x, (Term.static C f d).eval args s none [] s = some (.ref x) ∧ Sta s s.heap C f d (.ref x) ∧ Exa s s.heap x C' := by
  obtain ⟨x, ev⟩ := exa_v hx
  exact ⟨x, ev, Sta.start ev (Or.inr ⟨wi, wl⟩), Exa.start ev hx⟩
theorem own_ord {s : State} {args : Array Value} {t : Term} {x : Addr} {C n d : String} {k : Int32} (ev : t.eval args s none [] s = some (.ref x)) (hk : (Jvm.Cond.eq (.field t C n d) (.int k)).value args s none s [] = some true) : Fld s s.heap x C n d (.int k) := by
  refine Fld.start ((fld_at ev).symm.trans ?_)
  obtain ⟨u, v, h1, h2, -, h4⟩ := cmp_v (Or.inl hk)
  obtain rfl : v = .int k := (Option.some.inj ((Term.int_eval k).symm.trans h2)).symm
  obtain ⟨z, rfl⟩ := h4
  simp [Cond.value, h1, h2] at hk
  subst hk
  exact h1
theorem own_ne {x y : Nat} (h : x < y ∨ y < x) : x ≠ y := by omega
theorem own_nat {y : Int32} {c : Nat} (h0 : 0 ≤ y.toInt) (h1 : y.toInt < c) : ∃ n : Nat, n < c ∧ y = Int32.ofNat n := by
  have := y.toInt_lt
  exact ⟨y.toInt.toNat, by omega, Int32.toInt_inj.mp (by rw [toInt_of (c := y.toInt.toNat) rfl (by omega)]; omega)⟩
theorem own_ofNat {n : Nat} (h : n < 2 ^ 31) : (Int32.ofNat n).toInt = n := toInt_of rfl h
/-! own layer: arrays by their length and a function of the place -/
def own_Ar (Z : State) (h : Heap) (a : Addr) (ty : FieldType) (n : Nat) (f : Nat → Value) : Prop := ∃ c : Cell, Arr Z h a c ty ∧ c.slots.size = n ∧ n < 2 ^ 31 ∧ ∀ i, i < n → c.slots[i]? = some (f i)
def own_up (f : Nat → Value) (i : Nat) (v : Value) : Nat → Value := fun k => if k = i then v else f k
section OwnArr
variable {p : Program} {l : Launch} {e : Env} {R : Room} {s : State} {m : MethodId} {args : Array Value} {below : List Frame} {meth : Method} {c : Code} {T : State} {locs : List Loc} {cells slots : Nat} {Z : State} {a0 : Array Value} {h h' : Heap} {a b : Addr} {ty : FieldType} {n i : Nat} {f f' : Nat → Value} {v : Value} {sl : Nat} {ws : List Addr} {j : Int32}
theorem own_Ar.lt (A : own_Ar Z h a ty n f) : a < h.size := by obtain ⟨c, A, -⟩ := A; exact A.lt
theorem own_Ar.ext (A : own_Ar Z h a ty n f) (E : Ext h h') : own_Ar Z h' a ty n f := by obtain ⟨c, A, r⟩ := A; exact ⟨c, A.ext E, r⟩
theorem own_Ar.other (A : own_Ar Z h b ty n f) (W : Wr h h' a sl v) (q : b ≠ a) : own_Ar Z h' b ty n f := by obtain ⟨c, A, r⟩ := A; exact ⟨c, A.other W q, r⟩
theorem own_Ar.keep (A : own_Ar Z h a ty n f) (K : Keep h h' ws) (q : a ∉ ws) : own_Ar Z h' a ty n f := by obtain ⟨c, A, r⟩ := A; exact ⟨c, ⟨K.2.1 a c A.1 q, A.2⟩, r⟩
theorem own_Ar.congr (A : own_Ar Z h a ty n f) (q : ∀ i, i < n → f i = f' i) : own_Ar Z h a ty n f' := by obtain ⟨c, A, r1, r2, r3⟩ := A; exact ⟨c, A, r1, r2, fun i hi => by rw [← q i hi]; exact r3 i hi⟩
theorem own_Ar.set (A : own_Ar Z h a ty n f) (W : Wr h h' a i v) : own_Ar Z h' a ty n (own_up f i v) := by
  obtain ⟨c, A, r1, r2, r3⟩ := A
  refine ⟨_, A.same W, by rw [sz_set]; exact r1, r2, fun k hk => ?_⟩
  by_cases q : k = i
  · subst q; simp [Cell.setSlot, own_up, r1, hk]
  · rw [show (c.setSlot i v).slots[k]? = c.slots[k]? from Array.getElem?_setIfInBounds_ne (Ne.symm q), r3 k hk]; simp [own_up, q]
theorem own_Ar.read (A : own_Ar Z h a ty n f) (hj : j = Int32.ofNat i) (hi : i < n) : ∃ c : Cell, Arr Z h a c ty ∧ ¬ (j < 0 ∨ c.slots.size ≤ j.toNatClampNeg) ∧ c.slots[j.toNatClampNeg]? = some (f i) ∧ j.toNatClampNeg = i := by
  obtain ⟨c, A, r1, r2, r3⟩ := A
  have q : j.toNatClampNeg = i := clamp_of hj (by omega)
  refine ⟨c, A, ?_, by rw [q]; exact r3 i hi, q⟩
  rw [r1]; exact within hj hi r2
theorem own_iaload (X : Stand p l e R s m args below meth c T locs cells slots) (hx : p.tables.exec = Jvm.exec) (hZ : Z.Warmed39 s.vm) (eT : T.heap = h) (A : own_Ar Z h a .int n f) (hj : j = Int32.ofNat i) (hi : i < n) {g : JFrame} (hg : g.method = m) {rest : List Value} (hs : g.stack = .int j :: .ref a :: rest) (hd : decode c.code g.pc = .ok (.iaload, 1)) :
    ∀ t, Steps p.tables e below (T.setTop { g with pc := g.pc + 1, stack := f i :: rest }) t → Steps p.tables e below (T.setTop g) t := fun t k => by
  obtain ⟨cl, A, hin, hat, -⟩ := A.read hj hi
  exact X.iaload hx (by rw [eT]; exact A.1) (State.isArrayOf_alike hZ.alike A.2.1) A.2.2 hin hat hg hs hd t k
theorem own_laload (X : Stand p l e R s m args below meth c T locs cells slots) (hx : p.tables.exec = Jvm.exec) (hZ : Z.Warmed39 s.vm) (eT : T.heap = h) (A : own_Ar Z h a .long n f) (hj : j = Int32.ofNat i) (hi : i < n) {g : JFrame} (hg : g.method = m) {rest : List Value} (hs : g.stack = .int j :: .ref a :: rest) (hd : decode c.code g.pc = .ok (.laload, 1)) :
    ∀ t, Steps p.tables e below (T.setTop { g with pc := g.pc + 1, stack := f i :: rest }) t → Steps p.tables e below (T.setTop g) t := fun t k => by
  obtain ⟨cl, A, hin, hat, -⟩ := A.read hj hi
  exact X.laload hx (by rw [eT]; exact A.1) (State.isArrayOf_alike hZ.alike A.2.1) A.2.2 hin hat hg hs hd t k
theorem own_baloadB (X : Stand p l e R s m args below meth c T locs cells slots) (hx : p.tables.exec = Jvm.exec) (hZ : Z.Warmed39 s.vm) (eT : T.heap = h) (A : own_Ar Z h a .byte n f) (hj : j = Int32.ofNat i) (hi : i < n) {g : JFrame} (hg : g.method = m) {rest : List Value} (hs : g.stack = .int j :: .ref a :: rest) (hd : decode c.code g.pc = .ok (.baload, 1)) :
    ∀ t, Steps p.tables e below (T.setTop { g with pc := g.pc + 1, stack := f i :: rest }) t → Steps p.tables e below (T.setTop g) t := fun t k => by
  obtain ⟨cl, A, hin, hat, -⟩ := A.read hj hi
  exact X.baloadBytes hx (by rw [eT]; exact A.1) (State.isArrayOf_alike hZ.alike A.2.1) A.2.2 hin hat hg hs hd t k
theorem own_baloadZ (X : Stand p l e R s m args below meth c T locs cells slots) (hx : p.tables.exec = Jvm.exec) (hZ : Z.Warmed39 s.vm) (eT : T.heap = h) (A : own_Ar Z h a .boolean n f) (hj : j = Int32.ofNat i) (hi : i < n) {g : JFrame} (hg : g.method = m) {rest : List Value} (hs : g.stack = .int j :: .ref a :: rest) (hd : decode c.code g.pc = .ok (.baload, 1)) :
    ∀ t, Steps p.tables e below (T.setTop { g with pc := g.pc + 1, stack := f i :: rest }) t → Steps p.tables e below (T.setTop g) t := fun t k => by
  obtain ⟨cl, A, hin, hat, -⟩ := A.read hj hi
  exact X.baloadBooleans hx (by rw [eT]; exact A.1) (State.isArrayOf_alike hZ.alike A.2.1) A.2.2 hin hat hg hs hd t k
theorem own_aaload (X : Stand p l e R s m args below meth c T locs cells slots) (hx : p.tables.exec = Jvm.exec) (hZ : Z.Warmed39 s.vm) (eT : T.heap = h) (A : own_Ar Z h a ty n f) (hty : ty.isReference = true) (hj : j = Int32.ofNat i) (hi : i < n) {g : JFrame} (hg : g.method = m) {rest : List Value} (hs : g.stack = .int j :: .ref a :: rest) (hd : decode c.code g.pc = .ok (.aaload, 1)) :
    ∀ t, Steps p.tables e below (T.setTop { g with pc := g.pc + 1, stack := f i :: rest }) t → Steps p.tables e below (T.setTop g) t := fun t k => by
  obtain ⟨cl, A, hin, hat, -⟩ := A.read hj hi
  exact X.aaload hx (by rw [eT]; exact A.1) (State.isArrayOf_alike hZ.alike A.2.1) hty A.2.2 hin hat hg hs hd t k
theorem own_alen (X : Stand p l e R s m args below meth c T locs cells slots) (hx : p.tables.exec = Jvm.exec) (hZ : Z.Warmed39 s.vm) (eT : T.heap = h) (A : own_Ar Z h a ty n f) {g : JFrame} (hg : g.method = m) {rest : List Value} (hs : g.stack = .ref a :: rest) (hd : decode c.code g.pc = .ok (.arraylength, 1)) :
    ∀ t, Steps p.tables e below (T.setTop { g with pc := g.pc + 1, stack := .int (Int32.ofNat n) :: rest }) t → Steps p.tables e below (T.setTop g) t := fun t k => by
  obtain ⟨cl, A, r1, -, -⟩ := A
  subst r1
  exact X.arraylength hx (by rw [eT]; exact A.1) (State.isArrayOf_alike hZ.alike A.2.1) hg hs hd t k
theorem own_iastore (X : Stand p l e R s m args below meth c T locs cells slots) (hx : p.tables.exec = Jvm.exec) (hZ : Z.Warmed39 s.vm) (eT : T.heap = h) (A : own_Ar Z h a .int n f) (hj : j = Int32.ofNat i) (hi : i < n) {x : Int32} {g : JFrame} (hg : g.method = m) {rest : List Value} (hs : g.stack = .int x :: .int j :: .ref a :: rest) (hd : decode c.code g.pc = .ok (.iastore, 1)) :
    ∃ T' h', Stand p l e R s m args below meth c T' (locs ++ [⟨a, i⟩]) cells slots ∧ T'.heap = h' ∧ Wr h h' a i (.int x) ∧ own_Ar Z h' a .int n (own_up f i (.int x)) ∧ ∀ t, Steps p.tables e below (T'.setTop { g with pc := g.pc + 1, stack := rest }) t → Steps p.tables e below (T.setTop g) t := by
  obtain ⟨cl, A', hin, -, q⟩ := A.read hj hi
  obtain ⟨T', h', X', e', W, st⟩ := stI X hx hZ eT A' hin hg hs hd
  rw [q] at X' W
  exact ⟨T', h', X', e', W, A.set W, st⟩
theorem own_lastore (X : Stand p l e R s m args below meth c T locs cells slots) (hx : p.tables.exec = Jvm.exec) (hZ : Z.Warmed39 s.vm) (eT : T.heap = h) (A : own_Ar Z h a .long n f) (hj : j = Int32.ofNat i) (hi : i < n) {x : Int64} {g : JFrame} (hg : g.method = m) {rest : List Value} (hs : g.stack = .long x :: .int j :: .ref a :: rest) (hd : decode c.code g.pc = .ok (.lastore, 1)) :
    ∃ T' h', Stand p l e R s m args below meth c T' (locs ++ [⟨a, i⟩]) cells slots ∧ T'.heap = h' ∧ Wr h h' a i (.long x) ∧ own_Ar Z h' a .long n (own_up f i (.long x)) ∧ ∀ t, Steps p.tables e below (T'.setTop { g with pc := g.pc + 1, stack := rest }) t → Steps p.tables e below (T.setTop g) t := by
  obtain ⟨cl, A', hin, -, q⟩ := A.read hj hi
  obtain ⟨T', h', X', e', W, st⟩ := stJ X hx hZ eT A' hin hg hs hd
  rw [q] at X' W
  exact ⟨T', h', X', e', W, A.set W, st⟩
theorem own_bastoreB (X : Stand p l e R s m args below meth c T locs cells slots) (hx : p.tables.exec = Jvm.exec) (hZ : Z.Warmed39 s.vm) (eT : T.heap = h) (A : own_Ar Z h a .byte n f) (hj : j = Int32.ofNat i) (hi : i < n) {x r : Int32} (hr : nar .byte x = r) {g : JFrame} (hg : g.method = m) {rest : List Value} (hs : g.stack = .int x :: .int j :: .ref a :: rest) (hd : decode c.code g.pc = .ok (.bastore, 1)) :
    ∃ T' h', Stand p l e R s m args below meth c T' (locs ++ [⟨a, i⟩]) cells slots ∧ T'.heap = h' ∧ Wr h h' a i (.int r) ∧ own_Ar Z h' a .byte n (own_up f i (.int r)) ∧ ∀ t, Steps p.tables e below (T'.setTop { g with pc := g.pc + 1, stack := rest }) t → Steps p.tables e below (T.setTop g) t := by
  obtain ⟨cl, A', hin, -, q⟩ := A.read hj hi
  obtain ⟨T', h', X', e', W, st⟩ := stB X hx hZ eT A' hin hg hs hd
  rw [q] at X' W; rw [hr] at W
  exact ⟨T', h', X', e', W, A.set W, st⟩
theorem own_bastoreZ (X : Stand p l e R s m args below meth c T locs cells slots) (hx : p.tables.exec = Jvm.exec) (hZ : Z.Warmed39 s.vm) (eT : T.heap = h) (A : own_Ar Z h a .boolean n f) (hj : j = Int32.ofNat i) (hi : i < n) {x r : Int32} (hr : nar .boolean x = r) {g : JFrame} (hg : g.method = m) {rest : List Value} (hs : g.stack = .int x :: .int j :: .ref a :: rest) (hd : decode c.code g.pc = .ok (.bastore, 1)) :
    ∃ T' h', Stand p l e R s m args below meth c T' (locs ++ [⟨a, i⟩]) cells slots ∧ T'.heap = h' ∧ Wr h h' a i (.int r) ∧ own_Ar Z h' a .boolean n (own_up f i (.int r)) ∧ ∀ t, Steps p.tables e below (T'.setTop { g with pc := g.pc + 1, stack := rest }) t → Steps p.tables e below (T.setTop g) t := by
  obtain ⟨cl, A', hin, -, q⟩ := A.read hj hi
  obtain ⟨T', h', X', e', W, st⟩ := stZ X hx hZ eT A' hin hg hs hd
  rw [q] at X' W; rw [hr] at W
  exact ⟨T', h', X', e', W, A.set W, st⟩
/-- a fresh array of n places -/
theorem own_newarr (X : Stand p l e R s m args below meth c T locs cells slots) (hx : p.tables.exec = Jvm.exec) (hZ : Z.Warmed39 s.vm) {aty : ArrayType} (w : (Jvm.Cond.arrayClass (newarray.typeOf aty)).before a0 Z = true) (eT : T.heap = h) {g : JFrame} (hg : g.method = m) (hd : decode c.code g.pc = .ok (.newarray aty, 2)) (hj : j = Int32.ofNat n) (hn : n * 8 ≤ 536870912) {rest : List Value} (hs : g.stack = .int j :: rest) (hc : cells + 1 ≤ R.cells) (hl : slots + n ≤ R.slots) :
    ∃ T' h' b, b = h.size ∧ Stand p l e R s m args below meth c T' locs (cells + 1) (slots + n) ∧ T'.heap = h' ∧ Ext h h' ∧ own_Ar Z h' b (newarray.typeOf aty) n (fun _ => defaultValue (newarray.typeOf aty)) ∧ ∀ t, Steps p.tables e below (T'.setTop { g with pc := g.pc + 2, stack := .ref b :: rest }) t → Steps p.tables e below (T.setTop g) t := by
  have q : j.toNatClampNeg = n := clamp_of hj (by omega)
  have q0 : ¬ j < 0 := by rw [Int32.lt_iff_toInt_lt, toInt_of hj (by omega)]; show ¬ (n : Int) < 0; omega
  obtain ⟨T', h', k, X', e', E, A, st⟩ := newP X hx hZ w eT hg hd hs q0 (cap := n) (Nat.le_of_eq q) hn hc hl
  refine ⟨T', h', _, rfl, X', e', E, ⟨_, A, by rw [sz_new]; exact q, by omega, fun i hi => ?_⟩, st⟩
  simp [newA, q, hi]
/-- an array whose components may be of the class C -/
def own_Ov (Z : State) (h : Heap) (a : Addr) (C : String) : Prop := ∃ cell : Cell, h[a]? = some cell ∧ Ovr Z cell.cls C
theorem own_Ov.ext {C : String} (O : own_Ov Z h a C) (E : Ext h h') : own_Ov Z h' a C := by obtain ⟨c, h1, h2⟩ := O; exact ⟨c, E.2 _ _ h1, h2⟩
theorem own_Ov.wr {C : String} (O : own_Ov Z h a C) (W : Wr h h' b sl v) : own_Ov Z h' a C := by
  obtain ⟨c, h1, h2⟩ := O
  obtain ⟨c', q1, q2, -⟩ := wr_at W h1
  exact ⟨c', q1, by rw [q2]; exact h2⟩
theorem own_Ov.keep {C : String} (O : own_Ov Z h a C) (K : Keep h h' ws) : own_Ov Z h' a C := by
  obtain ⟨c, h1, h2⟩ := O
  obtain ⟨c', q1, q2, -⟩ := K.2.2 a c h1
  exact ⟨c', q1, by rw [q2]; exact h2⟩
theorem own_sto {C : String} {y : Addr} (A : own_Ar Z h a ty n f) (O : own_Ov Z h a C) (I : Ins Z h y C true) : Sto Z h a (.ref y) := by
  obtain ⟨c, A, -⟩ := A
  obtain ⟨c', h1, h2⟩ := O
  cases A.1.symm.trans h1
  exact Sto.of A h2 I
theorem own_aastore (X : Stand p l e R s m args below meth c T locs cells slots) (hx : p.tables.exec = Jvm.exec) (hZ : Z.Warmed39 s.vm) (eT : T.heap = h) (A : own_Ar Z h a ty n f) (hj : j = Int32.ofNat i) (hi : i < n) (hty : ty.isReference = true) (S : Sto Z h a v) {g : JFrame} (hg : g.method = m) {rest : List Value} (hs : g.stack = v :: .int j :: .ref a :: rest) (hd : decode c.code g.pc = .ok (.aastore, 1)) :
    ∃ T' h', Stand p l e R s m args below meth c T' (locs ++ [⟨a, i⟩]) cells slots ∧ T'.heap = h' ∧ Wr h h' a i v ∧ own_Ar Z h' a ty n (own_up f i v) ∧ ∀ t, Steps p.tables e below (T'.setTop { g with pc := g.pc + 1, stack := rest }) t → Steps p.tables e below (T.setTop g) t := by
  obtain ⟨cl, A', hin, -, q⟩ := A.read hj hi
  obtain ⟨T', h', X', e', W, st⟩ := stR X hx hZ eT A' hin hty S hg hs hd
  rw [q] at X' W
  exact ⟨T', h', X', e', W, A.set W, st⟩
theorem own_newref (X : Stand p l e R s m args below meth c T locs cells slots) (hx : p.tables.exec = Jvm.exec) (hZ : Z.Warmed39 s.vm) {own C : String} {index : Nat} (hown : s.vm.findClass own = some m.cls) (w1 : (Jvm.Cond.classLink own index C).before a0 Z = true) (w2 : (Jvm.Cond.arrayOver (.object C)).before a0 Z = true) (eT : T.heap = h) {g : JFrame} (hg : g.method = m) (hd : decode c.code g.pc = .ok (.anewarray index, 3)) (hj : j = Int32.ofNat n) (hn : n * 8 ≤ 536870912) {rest : List Value} (hs : g.stack = .int j :: rest) (hc : cells + 1 ≤ R.cells) (hl : slots + n ≤ R.slots) :
    ∃ T' h' b, b = h.size ∧ Stand p l e R s m args below meth c T' locs (cells + 1) (slots + n) ∧ T'.heap = h' ∧ Ext h h' ∧ own_Ar Z h' b (.object C) n (fun _ => .null) ∧ own_Ov Z h' b C ∧ ∀ t, Steps p.tables e below (T'.setTop { g with pc := g.pc + 3, stack := .ref b :: rest }) t → Steps p.tables e below (T.setTop g) t := by
  have q : j.toNatClampNeg = n := clamp_of hj (by omega)
  have q0 : ¬ j < 0 := by rw [Int32.lt_iff_toInt_lt, toInt_of hj (by omega)]; show ¬ (n : Int) < 0; omega
  obtain ⟨T', h', k, X', e', E, A, O, st⟩ := newR X hx hZ hown w1 w2 eT hg hd hs q0 (cap := n) (Nat.le_of_eq q) hn hc hl
  refine ⟨T', h', _, rfl, X', e', E, ⟨_, A, by rw [sz_new]; exact q, by omega, fun i hi => ?_⟩, ⟨_, A.1, O⟩, st⟩
  simp [newA, q, hi, defaultValue]
end OwnArr
section OwnClone
variable {p : Program} {l : Launch} {e : Env} {R : Room} {s : State} {m : MethodId} {args : Array Value} {below : List Frame} {meth : Method} {c : Code} {T : State} {locs : List Loc} {cells slots : Nat} {Z : State} {a0 : Array Value} {h h' : Heap} {a b : Addr} {ty : FieldType} {n i : Nat} {f f' : Nat → Value} {v : Value} {sl : Nat} {ws : List Addr} {j : Int32}
/-- a fresh array with its class -/
theorem own_newarrE (X : Stand p l e R s m args below meth c T locs cells slots) (hx : p.tables.exec = Jvm.exec) (hZ : Z.Warmed39 s.vm) {aty : ArrayType} (w : (Jvm.Cond.arrayClass (newarray.typeOf aty)).before a0 Z = true) (eT : T.heap = h) {g : JFrame} (hg : g.method = m) (hd : decode c.code g.pc = .ok (.newarray aty, 2)) (hj : j = Int32.ofNat n) (hn : n * 8 ≤ 536870912) {rest : List Value} (hs : g.stack = .int j :: rest) (hc : cells + 1 ≤ R.cells) (hl : slots + n ≤ R.slots) {ad : String} (had : "[" ++ (newarray.typeOf aty).toString = ad) :
    ∃ T' h' b, b = h.size ∧ Stand p l e R s m args below meth c T' locs (cells + 1) (slots + n) ∧ T'.heap = h' ∧ Ext h h' ∧ own_Ar Z h' b (newarray.typeOf aty) n (fun _ => defaultValue (newarray.typeOf aty)) ∧ Exa Z h' b ad ∧ ∀ t, Steps p.tables e below (T'.setTop { g with pc := g.pc + 2, stack := .ref b :: rest }) t → Steps p.tables e below (T.setTop g) t := by
  have q : j.toNatClampNeg = n := clamp_of hj (by omega)
  have q0 : ¬ j < 0 := by rw [Int32.lt_iff_toInt_lt, toInt_of hj (by omega)]; show ¬ (n : Int) < 0; omega
  obtain ⟨T', h', k, X', e', E, A, Ex, st⟩ := newPE X hx hZ w eT hg hd hs q0 (cap := n) (Nat.le_of_eq q) hn hc hl had
  refine ⟨T', h', _, rfl, X', e', E, ⟨_, A, by rw [sz_new]; exact q, by omega, fun i hi => ?_⟩, Ex, st⟩
  simp [newA, q, hi]
/-- an array's clone() -/
theorem own_clone (X : Stand p l e R s m args below meth c T locs cells slots) (hx : p.tables.exec = Jvm.exec) (hZ : Z.Warmed39 s.vm) {own ad : String} {index : Nat} (hown : s.vm.findClass own = some m.cls)
    (w1 : (Jvm.Cond.methodLink own index ⟨ad, "clone", "()Ljava/lang/Object;"⟩).before a0 Z = true) (w2 : (Jvm.Cond.sameMethod ad "java/lang/Object" "clone" "()Ljava/lang/Object;").before a0 Z = true) (w3 : (Jvm.Cond.native ⟨"java/lang/Object", "clone", "()Ljava/lang/Object;"⟩).before a0 Z = true)
    (w4 : (Jvm.Cond.instanceMethod ⟨"java/lang/Object", "clone", "()Ljava/lang/Object;"⟩).before a0 Z = true) (w5 : (Jvm.Cond.selects ad ⟨ad, "clone", "()Ljava/lang/Object;"⟩ ⟨"java/lang/Object", "clone", "()Ljava/lang/Object;"⟩).before a0 Z = true) (w6 : (Jvm.Cond.castable ad "java/lang/Cloneable").before a0 Z = true)
    (eT : T.heap = h) (A : own_Ar Z h a ty n f) (hfit : ∀ i, i < n → fits ty (f i) = true) (E : Exa Z h a ad) {g : JFrame} (hg : g.method = m) (hsize : g.locals.size = c.maxLocals) {rest : List Value} (hs : g.stack = .ref a :: rest) (hd : decode c.code g.pc = .ok (.invokevirtual index, 3))
    (hf : 1 ≤ R.frames) {W : Nat} (hW : 2 * g.monitorRoom + (rest.map fun v => v.category).sum ≤ W) (hl : W + 14 ≤ R.locals) (hc : cells + 1 ≤ R.cells) (hsl : slots + n ≤ R.slots) :
    ∃ T' h' b, b = h.size ∧ Stand p l e R s m args below meth c T' locs (cells + 1) (slots + n) ∧ T'.heap = h' ∧ Ext h h' ∧ own_Ar Z h' b ty n f ∧ Exa Z h' b ad ∧ ∀ t, Steps p.tables e below (T'.setTop { g with pc := g.pc + 3, stack := .ref b :: rest }) t → Steps p.tables e below (T.setTop g) t := by
  obtain ⟨cl, A, r1, r2, r3⟩ := A
  have F : FitC Z cl := fitC_of A fun i hi v hv => by rw [r3 i (r1 ▸ hi)] at hv; cases hv; exact hfit i (r1 ▸ hi)
  obtain ⟨T', h', X', e', ex, A', E', st⟩ := cloneA X hx hZ hown w1 w2 w3 w4 w5 w6 eT A E F hg hsize hs hd hf hW hl (cap := n) (Nat.le_of_eq r1) hc hsl
  exact ⟨T', h', _, rfl, X', e', ex, ⟨_, A', r1, r2, r3⟩, E', st⟩
end OwnClone

def own_nt (x : Int32) : Int32 := if x = 0 then 1 else 0
def own_z : Nat → Int32 := fun _ => 0
def own_nb (b : Nat → Int32) : Nat → Int32 := fun i => own_nt (b i)
def own_b3 (x y z : Int32) : Nat → Int32 := fun i => if i = 0 then x else if i = 1 then y else z
def own_bit (x : Int32) : Prop := x = 0 ∨ x = 1
theorem own_nt0 {x : Int32} (h : x = 0) : own_nt x = 1 := if_pos h
theorem own_nt1 {x : Int32} (h : ¬ x = 0) : own_nt x = 0 := if_neg h
theorem own_ntb (x : Int32) : own_bit (own_nt x) := by unfold own_nt; split; exact Or.inr rfl; exact Or.inl rfl
theorem own_ntnt {x : Int32} (h : own_bit x) : own_nt (own_nt x) = x := by rcases h with rfl | rfl <;> rfl
theorem own_b3b {x y z : Int32} (h1 : own_bit x) (h2 : own_bit y) (h3 : own_bit z) (i : Nat) : own_bit (own_b3 x y z i) := by unfold own_b3; split; exact h1; split; exact h2; exact h3
theorem own_narb {x : Int32} (h : own_bit x) : nar .boolean x = x := by rcases h with rfl | rfl <;> rfl
theorem own_fitb {x : Int32} (h : own_bit x) : fits .boolean (.int x) = true := by rcases h with rfl | rfl <;> rfl
theorem own_each {P : Nat → Prop} (h0 : P 0) (h1 : P 1) (h2 : P 2) : ∀ n, n < 3 → P n
  | 0, _ => h0
  | 1, _ => h1
  | 2, _ => h2
  | n + 3, h => absurd h (by omega)
theorem own_ltn {i j : Nat} (hi : i < 2 ^ 31) (hj : j < 2 ^ 31) : Int32.ofNat i < Int32.ofNat j ↔ i < j := by
  rw [Int32.lt_iff_toInt_lt, own_ofNat hi, own_ofNat hj]; omega
theorem own_lt3 {i : Nat} (hi : i < 2 ^ 31) : Int32.ofNat i < (3 : Int32) ↔ i < 3 := own_ltn hi (by decide)
/-- one object of the judged class: its five fields, its four arrays -/
def own_CT (Z : State) (h : Heap) (a sn it nm bl : Addr) (w : Value) (f g : Nat → Value) : Prop :=
  Exa Z h a "com/example/querent/querent/engine/ColumnTypes" ∧ Fld Z h a "com/example/querent/querent/engine/ColumnTypes" "seen" "[Z" (.ref sn) ∧ Fld Z h a "com/example/querent/querent/engine/ColumnTypes" "integers" "[Z" (.ref it) ∧ Fld Z h a "com/example/querent/querent/engine/ColumnTypes" "numbers" "[Z" (.ref nm) ∧ Fld Z h a "com/example/querent/querent/engine/ColumnTypes" "booleans" "[Z" (.ref bl) ∧ Fld Z h a "com/example/querent/querent/engine/ColumnTypes" "watched" "[Z" w ∧ own_Ar Z h sn .boolean 3 f ∧ own_Ar Z h it .boolean 3 g ∧ own_Ar Z h nm .boolean 3 g ∧ own_Ar Z h bl .boolean 3 g
section OwnCT
variable {Z : State} {h h' : Heap} {a sn it nm bl : Addr} {w : Value} {f g f' g' : Nat → Value} {ws : List Addr}
theorem own_CT.ext (K : own_CT Z h a sn it nm bl w f g) (E : Ext h h') : own_CT Z h' a sn it nm bl w f g := by
  obtain ⟨k0, k1, k2, k3, k4, k5, k6, k7, k8, k9⟩ := K
  exact ⟨k0.ext E, k1.ext E, k2.ext E, k3.ext E, k4.ext E, k5.ext E, k6.ext E, k7.ext E, k8.ext E, k9.ext E⟩
theorem own_CT.keep (C : own_CT Z h a sn it nm bl w f g) (K : Keep h h' ws) (q : a ∉ ws ∧ sn ∉ ws ∧ it ∉ ws ∧ nm ∉ ws ∧ bl ∉ ws) : own_CT Z h' a sn it nm bl w f g := by
  obtain ⟨k0, k1, k2, k3, k4, k5, k6, k7, k8, k9⟩ := C
  obtain ⟨q0, q1, q2, q3, q4⟩ := q
  exact ⟨k0.keep K, k1.keep K q0, k2.keep K q0, k3.keep K q0, k4.keep K q0, k5.keep K q0, k6.keep K q1, k7.keep K q2, k8.keep K q3, k9.keep K q4⟩
theorem own_CT.congr (C : own_CT Z h a sn it nm bl w f g) (q1 : ∀ i, i < 3 → f i = f' i) (q2 : ∀ i, i < 3 → g i = g' i) : own_CT Z h a sn it nm bl w f' g' := by
  obtain ⟨k0, k1, k2, k3, k4, k5, k6, k7, k8, k9⟩ := C
  exact ⟨k0, k1, k2, k3, k4, k5, k6.congr q1, k7.congr q2, k8.congr q2, k9.congr q2⟩
theorem own_CT.lt_a (C : own_CT Z h a sn it nm bl w f g) : a < h.size := C.1.lt
theorem own_CT.lt_sn (C : own_CT Z h a sn it nm bl w f g) : sn < h.size := by obtain ⟨k0, k1, k2, k3, k4, k5, k6, k7, k8, k9⟩ := C; exact k6.lt
theorem own_CT.lt_it (C : own_CT Z h a sn it nm bl w f g) : it < h.size := by obtain ⟨k0, k1, k2, k3, k4, k5, k6, k7, k8, k9⟩ := C; exact k7.lt
theorem own_CT.lt_nm (C : own_CT Z h a sn it nm bl w f g) : nm < h.size := by obtain ⟨k0, k1, k2, k3, k4, k5, k6, k7, k8, k9⟩ := C; exact k8.lt
theorem own_CT.lt_bl (C : own_CT Z h a sn it nm bl w f g) : bl < h.size := by obtain ⟨k0, k1, k2, k3, k4, k5, k6, k7, k8, k9⟩ := C; exact k9.lt
end OwnCT
theorem own_nin {x : Addr} {L : List Addr} (h : ∀ y ∈ L, x ≠ y) : x ∉ L := fun q => h x q rfl
theorem pd_0 : parseMethodDescriptor "([ZZ)V" = some ⟨[(.array .boolean), .boolean], none⟩ := by decide +kernel
theorem pd_1 : parseMethodDescriptor "(I)[Z" = some ⟨[.int], some (.array .boolean)⟩ := by decide +kernel
theorem pd_2 : parseMethodDescriptor "(I[Z)V" = some ⟨[.int, (.array .boolean)], none⟩ := by decide +kernel
theorem pd_3 : parseMethodDescriptor "(I)Z" = some ⟨[.int], some .boolean⟩ := by decide +kernel
theorem pd_4 : parseMethodDescriptor "([Z)V" = some ⟨[(.array .boolean)], none⟩ := by decide +kernel
theorem pd_5 : parseMethodDescriptor "(Lcom/example/querent/querent/engine/ColumnTypes;)V" = some ⟨[(.object "com/example/querent/querent/engine/ColumnTypes")], none⟩ := by decide +kernel
theorem pd_6 : parseMethodDescriptor "()[Lcom/example/querent/querent/engine/Type;" = some ⟨[], some (.array (.object "com/example/querent/querent/engine/Type"))⟩ := by decide +kernel
theorem pd_7 : parseMethodDescriptor "(Lcom/example/querent/querent/engine/ColumnTypes;[Lcom/example/querent/querent/engine/Type;IZ)Z" = some ⟨[(.object "com/example/querent/querent/engine/ColumnTypes"), (.array (.object "com/example/querent/querent/engine/Type")), .int, .boolean], some .boolean⟩ := by decide +kernel
theorem pd_8 : parseMethodDescriptor "(I)V" = some ⟨[.int], none⟩ := by decide +kernel
theorem d5_0 : decode jdk_65_method_111_code 0 = .ok (.iconst 0, 1) := by decide +kernel
theorem d5_1 : decode jdk_65_method_111_code 1 = .ok (.istore_n 2, 1) := by decide +kernel
theorem d5_2 : decode jdk_65_method_111_code 2 = .ok (.aload_n 0, 1) := by decide +kernel
theorem d5_3 : decode jdk_65_method_111_code 3 = .ok (.arraylength, 1) := by decide +kernel
theorem d5_4 : decode jdk_65_method_111_code 4 = .ok (.istore_n 3, 1) := by decide +kernel
theorem d5_5 : decode jdk_65_method_111_code 5 = .ok (.iload_n 2, 1) := by decide +kernel
theorem d5_6 : decode jdk_65_method_111_code 6 = .ok (.iload_n 3, 1) := by decide +kernel
theorem d5_7 : decode jdk_65_method_111_code 7 = .ok (.if_icmp .ge 13, 3) := by decide +kernel
theorem d5_10 : decode jdk_65_method_111_code 10 = .ok (.aload_n 0, 1) := by decide +kernel
theorem d5_11 : decode jdk_65_method_111_code 11 = .ok (.iload_n 2, 1) := by decide +kernel
theorem d5_12 : decode jdk_65_method_111_code 12 = .ok (.iload_n 1, 1) := by decide +kernel
theorem d5_13 : decode jdk_65_method_111_code 13 = .ok (.bastore, 1) := by decide +kernel
theorem d5_14 : decode jdk_65_method_111_code 14 = .ok (.iinc 2 1, 3) := by decide +kernel
theorem d5_17 : decode jdk_65_method_111_code 17 = .ok (.goto (-12), 3) := by decide +kernel
theorem d5_20 : decode jdk_65_method_111_code 20 = .ok (.return_, 1) := by decide +kernel
theorem pn_5 : plainName "java/util/Arrays" = true := by first | (simp [plainName, overriddenIn]; done) | decide +kernel
theorem ef_5 (m : MethodId) (x0 : Addr) (x1 : Int32) : entryFrame m #[(.ref x0), (.int x1)] 4 = mkF m 0 #[.val (.ref x0), .val (.int x1), .unset, .unset] [] := by first | (simp [entryFrame, mkF, argsToLocals, Value.category]; done) | rfl
set_option maxRecDepth 65536 in
set_option maxHeartbeats 40000000 in
theorem rm5 (l : Launch) (Z : State) (a0 : Array Value) (hw : ∀ d ∈ tables_1, d.before a0 Z = true) (ws : List Jvm.Cond) (bb : Addr) (h0 : Heap) (n0 : Nat) (gb : n0 ≤ bb) (A : own_Ar Z h0 bb .boolean 3 (fun _ => .int 0)) :
    own_Con l Z (⟨"java/util/Arrays", "fill", "([ZZ)V"⟩ : MethodName) jdk_65_method_111_code 4 none ws ({ frames := 0, cells := 0, slots := 0, locals := 0 } : Room) #[(.ref bb), (.int 1)] h0 (fun v h L => v = none ∧ Fr n0 L ∧ Keep h0 h [bb] ∧ own_Ar Z h bb .boolean 3 (fun _ => .int 1)) := by
  refine own_body (plainFor_of_name pn_5) ?_
  intro p e s m below meth c T0 hx hby hml hown hnm hret hlk hZ X0 e0
  replace hown : s.vm.findClass "java/util/Arrays" = some m.cls := hown
  replace hret : meth.sig.returnType = none := hret
  replace hnm : meth.name = "fill" := hnm
  rw [ef_5 m bb 1]
  have N0 := Fr.nil n0
  have Z0 : n0 ≤ h0.size := Nat.le_trans gb (Nat.le_of_lt A.lt)
  refine own_via (T' := T0) (g' := (mkF m 1 #[.val (.ref bb), .val (.int (1 : Int32)), .unset, .unset] [(.int (0 : Int32))])) (fun _ kt => XS.iconst X0.here hx rfl (hb hby d5_0) kt) ?_
  refine own_via (T' := T0) (g' := (mkF m 2 #[.val (.ref bb), .val (.int (1 : Int32)), .val (.int (0 : Int32)), .unset] [])) (fun _ kt => XS.istoreN X0.here hx rfl (hb hby d5_1) rfl (l' := #[.val (.ref bb), .val (.int (1 : Int32)), .val (.int (0 : Int32)), .unset]) rfl kt) ?_
  refine own_via (T' := T0) (g' := (mkF m 3 #[.val (.ref bb), .val (.int (1 : Int32)), .val (.int (0 : Int32)), .unset] [(.ref bb)])) (fun _ kt => XS.aloadN X0.here hx rfl (hb hby d5_2) rfl rfl kt) ?_
  refine own_via (T' := T0) (g' := (mkF m 4 #[.val (.ref bb), .val (.int (1 : Int32)), .val (.int (0 : Int32)), .unset] [(.int (3 : Int32))])) (fun _ kt => own_alen X0 hx hZ e0 A (g := (mkF m 3 #[.val (.ref bb), .val (.int (1 : Int32)), .val (.int (0 : Int32)), .unset] [(.ref bb)])) rfl rfl (hb hby d5_3) _ kt) ?_
  refine own_via (T' := T0) (g' := (mkF m 5 #[.val (.ref bb), .val (.int (1 : Int32)), .val (.int (0 : Int32)), .val (.int (3 : Int32))] [])) (fun _ kt => XS.istoreN X0.here hx rfl (hb hby d5_4) rfl (l' := #[.val (.ref bb), .val (.int (1 : Int32)), .val (.int (0 : Int32)), .val (.int (3 : Int32))]) rfl kt) ?_
  refine own_via (T' := T0) (g' := (mkF m 6 #[.val (.ref bb), .val (.int (1 : Int32)), .val (.int (0 : Int32)), .val (.int (3 : Int32))] [(.int (0 : Int32))])) (fun _ kt => XS.iloadN X0.here hx rfl (hb hby d5_5) rfl kt) ?_
  refine own_via (T' := T0) (g' := (mkF m 7 #[.val (.ref bb), .val (.int (1 : Int32)), .val (.int (0 : Int32)), .val (.int (3 : Int32))] [(.int (3 : Int32)), (.int (0 : Int32))])) (fun _ kt => XS.iloadN X0.here hx rfl (hb hby d5_6) rfl kt) ?_
  refine own_via (T' := T0) (g' := (mkF m 10 #[.val (.ref bb), .val (.int (1 : Int32)), .val (.int (0 : Int32)), .val (.int (3 : Int32))] [])) (fun _ kt => XS.icmpNo X0.here hx rfl (hb hby d5_7) rfl (tlt (by decide : ((0 : Int32) < (3 : Int32)))).2.1 kt) ?_
  refine own_via (T' := T0) (g' := (mkF m 11 #[.val (.ref bb), .val (.int (1 : Int32)), .val (.int (0 : Int32)), .val (.int (3 : Int32))] [(.ref bb)])) (fun _ kt => XS.aloadN X0.here hx rfl (hb hby d5_10) rfl rfl kt) ?_
  refine own_via (T' := T0) (g' := (mkF m 12 #[.val (.ref bb), .val (.int (1 : Int32)), .val (.int (0 : Int32)), .val (.int (3 : Int32))] [(.int (0 : Int32)), (.ref bb)])) (fun _ kt => XS.iloadN X0.here hx rfl (hb hby d5_11) rfl kt) ?_
  refine own_via (T' := T0) (g' := (mkF m 13 #[.val (.ref bb), .val (.int (1 : Int32)), .val (.int (0 : Int32)), .val (.int (3 : Int32))] [(.int (1 : Int32)), (.int (0 : Int32)), (.ref bb)])) (fun _ kt => XS.iloadN X0.here hx rfl (hb hby d5_12) rfl kt) ?_
  obtain ⟨T1, h1, X1, e1, W1, A1, st1⟩ := own_bastoreZ X0 hx hZ e0 A (j := (0 : Int32)) (i := 0) rfl (by decide) (r := 1) rfl (g := (mkF m 13 #[.val (.ref bb), .val (.int (1 : Int32)), .val (.int (0 : Int32)), .val (.int (3 : Int32))] [(.int (1 : Int32)), (.int (0 : Int32)), (.ref bb)])) rfl rfl (hb hby d5_13)
  have z1 : n0 ≤ h1.size := Nat.le_trans Z0 (Nat.le_of_eq W1.size.symm)
  have N1 := Fr.snoc X1 N0 gb
  have K1 := (Keep.refl h0 [bb]).wr W1 (Or.inl (List.mem_of_getElem? (i := 0) rfl))
  refine own_via (T' := T1) (g' := (mkF m 14 #[.val (.ref bb), .val (.int (1 : Int32)), .val (.int (0 : Int32)), .val (.int (3 : Int32))] [])) (fun _ kt => st1 _ kt) ?_
  refine own_via (T' := T1) (g' := (mkF m 17 #[.val (.ref bb), .val (.int (1 : Int32)), .val (.int (1 : Int32)), .val (.int (3 : Int32))] [])) (fun _ kt => XS.iinc X1.here hx rfl (hb hby d5_14) rfl (l' := #[.val (.ref bb), .val (.int (1 : Int32)), .val (.int (1 : Int32)), .val (.int (3 : Int32))]) rfl kt) ?_
  refine own_via (T' := T1) (g' := (mkF m 5 #[.val (.ref bb), .val (.int (1 : Int32)), .val (.int (1 : Int32)), .val (.int (3 : Int32))] [])) (fun _ kt => XS.goto X1.here hx rfl (pc0 := 17) (pc' := 5) rfl (hb hby d5_17) (by decide) (by decide) kt) ?_
  refine own_via (T' := T1) (g' := (mkF m 6 #[.val (.ref bb), .val (.int (1 : Int32)), .val (.int (1 : Int32)), .val (.int (3 : Int32))] [(.int (1 : Int32))])) (fun _ kt => XS.iloadN X1.here hx rfl (hb hby d5_5) rfl kt) ?_
  refine own_via (T' := T1) (g' := (mkF m 7 #[.val (.ref bb), .val (.int (1 : Int32)), .val (.int (1 : Int32)), .val (.int (3 : Int32))] [(.int (3 : Int32)), (.int (1 : Int32))])) (fun _ kt => XS.iloadN X1.here hx rfl (hb hby d5_6) rfl kt) ?_
  refine own_via (T' := T1) (g' := (mkF m 10 #[.val (.ref bb), .val (.int (1 : Int32)), .val (.int (1 : Int32)), .val (.int (3 : Int32))] [])) (fun _ kt => XS.icmpNo X1.here hx rfl (hb hby d5_7) rfl (tlt (by decide : ((1 : Int32) < (3 : Int32)))).2.1 kt) ?_
  refine own_via (T' := T1) (g' := (mkF m 11 #[.val (.ref bb), .val (.int (1 : Int32)), .val (.int (1 : Int32)), .val (.int (3 : Int32))] [(.ref bb)])) (fun _ kt => XS.aloadN X1.here hx rfl (hb hby d5_10) rfl rfl kt) ?_
  refine own_via (T' := T1) (g' := (mkF m 12 #[.val (.ref bb), .val (.int (1 : Int32)), .val (.int (1 : Int32)), .val (.int (3 : Int32))] [(.int (1 : Int32)), (.ref bb)])) (fun _ kt => XS.iloadN X1.here hx rfl (hb hby d5_11) rfl kt) ?_
  refine own_via (T' := T1) (g' := (mkF m 13 #[.val (.ref bb), .val (.int (1 : Int32)), .val (.int (1 : Int32)), .val (.int (3 : Int32))] [(.int (1 : Int32)), (.int (1 : Int32)), (.ref bb)])) (fun _ kt => XS.iloadN X1.here hx rfl (hb hby d5_12) rfl kt) ?_
  obtain ⟨T2, h2, X2, e2, W2, A2, st2⟩ := own_bastoreZ X1 hx hZ e1 A1 (j := (1 : Int32)) (i := 1) rfl (by decide) (r := 1) rfl (g := (mkF m 13 #[.val (.ref bb), .val (.int (1 : Int32)), .val (.int (1 : Int32)), .val (.int (3 : Int32))] [(.int (1 : Int32)), (.int (1 : Int32)), (.ref bb)])) rfl rfl (hb hby d5_13)
  have z2 : n0 ≤ h2.size := Nat.le_trans z1 (Nat.le_of_eq W2.size.symm)
  have N2 := Fr.snoc X2 N1 gb
  have K2 := K1.wr W2 (Or.inl (List.mem_of_getElem? (i := 0) rfl))
  refine own_via (T' := T2) (g' := (mkF m 14 #[.val (.ref bb), .val (.int (1 : Int32)), .val (.int (1 : Int32)), .val (.int (3 : Int32))] [])) (fun _ kt => st2 _ kt) ?_
  refine own_via (T' := T2) (g' := (mkF m 17 #[.val (.ref bb), .val (.int (1 : Int32)), .val (.int (2 : Int32)), .val (.int (3 : Int32))] [])) (fun _ kt => XS.iinc X2.here hx rfl (hb hby d5_14) rfl (l' := #[.val (.ref bb), .val (.int (1 : Int32)), .val (.int (2 : Int32)), .val (.int (3 : Int32))]) rfl kt) ?_
  refine own_via (T' := T2) (g' := (mkF m 5 #[.val (.ref bb), .val (.int (1 : Int32)), .val (.int (2 : Int32)), .val (.int (3 : Int32))] [])) (fun _ kt => XS.goto X2.here hx rfl (pc0 := 17) (pc' := 5) rfl (hb hby d5_17) (by decide) (by decide) kt) ?_
  refine own_via (T' := T2) (g' := (mkF m 6 #[.val (.ref bb), .val (.int (1 : Int32)), .val (.int (2 : Int32)), .val (.int (3 : Int32))] [(.int (2 : Int32))])) (fun _ kt => XS.iloadN X2.here hx rfl (hb hby d5_5) rfl kt) ?_
  refine own_via (T' := T2) (g' := (mkF m 7 #[.val (.ref bb), .val (.int (1 : Int32)), .val (.int (2 : Int32)), .val (.int (3 : Int32))] [(.int (3 : Int32)), (.int (2 : Int32))])) (fun _ kt => XS.iloadN X2.here hx rfl (hb hby d5_6) rfl kt) ?_
  refine own_via (T' := T2) (g' := (mkF m 10 #[.val (.ref bb), .val (.int (1 : Int32)), .val (.int (2 : Int32)), .val (.int (3 : Int32))] [])) (fun _ kt => XS.icmpNo X2.here hx rfl (hb hby d5_7) rfl (tlt (by decide : ((2 : Int32) < (3 : Int32)))).2.1 kt) ?_
  refine own_via (T' := T2) (g' := (mkF m 11 #[.val (.ref bb), .val (.int (1 : Int32)), .val (.int (2 : Int32)), .val (.int (3 : Int32))] [(.ref bb)])) (fun _ kt => XS.aloadN X2.here hx rfl (hb hby d5_10) rfl rfl kt) ?_
  refine own_via (T' := T2) (g' := (mkF m 12 #[.val (.ref bb), .val (.int (1 : Int32)), .val (.int (2 : Int32)), .val (.int (3 : Int32))] [(.int (2 : Int32)), (.ref bb)])) (fun _ kt => XS.iloadN X2.here hx rfl (hb hby d5_11) rfl kt) ?_
  refine own_via (T' := T2) (g' := (mkF m 13 #[.val (.ref bb), .val (.int (1 : Int32)), .val (.int (2 : Int32)), .val (.int (3 : Int32))] [(.int (1 : Int32)), (.int (2 : Int32)), (.ref bb)])) (fun _ kt => XS.iloadN X2.here hx rfl (hb hby d5_12) rfl kt) ?_
  obtain ⟨T3, h3, X3, e3, W3, A3, st3⟩ := own_bastoreZ X2 hx hZ e2 A2 (j := (2 : Int32)) (i := 2) rfl (by decide) (r := 1) rfl (g := (mkF m 13 #[.val (.ref bb), .val (.int (1 : Int32)), .val (.int (2 : Int32)), .val (.int (3 : Int32))] [(.int (1 : Int32)), (.int (2 : Int32)), (.ref bb)])) rfl rfl (hb hby d5_13)
  have z3 : n0 ≤ h3.size := Nat.le_trans z2 (Nat.le_of_eq W3.size.symm)
  have N3 := Fr.snoc X3 N2 gb
  have K3 := K2.wr W3 (Or.inl (List.mem_of_getElem? (i := 0) rfl))
  refine own_via (T' := T3) (g' := (mkF m 14 #[.val (.ref bb), .val (.int (1 : Int32)), .val (.int (2 : Int32)), .val (.int (3 : Int32))] [])) (fun _ kt => st3 _ kt) ?_
  refine own_via (T' := T3) (g' := (mkF m 17 #[.val (.ref bb), .val (.int (1 : Int32)), .val (.int (3 : Int32)), .val (.int (3 : Int32))] [])) (fun _ kt => XS.iinc X3.here hx rfl (hb hby d5_14) rfl (l' := #[.val (.ref bb), .val (.int (1 : Int32)), .val (.int (3 : Int32)), .val (.int (3 : Int32))]) rfl kt) ?_
  refine own_via (T' := T3) (g' := (mkF m 5 #[.val (.ref bb), .val (.int (1 : Int32)), .val (.int (3 : Int32)), .val (.int (3 : Int32))] [])) (fun _ kt => XS.goto X3.here hx rfl (pc0 := 17) (pc' := 5) rfl (hb hby d5_17) (by decide) (by decide) kt) ?_
  refine own_via (T' := T3) (g' := (mkF m 6 #[.val (.ref bb), .val (.int (1 : Int32)), .val (.int (3 : Int32)), .val (.int (3 : Int32))] [(.int (3 : Int32))])) (fun _ kt => XS.iloadN X3.here hx rfl (hb hby d5_5) rfl kt) ?_
  refine own_via (T' := T3) (g' := (mkF m 7 #[.val (.ref bb), .val (.int (1 : Int32)), .val (.int (3 : Int32)), .val (.int (3 : Int32))] [(.int (3 : Int32)), (.int (3 : Int32))])) (fun _ kt => XS.iloadN X3.here hx rfl (hb hby d5_6) rfl kt) ?_
  refine own_via (T' := T3) (g' := (mkF m 20 #[.val (.ref bb), .val (.int (1 : Int32)), .val (.int (3 : Int32)), .val (.int (3 : Int32))] [])) (fun _ kt => XS.icmpYes X3.here hx rfl (pc0 := 7) (pc' := 20) rfl (hb hby d5_7) rfl (flt (by decide : ¬ ((3 : Int32) < (3 : Int32)))).2.1 (by decide) (by decide) kt) ?_
  have A4 : own_Ar Z h3 bb .boolean 3 (fun _ => .int 1) := A3.congr (own_each rfl rfl rfl)
  exact own_retV X3 hx hret hlk (hb hby d5_20) (by rw [e3]; exact ⟨rfl, N3, K3, A4⟩) (by decide) (by decide)
theorem d4_0 : decode prog_20_method_10_code 0 = .ok (.iload_n 0, 1) := by decide +kernel
theorem d4_1 : decode prog_20_method_10_code 1 = .ok (.newarray .boolean, 2) := by decide +kernel
theorem d4_3 : decode prog_20_method_10_code 3 = .ok (.astore_n 1, 1) := by decide +kernel
theorem d4_4 : decode prog_20_method_10_code 4 = .ok (.aload_n 1, 1) := by decide +kernel
theorem d4_5 : decode prog_20_method_10_code 5 = .ok (.iconst 1, 1) := by decide +kernel
theorem d4_6 : decode prog_20_method_10_code 6 = .ok (.invokestatic 102, 3) := by decide +kernel
theorem d4_9 : decode prog_20_method_10_code 9 = .ok (.aload_n 1, 1) := by decide +kernel
theorem d4_10 : decode prog_20_method_10_code 10 = .ok (.areturn, 1) := by decide +kernel
theorem pn_4 : plainName "com/example/querent/querent/engine/ColumnTypes" = true := by first | (simp [plainName, overriddenIn]; done) | decide +kernel
theorem ef_4 (m : MethodId) (x0 : Int32) : entryFrame m #[(.int x0)] 2 = mkF m 0 #[.val (.int x0), .unset] [] := by first | (simp [entryFrame, mkF, argsToLocals, Value.category]; done) | rfl
set_option maxRecDepth 65536 in
set_option maxHeartbeats 40000000 in
theorem rm4 (l : Launch) (Z : State) (a0 : Array Value) (hw : ∀ d ∈ tables_1, d.before a0 Z = true) (ws : List Jvm.Cond) (h0 : Heap) (n0 : Nat) (Z0 : n0 ≤ h0.size) :
    own_Con l Z (⟨"com/example/querent/querent/engine/ColumnTypes", "filled", "(I)[Z"⟩ : MethodName) prog_20_method_10_code 2 (some (.array .boolean)) ws ({ frames := 1, cells := 1, slots := 3, locals := 15 } : Room) #[(.int 3)] h0 (fun v h L => ∃ b, v = some (.ref b) ∧ b = h0.size ∧ Fr n0 L ∧ Keep h0 h [] ∧ own_Ar Z h b .boolean 3 (fun _ => .int 1)) := by
  refine own_body (plainFor_of_name pn_4) ?_
  intro p e s m below meth c T0 hx hby hml hown hnm hret hlk hZ X0 e0
  replace hown : s.vm.findClass "com/example/querent/querent/engine/ColumnTypes" = some m.cls := hown
  replace hret : meth.sig.returnType = (some (.array .boolean)) := hret
  replace hnm : meth.name = "filled" := hnm
  rw [ef_4 m 3]
  have N0 := Fr.nil n0
  refine own_via (T' := T0) (g' := (mkF m 1 #[.val (.int (3 : Int32)), .unset] [(.int (3 : Int32))])) (fun _ kt => XS.iloadN X0.here hx rfl (hb hby d4_0) rfl kt) ?_
  obtain ⟨T1, h1, b1, gb1, X1, e1, E1, A1, st1⟩ := own_newarr X0 hx hZ (hw _ (List.mem_of_getElem? (i := 0) rfl)) e0 (g := (mkF m 1 #[.val (.int (3 : Int32)), .unset] [(.int (3 : Int32))])) rfl (hb hby d4_1) (j := (3 : Int32)) (n := 3) rfl (by decide) rfl (by decide) (by decide)
  have gg1 : n0 ≤ b1 := Nat.le_trans Z0 (Nat.le_of_eq gb1.symm)
  have kz1 : h0.size ≤ b1 := Nat.le_trans (Keep.refl h0 []).1 (Nat.le_of_eq gb1.symm)
  have z1 : n0 ≤ h1.size := Nat.le_trans Z0 E1.1
  have K1 := (Keep.refl h0 []).ext E1
  replace A1 : own_Ar Z h1 b1 .boolean 3 (fun _ => .int 0) := A1
  refine own_via (T' := T1) (g' := (mkF m 3 #[.val (.int (3 : Int32)), .unset] [(.ref b1)])) (fun _ kt => st1 _ kt) ?_
  refine own_via (T' := T1) (g' := (mkF m 4 #[.val (.int (3 : Int32)), .val (.ref b1)] [])) (fun _ kt => XS.astoreN X1.here hx rfl (hb hby d4_3) rfl rfl (l' := #[.val (.int (3 : Int32)), .val (.ref b1)]) rfl kt) ?_
  refine own_via (T' := T1) (g' := (mkF m 5 #[.val (.int (3 : Int32)), .val (.ref b1)] [(.ref b1)])) (fun _ kt => XS.aloadN X1.here hx rfl (hb hby d4_4) rfl rfl kt) ?_
  refine own_via (T' := T1) (g' := (mkF m 6 #[.val (.int (3 : Int32)), .val (.ref b1)] [(.int (1 : Int32)), (.ref b1)])) (fun _ kt => XS.iconst X1.here hx rfl (hb hby d4_5) kt) ?_
  obtain ⟨v2, T2, L2, X2, hQ2, st2⟩ := own_callS X1 hx hZ (y := (⟨"java/util/Arrays", "fill", "([ZZ)V"⟩ : MethodName)) hown (hw _ (List.mem_of_getElem? (i := 27) rfl)) (hw _ (List.mem_of_getElem? (i := 28) rfl)) (hw _ (List.mem_of_getElem? (i := 29) rfl)) (hw _ (List.mem_of_getElem? (i := 30) rfl)) (by decide) (W := 0) (argsL := [(.ref b1), (.int (1 : Int32))]) (rest := []) (rm5 l Z a0 hw [] b1 h1 n0 gg1 A1) (by decide) (by decide) (by decide) (by decide) e1 (g := (mkF m 6 #[.val (.int (3 : Int32)), .val (.ref b1)] [(.int (1 : Int32)), (.ref b1)])) rfl (by rw [hml]; rfl) (lenOf pd_0 rfl) rfl (by show 2 * 0 + _ ≤ _; exact Nat.le_of_eq rfl) (hb hby d4_6)
  obtain ⟨rfl, Nq2, Kq2, Aq2⟩ := hQ2
  have z2 : n0 ≤ T2.heap.size := Nat.le_trans z1 Kq2.1
  have K2 := K1.trans Kq2 (allS (Or.inr kz1) all0)
  have N2 := Fr.app N0 Nq2
  refine own_via (T' := T2) (g' := (mkF m 9 #[.val (.int (3 : Int32)), .val (.ref b1)] [])) (fun _ kt => st2 _ kt) ?_
  refine own_via (T' := T2) (g' := (mkF m 10 #[.val (.int (3 : Int32)), .val (.ref b1)] [(.ref b1)])) (fun _ kt => XS.aloadN X2.here hx rfl (hb hby d4_9) rfl rfl kt) ?_
  exact own_retA X2 hx hret rfl hlk rfl rfl (hb hby d4_10) ⟨b1, rfl, gb1, N2, K2, Aq2⟩ (by decide) (by decide)
theorem d2_0 : decode prog_20_method_3_code 0 = .ok (.aload_n 0, 1) := by decide +kernel
theorem d2_1 : decode prog_20_method_3_code 1 = .ok (.invokespecial 25, 3) := by decide +kernel
theorem d2_4 : decode prog_20_method_3_code 4 = .ok (.aload_n 0, 1) := by decide +kernel
theorem d2_5 : decode prog_20_method_3_code 5 = .ok (.iload_n 1, 1) := by decide +kernel
theorem d2_6 : decode prog_20_method_3_code 6 = .ok (.newarray .boolean, 2) := by decide +kernel
theorem d2_8 : decode prog_20_method_3_code 8 = .ok (.putfield 13, 3) := by decide +kernel
theorem d2_11 : decode prog_20_method_3_code 11 = .ok (.aload_n 0, 1) := by decide +kernel
theorem d2_12 : decode prog_20_method_3_code 12 = .ok (.iload_n 1, 1) := by decide +kernel
theorem d2_13 : decode prog_20_method_3_code 13 = .ok (.invokestatic 30, 3) := by decide +kernel
theorem d2_16 : decode prog_20_method_3_code 16 = .ok (.putfield 16, 3) := by decide +kernel
theorem d2_19 : decode prog_20_method_3_code 19 = .ok (.aload_n 0, 1) := by decide +kernel
theorem d2_20 : decode prog_20_method_3_code 20 = .ok (.iload_n 1, 1) := by decide +kernel
theorem d2_21 : decode prog_20_method_3_code 21 = .ok (.invokestatic 30, 3) := by decide +kernel
theorem d2_24 : decode prog_20_method_3_code 24 = .ok (.putfield 19, 3) := by decide +kernel
theorem d2_27 : decode prog_20_method_3_code 27 = .ok (.aload_n 0, 1) := by decide +kernel
theorem d2_28 : decode prog_20_method_3_code 28 = .ok (.iload_n 1, 1) := by decide +kernel
theorem d2_29 : decode prog_20_method_3_code 29 = .ok (.invokestatic 30, 3) := by decide +kernel
theorem d2_32 : decode prog_20_method_3_code 32 = .ok (.putfield 22, 3) := by decide +kernel
theorem d2_35 : decode prog_20_method_3_code 35 = .ok (.aload_n 0, 1) := by decide +kernel
theorem d2_36 : decode prog_20_method_3_code 36 = .ok (.aload_n 2, 1) := by decide +kernel
theorem d2_37 : decode prog_20_method_3_code 37 = .ok (.putfield 34, 3) := by decide +kernel
theorem d2_40 : decode prog_20_method_3_code 40 = .ok (.return_, 1) := by decide +kernel
theorem pn_2 : plainName "com/example/querent/querent/engine/ColumnTypes" = true := by first | (simp [plainName, overriddenIn]; done) | decide +kernel
theorem ef_2n (m : MethodId) (x0 : Addr) (x1 : Int32) : entryFrame m #[(.ref x0), (.int x1), .null] 3 = mkF m 0 #[.val (.ref x0), .val (.int x1), .val .null] [] := by first | (simp [entryFrame, mkF, argsToLocals, Value.category]; done) | rfl
set_option maxRecDepth 65536 in
set_option maxHeartbeats 40000000 in
theorem rm2n (l : Launch) (Z : State) (a0 : Array Value) (hw : ∀ d ∈ tables_1, d.before a0 Z = true) (ws : List Jvm.Cond) (a1 : Addr) (u0 u1 u2 u3 u4 : Value) (h0 : Heap) (n0 : Nat) (Z0 : n0 ≤ h0.size) (ga1 : n0 ≤ a1) (Ea : Exa Z h0 a1 "com/example/querent/querent/engine/ColumnTypes") (Fa0 : Fld Z h0 a1 "com/example/querent/querent/engine/ColumnTypes" "seen" "[Z" u0) (Fa1 : Fld Z h0 a1 "com/example/querent/querent/engine/ColumnTypes" "integers" "[Z" u1) (Fa2 : Fld Z h0 a1 "com/example/querent/querent/engine/ColumnTypes" "numbers" "[Z" u2) (Fa3 : Fld Z h0 a1 "com/example/querent/querent/engine/ColumnTypes" "booleans" "[Z" u3) (Fa4 : Fld Z h0 a1 "com/example/querent/querent/engine/ColumnTypes" "watched" "[Z" u4) :
    own_Con l Z (⟨"com/example/querent/querent/engine/ColumnTypes", "<init>", "(I[Z)V"⟩ : MethodName) prog_20_method_3_code 3 none ws ({ frames := 2, cells := 4, slots := 12, locals := 29 } : Room) #[(.ref a1), (.int 3), .null] h0 (fun v h L => ∃ sn it nm bl, h0.size ≤ sn ∧ @LT.lt Nat _ sn it ∧ @LT.lt Nat _ it nm ∧ @LT.lt Nat _ nm bl ∧ v = none ∧ Fr n0 L ∧ Keep h0 h [a1] ∧ own_CT Z h a1 sn it nm bl .null (fun i => .int (own_z i)) (fun i => .int (own_nt (own_z i)))) := by
  refine own_body (plainFor_of_name pn_2) ?_
  intro p e s m below meth c T0 hx hby hml hown hnm hret hlk hZ X0 e0
  replace hown : s.vm.findClass "com/example/querent/querent/engine/ColumnTypes" = some m.cls := hown
  replace hret : meth.sig.returnType = none := hret
  replace hnm : meth.name = "<init>" := hnm
  rw [ef_2n m a1 3]
  have N0 := Fr.nil n0
  refine own_via (T' := T0) (g' := (mkF m 1 #[.val (.ref a1), .val (.int (3 : Int32)), .val .null] [(.ref a1)])) (fun _ kt => XS.aloadN X0.here hx rfl (hb hby d2_0) rfl rfl kt) ?_
  obtain ⟨T1, X1, e1, st1⟩ := initO X0 hx hZ hown (hw _ (List.mem_of_getElem? (i := 19) rfl)) (hw _ (List.mem_of_getElem? (i := 20) rfl)) (hw _ (List.mem_of_getElem? (i := 21) rfl)) e0 (g := (mkF m 1 #[.val (.ref a1), .val (.int (3 : Int32)), .val .null] [(.ref a1)])) rfl (by rw [hml]; rfl) rfl (hb hby d2_1) (by decide) (W := 0) (by show 2 * 0 + _ ≤ _; exact Nat.le_of_eq rfl) (by decide)
  refine own_via (T' := T1) (g' := (mkF m 4 #[.val (.ref a1), .val (.int (3 : Int32)), .val .null] [])) (fun _ kt => st1 _ kt) ?_
  refine own_via (T' := T1) (g' := (mkF m 5 #[.val (.ref a1), .val (.int (3 : Int32)), .val .null] [(.ref a1)])) (fun _ kt => XS.aloadN X1.here hx rfl (hb hby d2_4) rfl rfl kt) ?_
  refine own_via (T' := T1) (g' := (mkF m 6 #[.val (.ref a1), .val (.int (3 : Int32)), .val .null] [(.int (3 : Int32)), (.ref a1)])) (fun _ kt => XS.iloadN X1.here hx rfl (hb hby d2_5) rfl kt) ?_
  obtain ⟨T2, h2, b2, gb2, X2, e2, E2, A2, st2⟩ := own_newarr X1 hx hZ (hw _ (List.mem_of_getElem? (i := 0) rfl)) e1 (g := (mkF m 6 #[.val (.ref a1), .val (.int (3 : Int32)), .val .null] [(.int (3 : Int32)), (.ref a1)])) rfl (hb hby d2_6) (j := (3 : Int32)) (n := 3) rfl (by decide) rfl (by decide) (by decide)
  have lt_a1_b2 : @LT.lt Nat _ a1 b2 := Nat.lt_of_lt_of_le Ea.lt (Nat.le_of_eq gb2.symm)
  have gg2 : n0 ≤ b2 := Nat.le_trans Z0 (Nat.le_of_eq gb2.symm)
  have kz2 : h0.size ≤ b2 := Nat.le_trans (Keep.refl h0 [a1]).1 (Nat.le_of_eq gb2.symm)
  have f3 := Ea.ext E2
  have f4 := Fa0.ext E2
  have f5 := Fa1.ext E2
  have f6 := Fa2.ext E2
  have f7 := Fa3.ext E2
  have f8 := Fa4.ext E2
  have z2 : n0 ≤ h2.size := Nat.le_trans Z0 E2.1
  have K2 := (Keep.refl h0 [a1]).ext E2
  replace A2 : own_Ar Z h2 b2 .boolean 3 (fun _ => .int 0) := A2
  refine own_via (T' := T2) (g' := (mkF m 8 #[.val (.ref a1), .val (.int (3 : Int32)), .val .null] [(.ref b2), (.ref a1)])) (fun _ kt => st2 _ kt) ?_
  obtain ⟨T9, h9, X9, e9, W9, st9⟩ := putF X2 hx hZ hown (host := "") (Or.inl (hw _ (List.mem_of_getElem? (i := 22) rfl))) Via.refl e2 f4 f3 (Or.inr ⟨(hw _ (List.mem_of_getElem? (i := 23) rfl)), rfl, hnm⟩) (hw _ (List.mem_of_getElem? (i := 2) rfl)) (ty := (.array .boolean)) (by decide) rfl rfl (g := (mkF m 8 #[.val (.ref a1), .val (.int (3 : Int32)), .val .null] [(.ref b2), (.ref a1)])) rfl rfl (hb hby d2_8)
  have f10 := f3.wr W9
  have f11 := f5.other W9 (Or.inr (slot_ne (Or.inr (hw _ (List.mem_of_getElem? (i := 32) rfl))) (Or.inr (hw _ (List.mem_of_getElem? (i := 23) rfl))) (by decide) (t := (.array .boolean)) (t' := (.array .boolean)) (by decide) (by decide)))
  have f12 := f6.other W9 (Or.inr (slot_ne (Or.inr (hw _ (List.mem_of_getElem? (i := 34) rfl))) (Or.inr (hw _ (List.mem_of_getElem? (i := 23) rfl))) (by decide) (t := (.array .boolean)) (t' := (.array .boolean)) (by decide) (by decide)))
  have f13 := f7.other W9 (Or.inr (slot_ne (Or.inr (hw _ (List.mem_of_getElem? (i := 36) rfl))) (Or.inr (hw _ (List.mem_of_getElem? (i := 23) rfl))) (by decide) (t := (.array .boolean)) (t' := (.array .boolean)) (by decide) (by decide)))
  have f14 := f8.other W9 (Or.inr (slot_ne (Or.inr (hw _ (List.mem_of_getElem? (i := 38) rfl))) (Or.inr (hw _ (List.mem_of_getElem? (i := 23) rfl))) (by decide) (t := (.array .boolean)) (t' := (.array .boolean)) (by decide) (by decide)))
  have f15 := A2.other W9 (own_ne (by omega))
  have z9 : n0 ≤ h9.size := Nat.le_trans z2 (Nat.le_of_eq W9.size.symm)
  have N9 := Fr.snoc X9 N0 ga1
  have K9 := K2.wr W9 (Or.inl (List.mem_of_getElem? (i := 0) rfl))
  have f9 := f4.same W9
  refine own_via (T' := T9) (g' := (mkF m 11 #[.val (.ref a1), .val (.int (3 : Int32)), .val .null] [])) (fun _ kt => st9 _ kt) ?_
  refine own_via (T' := T9) (g' := (mkF m 12 #[.val (.ref a1), .val (.int (3 : Int32)), .val .null] [(.ref a1)])) (fun _ kt => XS.aloadN X9.here hx rfl (hb hby d2_11) rfl rfl kt) ?_
  refine own_via (T' := T9) (g' := (mkF m 13 #[.val (.ref a1), .val (.int (3 : Int32)), .val .null] [(.int (3 : Int32)), (.ref a1)])) (fun _ kt => XS.iloadN X9.here hx rfl (hb hby d2_12) rfl kt) ?_
  obtain ⟨v16, T16, L16, X16, hQ16, st16⟩ := own_callS X9 hx hZ (y := (⟨"com/example/querent/querent/engine/ColumnTypes", "filled", "(I)[Z"⟩ : MethodName)) hown (hw _ (List.mem_of_getElem? (i := 24) rfl)) (hw _ (List.mem_of_getElem? (i := 25) rfl)) (hw _ (List.mem_of_getElem? (i := 3) rfl)) (hw _ (List.mem_of_getElem? (i := 26) rfl)) (by decide) (W := 1) (argsL := [(.int (3 : Int32))]) (rest := [(.ref a1)]) (rm4 l Z a0 hw [] h9 n0 z9) (by decide) (by decide) (by decide) (by decide) e9 (g := (mkF m 13 #[.val (.ref a1), .val (.int (3 : Int32)), .val .null] [(.int (3 : Int32)), (.ref a1)])) rfl (by rw [hml]; rfl) (lenOf pd_1 rfl) rfl (by show 2 * 0 + _ ≤ _; exact Nat.le_of_eq rfl) (hb hby d2_13)
  obtain ⟨b16, rfl, gb16, Nq16, Kq16, Aq16⟩ := hQ16
  have lt_a1_b16 : @LT.lt Nat _ a1 b16 := Nat.lt_of_lt_of_le f14.lt (Nat.le_of_eq gb16.symm)
  have lt_b2_b16 : @LT.lt Nat _ b2 b16 := Nat.lt_of_lt_of_le f15.lt (Nat.le_of_eq gb16.symm)
  have gg16 : n0 ≤ b16 := Nat.le_trans z9 (Nat.le_of_eq gb16.symm)
  have kz16 : h0.size ≤ b16 := Nat.le_trans K9.1 (Nat.le_of_eq gb16.symm)
  have f17 := f10.keep Kq16
  have f18 := f9.keep Kq16 nin0
  have f19 := f11.keep Kq16 nin0
  have f20 := f12.keep Kq16 nin0
  have f21 := f13.keep Kq16 nin0
  have f22 := f14.keep Kq16 nin0
  have f23 := f15.keep Kq16 nin0
  have z16 : n0 ≤ T16.heap.size := Nat.le_trans z9 Kq16.1
  have K16 := K9.trans Kq16 all0
  have N16 := Fr.app N9 Nq16
  refine own_via (T' := T16) (g' := (mkF m 16 #[.val (.ref a1), .val (.int (3 : Int32)), .val .null] [(.ref b16), (.ref a1)])) (fun _ kt => st16 _ kt) ?_
  obtain ⟨T24, h24, X24, e24, W24, st24⟩ := putF X16 hx hZ hown (host := "") (Or.inl (hw _ (List.mem_of_getElem? (i := 31) rfl))) Via.refl rfl f19 f17 (Or.inr ⟨(hw _ (List.mem_of_getElem? (i := 32) rfl)), rfl, hnm⟩) (hw _ (List.mem_of_getElem? (i := 2) rfl)) (ty := (.array .boolean)) (by decide) rfl rfl (g := (mkF m 16 #[.val (.ref a1), .val (.int (3 : Int32)), .val .null] [(.ref b16), (.ref a1)])) rfl rfl (hb hby d2_16)
  have f25 := f17.wr W24
  have f26 := f18.other W24 (Or.inr (slot_ne (Or.inr (hw _ (List.mem_of_getElem? (i := 23) rfl))) (Or.inr (hw _ (List.mem_of_getElem? (i := 32) rfl))) (by decide) (t := (.array .boolean)) (t' := (.array .boolean)) (by decide) (by decide)))
  have f27 := f20.other W24 (Or.inr (slot_ne (Or.inr (hw _ (List.mem_of_getElem? (i := 34) rfl))) (Or.inr (hw _ (List.mem_of_getElem? (i := 32) rfl))) (by decide) (t := (.array .boolean)) (t' := (.array .boolean)) (by decide) (by decide)))
  have f28 := f21.other W24 (Or.inr (slot_ne (Or.inr (hw _ (List.mem_of_getElem? (i := 36) rfl))) (Or.inr (hw _ (List.mem_of_getElem? (i := 32) rfl))) (by decide) (t := (.array .boolean)) (t' := (.array .boolean)) (by decide) (by decide)))
  have f29 := f22.other W24 (Or.inr (slot_ne (Or.inr (hw _ (List.mem_of_getElem? (i := 38) rfl))) (Or.inr (hw _ (List.mem_of_getElem? (i := 32) rfl))) (by decide) (t := (.array .boolean)) (t' := (.array .boolean)) (by decide) (by decide)))
  have f30 := f23.other W24 (own_ne (by omega))
  have f31 := Aq16.other W24 (own_ne (by omega))
  have z24 : n0 ≤ h24.size := Nat.le_trans z16 (Nat.le_of_eq W24.size.symm)
  have N24 := Fr.snoc X24 N16 ga1
  have K24 := K16.wr W24 (Or.inl (List.mem_of_getElem? (i := 0) rfl))
  have f24 := f19.same W24
  refine own_via (T' := T24) (g' := (mkF m 19 #[.val (.ref a1), .val (.int (3 : Int32)), .val .null] [])) (fun _ kt => st24 _ kt) ?_
  refine own_via (T' := T24) (g' := (mkF m 20 #[.val (.ref a1), .val (.int (3 : Int32)), .val .null] [(.ref a1)])) (fun _ kt => XS.aloadN X24.here hx rfl (hb hby d2_19) rfl rfl kt) ?_
  refine own_via (T' := T24) (g' := (mkF m 21 #[.val (.ref a1), .val (.int (3 : Int32)), .val .null] [(.int (3 : Int32)), (.ref a1)])) (fun _ kt => XS.iloadN X24.here hx rfl (hb hby d2_20) rfl kt) ?_
  obtain ⟨v32, T32, L32, X32, hQ32, st32⟩ := own_callS X24 hx hZ (y := (⟨"com/example/querent/querent/engine/ColumnTypes", "filled", "(I)[Z"⟩ : MethodName)) hown (hw _ (List.mem_of_getElem? (i := 24) rfl)) (hw _ (List.mem_of_getElem? (i := 25) rfl)) (hw _ (List.mem_of_getElem? (i := 3) rfl)) (hw _ (List.mem_of_getElem? (i := 26) rfl)) (by decide) (W := 1) (argsL := [(.int (3 : Int32))]) (rest := [(.ref a1)]) (rm4 l Z a0 hw [] h24 n0 z24) (by decide) (by decide) (by decide) (by decide) e24 (g := (mkF m 21 #[.val (.ref a1), .val (.int (3 : Int32)), .val .null] [(.int (3 : Int32)), (.ref a1)])) rfl (by rw [hml]; rfl) (lenOf pd_1 rfl) rfl (by show 2 * 0 + _ ≤ _; exact Nat.le_of_eq rfl) (hb hby d2_21)
  obtain ⟨b32, rfl, gb32, Nq32, Kq32, Aq32⟩ := hQ32
  have lt_a1_b32 : @LT.lt Nat _ a1 b32 := Nat.lt_of_lt_of_le f29.lt (Nat.le_of_eq gb32.symm)
  have lt_b2_b32 : @LT.lt Nat _ b2 b32 := Nat.lt_of_lt_of_le f30.lt (Nat.le_of_eq gb32.symm)
  have lt_b16_b32 : @LT.lt Nat _ b16 b32 := Nat.lt_of_lt_of_le f31.lt (Nat.le_of_eq gb32.symm)
  have gg32 : n0 ≤ b32 := Nat.le_trans z24 (Nat.le_of_eq gb32.symm)
  have kz32 : h0.size ≤ b32 := Nat.le_trans K24.1 (Nat.le_of_eq gb32.symm)
  have f33 := f25.keep Kq32
  have f34 := f26.keep Kq32 nin0
  have f35 := f24.keep Kq32 nin0
  have f36 := f27.keep Kq32 nin0
  have f37 := f28.keep Kq32 nin0
  have f38 := f29.keep Kq32 nin0
  have f39 := f30.keep Kq32 nin0
  have f40 := f31.keep Kq32 nin0
  have z32 : n0 ≤ T32.heap.size := Nat.le_trans z24 Kq32.1
  have K32 := K24.trans Kq32 all0
  have N32 := Fr.app N24 Nq32
  refine own_via (T' := T32) (g' := (mkF m 24 #[.val (.ref a1), .val (.int (3 : Int32)), .val .null] [(.ref b32), (.ref a1)])) (fun _ kt => st32 _ kt) ?_
  obtain ⟨T41, h41, X41, e41, W41, st41⟩ := putF X32 hx hZ hown (host := "") (Or.inl (hw _ (List.mem_of_getElem? (i := 33) rfl))) Via.refl rfl f36 f33 (Or.inr ⟨(hw _ (List.mem_of_getElem? (i := 34) rfl)), rfl, hnm⟩) (hw _ (List.mem_of_getElem? (i := 2) rfl)) (ty := (.array .boolean)) (by decide) rfl rfl (g := (mkF m 24 #[.val (.ref a1), .val (.int (3 : Int32)), .val .null] [(.ref b32), (.ref a1)])) rfl rfl (hb hby d2_24)
  have f42 := f33.wr W41
  have f43 := f34.other W41 (Or.inr (slot_ne (Or.inr (hw _ (List.mem_of_getElem? (i := 23) rfl))) (Or.inr (hw _ (List.mem_of_getElem? (i := 34) rfl))) (by decide) (t := (.array .boolean)) (t' := (.array .boolean)) (by decide) (by decide)))
  have f44 := f35.other W41 (Or.inr (slot_ne (Or.inr (hw _ (List.mem_of_getElem? (i := 32) rfl))) (Or.inr (hw _ (List.mem_of_getElem? (i := 34) rfl))) (by decide) (t := (.array .boolean)) (t' := (.array .boolean)) (by decide) (by decide)))
  have f45 := f37.other W41 (Or.inr (slot_ne (Or.inr (hw _ (List.mem_of_getElem? (i := 36) rfl))) (Or.inr (hw _ (List.mem_of_getElem? (i := 34) rfl))) (by decide) (t := (.array .boolean)) (t' := (.array .boolean)) (by decide) (by decide)))
  have f46 := f38.other W41 (Or.inr (slot_ne (Or.inr (hw _ (List.mem_of_getElem? (i := 38) rfl))) (Or.inr (hw _ (List.mem_of_getElem? (i := 34) rfl))) (by decide) (t := (.array .boolean)) (t' := (.array .boolean)) (by decide) (by decide)))
  have f47 := f39.other W41 (own_ne (by omega))
  have f48 := f40.other W41 (own_ne (by omega))
  have f49 := Aq32.other W41 (own_ne (by omega))
  have z41 : n0 ≤ h41.size := Nat.le_trans z32 (Nat.le_of_eq W41.size.symm)
  have N41 := Fr.snoc X41 N32 ga1
  have K41 := K32.wr W41 (Or.inl (List.mem_of_getElem? (i := 0) rfl))
  have f41 := f36.same W41
  refine own_via (T' := T41) (g' := (mkF m 27 #[.val (.ref a1), .val (.int (3 : Int32)), .val .null] [])) (fun _ kt => st41 _ kt) ?_
  refine own_via (T' := T41) (g' := (mkF m 28 #[.val (.ref a1), .val (.int (3 : Int32)), .val .null] [(.ref a1)])) (fun _ kt => XS.aloadN X41.here hx rfl (hb hby d2_27) rfl rfl kt) ?_
  refine own_via (T' := T41) (g' := (mkF m 29 #[.val (.ref a1), .val (.int (3 : Int32)), .val .null] [(.int (3 : Int32)), (.ref a1)])) (fun _ kt => XS.iloadN X41.here hx rfl (hb hby d2_28) rfl kt) ?_
  obtain ⟨v50, T50, L50, X50, hQ50, st50⟩ := own_callS X41 hx hZ (y := (⟨"com/example/querent/querent/engine/ColumnTypes", "filled", "(I)[Z"⟩ : MethodName)) hown (hw _ (List.mem_of_getElem? (i := 24) rfl)) (hw _ (List.mem_of_getElem? (i := 25) rfl)) (hw _ (List.mem_of_getElem? (i := 3) rfl)) (hw _ (List.mem_of_getElem? (i := 26) rfl)) (by decide) (W := 1) (argsL := [(.int (3 : Int32))]) (rest := [(.ref a1)]) (rm4 l Z a0 hw [] h41 n0 z41) (by decide) (by decide) (by decide) (by decide) e41 (g := (mkF m 29 #[.val (.ref a1), .val (.int (3 : Int32)), .val .null] [(.int (3 : Int32)), (.ref a1)])) rfl (by rw [hml]; rfl) (lenOf pd_1 rfl) rfl (by show 2 * 0 + _ ≤ _; exact Nat.le_of_eq rfl) (hb hby d2_29)
  obtain ⟨b50, rfl, gb50, Nq50, Kq50, Aq50⟩ := hQ50
  have lt_a1_b50 : @LT.lt Nat _ a1 b50 := Nat.lt_of_lt_of_le f46.lt (Nat.le_of_eq gb50.symm)
  have lt_b2_b50 : @LT.lt Nat _ b2 b50 := Nat.lt_of_lt_of_le f47.lt (Nat.le_of_eq gb50.symm)
  have lt_b16_b50 : @LT.lt Nat _ b16 b50 := Nat.lt_of_lt_of_le f48.lt (Nat.le_of_eq gb50.symm)
  have lt_b32_b50 : @LT.lt Nat _ b32 b50 := Nat.lt_of_lt_of_le f49.lt (Nat.le_of_eq gb50.symm)
  have gg50 : n0 ≤ b50 := Nat.le_trans z41 (Nat.le_of_eq gb50.symm)
  have kz50 : h0.size ≤ b50 := Nat.le_trans K41.1 (Nat.le_of_eq gb50.symm)
  have f51 := f42.keep Kq50
  have f52 := f43.keep Kq50 nin0
  have f53 := f44.keep Kq50 nin0
  have f54 := f41.keep Kq50 nin0
  have f55 := f45.keep Kq50 nin0
  have f56 := f46.keep Kq50 nin0
  have f57 := f47.keep Kq50 nin0
  have f58 := f48.keep Kq50 nin0
  have f59 := f49.keep Kq50 nin0
  have z50 : n0 ≤ T50.heap.size := Nat.le_trans z41 Kq50.1
  have K50 := K41.trans Kq50 all0
  have N50 := Fr.app N41 Nq50
  refine own_via (T' := T50) (g' := (mkF m 32 #[.val (.ref a1), .val (.int (3 : Int32)), .val .null] [(.ref b50), (.ref a1)])) (fun _ kt => st50 _ kt) ?_
  obtain ⟨T60, h60, X60, e60, W60, st60⟩ := putF X50 hx hZ hown (host := "") (Or.inl (hw _ (List.mem_of_getElem? (i := 35) rfl))) Via.refl rfl f55 f51 (Or.inr ⟨(hw _ (List.mem_of_getElem? (i := 36) rfl)), rfl, hnm⟩) (hw _ (List.mem_of_getElem? (i := 2) rfl)) (ty := (.array .boolean)) (by decide) rfl rfl (g := (mkF m 32 #[.val (.ref a1), .val (.int (3 : Int32)), .val .null] [(.ref b50), (.ref a1)])) rfl rfl (hb hby d2_32)
  have f61 := f51.wr W60
  have f62 := f52.other W60 (Or.inr (slot_ne (Or.inr (hw _ (List.mem_of_getElem? (i := 23) rfl))) (Or.inr (hw _ (List.mem_of_getElem? (i := 36) rfl))) (by decide) (t := (.array .boolean)) (t' := (.array .boolean)) (by decide) (by decide)))
  have f63 := f53.other W60 (Or.inr (slot_ne (Or.inr (hw _ (List.mem_of_getElem? (i := 32) rfl))) (Or.inr (hw _ (List.mem_of_getElem? (i := 36) rfl))) (by decide) (t := (.array .boolean)) (t' := (.array .boolean)) (by decide) (by decide)))
  have f64 := f54.other W60 (Or.inr (slot_ne (Or.inr (hw _ (List.mem_of_getElem? (i := 34) rfl))) (Or.inr (hw _ (List.mem_of_getElem? (i := 36) rfl))) (by decide) (t := (.array .boolean)) (t' := (.array .boolean)) (by decide) (by decide)))
  have f65 := f56.other W60 (Or.inr (slot_ne (Or.inr (hw _ (List.mem_of_getElem? (i := 38) rfl))) (Or.inr (hw _ (List.mem_of_getElem? (i := 36) rfl))) (by decide) (t := (.array .boolean)) (t' := (.array .boolean)) (by decide) (by decide)))
  have f66 := f57.other W60 (own_ne (by omega))
  have f67 := f58.other W60 (own_ne (by omega))
  have f68 := f59.other W60 (own_ne (by omega))
  have f69 := Aq50.other W60 (own_ne (by omega))
  have z60 : n0 ≤ h60.size := Nat.le_trans z50 (Nat.le_of_eq W60.size.symm)
  have N60 := Fr.snoc X60 N50 ga1
  have K60 := K50.wr W60 (Or.inl (List.mem_of_getElem? (i := 0) rfl))
  have f60 := f55.same W60
  refine own_via (T' := T60) (g' := (mkF m 35 #[.val (.ref a1), .val (.int (3 : Int32)), .val .null] [])) (fun _ kt => st60 _ kt) ?_
  refine own_via (T' := T60) (g' := (mkF m 36 #[.val (.ref a1), .val (.int (3 : Int32)), .val .null] [(.ref a1)])) (fun _ kt => XS.aloadN X60.here hx rfl (hb hby d2_35) rfl rfl kt) ?_
  refine own_via (T' := T60) (g' := (mkF m 37 #[.val (.ref a1), .val (.int (3 : Int32)), .val .null] [.null, (.ref a1)])) (fun _ kt => XS.aloadN X60.here hx rfl (hb hby d2_36) rfl rfl kt) ?_
  obtain ⟨T70, h70, X70, e70, W70, st70⟩ := putF X60 hx hZ hown (host := "") (Or.inl (hw _ (List.mem_of_getElem? (i := 37) rfl))) Via.refl e60 f65 f61 (Or.inr ⟨(hw _ (List.mem_of_getElem? (i := 38) rfl)), rfl, hnm⟩) (hw _ (List.mem_of_getElem? (i := 2) rfl)) (ty := (.array .boolean)) (by decide) rfl rfl (g := (mkF m 37 #[.val (.ref a1), .val (.int (3 : Int32)), .val .null] [.null, (.ref a1)])) rfl rfl (hb hby d2_37)
  have f71 := f61.wr W70
  have f72 := f62.other W70 (Or.inr (slot_ne (Or.inr (hw _ (List.mem_of_getElem? (i := 23) rfl))) (Or.inr (hw _ (List.mem_of_getElem? (i := 38) rfl))) (by decide) (t := (.array .boolean)) (t' := (.array .boolean)) (by decide) (by decide)))
  have f73 := f63.other W70 (Or.inr (slot_ne (Or.inr (hw _ (List.mem_of_getElem? (i := 32) rfl))) (Or.inr (hw _ (List.mem_of_getElem? (i := 38) rfl))) (by decide) (t := (.array .boolean)) (t' := (.array .boolean)) (by decide) (by decide)))
  have f74 := f64.other W70 (Or.inr (slot_ne (Or.inr (hw _ (List.mem_of_getElem? (i := 34) rfl))) (Or.inr (hw _ (List.mem_of_getElem? (i := 38) rfl))) (by decide) (t := (.array .boolean)) (t' := (.array .boolean)) (by decide) (by decide)))
  have f75 := f60.other W70 (Or.inr (slot_ne (Or.inr (hw _ (List.mem_of_getElem? (i := 36) rfl))) (Or.inr (hw _ (List.mem_of_getElem? (i := 38) rfl))) (by decide) (t := (.array .boolean)) (t' := (.array .boolean)) (by decide) (by decide)))
  have f76 := f66.other W70 (own_ne (by omega))
  have f77 := f67.other W70 (own_ne (by omega))
  have f78 := f68.other W70 (own_ne (by omega))
  have f79 := f69.other W70 (own_ne (by omega))
  have z70 : n0 ≤ h70.size := Nat.le_trans z60 (Nat.le_of_eq W70.size.symm)
  have N70 := Fr.snoc X70 N60 ga1
  have K70 := K60.wr W70 (Or.inl (List.mem_of_getElem? (i := 0) rfl))
  have f70 := f65.same W70
  refine own_via (T' := T70) (g' := (mkF m 40 #[.val (.ref a1), .val (.int (3 : Int32)), .val .null] [])) (fun _ kt => st70 _ kt) ?_
  have A80 : own_Ar Z h70 b2 .boolean 3 (fun i => .int (own_z i)) := f76.congr (fun _ _ => rfl)
  have A81 : own_Ar Z h70 b16 .boolean 3 (fun i => .int (own_nt (own_z i))) := f77.congr (fun _ _ => rfl)
  have A82 : own_Ar Z h70 b32 .boolean 3 (fun i => .int (own_nt (own_z i))) := f78.congr (fun _ _ => rfl)
  have A83 : own_Ar Z h70 b50 .boolean 3 (fun i => .int (own_nt (own_z i))) := f79.congr (fun _ _ => rfl)
  exact own_retV X70 hx hret hlk (hb hby d2_40) (by rw [e70]; exact ⟨b2, b16, b32, b50, kz2, by omega, by omega, by omega, rfl, N70, K70, ⟨f71, f72, f73, f74, f75, f70, A80, A81, A82, A83⟩⟩) (by decide) (by decide)
theorem ef_2r (m : MethodId) (x0 : Addr) (x1 : Int32) (x2 : Addr) : entryFrame m #[(.ref x0), (.int x1), (.ref x2)] 3 = mkF m 0 #[.val (.ref x0), .val (.int x1), .val (.ref x2)] [] := by first | (simp [entryFrame, mkF, argsToLocals, Value.category]; done) | rfl
set_option maxRecDepth 65536 in
set_option maxHeartbeats 40000000 in
theorem rm2r (l : Launch) (Z : State) (a0 : Array Value) (hw : ∀ d ∈ tables_1, d.before a0 Z = true) (ws : List Jvm.Cond) (wt : Addr) (a1 : Addr) (u0 u1 u2 u3 u4 : Value) (h0 : Heap) (n0 : Nat) (Z0 : n0 ≤ h0.size) (ga1 : n0 ≤ a1) (Ea : Exa Z h0 a1 "com/example/querent/querent/engine/ColumnTypes") (Fa0 : Fld Z h0 a1 "com/example/querent/querent/engine/ColumnTypes" "seen" "[Z" u0) (Fa1 : Fld Z h0 a1 "com/example/querent/querent/engine/ColumnTypes" "integers" "[Z" u1) (Fa2 : Fld Z h0 a1 "com/example/querent/querent/engine/ColumnTypes" "numbers" "[Z" u2) (Fa3 : Fld Z h0 a1 "com/example/querent/querent/engine/ColumnTypes" "booleans" "[Z" u3) (Fa4 : Fld Z h0 a1 "com/example/querent/querent/engine/ColumnTypes" "watched" "[Z" u4) :
    own_Con l Z (⟨"com/example/querent/querent/engine/ColumnTypes", "<init>", "(I[Z)V"⟩ : MethodName) prog_20_method_3_code 3 none ws ({ frames := 2, cells := 4, slots := 12, locals := 29 } : Room) #[(.ref a1), (.int 3), (.ref wt)] h0 (fun v h L => ∃ sn it nm bl, h0.size ≤ sn ∧ @LT.lt Nat _ sn it ∧ @LT.lt Nat _ it nm ∧ @LT.lt Nat _ nm bl ∧ v = none ∧ Fr n0 L ∧ Keep h0 h [a1] ∧ own_CT Z h a1 sn it nm bl (.ref wt) (fun i => .int (own_z i)) (fun i => .int (own_nt (own_z i)))) := by
  refine own_body (plainFor_of_name pn_2) ?_
  intro p e s m below meth c T0 hx hby hml hown hnm hret hlk hZ X0 e0
  replace hown : s.vm.findClass "com/example/querent/querent/engine/ColumnTypes" = some m.cls := hown
  replace hret : meth.sig.returnType = none := hret
  replace hnm : meth.name = "<init>" := hnm
  rw [ef_2r m a1 3 wt]
  have N0 := Fr.nil n0
  refine own_via (T' := T0) (g' := (mkF m 1 #[.val (.ref a1), .val (.int (3 : Int32)), .val (.ref wt)] [(.ref a1)])) (fun _ kt => XS.aloadN X0.here hx rfl (hb hby d2_0) rfl rfl kt) ?_
  obtain ⟨T1, X1, e1, st1⟩ := initO X0 hx hZ hown (hw _ (List.mem_of_getElem? (i := 19) rfl)) (hw _ (List.mem_of_getElem? (i := 20) rfl)) (hw _ (List.mem_of_getElem? (i := 21) rfl)) e0 (g := (mkF m 1 #[.val (.ref a1), .val (.int (3 : Int32)), .val (.ref wt)] [(.ref a1)])) rfl (by rw [hml]; rfl) rfl (hb hby d2_1) (by decide) (W := 0) (by show 2 * 0 + _ ≤ _; exact Nat.le_of_eq rfl) (by decide)
  refine own_via (T' := T1) (g' := (mkF m 4 #[.val (.ref a1), .val (.int (3 : Int32)), .val (.ref wt)] [])) (fun _ kt => st1 _ kt) ?_
  refine own_via (T' := T1) (g' := (mkF m 5 #[.val (.ref a1), .val (.int (3 : Int32)), .val (.ref wt)] [(.ref a1)])) (fun _ kt => XS.aloadN X1.here hx rfl (hb hby d2_4) rfl rfl kt) ?_
  refine own_via (T' := T1) (g' := (mkF m 6 #[.val (.ref a1), .val (.int (3 : Int32)), .val (.ref wt)] [(.int (3 : Int32)), (.ref a1)])) (fun _ kt => XS.iloadN X1.here hx rfl (hb hby d2_5) rfl kt) ?_
  obtain ⟨T2, h2, b2, gb2, X2, e2, E2, A2, st2⟩ := own_newarr X1 hx hZ (hw _ (List.mem_of_getElem? (i := 0) rfl)) e1 (g := (mkF m 6 #[.val (.ref a1), .val (.int (3 : Int32)), .val (.ref wt)] [(.int (3 : Int32)), (.ref a1)])) rfl (hb hby d2_6) (j := (3 : Int32)) (n := 3) rfl (by decide) rfl (by decide) (by decide)
  have lt_a1_b2 : @LT.lt Nat _ a1 b2 := Nat.lt_of_lt_of_le Ea.lt (Nat.le_of_eq gb2.symm)
  have gg2 : n0 ≤ b2 := Nat.le_trans Z0 (Nat.le_of_eq gb2.symm)
  have kz2 : h0.size ≤ b2 := Nat.le_trans (Keep.refl h0 [a1]).1 (Nat.le_of_eq gb2.symm)
  have f3 := Ea.ext E2
  have f4 := Fa0.ext E2
  have f5 := Fa1.ext E2
  have f6 := Fa2.ext E2
  have f7 := Fa3.ext E2
  have f8 := Fa4.ext E2
  have z2 : n0 ≤ h2.size := Nat.le_trans Z0 E2.1
  have K2 := (Keep.refl h0 [a1]).ext E2
  replace A2 : own_Ar Z h2 b2 .boolean 3 (fun _ => .int 0) := A2
  refine own_via (T' := T2) (g' := (mkF m 8 #[.val (.ref a1), .val (.int (3 : Int32)), .val (.ref wt)] [(.ref b2), (.ref a1)])) (fun _ kt => st2 _ kt) ?_
  obtain ⟨T9, h9, X9, e9, W9, st9⟩ := putF X2 hx hZ hown (host := "") (Or.inl (hw _ (List.mem_of_getElem? (i := 22) rfl))) Via.refl e2 f4 f3 (Or.inr ⟨(hw _ (List.mem_of_getElem? (i := 23) rfl)), rfl, hnm⟩) (hw _ (List.mem_of_getElem? (i := 2) rfl)) (ty := (.array .boolean)) (by decide) rfl rfl (g := (mkF m 8 #[.val (.ref a1), .val (.int (3 : Int32)), .val (.ref wt)] [(.ref b2), (.ref a1)])) rfl rfl (hb hby d2_8)
  have f10 := f3.wr W9
  have f11 := f5.other W9 (Or.inr (slot_ne (Or.inr (hw _ (List.mem_of_getElem? (i := 32) rfl))) (Or.inr (hw _ (List.mem_of_getElem? (i := 23) rfl))) (by decide) (t := (.array .boolean)) (t' := (.array .boolean)) (by decide) (by decide)))
  have f12 := f6.other W9 (Or.inr (slot_ne (Or.inr (hw _ (List.mem_of_getElem? (i := 34) rfl))) (Or.inr (hw _ (List.mem_of_getElem? (i := 23) rfl))) (by decide) (t := (.array .boolean)) (t' := (.array .boolean)) (by decide) (by decide)))
  have f13 := f7.other W9 (Or.inr (slot_ne (Or.inr (hw _ (List.mem_of_getElem? (i := 36) rfl))) (Or.inr (hw _ (List.mem_of_getElem? (i := 23) rfl))) (by decide) (t := (.array .boolean)) (t' := (.array .boolean)) (by decide) (by decide)))
  have f14 := f8.other W9 (Or.inr (slot_ne (Or.inr (hw _ (List.mem_of_getElem? (i := 38) rfl))) (Or.inr (hw _ (List.mem_of_getElem? (i := 23) rfl))) (by decide) (t := (.array .boolean)) (t' := (.array .boolean)) (by decide) (by decide)))
  have f15 := A2.other W9 (own_ne (by omega))
  have z9 : n0 ≤ h9.size := Nat.le_trans z2 (Nat.le_of_eq W9.size.symm)
  have N9 := Fr.snoc X9 N0 ga1
  have K9 := K2.wr W9 (Or.inl (List.mem_of_getElem? (i := 0) rfl))
  have f9 := f4.same W9
  refine own_via (T' := T9) (g' := (mkF m 11 #[.val (.ref a1), .val (.int (3 : Int32)), .val (.ref wt)] [])) (fun _ kt => st9 _ kt) ?_
  refine own_via (T' := T9) (g' := (mkF m 12 #[.val (.ref a1), .val (.int (3 : Int32)), .val (.ref wt)] [(.ref a1)])) (fun _ kt => XS.aloadN X9.here hx rfl (hb hby d2_11) rfl rfl kt) ?_
  refine own_via (T' := T9) (g' := (mkF m 13 #[.val (.ref a1), .val (.int (3 : Int32)), .val (.ref wt)] [(.int (3 : Int32)), (.ref a1)])) (fun _ kt => XS.iloadN X9.here hx rfl (hb hby d2_12) rfl kt) ?_
  obtain ⟨v16, T16, L16, X16, hQ16, st16⟩ := own_callS X9 hx hZ (y := (⟨"com/example/querent/querent/engine/ColumnTypes", "filled", "(I)[Z"⟩ : MethodName)) hown (hw _ (List.mem_of_getElem? (i := 24) rfl)) (hw _ (List.mem_of_getElem? (i := 25) rfl)) (hw _ (List.mem_of_getElem? (i := 3) rfl)) (hw _ (List.mem_of_getElem? (i := 26) rfl)) (by decide) (W := 1) (argsL := [(.int (3 : Int32))]) (rest := [(.ref a1)]) (rm4 l Z a0 hw [] h9 n0 z9) (by decide) (by decide) (by decide) (by decide) e9 (g := (mkF m 13 #[.val (.ref a1), .val (.int (3 : Int32)), .val (.ref wt)] [(.int (3 : Int32)), (.ref a1)])) rfl (by rw [hml]; rfl) (lenOf pd_1 rfl) rfl (by show 2 * 0 + _ ≤ _; exact Nat.le_of_eq rfl) (hb hby d2_13)
  obtain ⟨b16, rfl, gb16, Nq16, Kq16, Aq16⟩ := hQ16
  have lt_a1_b16 : @LT.lt Nat _ a1 b16 := Nat.lt_of_lt_of_le f14.lt (Nat.le_of_eq gb16.symm)
  have lt_b2_b16 : @LT.lt Nat _ b2 b16 := Nat.lt_of_lt_of_le f15.lt (Nat.le_of_eq gb16.symm)
  have gg16 : n0 ≤ b16 := Nat.le_trans z9 (Nat.le_of_eq gb16.symm)
  have kz16 : h0.size ≤ b16 := Nat.le_trans K9.1 (Nat.le_of_eq gb16.symm)
  have f17 := f10.keep Kq16
  have f18 := f9.keep Kq16 nin0
  have f19 := f11.keep Kq16 nin0
  have f20 := f12.keep Kq16 nin0
  have f21 := f13.keep Kq16 nin0
  have f22 := f14.keep Kq16 nin0
  have f23 := f15.keep Kq16 nin0
  have z16 : n0 ≤ T16.heap.size := Nat.le_trans z9 Kq16.1
  have K16 := K9.trans Kq16 all0
  have N16 := Fr.app N9 Nq16
  refine own_via (T' := T16) (g' := (mkF m 16 #[.val (.ref a1), .val (.int (3 : Int32)), .val (.ref wt)] [(.ref b16), (.ref a1)])) (fun _ kt => st16 _ kt) ?_
  obtain ⟨T24, h24, X24, e24, W24, st24⟩ := putF X16 hx hZ hown (host := "") (Or.inl (hw _ (List.mem_of_getElem? (i := 31) rfl))) Via.refl rfl f19 f17 (Or.inr ⟨(hw _ (List.mem_of_getElem? (i := 32) rfl)), rfl, hnm⟩) (hw _ (List.mem_of_getElem? (i := 2) rfl)) (ty := (.array .boolean)) (by decide) rfl rfl (g := (mkF m 16 #[.val (.ref a1), .val (.int (3 : Int32)), .val (.ref wt)] [(.ref b16), (.ref a1)])) rfl rfl (hb hby d2_16)
  have f25 := f17.wr W24
  have f26 := f18.other W24 (Or.inr (slot_ne (Or.inr (hw _ (List.mem_of_getElem? (i := 23) rfl))) (Or.inr (hw _ (List.mem_of_getElem? (i := 32) rfl))) (by decide) (t := (.array .boolean)) (t' := (.array .boolean)) (by decide) (by decide)))
  have f27 := f20.other W24 (Or.inr (slot_ne (Or.inr (hw _ (List.mem_of_getElem? (i := 34) rfl))) (Or.inr (hw _ (List.mem_of_getElem? (i := 32) rfl))) (by decide) (t := (.array .boolean)) (t' := (.array .boolean)) (by decide) (by decide)))
  have f28 := f21.other W24 (Or.inr (slot_ne (Or.inr (hw _ (List.mem_of_getElem? (i := 36) rfl))) (Or.inr (hw _ (List.mem_of_getElem? (i := 32) rfl))) (by decide) (t := (.array .boolean)) (t' := (.array .boolean)) (by decide) (by decide)))
  have f29 := f22.other W24 (Or.inr (slot_ne (Or.inr (hw _ (List.mem_of_getElem? (i := 38) rfl))) (Or.inr (hw _ (List.mem_of_getElem? (i := 32) rfl))) (by decide) (t := (.array .boolean)) (t' := (.array .boolean)) (by decide) (by decide)))
  have f30 := f23.other W24 (own_ne (by omega))
  have f31 := Aq16.other W24 (own_ne (by omega))
  have z24 : n0 ≤ h24.size := Nat.le_trans z16 (Nat.le_of_eq W24.size.symm)
  have N24 := Fr.snoc X24 N16 ga1
  have K24 := K16.wr W24 (Or.inl (List.mem_of_getElem? (i := 0) rfl))
  have f24 := f19.same W24
  refine own_via (T' := T24) (g' := (mkF m 19 #[.val (.ref a1), .val (.int (3 : Int32)), .val (.ref wt)] [])) (fun _ kt => st24 _ kt) ?_
  refine own_via (T' := T24) (g' := (mkF m 20 #[.val (.ref a1), .val (.int (3 : Int32)), .val (.ref wt)] [(.ref a1)])) (fun _ kt => XS.aloadN X24.here hx rfl (hb hby d2_19) rfl rfl kt) ?_
  refine own_via (T' := T24) (g' := (mkF m 21 #[.val (.ref a1), .val (.int (3 : Int32)), .val (.ref wt)] [(.int (3 : Int32)), (.ref a1)])) (fun _ kt => XS.iloadN X24.here hx rfl (hb hby d2_20) rfl kt) ?_
  obtain ⟨v32, T32, L32, X32, hQ32, st32⟩ := own_callS X24 hx hZ (y := (⟨"com/example/querent/querent/engine/ColumnTypes", "filled", "(I)[Z"⟩ : MethodName)) hown (hw _ (List.mem_of_getElem? (i := 24) rfl)) (hw _ (List.mem_of_getElem? (i := 25) rfl)) (hw _ (List.mem_of_getElem? (i := 3) rfl)) (hw _ (List.mem_of_getElem? (i := 26) rfl)) (by decide) (W := 1) (argsL := [(.int (3 : Int32))]) (rest := [(.ref a1)]) (rm4 l Z a0 hw [] h24 n0 z24) (by decide) (by decide) (by decide) (by decide) e24 (g := (mkF m 21 #[.val (.ref a1), .val (.int (3 : Int32)), .val (.ref wt)] [(.int (3 : Int32)), (.ref a1)])) rfl (by rw [hml]; rfl) (lenOf pd_1 rfl) rfl (by show 2 * 0 + _ ≤ _; exact Nat.le_of_eq rfl) (hb hby d2_21)
  obtain ⟨b32, rfl, gb32, Nq32, Kq32, Aq32⟩ := hQ32
  have lt_a1_b32 : @LT.lt Nat _ a1 b32 := Nat.lt_of_lt_of_le f29.lt (Nat.le_of_eq gb32.symm)
  have lt_b2_b32 : @LT.lt Nat _ b2 b32 := Nat.lt_of_lt_of_le f30.lt (Nat.le_of_eq gb32.symm)
  have lt_b16_b32 : @LT.lt Nat _ b16 b32 := Nat.lt_of_lt_of_le f31.lt (Nat.le_of_eq gb32.symm)
  have gg32 : n0 ≤ b32 := Nat.le_trans z24 (Nat.le_of_eq gb32.symm)
  have kz32 : h0.size ≤ b32 := Nat.le_trans K24.1 (Nat.le_of_eq gb32.symm)
  have f33 := f25.keep Kq32
  have f34 := f26.keep Kq32 nin0
  have f35 := f24.keep Kq32 nin0
  have f36 := f27.keep Kq32 nin0
  have f37 := f28.keep Kq32 nin0
  have f38 := f29.keep Kq32 nin0
  have f39 := f30.keep Kq32 nin0
  have f40 := f31.keep Kq32 nin0
  have z32 : n0 ≤ T32.heap.size := Nat.le_trans z24 Kq32.1
  have K32 := K24.trans Kq32 all0
  have N32 := Fr.app N24 Nq32
  refine own_via (T' := T32) (g' := (mkF m 24 #[.val (.ref a1), .val (.int (3 : Int32)), .val (.ref wt)] [(.ref b32), (.ref a1)])) (fun _ kt => st32 _ kt) ?_
  obtain ⟨T41, h41, X41, e41, W41, st41⟩ := putF X32 hx hZ hown (host := "") (Or.inl (hw _ (List.mem_of_getElem? (i := 33) rfl))) Via.refl rfl f36 f33 (Or.inr ⟨(hw _ (List.mem_of_getElem? (i := 34) rfl)), rfl, hnm⟩) (hw _ (List.mem_of_getElem? (i := 2) rfl)) (ty := (.array .boolean)) (by decide) rfl rfl (g := (mkF m 24 #[.val (.ref a1), .val (.int (3 : Int32)), .val (.ref wt)] [(.ref b32), (.ref a1)])) rfl rfl (hb hby d2_24)
  have f42 := f33.wr W41
  have f43 := f34.other W41 (Or.inr (slot_ne (Or.inr (hw _ (List.mem_of_getElem? (i := 23) rfl))) (Or.inr (hw _ (List.mem_of_getElem? (i := 34) rfl))) (by decide) (t := (.array .boolean)) (t' := (.array .boolean)) (by decide) (by decide)))
  have f44 := f35.other W41 (Or.inr (slot_ne (Or.inr (hw _ (List.mem_of_getElem? (i := 32) rfl))) (Or.inr (hw _ (List.mem_of_getElem? (i := 34) rfl))) (by decide) (t := (.array .boolean)) (t' := (.array .boolean)) (by decide) (by decide)))
  have f45 := f37.other W41 (Or.inr (slot_ne (Or.inr (hw _ (List.mem_of_getElem? (i := 36) rfl))) (Or.inr (hw _ (List.mem_of_getElem? (i := 34) rfl))) (by decide) (t := (.array .boolean)) (t' := (.array .boolean)) (by decide) (by decide)))
  have f46 := f38.other W41 (Or.inr (slot_ne (Or.inr (hw _ (List.mem_of_getElem? (i := 38) rfl))) (Or.inr (hw _ (List.mem_of_getElem? (i := 34) rfl))) (by decide) (t := (.array .boolean)) (t' := (.array .boolean)) (by decide) (by decide)))
  have f47 := f39.other W41 (own_ne (by omega))
  have f48 := f40.other W41 (own_ne (by omega))
  have f49 := Aq32.other W41 (own_ne (by omega))
  have z41 : n0 ≤ h41.size := Nat.le_trans z32 (Nat.le_of_eq W41.size.symm)
  have N41 := Fr.snoc X41 N32 ga1
  have K41 := K32.wr W41 (Or.inl (List.mem_of_getElem? (i := 0) rfl))
  have f41 := f36.same W41
  refine own_via (T' := T41) (g' := (mkF m 27 #[.val (.ref a1), .val (.int (3 : Int32)), .val (.ref wt)] [])) (fun _ kt => st41 _ kt) ?_
  refine own_via (T' := T41) (g' := (mkF m 28 #[.val (.ref a1), .val (.int (3 : Int32)), .val (.ref wt)] [(.ref a1)])) (fun _ kt => XS.aloadN X41.here hx rfl (hb hby d2_27) rfl rfl kt) ?_
  refine own_via (T' := T41) (g' := (mkF m 29 #[.val (.ref a1), .val (.int (3 : Int32)), .val (.ref wt)] [(.int (3 : Int32)), (.ref a1)])) (fun _ kt => XS.iloadN X41.here hx rfl (hb hby d2_28) rfl kt) ?_
  obtain ⟨v50, T50, L50, X50, hQ50, st50⟩ := own_callS X41 hx hZ (y := (⟨"com/example/querent/querent/engine/ColumnTypes", "filled", "(I)[Z"⟩ : MethodName)) hown (hw _ (List.mem_of_getElem? (i := 24) rfl)) (hw _ (List.mem_of_getElem? (i := 25) rfl)) (hw _ (List.mem_of_getElem? (i := 3) rfl)) (hw _ (List.mem_of_getElem? (i := 26) rfl)) (by decide) (W := 1) (argsL := [(.int (3 : Int32))]) (rest := [(.ref a1)]) (rm4 l Z a0 hw [] h41 n0 z41) (by decide) (by decide) (by decide) (by decide) e41 (g := (mkF m 29 #[.val (.ref a1), .val (.int (3 : Int32)), .val (.ref wt)] [(.int (3 : Int32)), (.ref a1)])) rfl (by rw [hml]; rfl) (lenOf pd_1 rfl) rfl (by show 2 * 0 + _ ≤ _; exact Nat.le_of_eq rfl) (hb hby d2_29)
  obtain ⟨b50, rfl, gb50, Nq50, Kq50, Aq50⟩ := hQ50
  have lt_a1_b50 : @LT.lt Nat _ a1 b50 := Nat.lt_of_lt_of_le f46.lt (Nat.le_of_eq gb50.symm)
  have lt_b2_b50 : @LT.lt Nat _ b2 b50 := Nat.lt_of_lt_of_le f47.lt (Nat.le_of_eq gb50.symm)
  have lt_b16_b50 : @LT.lt Nat _ b16 b50 := Nat.lt_of_lt_of_le f48.lt (Nat.le_of_eq gb50.symm)
  have lt_b32_b50 : @LT.lt Nat _ b32 b50 := Nat.lt_of_lt_of_le f49.lt (Nat.le_of_eq gb50.symm)
  have gg50 : n0 ≤ b50 := Nat.le_trans z41 (Nat.le_of_eq gb50.symm)
  have kz50 : h0.size ≤ b50 := Nat.le_trans K41.1 (Nat.le_of_eq gb50.symm)
  have f51 := f42.keep Kq50
  have f52 := f43.keep Kq50 nin0
  have f53 := f44.keep Kq50 nin0
  have f54 := f41.keep Kq50 nin0
  have f55 := f45.keep Kq50 nin0
  have f56 := f46.keep Kq50 nin0
  have f57 := f47.keep Kq50 nin0
  have f58 := f48.keep Kq50 nin0
  have f59 := f49.keep Kq50 nin0
  have z50 : n0 ≤ T50.heap.size := Nat.le_trans z41 Kq50.1
  have K50 := K41.trans Kq50 all0
  have N50 := Fr.app N41 Nq50
  refine own_via (T' := T50) (g' := (mkF m 32 #[.val (.ref a1), .val (.int (3 : Int32)), .val (.ref wt)] [(.ref b50), (.ref a1)])) (fun _ kt => st50 _ kt) ?_
  obtain ⟨T60, h60, X60, e60, W60, st60⟩ := putF X50 hx hZ hown (host := "") (Or.inl (hw _ (List.mem_of_getElem? (i := 35) rfl))) Via.refl rfl f55 f51 (Or.inr ⟨(hw _ (List.mem_of_getElem? (i := 36) rfl)), rfl, hnm⟩) (hw _ (List.mem_of_getElem? (i := 2) rfl)) (ty := (.array .boolean)) (by decide) rfl rfl (g := (mkF m 32 #[.val (.ref a1), .val (.int (3 : Int32)), .val (.ref wt)] [(.ref b50), (.ref a1)])) rfl rfl (hb hby d2_32)
  have f61 := f51.wr W60
  have f62 := f52.other W60 (Or.inr (slot_ne (Or.inr (hw _ (List.mem_of_getElem? (i := 23) rfl))) (Or.inr (hw _ (List.mem_of_getElem? (i := 36) rfl))) (by decide) (t := (.array .boolean)) (t' := (.array .boolean)) (by decide) (by decide)))
  have f63 := f53.other W60 (Or.inr (slot_ne (Or.inr (hw _ (List.mem_of_getElem? (i := 32) rfl))) (Or.inr (hw _ (List.mem_of_getElem? (i := 36) rfl))) (by decide) (t := (.array .boolean)) (t' := (.array .boolean)) (by decide) (by decide)))
  have f64 := f54.other W60 (Or.inr (slot_ne (Or.inr (hw _ (List.mem_of_getElem? (i := 34) rfl))) (Or.inr (hw _ (List.mem_of_getElem? (i := 36) rfl))) (by decide) (t := (.array .boolean)) (t' := (.array .boolean)) (by decide) (by decide)))
  have f65 := f56.other W60 (Or.inr (slot_ne (Or.inr (hw _ (List.mem_of_getElem? (i := 38) rfl))) (Or.inr (hw _ (List.mem_of_getElem? (i := 36) rfl))) (by decide) (t := (.array .boolean)) (t' := (.array .boolean)) (by decide) (by decide)))
  have f66 := f57.other W60 (own_ne (by omega))
  have f67 := f58.other W60 (own_ne (by omega))
  have f68 := f59.other W60 (own_ne (by omega))
  have f69 := Aq50.other W60 (own_ne (by omega))
  have z60 : n0 ≤ h60.size := Nat.le_trans z50 (Nat.le_of_eq W60.size.symm)
  have N60 := Fr.snoc X60 N50 ga1
  have K60 := K50.wr W60 (Or.inl (List.mem_of_getElem? (i := 0) rfl))
  have f60 := f55.same W60
  refine own_via (T' := T60) (g' := (mkF m 35 #[.val (.ref a1), .val (.int (3 : Int32)), .val (.ref wt)] [])) (fun _ kt => st60 _ kt) ?_
  refine own_via (T' := T60) (g' := (mkF m 36 #[.val (.ref a1), .val (.int (3 : Int32)), .val (.ref wt)] [(.ref a1)])) (fun _ kt => XS.aloadN X60.here hx rfl (hb hby d2_35) rfl rfl kt) ?_
  refine own_via (T' := T60) (g' := (mkF m 37 #[.val (.ref a1), .val (.int (3 : Int32)), .val (.ref wt)] [(.ref wt), (.ref a1)])) (fun _ kt => XS.aloadN X60.here hx rfl (hb hby d2_36) rfl rfl kt) ?_
  obtain ⟨T70, h70, X70, e70, W70, st70⟩ := putF X60 hx hZ hown (host := "") (Or.inl (hw _ (List.mem_of_getElem? (i := 37) rfl))) Via.refl e60 f65 f61 (Or.inr ⟨(hw _ (List.mem_of_getElem? (i := 38) rfl)), rfl, hnm⟩) (hw _ (List.mem_of_getElem? (i := 2) rfl)) (ty := (.array .boolean)) (by decide) rfl rfl (g := (mkF m 37 #[.val (.ref a1), .val (.int (3 : Int32)), .val (.ref wt)] [(.ref wt), (.ref a1)])) rfl rfl (hb hby d2_37)
  have f71 := f61.wr W70
  have f72 := f62.other W70 (Or.inr (slot_ne (Or.inr (hw _ (List.mem_of_getElem? (i := 23) rfl))) (Or.inr (hw _ (List.mem_of_getElem? (i := 38) rfl))) (by decide) (t := (.array .boolean)) (t' := (.array .boolean)) (by decide) (by decide)))
  have f73 := f63.other W70 (Or.inr (slot_ne (Or.inr (hw _ (List.mem_of_getElem? (i := 32) rfl))) (Or.inr (hw _ (List.mem_of_getElem? (i := 38) rfl))) (by decide) (t := (.array .boolean)) (t' := (.array .boolean)) (by decide) (by decide)))
  have f74 := f64.other W70 (Or.inr (slot_ne (Or.inr (hw _ (List.mem_of_getElem? (i := 34) rfl))) (Or.inr (hw _ (List.mem_of_getElem? (i := 38) rfl))) (by decide) (t := (.array .boolean)) (t' := (.array .boolean)) (by decide) (by decide)))
  have f75 := f60.other W70 (Or.inr (slot_ne (Or.inr (hw _ (List.mem_of_getElem? (i := 36) rfl))) (Or.inr (hw _ (List.mem_of_getElem? (i := 38) rfl))) (by decide) (t := (.array .boolean)) (t' := (.array .boolean)) (by decide) (by decide)))
  have f76 := f66.other W70 (own_ne (by omega))
  have f77 := f67.other W70 (own_ne (by omega))
  have f78 := f68.other W70 (own_ne (by omega))
  have f79 := f69.other W70 (own_ne (by omega))
  have z70 : n0 ≤ h70.size := Nat.le_trans z60 (Nat.le_of_eq W70.size.symm)
  have N70 := Fr.snoc X70 N60 ga1
  have K70 := K60.wr W70 (Or.inl (List.mem_of_getElem? (i := 0) rfl))
  have f70 := f65.same W70
  refine own_via (T' := T70) (g' := (mkF m 40 #[.val (.ref a1), .val (.int (3 : Int32)), .val (.ref wt)] [])) (fun _ kt => st70 _ kt) ?_
  have A80 : own_Ar Z h70 b2 .boolean 3 (fun i => .int (own_z i)) := f76.congr (fun _ _ => rfl)
  have A81 : own_Ar Z h70 b16 .boolean 3 (fun i => .int (own_nt (own_z i))) := f77.congr (fun _ _ => rfl)
  have A82 : own_Ar Z h70 b32 .boolean 3 (fun i => .int (own_nt (own_z i))) := f78.congr (fun _ _ => rfl)
  have A83 : own_Ar Z h70 b50 .boolean 3 (fun i => .int (own_nt (own_z i))) := f79.congr (fun _ _ => rfl)
  exact own_retV X70 hx hret hlk (hb hby d2_40) (by rw [e70]; exact ⟨b2, b16, b32, b50, kz2, by omega, by omega, by omega, rfl, N70, K70, ⟨f71, f72, f73, f74, f75, f70, A80, A81, A82, A83⟩⟩) (by decide) (by decide)
theorem d10_0 : decode prog_20_method_1_code 0 = .ok (.aload_n 0, 1) := by decide +kernel
theorem d10_1 : decode prog_20_method_1_code 1 = .ok (.iload_n 1, 1) := by decide +kernel
theorem d10_2 : decode prog_20_method_1_code 2 = .ok (.aconst_null, 1) := by decide +kernel
theorem d10_3 : decode prog_20_method_1_code 3 = .ok (.invokespecial 1, 3) := by decide +kernel
theorem d10_6 : decode prog_20_method_1_code 6 = .ok (.return_, 1) := by decide +kernel
theorem pn_10 : plainName "com/example/querent/querent/engine/ColumnTypes" = true := by first | (simp [plainName, overriddenIn]; done) | decide +kernel
theorem ef_10 (m : MethodId) (x0 : Addr) (x1 : Int32) : entryFrame m #[(.ref x0), (.int x1)] 2 = mkF m 0 #[.val (.ref x0), .val (.int x1)] [] := by first | (simp [entryFrame, mkF, argsToLocals, Value.category]; done) | rfl
set_option maxRecDepth 65536 in
set_option maxHeartbeats 40000000 in
theorem rm10 (l : Launch) (Z : State) (a0 : Array Value) (hw : ∀ d ∈ tables_1, d.before a0 Z = true) (ws : List Jvm.Cond) (a1 : Addr) (u0 u1 u2 u3 u4 : Value) (h0 : Heap) (n0 : Nat) (Z0 : n0 ≤ h0.size) (ga1 : n0 ≤ a1) (Ea : Exa Z h0 a1 "com/example/querent/querent/engine/ColumnTypes") (Fa0 : Fld Z h0 a1 "com/example/querent/querent/engine/ColumnTypes" "seen" "[Z" u0) (Fa1 : Fld Z h0 a1 "com/example/querent/querent/engine/ColumnTypes" "integers" "[Z" u1) (Fa2 : Fld Z h0 a1 "com/example/querent/querent/engine/ColumnTypes" "numbers" "[Z" u2) (Fa3 : Fld Z h0 a1 "com/example/querent/querent/engine/ColumnTypes" "booleans" "[Z" u3) (Fa4 : Fld Z h0 a1 "com/example/querent/querent/engine/ColumnTypes" "watched" "[Z" u4) :
    own_Con l Z (⟨"com/example/querent/querent/engine/ColumnTypes", "<init>", "(I)V"⟩ : MethodName) prog_20_method_1_code 2 none ws ({ frames := 3, cells := 4, slots := 12, locals := 43 } : Room) #[(.ref a1), (.int 3)] h0 (fun v h L => ∃ sn it nm bl, h0.size ≤ sn ∧ @LT.lt Nat _ sn it ∧ @LT.lt Nat _ it nm ∧ @LT.lt Nat _ nm bl ∧ v = none ∧ Fr n0 L ∧ Keep h0 h [a1] ∧ own_CT Z h a1 sn it nm bl .null (fun i => .int (own_z i)) (fun i => .int (own_nt (own_z i)))) := by
  refine own_body (plainFor_of_name pn_10) ?_
  intro p e s m below meth c T0 hx hby hml hown hnm hret hlk hZ X0 e0
  replace hown : s.vm.findClass "com/example/querent/querent/engine/ColumnTypes" = some m.cls := hown
  replace hret : meth.sig.returnType = none := hret
  replace hnm : meth.name = "<init>" := hnm
  rw [ef_10 m a1 3]
  have N0 := Fr.nil n0
  refine own_via (T' := T0) (g' := (mkF m 1 #[.val (.ref a1), .val (.int (3 : Int32))] [(.ref a1)])) (fun _ kt => XS.aloadN X0.here hx rfl (hb hby d10_0) rfl rfl kt) ?_
  refine own_via (T' := T0) (g' := (mkF m 2 #[.val (.ref a1), .val (.int (3 : Int32))] [(.int (3 : Int32)), (.ref a1)])) (fun _ kt => XS.iloadN X0.here hx rfl (hb hby d10_1) rfl kt) ?_
  refine own_via (T' := T0) (g' := (mkF m 3 #[.val (.ref a1), .val (.int (3 : Int32))] [.null, (.int (3 : Int32)), (.ref a1)])) (fun _ kt => XS.aconstNull X0.here hx rfl (hb hby d10_2) kt) ?_
  obtain ⟨v1, T1, L1, X1, hQ1, st1⟩ := own_callI X0 hx hZ (y := (⟨"com/example/querent/querent/engine/ColumnTypes", "<init>", "(I[Z)V"⟩ : MethodName)) rfl hown (hw _ (List.mem_of_getElem? (i := 16) rfl)) (hw _ (List.mem_of_getElem? (i := 17) rfl)) (hw _ (List.mem_of_getElem? (i := 3) rfl)) (hw _ (List.mem_of_getElem? (i := 18) rfl)) (by decide) (b := a1) (W := 0) (argsL := [(.int (3 : Int32)), .null]) (rest := []) (rm2n l Z a0 hw [] a1 _ _ _ _ _ h0 n0 Z0 ga1 Ea Fa0 Fa1 Fa2 Fa3 Fa4) (by decide) (by decide) (by decide) (by decide) e0 (g := (mkF m 3 #[.val (.ref a1), .val (.int (3 : Int32))] [.null, (.int (3 : Int32)), (.ref a1)])) rfl (by rw [hml]; rfl) (lenOf pd_2 rfl) rfl (by show 2 * 0 + _ ≤ _; exact Nat.le_of_eq rfl) (hb hby d10_3)
  obtain ⟨sn, it, nm, bl, o1, o2, o3, o4, rfl, Nq1, Kq1, Cq1⟩ := hQ1
  have lt_a1_sn : @LT.lt Nat _ a1 sn := Nat.lt_of_lt_of_le Ea.lt o1
  have kzsn : h0.size ≤ sn := Nat.le_trans (Keep.refl h0 [a1]).1 o1
  have zsn : n0 ≤ sn := Nat.le_trans Z0 o1
  have f2 := Ea.keep Kq1
  have z1 : n0 ≤ T1.heap.size := Nat.le_trans Z0 Kq1.1
  have K1 := (Keep.refl h0 [a1]).trans Kq1 (allS (Or.inl (List.mem_of_getElem? (i := 0) rfl)) all0)
  have N1 := Fr.app N0 Nq1
  refine own_via (T' := T1) (g' := (mkF m 6 #[.val (.ref a1), .val (.int (3 : Int32))] [])) (fun _ kt => st1 _ kt) ?_
  exact own_retV X1 hx hret hlk (hb hby d10_6) ⟨sn, it, nm, bl, kzsn, o2, o3, o4, rfl, N1, K1, Cq1⟩ (by decide) (by decide)
theorem d1_0 : decode prog_20_method_2_code 0 = .ok (.aload_n 0, 1) := by decide +kernel
theorem d1_1 : decode prog_20_method_2_code 1 = .ok (.aload_n 1, 1) := by decide +kernel
theorem d1_2 : decode prog_20_method_2_code 2 = .ok (.arraylength, 1) := by decide +kernel
theorem d1_3 : decode prog_20_method_2_code 3 = .ok (.aload_n 1, 1) := by decide +kernel
theorem d1_4 : decode prog_20_method_2_code 4 = .ok (.invokevirtual 7, 3) := by decide +kernel
theorem d1_7 : decode prog_20_method_2_code 7 = .ok (.checkcast 8, 3) := by decide +kernel
theorem d1_10 : decode prog_20_method_2_code 10 = .ok (.invokespecial 1, 3) := by decide +kernel
theorem d1_13 : decode prog_20_method_2_code 13 = .ok (.iconst 0, 1) := by decide +kernel
theorem d1_14 : decode prog_20_method_2_code 14 = .ok (.istore_n 2, 1) := by decide +kernel
theorem d1_15 : decode prog_20_method_2_code 15 = .ok (.iload_n 2, 1) := by decide +kernel
theorem d1_16 : decode prog_20_method_2_code 16 = .ok (.aload_n 1, 1) := by decide +kernel
theorem d1_17 : decode prog_20_method_2_code 17 = .ok (.arraylength, 1) := by decide +kernel
theorem d1_18 : decode prog_20_method_2_code 18 = .ok (.if_icmp .ge 43, 3) := by decide +kernel
theorem d1_21 : decode prog_20_method_2_code 21 = .ok (.aload_n 1, 1) := by decide +kernel
theorem d1_22 : decode prog_20_method_2_code 22 = .ok (.iload_n 2, 1) := by decide +kernel
theorem d1_23 : decode prog_20_method_2_code 23 = .ok (.baload, 1) := by decide +kernel
theorem d1_24 : decode prog_20_method_2_code 24 = .ok (.ifCond .ne 31, 3) := by decide +kernel
theorem d1_27 : decode prog_20_method_2_code 27 = .ok (.aload_n 0, 1) := by decide +kernel
theorem d1_28 : decode prog_20_method_2_code 28 = .ok (.getfield 13, 3) := by decide +kernel
theorem d1_31 : decode prog_20_method_2_code 31 = .ok (.iload_n 2, 1) := by decide +kernel
theorem d1_32 : decode prog_20_method_2_code 32 = .ok (.iconst 1, 1) := by decide +kernel
theorem d1_33 : decode prog_20_method_2_code 33 = .ok (.bastore, 1) := by decide +kernel
theorem d1_34 : decode prog_20_method_2_code 34 = .ok (.aload_n 0, 1) := by decide +kernel
theorem d1_35 : decode prog_20_method_2_code 35 = .ok (.getfield 16, 3) := by decide +kernel
theorem d1_38 : decode prog_20_method_2_code 38 = .ok (.iload_n 2, 1) := by decide +kernel
theorem d1_39 : decode prog_20_method_2_code 39 = .ok (.iconst 0, 1) := by decide +kernel
theorem d1_40 : decode prog_20_method_2_code 40 = .ok (.bastore, 1) := by decide +kernel
theorem d1_41 : decode prog_20_method_2_code 41 = .ok (.aload_n 0, 1) := by decide +kernel
theorem d1_42 : decode prog_20_method_2_code 42 = .ok (.getfield 19, 3) := by decide +kernel
theorem d1_45 : decode prog_20_method_2_code 45 = .ok (.iload_n 2, 1) := by decide +kernel
theorem d1_46 : decode prog_20_method_2_code 46 = .ok (.iconst 0, 1) := by decide +kernel
theorem d1_47 : decode prog_20_method_2_code 47 = .ok (.bastore, 1) := by decide +kernel
theorem d1_48 : decode prog_20_method_2_code 48 = .ok (.aload_n 0, 1) := by decide +kernel
theorem d1_49 : decode prog_20_method_2_code 49 = .ok (.getfield 22, 3) := by decide +kernel
theorem d1_52 : decode prog_20_method_2_code 52 = .ok (.iload_n 2, 1) := by decide +kernel
theorem d1_53 : decode prog_20_method_2_code 53 = .ok (.iconst 0, 1) := by decide +kernel
theorem d1_54 : decode prog_20_method_2_code 54 = .ok (.bastore, 1) := by decide +kernel
theorem d1_55 : decode prog_20_method_2_code 55 = .ok (.iinc 2 1, 3) := by decide +kernel
theorem d1_58 : decode prog_20_method_2_code 58 = .ok (.goto (-43), 3) := by decide +kernel
theorem d1_61 : decode prog_20_method_2_code 61 = .ok (.return_, 1) := by decide +kernel
theorem pn_1 : plainName "com/example/querent/querent/engine/ColumnTypes" = true := by first | (simp [plainName, overriddenIn]; done) | decide +kernel
theorem ef_1 (m : MethodId) (x0 : Addr) (x1 : Addr) : entryFrame m #[(.ref x0), (.ref x1)] 3 = mkF m 0 #[.val (.ref x0), .val (.ref x1), .unset] [] := by first | (simp [entryFrame, mkF, argsToLocals, Value.category]; done) | rfl
theorem own_fe1 {b : Nat → Int32} {i : Nat} (h : b i = 0) (k : Nat) (hk : k < 3) : own_up (fun k => .int (if k < i then own_nt (b k) else 0)) i (.int 1) k = .int (if k < (i + 1) then own_nt (b k) else 0) := by
  unfold own_up; by_cases q : k = i
  · subst q; rw [if_pos rfl, if_pos (Nat.lt_succ_self k), own_nt0 h]
  · rw [if_neg q]; by_cases r : k < i
    · simp only [if_pos r, if_pos (show k < i + 1 by omega)]
    · simp only [if_neg r, if_neg (show ¬ k < i + 1 by omega)]
theorem own_fe2 {b : Nat → Int32} {i : Nat} (h : b i = 0) (k : Nat) (hk : k < 3) : own_up (fun k => .int (if k < i then b k else 1)) i (.int 0) k = .int (if k < (i + 1) then b k else 1) := by
  unfold own_up; by_cases q : k = i
  · subst q; rw [if_pos rfl, if_pos (Nat.lt_succ_self k), h]
  · rw [if_neg q]; by_cases r : k < i
    · simp only [if_pos r, if_pos (show k < i + 1 by omega)]
    · simp only [if_neg r, if_neg (show ¬ k < i + 1 by omega)]
theorem own_fe3 {b : Nat → Int32} {i : Nat} (h : ¬ b i = 0) (k : Nat) (hk : k < 3) : (Value.int (if k < i then own_nt (b k) else 0)) = .int (if k < (i + 1) then own_nt (b k) else 0) := by
  by_cases q : k = i
  · subst q; rw [if_neg (Nat.lt_irrefl k), if_pos (Nat.lt_succ_self k), own_nt1 h]
  · by_cases r : k < i
    · rw [if_pos r, if_pos (by omega)]
    · rw [if_neg r, if_neg (by omega)]
theorem own_fe4 {b : Nat → Int32} {i : Nat} (hb : own_bit (b i)) (h : ¬ b i = 0) (k : Nat) (hk : k < 3) : (Value.int (if k < i then b k else 1)) = .int (if k < (i + 1) then b k else 1) := by
  by_cases q : k = i
  · subst q; rw [if_neg (Nat.lt_irrefl k), if_pos (Nat.lt_succ_self k), hb.resolve_left h]
  · by_cases r : k < i
    · rw [if_pos r, if_pos (by omega)]
    · rw [if_neg r, if_neg (by omega)]
theorem own_upid {q : Nat → Int32} {i : Nat} {x : Int32} (h : q i = x) (k : Nat) (hk : k < 3) : own_up (fun k => .int (q k)) i (.int x) k = .int (q k) := by
  unfold own_up; split
  · rename_i z; rw [z, h]
  · rfl
set_option maxRecDepth 65536 in
set_option maxHeartbeats 40000000 in
theorem rm1 (l : Launch) (Z : State) (a0 : Array Value) (hw : ∀ d ∈ tables_1, d.before a0 Z = true) (ws : List Jvm.Cond) (wz : Addr) (b : Nat → Int32) (hbb : ∀ i, own_bit (b i)) (a1 : Addr) (u0 u1 u2 u3 u4 : Value) (h0 : Heap) (n0 : Nat) (Z0 : n0 ≤ h0.size) (ga1 : n0 ≤ a1) (Ea : Exa Z h0 a1 "com/example/querent/querent/engine/ColumnTypes") (Fa0 : Fld Z h0 a1 "com/example/querent/querent/engine/ColumnTypes" "seen" "[Z" u0) (Fa1 : Fld Z h0 a1 "com/example/querent/querent/engine/ColumnTypes" "integers" "[Z" u1) (Fa2 : Fld Z h0 a1 "com/example/querent/querent/engine/ColumnTypes" "numbers" "[Z" u2) (Fa3 : Fld Z h0 a1 "com/example/querent/querent/engine/ColumnTypes" "booleans" "[Z" u3) (Fa4 : Fld Z h0 a1 "com/example/querent/querent/engine/ColumnTypes" "watched" "[Z" u4) (Az : own_Ar Z h0 wz .boolean 3 (fun i => .int (b i))) (Ez : Exa Z h0 wz "[Z") (oz : @LT.lt Nat _ wz a1) :
    own_Con l Z (⟨"com/example/querent/querent/engine/ColumnTypes", "<init>", "([Z)V"⟩ : MethodName) prog_20_method_2_code 3 none ws ({ frames := 3, cells := 5, slots := 15, locals := 43 } : Room) #[(.ref a1), (.ref wz)] h0 (fun v h L => ∃ wt sn it nm bl, h0.size ≤ wt ∧ @LT.lt Nat _ wt sn ∧ @LT.lt Nat _ sn it ∧ @LT.lt Nat _ it nm ∧ @LT.lt Nat _ nm bl ∧ v = none ∧ Fr n0 L ∧ Keep h0 h [a1] ∧ own_CT Z h a1 sn it nm bl (.ref wt) (fun i => .int (own_nb b i)) (fun i => .int (own_nt (own_nb b i))) ∧ own_Ar Z h wt .boolean 3 (fun i => .int (b i))) := by
  refine own_body (plainFor_of_name pn_1) ?_
  intro p e s m below meth c T0 hx hby hml hown hnm hret hlk hZ X0 e0
  replace hown : s.vm.findClass "com/example/querent/querent/engine/ColumnTypes" = some m.cls := hown
  replace hret : meth.sig.returnType = none := hret
  replace hnm : meth.name = "<init>" := hnm
  rw [ef_1 m a1 wz]
  have N0 := Fr.nil n0
  have lt_a1 : @LT.lt Nat _ a1 h0.size := Ea.lt
  refine own_via (T' := T0) (g' := (mkF m 1 #[.val (.ref a1), .val (.ref wz), .unset] [(.ref a1)])) (fun _ kt => XS.aloadN X0.here hx rfl (hb hby d1_0) rfl rfl kt) ?_
  refine own_via (T' := T0) (g' := (mkF m 2 #[.val (.ref a1), .val (.ref wz), .unset] [(.ref wz), (.ref a1)])) (fun _ kt => XS.aloadN X0.here hx rfl (hb hby d1_1) rfl rfl kt) ?_
  refine own_via (T' := T0) (g' := (mkF m 3 #[.val (.ref a1), .val (.ref wz), .unset] [(.int (3 : Int32)), (.ref a1)])) (fun _ kt => own_alen X0 hx hZ e0 Az (g := (mkF m 2 #[.val (.ref a1), .val (.ref wz), .unset] [(.ref wz), (.ref a1)])) rfl rfl (hb hby d1_2) _ kt) ?_
  refine own_via (T' := T0) (g' := (mkF m 4 #[.val (.ref a1), .val (.ref wz), .unset] [(.ref wz), (.int (3 : Int32)), (.ref a1)])) (fun _ kt => XS.aloadN X0.here hx rfl (hb hby d1_3) rfl rfl kt) ?_
  obtain ⟨T1, h1, b1, gb1, X1, e1, E1, A1, Ex1, st1⟩ := own_clone X0 hx hZ hown (hw _ (List.mem_of_getElem? (i := 7) rfl)) (hw _ (List.mem_of_getElem? (i := 8) rfl)) (hw _ (List.mem_of_getElem? (i := 12) rfl)) (hw _ (List.mem_of_getElem? (i := 10) rfl)) (hw _ (List.mem_of_getElem? (i := 11) rfl)) (hw _ (List.mem_of_getElem? (i := 13) rfl)) e0 Az (fun i _ => own_fitb (hbb i)) Ez (g := (mkF m 4 #[.val (.ref a1), .val (.ref wz), .unset] [(.ref wz), (.int (3 : Int32)), (.ref a1)])) rfl (by rw [hml]; rfl) rfl (hb hby d1_4) (by decide) (W := 2) (by show 2 * 0 + _ ≤ _; exact Nat.le_of_eq rfl) (by decide) (by decide) (by decide)
  have lt_a1_b1 : @LT.lt Nat _ a1 b1 := Nat.lt_of_lt_of_le Ea.lt (Nat.le_of_eq gb1.symm)
  have lt_wz_b1 : @LT.lt Nat _ wz b1 := Nat.lt_of_lt_of_le Az.lt (Nat.le_of_eq gb1.symm)
  have gg1 : n0 ≤ b1 := Nat.le_trans Z0 (Nat.le_of_eq gb1.symm)
  have kz1 : h0.size ≤ b1 := Nat.le_trans (Keep.refl h0 [a1]).1 (Nat.le_of_eq gb1.symm)
  have f2 := Ea.ext E1
  have f3 := Fa0.ext E1
  have f4 := Fa1.ext E1
  have f5 := Fa2.ext E1
  have f6 := Fa3.ext E1
  have f7 := Fa4.ext E1
  have f8 := Az.ext E1
  have f9 := Ez.ext E1
  have z1 : n0 ≤ h1.size := Nat.le_trans Z0 E1.1
  have K1 := (Keep.refl h0 [a1]).ext E1
  refine own_via (T' := T1) (g' := (mkF m 7 #[.val (.ref a1), .val (.ref wz), .unset] [(.ref b1), (.int (3 : Int32)), (.ref a1)])) (fun _ kt => st1 _ kt) ?_
  obtain ⟨T10, X10, e10, st10⟩ := castY X1 hx hZ hown (hw _ (List.mem_of_getElem? (i := 14) rfl)) e1 (Ins.self Ex1) (g := (mkF m 7 #[.val (.ref a1), .val (.ref wz), .unset] [(.ref b1), (.int (3 : Int32)), (.ref a1)])) rfl rfl (hb hby d1_7)
  refine own_via (T' := T10) (g' := (mkF m 10 #[.val (.ref a1), .val (.ref wz), .unset] [(.ref b1), (.int (3 : Int32)), (.ref a1)])) (fun _ kt => st10 _ kt) ?_
  obtain ⟨v11, T11, L11, X11, hQ11, st11⟩ := own_callI X10 hx hZ (y := (⟨"com/example/querent/querent/engine/ColumnTypes", "<init>", "(I[Z)V"⟩ : MethodName)) rfl hown (hw _ (List.mem_of_getElem? (i := 16) rfl)) (hw _ (List.mem_of_getElem? (i := 17) rfl)) (hw _ (List.mem_of_getElem? (i := 3) rfl)) (hw _ (List.mem_of_getElem? (i := 18) rfl)) (by decide) (b := a1) (W := 0) (argsL := [(.int (3 : Int32)), (.ref b1)]) (rest := []) (rm2r l Z a0 hw [] b1 a1 _ _ _ _ _ h1 n0 z1 ga1 f2 f3 f4 f5 f6 f7) (by decide) (by decide) (by decide) (by decide) e10 (g := (mkF m 10 #[.val (.ref a1), .val (.ref wz), .unset] [(.ref b1), (.int (3 : Int32)), (.ref a1)])) rfl (by rw [hml]; rfl) (lenOf pd_2 rfl) rfl (by show 2 * 0 + _ ≤ _; exact Nat.le_of_eq rfl) (hb hby d1_10)
  obtain ⟨sn, it, nm, bl, o1, o2, o3, o4, rfl, Nq11, Kq11, Cq11⟩ := hQ11
  have lt_wz_sn : @LT.lt Nat _ wz sn := Nat.lt_of_lt_of_le f8.lt o1
  have lt_b1_sn : @LT.lt Nat _ b1 sn := Nat.lt_of_lt_of_le A1.lt o1
  have lt_a1_sn : @LT.lt Nat _ a1 sn := Nat.lt_of_lt_of_le f2.lt o1
  have kzsn : h0.size ≤ sn := Nat.le_trans K1.1 o1
  have zsn : n0 ≤ sn := Nat.le_trans z1 o1
  have f12 := f2.keep Kq11
  have f13 := f8.keep Kq11 (ninS (own_ne (by omega)) nin0)
  have f14 := f9.keep Kq11
  have f15 := A1.keep Kq11 (ninS (own_ne (by omega)) nin0)
  have f16 := Ex1.keep Kq11
  have z11 : n0 ≤ T11.heap.size := Nat.le_trans z1 Kq11.1
  have K11 := K1.trans Kq11 (allS (Or.inl (List.mem_of_getElem? (i := 0) rfl)) all0)
  have N11 := Fr.app N0 Nq11
  refine own_via (T' := T11) (g' := (mkF m 13 #[.val (.ref a1), .val (.ref wz), .unset] [])) (fun _ kt => st11 _ kt) ?_
  refine own_via (T' := T11) (g' := (mkF m 14 #[.val (.ref a1), .val (.ref wz), .unset] [(.int (0 : Int32))])) (fun _ kt => XS.iconst X11.here hx rfl (hb hby d1_13) kt) ?_
  refine own_via (T' := T11) (g' := (mkF m 15 #[.val (.ref a1), .val (.ref wz), .val (.int (0 : Int32))] [])) (fun _ kt => XS.istoreN X11.here hx rfl (hb hby d1_14) rfl (l' := #[.val (.ref a1), .val (.ref wz), .val (.int (0 : Int32))]) rfl kt) ?_
  have loop : ∀ (k i : Nat), i + k = 3 → ∀ (T : State) (hh : Heap) (locs : List Loc), Stand p l e ({ frames := 3, cells := 5, slots := 15, locals := 43 } : Room) s m #[(.ref a1), (.ref wz)] below meth c T locs 5 15 → T.heap = hh → n0 ≤ hh.size → Fr n0 locs → Keep h0 hh [a1] → own_CT Z hh a1 sn it nm bl (.ref b1) (fun k => .int (if k < i then own_nt (b k) else 0)) (fun k => .int (if k < i then b k else 1)) → own_Ar Z hh wz .boolean 3 (fun i => .int (b i)) → own_Ar Z hh b1 .boolean 3 (fun i => .int (b i)) → own_Ends p e below (own_Fin below s 5 15 (fun v h L => ∃ wt sn it nm bl, h0.size ≤ wt ∧ @LT.lt Nat _ wt sn ∧ @LT.lt Nat _ sn it ∧ @LT.lt Nat _ it nm ∧ @LT.lt Nat _ nm bl ∧ v = none ∧ Fr n0 L ∧ Keep h0 h [a1] ∧ own_CT Z h a1 sn it nm bl (.ref wt) (fun i => .int (own_nb b i)) (fun i => .int (own_nt (own_nb b i))) ∧ own_Ar Z h wt .boolean 3 (fun i => .int (b i)))) T (mkF m 15 #[.val (.ref a1), .val (.ref wz), .val (.int (Int32.ofNat i))] []) := by
    intro k; induction k with
    | zero =>
      intro i hi T hh locs XL eL zL NL KL CL Az At
      obtain ⟨c0, c1, c2, c3, c4, c5, c6, c7, c8, c9⟩ := CL
      refine own_via (T' := T) (g' := (mkF m 16 #[.val (.ref a1), .val (.ref wz), .val (.int (Int32.ofNat i))] [(.int (Int32.ofNat i))])) (fun _ kt => XS.iloadN XL.here hx rfl (hb hby d1_15) rfl kt) ?_
      refine own_via (T' := T) (g' := (mkF m 17 #[.val (.ref a1), .val (.ref wz), .val (.int (Int32.ofNat i))] [(.ref wz), (.int (Int32.ofNat i))])) (fun _ kt => XS.aloadN XL.here hx rfl (hb hby d1_16) rfl rfl kt) ?_
      refine own_via (T' := T) (g' := (mkF m 18 #[.val (.ref a1), .val (.ref wz), .val (.int (Int32.ofNat i))] [(.int (3 : Int32)), (.int (Int32.ofNat i))])) (fun _ kt => own_alen XL hx hZ eL Az (g := (mkF m 17 #[.val (.ref a1), .val (.ref wz), .val (.int (Int32.ofNat i))] [(.ref wz), (.int (Int32.ofNat i))])) rfl rfl (hb hby d1_17) _ kt) ?_
      refine own_via (T' := T) (g' := (mkF m 61 #[.val (.ref a1), .val (.ref wz), .val (.int (Int32.ofNat i))] [])) (fun _ kt => XS.icmpYes XL.here hx rfl (pc0 := 18) (pc' := 61) rfl (hb hby d1_18) rfl (flt (fun q => absurd ((own_lt3 (by omega)).mp q) (by omega))).2.1 (by decide) (by decide) kt) ?_
      have A17 : own_Ar Z hh sn .boolean 3 (fun i => .int (own_nb b i)) := c6.congr (fun k hk => by rw [if_pos (show k < i by omega)]; rfl)
      have A18 : own_Ar Z hh it .boolean 3 (fun i => .int (own_nt (own_nb b i))) := c7.congr (fun k hk => by rw [if_pos (show k < i by omega)]; exact congrArg Value.int (own_ntnt (hbb k)).symm)
      have A19 : own_Ar Z hh nm .boolean 3 (fun i => .int (own_nt (own_nb b i))) := c8.congr (fun k hk => by rw [if_pos (show k < i by omega)]; exact congrArg Value.int (own_ntnt (hbb k)).symm)
      have A20 : own_Ar Z hh bl .boolean 3 (fun i => .int (own_nt (own_nb b i))) := c9.congr (fun k hk => by rw [if_pos (show k < i by omega)]; exact congrArg Value.int (own_ntnt (hbb k)).symm)
      exact own_retV XL hx hret hlk (hb hby d1_61) (by rw [eL]; exact ⟨b1, sn, it, nm, bl, by omega, by omega, o2, o3, o4, rfl, NL, KL, ⟨c0, c1, c2, c3, c4, c5, A17, A18, A19, A20⟩, At⟩) (by decide) (by decide)
    | succ k ih =>
      intro i hi T hh locs XL eL zL NL KL CL Az At
      obtain ⟨c0, c1, c2, c3, c4, c5, c6, c7, c8, c9⟩ := CL
      refine own_via (T' := T) (g' := (mkF m 16 #[.val (.ref a1), .val (.ref wz), .val (.int (Int32.ofNat i))] [(.int (Int32.ofNat i))])) (fun _ kt => XS.iloadN XL.here hx rfl (hb hby d1_15) rfl kt) ?_
      refine own_via (T' := T) (g' := (mkF m 17 #[.val (.ref a1), .val (.ref wz), .val (.int (Int32.ofNat i))] [(.ref wz), (.int (Int32.ofNat i))])) (fun _ kt => XS.aloadN XL.here hx rfl (hb hby d1_16) rfl rfl kt) ?_
      refine own_via (T' := T) (g' := (mkF m 18 #[.val (.ref a1), .val (.ref wz), .val (.int (Int32.ofNat i))] [(.int (3 : Int32)), (.int (Int32.ofNat i))])) (fun _ kt => own_alen XL hx hZ eL Az (g := (mkF m 17 #[.val (.ref a1), .val (.ref wz), .val (.int (Int32.ofNat i))] [(.ref wz), (.int (Int32.ofNat i))])) rfl rfl (hb hby d1_17) _ kt) ?_
      refine own_via (T' := T) (g' := (mkF m 21 #[.val (.ref a1), .val (.ref wz), .val (.int (Int32.ofNat i))] [])) (fun _ kt => XS.icmpNo XL.here hx rfl (hb hby d1_18) rfl (tlt ((own_lt3 (by omega)).mpr (by omega))).2.1 kt) ?_
      refine own_via (T' := T) (g' := (mkF m 22 #[.val (.ref a1), .val (.ref wz), .val (.int (Int32.ofNat i))] [(.ref wz)])) (fun _ kt => XS.aloadN XL.here hx rfl (hb hby d1_21) rfl rfl kt) ?_
      refine own_via (T' := T) (g' := (mkF m 23 #[.val (.ref a1), .val (.ref wz), .val (.int (Int32.ofNat i))] [(.int (Int32.ofNat i)), (.ref wz)])) (fun _ kt => XS.iloadN XL.here hx rfl (hb hby d1_22) rfl kt) ?_
      refine own_via (T' := T) (g' := (mkF m 24 #[.val (.ref a1), .val (.ref wz), .val (.int (Int32.ofNat i))] [(.int (b i))])) (fun _ kt => own_baloadZ XL hx hZ eL Az (j := (Int32.ofNat i)) (i := i) rfl (by omega) (g := (mkF m 23 #[.val (.ref a1), .val (.ref wz), .val (.int (Int32.ofNat i))] [(.int (Int32.ofNat i)), (.ref wz)])) rfl rfl (hb hby d1_23) _ kt) ?_
      by_cases hc24_21 : (b i) = (0 : Int32)
      · refine own_via (T' := T) (g' := (mkF m 27 #[.val (.ref a1), .val (.ref wz), .val (.int (Int32.ofNat i))] [])) (fun _ kt => XS.ifNo XL.here hx rfl (hb hby d1_24) rfl ((if0 _ _).trans (teq hc24_21).2) kt) ?_
        refine own_via (T' := T) (g' := (mkF m 28 #[.val (.ref a1), .val (.ref wz), .val (.int (Int32.ofNat i))] [(.ref a1)])) (fun _ kt => XS.aloadN XL.here hx rfl (hb hby d1_27) rfl rfl kt) ?_
        obtain ⟨T22, X22, e22, st22⟩ := getF XL hx hZ hown (host := "") (Or.inl (hw _ (List.mem_of_getElem? (i := 22) rfl))) Via.refl eL c1 (g := (mkF m 28 #[.val (.ref a1), .val (.ref wz), .val (.int (Int32.ofNat i))] [(.ref a1)])) rfl rfl (hb hby d1_28)
        refine own_via (T' := T22) (g' := (mkF m 31 #[.val (.ref a1), .val (.ref wz), .val (.int (Int32.ofNat i))] [(.ref sn)])) (fun _ kt => st22 _ kt) ?_
        refine own_via (T' := T22) (g' := (mkF m 32 #[.val (.ref a1), .val (.ref wz), .val (.int (Int32.ofNat i))] [(.int (Int32.ofNat i)), (.ref sn)])) (fun _ kt => XS.iloadN X22.here hx rfl (hb hby d1_31) rfl kt) ?_
        refine own_via (T' := T22) (g' := (mkF m 33 #[.val (.ref a1), .val (.ref wz), .val (.int (Int32.ofNat i))] [(.int (1 : Int32)), (.int (Int32.ofNat i)), (.ref sn)])) (fun _ kt => XS.iconst X22.here hx rfl (hb hby d1_32) kt) ?_
        obtain ⟨T23, h23, X23, e23, W23, A23, st23⟩ := own_bastoreZ X22 hx hZ e22 c6 (j := (Int32.ofNat i)) (i := i) rfl (by omega) (r := 1) rfl (g := (mkF m 33 #[.val (.ref a1), .val (.ref wz), .val (.int (Int32.ofNat i))] [(.int (1 : Int32)), (.int (Int32.ofNat i)), (.ref sn)])) rfl rfl (hb hby d1_33)
        have f24 := c0.wr W23
        have f25 := c1.other W23 (Or.inl (own_ne (by omega)))
        have f26 := c2.other W23 (Or.inl (own_ne (by omega)))
        have f27 := c3.other W23 (Or.inl (own_ne (by omega)))
        have f28 := c4.other W23 (Or.inl (own_ne (by omega)))
        have f29 := c5.other W23 (Or.inl (own_ne (by omega)))
        have f30 := c7.other W23 (own_ne (by omega))
        have f31 := c8.other W23 (own_ne (by omega))
        have f32 := c9.other W23 (own_ne (by omega))
        have f33 := Az.other W23 (own_ne (by omega))
        have f34 := At.other W23 (own_ne (by omega))
        have z23 : n0 ≤ h23.size := Nat.le_trans zL (Nat.le_of_eq W23.size.symm)
        have N23 := Fr.snoc X23 NL (by omega)
        have K23 := KL.wr W23 (Or.inr (by omega))
        refine own_via (T' := T23) (g' := (mkF m 34 #[.val (.ref a1), .val (.ref wz), .val (.int (Int32.ofNat i))] [])) (fun _ kt => st23 _ kt) ?_
        refine own_via (T' := T23) (g' := (mkF m 35 #[.val (.ref a1), .val (.ref wz), .val (.int (Int32.ofNat i))] [(.ref a1)])) (fun _ kt => XS.aloadN X23.here hx rfl (hb hby d1_34) rfl rfl kt) ?_
        obtain ⟨T35, X35, e35, st35⟩ := getF X23 hx hZ hown (host := "") (Or.inl (hw _ (List.mem_of_getElem? (i := 31) rfl))) Via.refl e23 f26 (g := (mkF m 35 #[.val (.ref a1), .val (.ref wz), .val (.int (Int32.ofNat i))] [(.ref a1)])) rfl rfl (hb hby d1_35)
        refine own_via (T' := T35) (g' := (mkF m 38 #[.val (.ref a1), .val (.ref wz), .val (.int (Int32.ofNat i))] [(.ref it)])) (fun _ kt => st35 _ kt) ?_
        refine own_via (T' := T35) (g' := (mkF m 39 #[.val (.ref a1), .val (.ref wz), .val (.int (Int32.ofNat i))] [(.int (Int32.ofNat i)), (.ref it)])) (fun _ kt => XS.iloadN X35.here hx rfl (hb hby d1_38) rfl kt) ?_
        refine own_via (T' := T35) (g' := (mkF m 40 #[.val (.ref a1), .val (.ref wz), .val (.int (Int32.ofNat i))] [(.int (0 : Int32)), (.int (Int32.ofNat i)), (.ref it)])) (fun _ kt => XS.iconst X35.here hx rfl (hb hby d1_39) kt) ?_
        obtain ⟨T36, h36, X36, e36, W36, A36, st36⟩ := own_bastoreZ X35 hx hZ e35 f30 (j := (Int32.ofNat i)) (i := i) rfl (by omega) (r := 0) rfl (g := (mkF m 40 #[.val (.ref a1), .val (.ref wz), .val (.int (Int32.ofNat i))] [(.int (0 : Int32)), (.int (Int32.ofNat i)), (.ref it)])) rfl rfl (hb hby d1_40)
        have f37 := f24.wr W36
        have f38 := f25.other W36 (Or.inl (own_ne (by omega)))
        have f39 := f26.other W36 (Or.inl (own_ne (by omega)))
        have f40 := f27.other W36 (Or.inl (own_ne (by omega)))
        have f41 := f28.other W36 (Or.inl (own_ne (by omega)))
        have f42 := f29.other W36 (Or.inl (own_ne (by omega)))
        have f43 := A23.other W36 (own_ne (by omega))
        have f44 := f31.other W36 (own_ne (by omega))
        have f45 := f32.other W36 (own_ne (by omega))
        have f46 := f33.other W36 (own_ne (by omega))
        have f47 := f34.other W36 (own_ne (by omega))
        have z36 : n0 ≤ h36.size := Nat.le_trans z23 (Nat.le_of_eq W36.size.symm)
        have N36 := Fr.snoc X36 N23 (by omega)
        have K36 := K23.wr W36 (Or.inr (by omega))
        refine own_via (T' := T36) (g' := (mkF m 41 #[.val (.ref a1), .val (.ref wz), .val (.int (Int32.ofNat i))] [])) (fun _ kt => st36 _ kt) ?_
        refine own_via (T' := T36) (g' := (mkF m 42 #[.val (.ref a1), .val (.ref wz), .val (.int (Int32.ofNat i))] [(.ref a1)])) (fun _ kt => XS.aloadN X36.here hx rfl (hb hby d1_41) rfl rfl kt) ?_
        obtain ⟨T48, X48, e48, st48⟩ := getF X36 hx hZ hown (host := "") (Or.inl (hw _ (List.mem_of_getElem? (i := 33) rfl))) Via.refl e36 f40 (g := (mkF m 42 #[.val (.ref a1), .val (.ref wz), .val (.int (Int32.ofNat i))] [(.ref a1)])) rfl rfl (hb hby d1_42)
        refine own_via (T' := T48) (g' := (mkF m 45 #[.val (.ref a1), .val (.ref wz), .val (.int (Int32.ofNat i))] [(.ref nm)])) (fun _ kt => st48 _ kt) ?_
        refine own_via (T' := T48) (g' := (mkF m 46 #[.val (.ref a1), .val (.ref wz), .val (.int (Int32.ofNat i))] [(.int (Int32.ofNat i)), (.ref nm)])) (fun _ kt => XS.iloadN X48.here hx rfl (hb hby d1_45) rfl kt) ?_
        refine own_via (T' := T48) (g' := (mkF m 47 #[.val (.ref a1), .val (.ref wz), .val (.int (Int32.ofNat i))] [(.int (0 : Int32)), (.int (Int32.ofNat i)), (.ref nm)])) (fun _ kt => XS.iconst X48.here hx rfl (hb hby d1_46) kt) ?_
        obtain ⟨T49, h49, X49, e49, W49, A49, st49⟩ := own_bastoreZ X48 hx hZ e48 f44 (j := (Int32.ofNat i)) (i := i) rfl (by omega) (r := 0) rfl (g := (mkF m 47 #[.val (.ref a1), .val (.ref wz), .val (.int (Int32.ofNat i))] [(.int (0 : Int32)), (.int (Int32.ofNat i)), (.ref nm)])) rfl rfl (hb hby d1_47)
        have f50 := f37.wr W49
        have f51 := f38.other W49 (Or.inl (own_ne (by omega)))
        have f52 := f39.other W49 (Or.inl (own_ne (by omega)))
        have f53 := f40.other W49 (Or.inl (own_ne (by omega)))
        have f54 := f41.other W49 (Or.inl (own_ne (by omega)))
        have f55 := f42.other W49 (Or.inl (own_ne (by omega)))
        have f56 := f43.other W49 (own_ne (by omega))
        have f57 := A36.other W49 (own_ne (by omega))
        have f58 := f45.other W49 (own_ne (by omega))
        have f59 := f46.other W49 (own_ne (by omega))
        have f60 := f47.other W49 (own_ne (by omega))
        have z49 : n0 ≤ h49.size := Nat.le_trans z36 (Nat.le_of_eq W49.size.symm)
        have N49 := Fr.snoc X49 N36 (by omega)
        have K49 := K36.wr W49 (Or.inr (by omega))
        refine own_via (T' := T49) (g' := (mkF m 48 #[.val (.ref a1), .val (.ref wz), .val (.int (Int32.ofNat i))] [])) (fun _ kt => st49 _ kt) ?_
        refine own_via (T' := T49) (g' := (mkF m 49 #[.val (.ref a1), .val (.ref wz), .val (.int (Int32.ofNat i))] [(.ref a1)])) (fun _ kt => XS.aloadN X49.here hx rfl (hb hby d1_48) rfl rfl kt) ?_
        obtain ⟨T61, X61, e61, st61⟩ := getF X49 hx hZ hown (host := "") (Or.inl (hw _ (List.mem_of_getElem? (i := 35) rfl))) Via.refl e49 f54 (g := (mkF m 49 #[.val (.ref a1), .val (.ref wz), .val (.int (Int32.ofNat i))] [(.ref a1)])) rfl rfl (hb hby d1_49)
        refine own_via (T' := T61) (g' := (mkF m 52 #[.val (.ref a1), .val (.ref wz), .val (.int (Int32.ofNat i))] [(.ref bl)])) (fun _ kt => st61 _ kt) ?_
        refine own_via (T' := T61) (g' := (mkF m 53 #[.val (.ref a1), .val (.ref wz), .val (.int (Int32.ofNat i))] [(.int (Int32.ofNat i)), (.ref bl)])) (fun _ kt => XS.iloadN X61.here hx rfl (hb hby d1_52) rfl kt) ?_
        refine own_via (T' := T61) (g' := (mkF m 54 #[.val (.ref a1), .val (.ref wz), .val (.int (Int32.ofNat i))] [(.int (0 : Int32)), (.int (Int32.ofNat i)), (.ref bl)])) (fun _ kt => XS.iconst X61.here hx rfl (hb hby d1_53) kt) ?_
        obtain ⟨T62, h62, X62, e62, W62, A62, st62⟩ := own_bastoreZ X61 hx hZ e61 f58 (j := (Int32.ofNat i)) (i := i) rfl (by omega) (r := 0) rfl (g := (mkF m 54 #[.val (.ref a1), .val (.ref wz), .val (.int (Int32.ofNat i))] [(.int (0 : Int32)), (.int (Int32.ofNat i)), (.ref bl)])) rfl rfl (hb hby d1_54)
        have f63 := f50.wr W62
        have f64 := f51.other W62 (Or.inl (own_ne (by omega)))
        have f65 := f52.other W62 (Or.inl (own_ne (by omega)))
        have f66 := f53.other W62 (Or.inl (own_ne (by omega)))
        have f67 := f54.other W62 (Or.inl (own_ne (by omega)))
        have f68 := f55.other W62 (Or.inl (own_ne (by omega)))
        have f69 := f56.other W62 (own_ne (by omega))
        have f70 := f57.other W62 (own_ne (by omega))
        have f71 := A49.other W62 (own_ne (by omega))
        have f72 := f59.other W62 (own_ne (by omega))
        have f73 := f60.other W62 (own_ne (by omega))
        have z62 : n0 ≤ h62.size := Nat.le_trans z49 (Nat.le_of_eq W62.size.symm)
        have N62 := Fr.snoc X62 N49 (by omega)
        have K62 := K49.wr W62 (Or.inr (by omega))
        refine own_via (T' := T62) (g' := (mkF m 55 #[.val (.ref a1), .val (.ref wz), .val (.int (Int32.ofNat i))] [])) (fun _ kt => st62 _ kt) ?_
        refine own_via (T' := T62) (g' := (mkF m 58 #[.val (.ref a1), .val (.ref wz), .val (.int ((Int32.ofNat i) + (1 : Int32)))] [])) (fun _ kt => XS.iinc X62.here hx rfl (hb hby d1_55) rfl (l' := #[.val (.ref a1), .val (.ref wz), .val (.int ((Int32.ofNat i) + (1 : Int32)))]) rfl kt) ?_
        rw [show ((Int32.ofNat i) + (1 : Int32)) = Int32.ofNat (i + 1) from (inc_ofNat i).symm]
        refine own_via (T' := T62) (g' := (mkF m 15 #[.val (.ref a1), .val (.ref wz), .val (.int (Int32.ofNat (i + 1)))] [])) (fun _ kt => XS.goto X62.here hx rfl (pc0 := 58) (pc' := 15) rfl (hb hby d1_58) (by decide) (by decide) kt) ?_
        have A74 : own_Ar Z h62 sn .boolean 3 (fun k => .int (if k < (i + 1) then own_nt (b k) else 0)) := f69.congr (own_fe1 hc24_21)
        have A75 : own_Ar Z h62 it .boolean 3 (fun k => .int (if k < (i + 1) then b k else 1)) := f70.congr (own_fe2 hc24_21)
        have A76 : own_Ar Z h62 nm .boolean 3 (fun k => .int (if k < (i + 1) then b k else 1)) := f71.congr (own_fe2 hc24_21)
        have A77 : own_Ar Z h62 bl .boolean 3 (fun k => .int (if k < (i + 1) then b k else 1)) := A62.congr (own_fe2 hc24_21)
        exact ih (i + 1) (by omega) T62 h62 _ X62 e62 z62 N62 K62 ⟨f63, f64, f65, f66, f67, f68, A74, A75, A76, A77⟩ f72 f73
      · refine own_via (T' := T) (g' := (mkF m 55 #[.val (.ref a1), .val (.ref wz), .val (.int (Int32.ofNat i))] [])) (fun _ kt => XS.ifYes XL.here hx rfl (pc0 := 24) (pc' := 55) rfl (hb hby d1_24) rfl ((if0 _ _).trans (feq hc24_21).2) (by decide) (by decide) kt) ?_
        refine own_via (T' := T) (g' := (mkF m 58 #[.val (.ref a1), .val (.ref wz), .val (.int ((Int32.ofNat i) + (1 : Int32)))] [])) (fun _ kt => XS.iinc XL.here hx rfl (hb hby d1_55) rfl (l' := #[.val (.ref a1), .val (.ref wz), .val (.int ((Int32.ofNat i) + (1 : Int32)))]) rfl kt) ?_
        rw [show ((Int32.ofNat i) + (1 : Int32)) = Int32.ofNat (i + 1) from (inc_ofNat i).symm]
        refine own_via (T' := T) (g' := (mkF m 15 #[.val (.ref a1), .val (.ref wz), .val (.int (Int32.ofNat (i + 1)))] [])) (fun _ kt => XS.goto XL.here hx rfl (pc0 := 58) (pc' := 15) rfl (hb hby d1_58) (by decide) (by decide) kt) ?_
        have A78 : own_Ar Z hh sn .boolean 3 (fun k => .int (if k < (i + 1) then own_nt (b k) else 0)) := c6.congr (own_fe3 hc24_21)
        have A79 : own_Ar Z hh it .boolean 3 (fun k => .int (if k < (i + 1) then b k else 1)) := c7.congr (own_fe4 (hbb i) hc24_21)
        have A80 : own_Ar Z hh nm .boolean 3 (fun k => .int (if k < (i + 1) then b k else 1)) := c8.congr (own_fe4 (hbb i) hc24_21)
        have A81 : own_Ar Z hh bl .boolean 3 (fun k => .int (if k < (i + 1) then b k else 1)) := c9.congr (own_fe4 (hbb i) hc24_21)
        exact ih (i + 1) (by omega) T hh _ XL eL zL NL KL ⟨c0, c1, c2, c3, c4, c5, A78, A79, A80, A81⟩ Az At
  have CL0 := Cq11.congr (f' := (fun k => .int (if k < 0 then own_nt (b k) else 0))) (g' := (fun k => .int (if k < 0 then b k else 1))) (fun k hk => by rw [if_neg (Nat.not_lt_zero k)]; rfl) (fun k hk => by rw [if_neg (Nat.not_lt_zero k)]; rfl)
  exact loop 3 0 rfl T11 T11.heap _ X11 rfl z11 N11 K11 CL0 f13 f15
theorem d6_0 : decode prog_20_method_5_code 0 = .ok (.iconst 0, 1) := by decide +kernel
theorem d6_1 : decode prog_20_method_5_code 1 = .ok (.istore_n 2, 1) := by decide +kernel
theorem d6_2 : decode prog_20_method_5_code 2 = .ok (.iload_n 2, 1) := by decide +kernel
theorem d6_3 : decode prog_20_method_5_code 3 = .ok (.aload_n 0, 1) := by decide +kernel
theorem d6_4 : decode prog_20_method_5_code 4 = .ok (.getfield 13, 3) := by decide +kernel
theorem d6_7 : decode prog_20_method_5_code 7 = .ok (.arraylength, 1) := by decide +kernel
theorem d6_8 : decode prog_20_method_5_code 8 = .ok (.if_icmp .ge 141, 3) := by decide +kernel
theorem d6_11 : decode prog_20_method_5_code 11 = .ok (.aload_n 1, 1) := by decide +kernel
theorem d6_12 : decode prog_20_method_5_code 12 = .ok (.getfield 34, 3) := by decide +kernel
theorem d6_15 : decode prog_20_method_5_code 15 = .ok (.ifnull 12, 3) := by decide +kernel
theorem d6_18 : decode prog_20_method_5_code 18 = .ok (.aload_n 1, 1) := by decide +kernel
theorem d6_19 : decode prog_20_method_5_code 19 = .ok (.getfield 34, 3) := by decide +kernel
theorem d6_22 : decode prog_20_method_5_code 22 = .ok (.iload_n 2, 1) := by decide +kernel
theorem d6_23 : decode prog_20_method_5_code 23 = .ok (.baload, 1) := by decide +kernel
theorem d6_24 : decode prog_20_method_5_code 24 = .ok (.ifCond .eq 119, 3) := by decide +kernel
theorem d6_27 : decode prog_20_method_5_code 27 = .ok (.aload_n 0, 1) := by decide +kernel
theorem d6_28 : decode prog_20_method_5_code 28 = .ok (.getfield 13, 3) := by decide +kernel
theorem d6_31 : decode prog_20_method_5_code 31 = .ok (.iload_n 2, 1) := by decide +kernel
theorem d6_32 : decode prog_20_method_5_code 32 = .ok (.aload_n 0, 1) := by decide +kernel
theorem d6_33 : decode prog_20_method_5_code 33 = .ok (.getfield 13, 3) := by decide +kernel
theorem d6_36 : decode prog_20_method_5_code 36 = .ok (.iload_n 2, 1) := by decide +kernel
theorem d6_37 : decode prog_20_method_5_code 37 = .ok (.baload, 1) := by decide +kernel
theorem d6_38 : decode prog_20_method_5_code 38 = .ok (.ifCond .ne 12, 3) := by decide +kernel
theorem d6_41 : decode prog_20_method_5_code 41 = .ok (.aload_n 1, 1) := by decide +kernel
theorem d6_42 : decode prog_20_method_5_code 42 = .ok (.getfield 13, 3) := by decide +kernel
theorem d6_45 : decode prog_20_method_5_code 45 = .ok (.iload_n 2, 1) := by decide +kernel
theorem d6_46 : decode prog_20_method_5_code 46 = .ok (.baload, 1) := by decide +kernel
theorem d6_47 : decode prog_20_method_5_code 47 = .ok (.ifCond .eq 7, 3) := by decide +kernel
theorem d6_50 : decode prog_20_method_5_code 50 = .ok (.iconst 1, 1) := by decide +kernel
theorem d6_51 : decode prog_20_method_5_code 51 = .ok (.goto 4, 3) := by decide +kernel
theorem d6_54 : decode prog_20_method_5_code 54 = .ok (.iconst 0, 1) := by decide +kernel
theorem d6_55 : decode prog_20_method_5_code 55 = .ok (.bastore, 1) := by decide +kernel
theorem d6_56 : decode prog_20_method_5_code 56 = .ok (.aload_n 0, 1) := by decide +kernel
theorem d6_57 : decode prog_20_method_5_code 57 = .ok (.getfield 16, 3) := by decide +kernel
theorem d6_60 : decode prog_20_method_5_code 60 = .ok (.iload_n 2, 1) := by decide +kernel
theorem d6_61 : decode prog_20_method_5_code 61 = .ok (.aload_n 0, 1) := by decide +kernel
theorem d6_62 : decode prog_20_method_5_code 62 = .ok (.getfield 16, 3) := by decide +kernel
theorem d6_65 : decode prog_20_method_5_code 65 = .ok (.iload_n 2, 1) := by decide +kernel
theorem d6_66 : decode prog_20_method_5_code 66 = .ok (.baload, 1) := by decide +kernel
theorem d6_67 : decode prog_20_method_5_code 67 = .ok (.ifCond .eq 16, 3) := by decide +kernel
theorem d6_70 : decode prog_20_method_5_code 70 = .ok (.aload_n 1, 1) := by decide +kernel
theorem d6_71 : decode prog_20_method_5_code 71 = .ok (.getfield 16, 3) := by decide +kernel
theorem d6_74 : decode prog_20_method_5_code 74 = .ok (.iload_n 2, 1) := by decide +kernel
theorem d6_75 : decode prog_20_method_5_code 75 = .ok (.baload, 1) := by decide +kernel
theorem d6_76 : decode prog_20_method_5_code 76 = .ok (.ifCond .eq 7, 3) := by decide +kernel
theorem d6_79 : decode prog_20_method_5_code 79 = .ok (.iconst 1, 1) := by decide +kernel
theorem d6_80 : decode prog_20_method_5_code 80 = .ok (.goto 4, 3) := by decide +kernel
theorem d6_83 : decode prog_20_method_5_code 83 = .ok (.iconst 0, 1) := by decide +kernel
theorem d6_84 : decode prog_20_method_5_code 84 = .ok (.bastore, 1) := by decide +kernel
theorem d6_85 : decode prog_20_method_5_code 85 = .ok (.aload_n 0, 1) := by decide +kernel
theorem d6_86 : decode prog_20_method_5_code 86 = .ok (.getfield 19, 3) := by decide +kernel
theorem d6_89 : decode prog_20_method_5_code 89 = .ok (.iload_n 2, 1) := by decide +kernel
theorem d6_90 : decode prog_20_method_5_code 90 = .ok (.aload_n 0, 1) := by decide +kernel
theorem d6_91 : decode prog_20_method_5_code 91 = .ok (.getfield 19, 3) := by decide +kernel
theorem d6_94 : decode prog_20_method_5_code 94 = .ok (.iload_n 2, 1) := by decide +kernel
theorem d6_95 : decode prog_20_method_5_code 95 = .ok (.baload, 1) := by decide +kernel
theorem d6_96 : decode prog_20_method_5_code 96 = .ok (.ifCond .eq 16, 3) := by decide +kernel
theorem d6_99 : decode prog_20_method_5_code 99 = .ok (.aload_n 1, 1) := by decide +kernel
theorem d6_100 : decode prog_20_method_5_code 100 = .ok (.getfield 19, 3) := by decide +kernel
theorem d6_103 : decode prog_20_method_5_code 103 = .ok (.iload_n 2, 1) := by decide +kernel
theorem d6_104 : decode prog_20_method_5_code 104 = .ok (.baload, 1) := by decide +kernel
theorem d6_105 : decode prog_20_method_5_code 105 = .ok (.ifCond .eq 7, 3) := by decide +kernel
theorem d6_108 : decode prog_20_method_5_code 108 = .ok (.iconst 1, 1) := by decide +kernel
theorem d6_109 : decode prog_20_method_5_code 109 = .ok (.goto 4, 3) := by decide +kernel
theorem d6_112 : decode prog_20_method_5_code 112 = .ok (.iconst 0, 1) := by decide +kernel
theorem d6_113 : decode prog_20_method_5_code 113 = .ok (.bastore, 1) := by decide +kernel
theorem d6_114 : decode prog_20_method_5_code 114 = .ok (.aload_n 0, 1) := by decide +kernel
theorem d6_115 : decode prog_20_method_5_code 115 = .ok (.getfield 22, 3) := by decide +kernel
theorem d6_118 : decode prog_20_method_5_code 118 = .ok (.iload_n 2, 1) := by decide +kernel
theorem d6_119 : decode prog_20_method_5_code 119 = .ok (.aload_n 0, 1) := by decide +kernel
theorem d6_120 : decode prog_20_method_5_code 120 = .ok (.getfield 22, 3) := by decide +kernel
theorem d6_123 : decode prog_20_method_5_code 123 = .ok (.iload_n 2, 1) := by decide +kernel
theorem d6_124 : decode prog_20_method_5_code 124 = .ok (.baload, 1) := by decide +kernel
theorem d6_125 : decode prog_20_method_5_code 125 = .ok (.ifCond .eq 16, 3) := by decide +kernel
theorem d6_128 : decode prog_20_method_5_code 128 = .ok (.aload_n 1, 1) := by decide +kernel
theorem d6_129 : decode prog_20_method_5_code 129 = .ok (.getfield 22, 3) := by decide +kernel
theorem d6_132 : decode prog_20_method_5_code 132 = .ok (.iload_n 2, 1) := by decide +kernel
theorem d6_133 : decode prog_20_method_5_code 133 = .ok (.baload, 1) := by decide +kernel
theorem d6_134 : decode prog_20_method_5_code 134 = .ok (.ifCond .eq 7, 3) := by decide +kernel
theorem d6_137 : decode prog_20_method_5_code 137 = .ok (.iconst 1, 1) := by decide +kernel
theorem d6_138 : decode prog_20_method_5_code 138 = .ok (.goto 4, 3) := by decide +kernel
theorem d6_141 : decode prog_20_method_5_code 141 = .ok (.iconst 0, 1) := by decide +kernel
theorem d6_142 : decode prog_20_method_5_code 142 = .ok (.bastore, 1) := by decide +kernel
theorem d6_143 : decode prog_20_method_5_code 143 = .ok (.iinc 2 1, 3) := by decide +kernel
theorem d6_146 : decode prog_20_method_5_code 146 = .ok (.goto (-144), 3) := by decide +kernel
theorem d6_149 : decode prog_20_method_5_code 149 = .ok (.return_, 1) := by decide +kernel
theorem pn_6 : plainName "com/example/querent/querent/engine/ColumnTypes" = true := by first | (simp [plainName, overriddenIn]; done) | decide +kernel
theorem ef_6 (m : MethodId) (x0 : Addr) (x1 : Addr) : entryFrame m #[(.ref x0), (.ref x1)] 3 = mkF m 0 #[.val (.ref x0), .val (.ref x1), .unset] [] := by first | (simp [entryFrame, mkF, argsToLocals, Value.category]; done) | rfl
set_option maxRecDepth 65536 in
set_option maxHeartbeats 40000000 in
theorem rm6n (l : Launch) (Z : State) (a0 : Array Value) (hw : ∀ d ∈ tables_1, d.before a0 Z = true) (ws : List Jvm.Cond) (aA sa ia na ba aB sb ib nb bb : Addr) (wA : Value) (qa : Nat → Int32) (hqa : ∀ i, own_bit (qa i)) (h0 : Heap) (n0 : Nat) (Z0 : n0 ≤ h0.size) (gsa : n0 ≤ sa) (gia : n0 ≤ ia) (gna : n0 ≤ na) (gba : n0 ≤ ba) (o1 : @LT.lt Nat _ aA sa) (o2 : @LT.lt Nat _ sa ia) (o3 : @LT.lt Nat _ ia na) (o4 : @LT.lt Nat _ na ba) (o5 : @LT.lt Nat _ ba aB) (o6 : @LT.lt Nat _ aB sb) (o7 : @LT.lt Nat _ sb ib) (o8 : @LT.lt Nat _ ib nb) (o9 : @LT.lt Nat _ nb bb) (CA : own_CT Z h0 aA sa ia na ba wA (fun i => .int (qa i)) (fun i => .int (own_nt (qa i)))) (CB : own_CT Z h0 aB sb ib nb bb .null (fun i => .int (own_z i)) (fun i => .int (own_nt (own_z i)))) :
    own_Con l Z (⟨"com/example/querent/querent/engine/ColumnTypes", "addAll", "(Lcom/example/querent/querent/engine/ColumnTypes;)V"⟩ : MethodName) prog_20_method_5_code 3 none ws ({ frames := 0, cells := 0, slots := 0, locals := 0 } : Room) #[(.ref aA), (.ref aB)] h0 (fun v h L => v = none ∧ Fr n0 L ∧ Keep h0 h [sa, ia, na, ba] ∧ own_CT Z h aA sa ia na ba wA (fun i => .int (qa i)) (fun i => .int (own_nt (qa i)))) := by
  refine own_body (plainFor_of_name pn_6) ?_
  intro p e s m below meth c T0 hx hby hml hown hnm hret hlk hZ X0 e0
  replace hown : s.vm.findClass "com/example/querent/querent/engine/ColumnTypes" = some m.cls := hown
  replace hret : meth.sig.returnType = none := hret
  replace hnm : meth.name = "addAll" := hnm
  rw [ef_6 m aA aB]
  have N0 := Fr.nil n0
  refine own_via (T' := T0) (g' := (mkF m 1 #[.val (.ref aA), .val (.ref aB), .unset] [(.int (0 : Int32))])) (fun _ kt => XS.iconst X0.here hx rfl (hb hby d6_0) kt) ?_
  refine own_via (T' := T0) (g' := (mkF m 2 #[.val (.ref aA), .val (.ref aB), .val (.int (0 : Int32))] [])) (fun _ kt => XS.istoreN X0.here hx rfl (hb hby d6_1) rfl (l' := #[.val (.ref aA), .val (.ref aB), .val (.int (0 : Int32))]) rfl kt) ?_
  have loop : ∀ (k i : Nat), i + k = 3 → ∀ (T : State) (hh : Heap) (locs : List Loc), Stand p l e ({ frames := 0, cells := 0, slots := 0, locals := 0 } : Room) s m #[(.ref aA), (.ref aB)] below meth c T locs 0 0 → T.heap = hh → n0 ≤ hh.size → Fr n0 locs → Keep h0 hh [sa, ia, na, ba] → own_CT Z hh aA sa ia na ba wA (fun i => .int (qa i)) (fun i => .int (own_nt (qa i))) → own_CT Z hh aB sb ib nb bb .null (fun i => .int (own_z i)) (fun i => .int (own_nt (own_z i))) → own_Ends p e below (own_Fin below s 0 0 (fun v h L => v = none ∧ Fr n0 L ∧ Keep h0 h [sa, ia, na, ba] ∧ own_CT Z h aA sa ia na ba wA (fun i => .int (qa i)) (fun i => .int (own_nt (qa i))))) T (mkF m 2 #[.val (.ref aA), .val (.ref aB), .val (.int (Int32.ofNat i))] []) := by
    intro k; induction k with
    | zero =>
      intro i hi T hh locs XL eL zL NL KL CA CB
      obtain ⟨c0, c1, c2, c3, c4, c5, c6, c7, c8, c9⟩ := CA
      obtain ⟨d0, d1, d2, d3, d4, d5, d6, d7, d8, d9⟩ := CB
      refine own_via (T' := T) (g' := (mkF m 3 #[.val (.ref aA), .val (.ref aB), .val (.int (Int32.ofNat i))] [(.int (Int32.ofNat i))])) (fun _ kt => XS.iloadN XL.here hx rfl (hb hby d6_2) rfl kt) ?_
      refine own_via (T' := T) (g' := (mkF m 4 #[.val (.ref aA), .val (.ref aB), .val (.int (Int32.ofNat i))] [(.ref aA), (.int (Int32.ofNat i))])) (fun _ kt => XS.aloadN XL.here hx rfl (hb hby d6_3) rfl rfl kt) ?_
      obtain ⟨T1, X1, e1, st1⟩ := getF XL hx hZ hown (host := "") (Or.inl (hw _ (List.mem_of_getElem? (i := 22) rfl))) Via.refl eL c1 (g := (mkF m 4 #[.val (.ref aA), .val (.ref aB), .val (.int (Int32.ofNat i))] [(.ref aA), (.int (Int32.ofNat i))])) rfl rfl (hb hby d6_4)
      refine own_via (T' := T1) (g' := (mkF m 7 #[.val (.ref aA), .val (.ref aB), .val (.int (Int32.ofNat i))] [(.ref sa), (.int (Int32.ofNat i))])) (fun _ kt => st1 _ kt) ?_
      refine own_via (T' := T1) (g' := (mkF m 8 #[.val (.ref aA), .val (.ref aB), .val (.int (Int32.ofNat i))] [(.int (3 : Int32)), (.int (Int32.ofNat i))])) (fun _ kt => own_alen X1 hx hZ e1 c6 (g := (mkF m 7 #[.val (.ref aA), .val (.ref aB), .val (.int (Int32.ofNat i))] [(.ref sa), (.int (Int32.ofNat i))])) rfl rfl (hb hby d6_7) _ kt) ?_
      refine own_via (T' := T1) (g' := (mkF m 149 #[.val (.ref aA), .val (.ref aB), .val (.int (Int32.ofNat i))] [])) (fun _ kt => XS.icmpYes X1.here hx rfl (pc0 := 8) (pc' := 149) rfl (hb hby d6_8) rfl (flt (fun q => absurd ((own_lt3 (by omega)).mp q) (by omega))).2.1 (by decide) (by decide) kt) ?_
      exact own_retV X1 hx hret hlk (hb hby d6_149) (by rw [e1]; exact ⟨rfl, NL, KL, ⟨c0, c1, c2, c3, c4, c5, c6, c7, c8, c9⟩⟩) (by decide) (by decide)
    | succ k ih =>
      intro i hi T hh locs XL eL zL NL KL CA CB
      obtain ⟨c0, c1, c2, c3, c4, c5, c6, c7, c8, c9⟩ := CA
      obtain ⟨d0, d1, d2, d3, d4, d5, d6, d7, d8, d9⟩ := CB
      refine own_via (T' := T) (g' := (mkF m 3 #[.val (.ref aA), .val (.ref aB), .val (.int (Int32.ofNat i))] [(.int (Int32.ofNat i))])) (fun _ kt => XS.iloadN XL.here hx rfl (hb hby d6_2) rfl kt) ?_
      refine own_via (T' := T) (g' := (mkF m 4 #[.val (.ref aA), .val (.ref aB), .val (.int (Int32.ofNat i))] [(.ref aA), (.int (Int32.ofNat i))])) (fun _ kt => XS.aloadN XL.here hx rfl (hb hby d6_3) rfl rfl kt) ?_
      obtain ⟨T2, X2, e2, st2⟩ := getF XL hx hZ hown (host := "") (Or.inl (hw _ (List.mem_of_getElem? (i := 22) rfl))) Via.refl eL c1 (g := (mkF m 4 #[.val (.ref aA), .val (.ref aB), .val (.int (Int32.ofNat i))] [(.ref aA), (.int (Int32.ofNat i))])) rfl rfl (hb hby d6_4)
      refine own_via (T' := T2) (g' := (mkF m 7 #[.val (.ref aA), .val (.ref aB), .val (.int (Int32.ofNat i))] [(.ref sa), (.int (Int32.ofNat i))])) (fun _ kt => st2 _ kt) ?_
      refine own_via (T' := T2) (g' := (mkF m 8 #[.val (.ref aA), .val (.ref aB), .val (.int (Int32.ofNat i))] [(.int (3 : Int32)), (.int (Int32.ofNat i))])) (fun _ kt => own_alen X2 hx hZ e2 c6 (g := (mkF m 7 #[.val (.ref aA), .val (.ref aB), .val (.int (Int32.ofNat i))] [(.ref sa), (.int (Int32.ofNat i))])) rfl rfl (hb hby d6_7) _ kt) ?_
      refine own_via (T' := T2) (g' := (mkF m 11 #[.val (.ref aA), .val (.ref aB), .val (.int (Int32.ofNat i))] [])) (fun _ kt => XS.icmpNo X2.here hx rfl (hb hby d6_8) rfl (tlt ((own_lt3 (by omega)).mpr (by omega))).2.1 kt) ?_
      refine own_via (T' := T2) (g' := (mkF m 12 #[.val (.ref aA), .val (.ref aB), .val (.int (Int32.ofNat i))] [(.ref aB)])) (fun _ kt => XS.aloadN X2.here hx rfl (hb hby d6_11) rfl rfl kt) ?_
      obtain ⟨T3, X3, e3, st3⟩ := getF X2 hx hZ hown (host := "") (Or.inl (hw _ (List.mem_of_getElem? (i := 37) rfl))) Via.refl e2 d5 (g := (mkF m 12 #[.val (.ref aA), .val (.ref aB), .val (.int (Int32.ofNat i))] [(.ref aB)])) rfl rfl (hb hby d6_12)
      refine own_via (T' := T3) (g' := (mkF m 15 #[.val (.ref aA), .val (.ref aB), .val (.int (Int32.ofNat i))] [.null])) (fun _ kt => st3 _ kt) ?_
      refine own_via (T' := T3) (g' := (mkF m 27 #[.val (.ref aA), .val (.ref aB), .val (.int (Int32.ofNat i))] [])) (fun _ kt => XS.ifnullYes X3.here hx rfl (pc0 := 15) (pc' := 27) rfl (hb hby d6_15) rfl (by decide) (by decide) kt) ?_
      refine own_via (T' := T3) (g' := (mkF m 28 #[.val (.ref aA), .val (.ref aB), .val (.int (Int32.ofNat i))] [(.ref aA)])) (fun _ kt => XS.aloadN X3.here hx rfl (hb hby d6_27) rfl rfl kt) ?_
      obtain ⟨T4, X4, e4, st4⟩ := getF X3 hx hZ hown (host := "") (Or.inl (hw _ (List.mem_of_getElem? (i := 22) rfl))) Via.refl e3 c1 (g := (mkF m 28 #[.val (.ref aA), .val (.ref aB), .val (.int (Int32.ofNat i))] [(.ref aA)])) rfl rfl (hb hby d6_28)
      refine own_via (T' := T4) (g' := (mkF m 31 #[.val (.ref aA), .val (.ref aB), .val (.int (Int32.ofNat i))] [(.ref sa)])) (fun _ kt => st4 _ kt) ?_
      refine own_via (T' := T4) (g' := (mkF m 32 #[.val (.ref aA), .val (.ref aB), .val (.int (Int32.ofNat i))] [(.int (Int32.ofNat i)), (.ref sa)])) (fun _ kt => XS.iloadN X4.here hx rfl (hb hby d6_31) rfl kt) ?_
      refine own_via (T' := T4) (g' := (mkF m 33 #[.val (.ref aA), .val (.ref aB), .val (.int (Int32.ofNat i))] [(.ref aA), (.int (Int32.ofNat i)), (.ref sa)])) (fun _ kt => XS.aloadN X4.here hx rfl (hb hby d6_32) rfl rfl kt) ?_
      obtain ⟨T5, X5, e5, st5⟩ := getF X4 hx hZ hown (host := "") (Or.inl (hw _ (List.mem_of_getElem? (i := 22) rfl))) Via.refl e4 c1 (g := (mkF m 33 #[.val (.ref aA), .val (.ref aB), .val (.int (Int32.ofNat i))] [(.ref aA), (.int (Int32.ofNat i)), (.ref sa)])) rfl rfl (hb hby d6_33)
      refine own_via (T' := T5) (g' := (mkF m 36 #[.val (.ref aA), .val (.ref aB), .val (.int (Int32.ofNat i))] [(.ref sa), (.int (Int32.ofNat i)), (.ref sa)])) (fun _ kt => st5 _ kt) ?_
      refine own_via (T' := T5) (g' := (mkF m 37 #[.val (.ref aA), .val (.ref aB), .val (.int (Int32.ofNat i))] [(.int (Int32.ofNat i)), (.ref sa), (.int (Int32.ofNat i)), (.ref sa)])) (fun _ kt => XS.iloadN X5.here hx rfl (hb hby d6_36) rfl kt) ?_
      refine own_via (T' := T5) (g' := (mkF m 38 #[.val (.ref aA), .val (.ref aB), .val (.int (Int32.ofNat i))] [(.int (qa i)), (.int (Int32.ofNat i)), (.ref sa)])) (fun _ kt => own_baloadZ X5 hx hZ e5 c6 (j := (Int32.ofNat i)) (i := i) rfl (by omega) (g := (mkF m 37 #[.val (.ref aA), .val (.ref aB), .val (.int (Int32.ofNat i))] [(.int (Int32.ofNat i)), (.ref sa), (.int (Int32.ofNat i)), (.ref sa)])) rfl rfl (hb hby d6_37) _ kt) ?_
      by_cases hc38_6 : (qa i) = (0 : Int32)
      · refine own_via (T' := T5) (g' := (mkF m 41 #[.val (.ref aA), .val (.ref aB), .val (.int (Int32.ofNat i))] [(.int (Int32.ofNat i)), (.ref sa)])) (fun _ kt => XS.ifNo X5.here hx rfl (hb hby d6_38) rfl ((if0 _ _).trans (teq hc38_6).2) kt) ?_
        refine own_via (T' := T5) (g' := (mkF m 42 #[.val (.ref aA), .val (.ref aB), .val (.int (Int32.ofNat i))] [(.ref aB), (.int (Int32.ofNat i)), (.ref sa)])) (fun _ kt => XS.aloadN X5.here hx rfl (hb hby d6_41) rfl rfl kt) ?_
        obtain ⟨T7, X7, e7, st7⟩ := getF X5 hx hZ hown (host := "") (Or.inl (hw _ (List.mem_of_getElem? (i := 22) rfl))) Via.refl e5 d1 (g := (mkF m 42 #[.val (.ref aA), .val (.ref aB), .val (.int (Int32.ofNat i))] [(.ref aB), (.int (Int32.ofNat i)), (.ref sa)])) rfl rfl (hb hby d6_42)
        refine own_via (T' := T7) (g' := (mkF m 45 #[.val (.ref aA), .val (.ref aB), .val (.int (Int32.ofNat i))] [(.ref sb), (.int (Int32.ofNat i)), (.ref sa)])) (fun _ kt => st7 _ kt) ?_
        refine own_via (T' := T7) (g' := (mkF m 46 #[.val (.ref aA), .val (.ref aB), .val (.int (Int32.ofNat i))] [(.int (Int32.ofNat i)), (.ref sb), (.int (Int32.ofNat i)), (.ref sa)])) (fun _ kt => XS.iloadN X7.here hx rfl (hb hby d6_45) rfl kt) ?_
        refine own_via (T' := T7) (g' := (mkF m 47 #[.val (.ref aA), .val (.ref aB), .val (.int (Int32.ofNat i))] [(.int (own_z i)), (.int (Int32.ofNat i)), (.ref sa)])) (fun _ kt => own_baloadZ X7 hx hZ e7 d6 (j := (Int32.ofNat i)) (i := i) rfl (by omega) (g := (mkF m 46 #[.val (.ref aA), .val (.ref aB), .val (.int (Int32.ofNat i))] [(.int (Int32.ofNat i)), (.ref sb), (.int (Int32.ofNat i)), (.ref sa)])) rfl rfl (hb hby d6_46) _ kt) ?_
        refine own_via (T' := T7) (g' := (mkF m 54 #[.val (.ref aA), .val (.ref aB), .val (.int (Int32.ofNat i))] [(.int (Int32.ofNat i)), (.ref sa)])) (fun _ kt => XS.ifYes X7.here hx rfl (pc0 := 47) (pc' := 54) rfl (hb hby d6_47) rfl ((if0 _ _).trans (teq rfl).1) (by decide) (by decide) kt) ?_
        refine own_via (T' := T7) (g' := (mkF m 55 #[.val (.ref aA), .val (.ref aB), .val (.int (Int32.ofNat i))] [(.int (0 : Int32)), (.int (Int32.ofNat i)), (.ref sa)])) (fun _ kt => XS.iconst X7.here hx rfl (hb hby d6_54) kt) ?_
        obtain ⟨T8, h8, X8, e8, W8, A8, st8⟩ := own_bastoreZ X7 hx hZ e7 c6 (j := (Int32.ofNat i)) (i := i) rfl (by omega) (r := 0) rfl (g := (mkF m 55 #[.val (.ref aA), .val (.ref aB), .val (.int (Int32.ofNat i))] [(.int (0 : Int32)), (.int (Int32.ofNat i)), (.ref sa)])) rfl rfl (hb hby d6_55)
        have f9 := c0.wr W8
        have f10 := c1.other W8 (Or.inl (own_ne (by omega)))
        have f11 := c2.other W8 (Or.inl (own_ne (by omega)))
        have f12 := c3.other W8 (Or.inl (own_ne (by omega)))
        have f13 := c4.other W8 (Or.inl (own_ne (by omega)))
        have f14 := c5.other W8 (Or.inl (own_ne (by omega)))
        have f15 := c7.other W8 (own_ne (by omega))
        have f16 := c8.other W8 (own_ne (by omega))
        have f17 := c9.other W8 (own_ne (by omega))
        have f18 := d0.wr W8
        have f19 := d1.other W8 (Or.inl (own_ne (by omega)))
        have f20 := d2.other W8 (Or.inl (own_ne (by omega)))
        have f21 := d3.other W8 (Or.inl (own_ne (by omega)))
        have f22 := d4.other W8 (Or.inl (own_ne (by omega)))
        have f23 := d5.other W8 (Or.inl (own_ne (by omega)))
        have f24 := d6.other W8 (own_ne (by omega))
        have f25 := d7.other W8 (own_ne (by omega))
        have f26 := d8.other W8 (own_ne (by omega))
        have f27 := d9.other W8 (own_ne (by omega))
        have z8 : n0 ≤ h8.size := Nat.le_trans zL (Nat.le_of_eq W8.size.symm)
        have N8 := Fr.snoc X8 NL gsa
        have K8 := KL.wr W8 (Or.inl (List.mem_of_getElem? (i := 0) rfl))
        refine own_via (T' := T8) (g' := (mkF m 56 #[.val (.ref aA), .val (.ref aB), .val (.int (Int32.ofNat i))] [])) (fun _ kt => st8 _ kt) ?_
        have A28 : own_Ar Z h8 sa .boolean 3 (fun i => .int (qa i)) := A8.congr (own_upid hc38_6)
        refine own_via (T' := T8) (g' := (mkF m 57 #[.val (.ref aA), .val (.ref aB), .val (.int (Int32.ofNat i))] [(.ref aA)])) (fun _ kt => XS.aloadN X8.here hx rfl (hb hby d6_56) rfl rfl kt) ?_
        obtain ⟨T29, X29, e29, st29⟩ := getF X8 hx hZ hown (host := "") (Or.inl (hw _ (List.mem_of_getElem? (i := 31) rfl))) Via.refl e8 f11 (g := (mkF m 57 #[.val (.ref aA), .val (.ref aB), .val (.int (Int32.ofNat i))] [(.ref aA)])) rfl rfl (hb hby d6_57)
        refine own_via (T' := T29) (g' := (mkF m 60 #[.val (.ref aA), .val (.ref aB), .val (.int (Int32.ofNat i))] [(.ref ia)])) (fun _ kt => st29 _ kt) ?_
        refine own_via (T' := T29) (g' := (mkF m 61 #[.val (.ref aA), .val (.ref aB), .val (.int (Int32.ofNat i))] [(.int (Int32.ofNat i)), (.ref ia)])) (fun _ kt => XS.iloadN X29.here hx rfl (hb hby d6_60) rfl kt) ?_
        refine own_via (T' := T29) (g' := (mkF m 62 #[.val (.ref aA), .val (.ref aB), .val (.int (Int32.ofNat i))] [(.ref aA), (.int (Int32.ofNat i)), (.ref ia)])) (fun _ kt => XS.aloadN X29.here hx rfl (hb hby d6_61) rfl rfl kt) ?_
        obtain ⟨T30, X30, e30, st30⟩ := getF X29 hx hZ hown (host := "") (Or.inl (hw _ (List.mem_of_getElem? (i := 31) rfl))) Via.refl e29 f11 (g := (mkF m 62 #[.val (.ref aA), .val (.ref aB), .val (.int (Int32.ofNat i))] [(.ref aA), (.int (Int32.ofNat i)), (.ref ia)])) rfl rfl (hb hby d6_62)
        refine own_via (T' := T30) (g' := (mkF m 65 #[.val (.ref aA), .val (.ref aB), .val (.int (Int32.ofNat i))] [(.ref ia), (.int (Int32.ofNat i)), (.ref ia)])) (fun _ kt => st30 _ kt) ?_
        refine own_via (T' := T30) (g' := (mkF m 66 #[.val (.ref aA), .val (.ref aB), .val (.int (Int32.ofNat i))] [(.int (Int32.ofNat i)), (.ref ia), (.int (Int32.ofNat i)), (.ref ia)])) (fun _ kt => XS.iloadN X30.here hx rfl (hb hby d6_65) rfl kt) ?_
        refine own_via (T' := T30) (g' := (mkF m 67 #[.val (.ref aA), .val (.ref aB), .val (.int (Int32.ofNat i))] [(.int (own_nt (qa i))), (.int (Int32.ofNat i)), (.ref ia)])) (fun _ kt => own_baloadZ X30 hx hZ e30 f15 (j := (Int32.ofNat i)) (i := i) rfl (by omega) (g := (mkF m 66 #[.val (.ref aA), .val (.ref aB), .val (.int (Int32.ofNat i))] [(.int (Int32.ofNat i)), (.ref ia), (.int (Int32.ofNat i)), (.ref ia)])) rfl rfl (hb hby d6_66) _ kt) ?_
        refine own_via (T' := T30) (g' := (mkF m 70 #[.val (.ref aA), .val (.ref aB), .val (.int (Int32.ofNat i))] [(.int (Int32.ofNat i)), (.ref ia)])) (fun _ kt => XS.ifNo X30.here hx rfl (hb hby d6_67) rfl ((if0 _ _).trans (feq (by rw [own_nt0 hc38_6]; decide)).1) kt) ?_
        refine own_via (T' := T30) (g' := (mkF m 71 #[.val (.ref aA), .val (.ref aB), .val (.int (Int32.ofNat i))] [(.ref aB), (.int (Int32.ofNat i)), (.ref ia)])) (fun _ kt => XS.aloadN X30.here hx rfl (hb hby d6_70) rfl rfl kt) ?_
        obtain ⟨T31, X31, e31, st31⟩ := getF X30 hx hZ hown (host := "") (Or.inl (hw _ (List.mem_of_getElem? (i := 31) rfl))) Via.refl e30 f20 (g := (mkF m 71 #[.val (.ref aA), .val (.ref aB), .val (.int (Int32.ofNat i))] [(.ref aB), (.int (Int32.ofNat i)), (.ref ia)])) rfl rfl (hb hby d6_71)
        refine own_via (T' := T31) (g' := (mkF m 74 #[.val (.ref aA), .val (.ref aB), .val (.int (Int32.ofNat i))] [(.ref ib), (.int (Int32.ofNat i)), (.ref ia)])) (fun _ kt => st31 _ kt) ?_
        refine own_via (T' := T31) (g' := (mkF m 75 #[.val (.ref aA), .val (.ref aB), .val (.int (Int32.ofNat i))] [(.int (Int32.ofNat i)), (.ref ib), (.int (Int32.ofNat i)), (.ref ia)])) (fun _ kt => XS.iloadN X31.here hx rfl (hb hby d6_74) rfl kt) ?_
        refine own_via (T' := T31) (g' := (mkF m 76 #[.val (.ref aA), .val (.ref aB), .val (.int (Int32.ofNat i))] [(.int (own_nt (own_z i))), (.int (Int32.ofNat i)), (.ref ia)])) (fun _ kt => own_baloadZ X31 hx hZ e31 f25 (j := (Int32.ofNat i)) (i := i) rfl (by omega) (g := (mkF m 75 #[.val (.ref aA), .val (.ref aB), .val (.int (Int32.ofNat i))] [(.int (Int32.ofNat i)), (.ref ib), (.int (Int32.ofNat i)), (.ref ia)])) rfl rfl (hb hby d6_75) _ kt) ?_
        refine own_via (T' := T31) (g' := (mkF m 79 #[.val (.ref aA), .val (.ref aB), .val (.int (Int32.ofNat i))] [(.int (Int32.ofNat i)), (.ref ia)])) (fun _ kt => XS.ifNo X31.here hx rfl (hb hby d6_76) rfl ((if0 _ _).trans (feq (by rw [own_nt0 (show own_z i = 0 from rfl)]; decide)).1) kt) ?_
        refine own_via (T' := T31) (g' := (mkF m 80 #[.val (.ref aA), .val (.ref aB), .val (.int (Int32.ofNat i))] [(.int (1 : Int32)), (.int (Int32.ofNat i)), (.ref ia)])) (fun _ kt => XS.iconst X31.here hx rfl (hb hby d6_79) kt) ?_
        refine own_via (T' := T31) (g' := (mkF m 84 #[.val (.ref aA), .val (.ref aB), .val (.int (Int32.ofNat i))] [(.int (1 : Int32)), (.int (Int32.ofNat i)), (.ref ia)])) (fun _ kt => XS.goto X31.here hx rfl (pc0 := 80) (pc' := 84) rfl (hb hby d6_80) (by decide) (by decide) kt) ?_
        obtain ⟨T32, h32, X32, e32, W32, A32, st32⟩ := own_bastoreZ X31 hx hZ e31 f15 (j := (Int32.ofNat i)) (i := i) rfl (by omega) (r := 1) rfl (g := (mkF m 84 #[.val (.ref aA), .val (.ref aB), .val (.int (Int32.ofNat i))] [(.int (1 : Int32)), (.int (Int32.ofNat i)), (.ref ia)])) rfl rfl (hb hby d6_84)
        have f33 := f9.wr W32
        have f34 := f10.other W32 (Or.inl (own_ne (by omega)))
        have f35 := f11.other W32 (Or.inl (own_ne (by omega)))
        have f36 := f12.other W32 (Or.inl (own_ne (by omega)))
        have f37 := f13.other W32 (Or.inl (own_ne (by omega)))
        have f38 := f14.other W32 (Or.inl (own_ne (by omega)))
        have f39 := A28.other W32 (own_ne (by omega))
        have f40 := f16.other W32 (own_ne (by omega))
        have f41 := f17.other W32 (own_ne (by omega))
        have f42 := f18.wr W32
        have f43 := f19.other W32 (Or.inl (own_ne (by omega)))
        have f44 := f20.other W32 (Or.inl (own_ne (by omega)))
        have f45 := f21.other W32 (Or.inl (own_ne (by omega)))
        have f46 := f22.other W32 (Or.inl (own_ne (by omega)))
        have f47 := f23.other W32 (Or.inl (own_ne (by omega)))
        have f48 := f24.other W32 (own_ne (by omega))
        have f49 := f25.other W32 (own_ne (by omega))
        have f50 := f26.other W32 (own_ne (by omega))
        have f51 := f27.other W32 (own_ne (by omega))
        have z32 : n0 ≤ h32.size := Nat.le_trans z8 (Nat.le_of_eq W32.size.symm)
        have N32 := Fr.snoc X32 N8 gia
        have K32 := K8.wr W32 (Or.inl (List.mem_of_getElem? (i := 1) rfl))
        refine own_via (T' := T32) (g' := (mkF m 85 #[.val (.ref aA), .val (.ref aB), .val (.int (Int32.ofNat i))] [])) (fun _ kt => st32 _ kt) ?_
        have A52 : own_Ar Z h32 ia .boolean 3 (fun i => .int (own_nt (qa i))) := A32.congr (own_upid (q := fun i => own_nt (qa i)) (own_nt0 hc38_6))
        refine own_via (T' := T32) (g' := (mkF m 86 #[.val (.ref aA), .val (.ref aB), .val (.int (Int32.ofNat i))] [(.ref aA)])) (fun _ kt => XS.aloadN X32.here hx rfl (hb hby d6_85) rfl rfl kt) ?_
        obtain ⟨T53, X53, e53, st53⟩ := getF X32 hx hZ hown (host := "") (Or.inl (hw _ (List.mem_of_getElem? (i := 33) rfl))) Via.refl e32 f36 (g := (mkF m 86 #[.val (.ref aA), .val (.ref aB), .val (.int (Int32.ofNat i))] [(.ref aA)])) rfl rfl (hb hby d6_86)
        refine own_via (T' := T53) (g' := (mkF m 89 #[.val (.ref aA), .val (.ref aB), .val (.int (Int32.ofNat i))] [(.ref na)])) (fun _ kt => st53 _ kt) ?_
        refine own_via (T' := T53) (g' := (mkF m 90 #[.val (.ref aA), .val (.ref aB), .val (.int (Int32.ofNat i))] [(.int (Int32.ofNat i)), (.ref na)])) (fun _ kt => XS.iloadN X53.here hx rfl (hb hby d6_89) rfl kt) ?_
        refine own_via (T' := T53) (g' := (mkF m 91 #[.val (.ref aA), .val (.ref aB), .val (.int (Int32.ofNat i))] [(.ref aA), (.int (Int32.ofNat i)), (.ref na)])) (fun _ kt => XS.aloadN X53.here hx rfl (hb hby d6_90) rfl rfl kt) ?_
        obtain ⟨T54, X54, e54, st54⟩ := getF X53 hx hZ hown (host := "") (Or.inl (hw _ (List.mem_of_getElem? (i := 33) rfl))) Via.refl e53 f36 (g := (mkF m 91 #[.val (.ref aA), .val (.ref aB), .val (.int (Int32.ofNat i))] [(.ref aA), (.int (Int32.ofNat i)), (.ref na)])) rfl rfl (hb hby d6_91)
        refine own_via (T' := T54) (g' := (mkF m 94 #[.val (.ref aA), .val (.ref aB), .val (.int (Int32.ofNat i))] [(.ref na), (.int (Int32.ofNat i)), (.ref na)])) (fun _ kt => st54 _ kt) ?_
        refine own_via (T' := T54) (g' := (mkF m 95 #[.val (.ref aA), .val (.ref aB), .val (.int (Int32.ofNat i))] [(.int (Int32.ofNat i)), (.ref na), (.int (Int32.ofNat i)), (.ref na)])) (fun _ kt => XS.iloadN X54.here hx rfl (hb hby d6_94) rfl kt) ?_
        refine own_via (T' := T54) (g' := (mkF m 96 #[.val (.ref aA), .val (.ref aB), .val (.int (Int32.ofNat i))] [(.int (own_nt (qa i))), (.int (Int32.ofNat i)), (.ref na)])) (fun _ kt => own_baloadZ X54 hx hZ e54 f40 (j := (Int32.ofNat i)) (i := i) rfl (by omega) (g := (mkF m 95 #[.val (.ref aA), .val (.ref aB), .val (.int (Int32.ofNat i))] [(.int (Int32.ofNat i)), (.ref na), (.int (Int32.ofNat i)), (.ref na)])) rfl rfl (hb hby d6_95) _ kt) ?_
        refine own_via (T' := T54) (g' := (mkF m 99 #[.val (.ref aA), .val (.ref aB), .val (.int (Int32.ofNat i))] [(.int (Int32.ofNat i)), (.ref na)])) (fun _ kt => XS.ifNo X54.here hx rfl (hb hby d6_96) rfl ((if0 _ _).trans (feq (by rw [own_nt0 hc38_6]; decide)).1) kt) ?_
        refine own_via (T' := T54) (g' := (mkF m 100 #[.val (.ref aA), .val (.ref aB), .val (.int (Int32.ofNat i))] [(.ref aB), (.int (Int32.ofNat i)), (.ref na)])) (fun _ kt => XS.aloadN X54.here hx rfl (hb hby d6_99) rfl rfl kt) ?_
        obtain ⟨T55, X55, e55, st55⟩ := getF X54 hx hZ hown (host := "") (Or.inl (hw _ (List.mem_of_getElem? (i := 33) rfl))) Via.refl e54 f45 (g := (mkF m 100 #[.val (.ref aA), .val (.ref aB), .val (.int (Int32.ofNat i))] [(.ref aB), (.int (Int32.ofNat i)), (.ref na)])) rfl rfl (hb hby d6_100)
        refine own_via (T' := T55) (g' := (mkF m 103 #[.val (.ref aA), .val (.ref aB), .val (.int (Int32.ofNat i))] [(.ref nb), (.int (Int32.ofNat i)), (.ref na)])) (fun _ kt => st55 _ kt) ?_
        refine own_via (T' := T55) (g' := (mkF m 104 #[.val (.ref aA), .val (.ref aB), .val (.int (Int32.ofNat i))] [(.int (Int32.ofNat i)), (.ref nb), (.int (Int32.ofNat i)), (.ref na)])) (fun _ kt => XS.iloadN X55.here hx rfl (hb hby d6_103) rfl kt) ?_
        refine own_via (T' := T55) (g' := (mkF m 105 #[.val (.ref aA), .val (.ref aB), .val (.int (Int32.ofNat i))] [(.int (own_nt (own_z i))), (.int (Int32.ofNat i)), (.ref na)])) (fun _ kt => own_baloadZ X55 hx hZ e55 f50 (j := (Int32.ofNat i)) (i := i) rfl (by omega) (g := (mkF m 104 #[.val (.ref aA), .val (.ref aB), .val (.int (Int32.ofNat i))] [(.int (Int32.ofNat i)), (.ref nb), (.int (Int32.ofNat i)), (.ref na)])) rfl rfl (hb hby d6_104) _ kt) ?_
        refine own_via (T' := T55) (g' := (mkF m 108 #[.val (.ref aA), .val (.ref aB), .val (.int (Int32.ofNat i))] [(.int (Int32.ofNat i)), (.ref na)])) (fun _ kt => XS.ifNo X55.here hx rfl (hb hby d6_105) rfl ((if0 _ _).trans (feq (by rw [own_nt0 (show own_z i = 0 from rfl)]; decide)).1) kt) ?_
        refine own_via (T' := T55) (g' := (mkF m 109 #[.val (.ref aA), .val (.ref aB), .val (.int (Int32.ofNat i))] [(.int (1 : Int32)), (.int (Int32.ofNat i)), (.ref na)])) (fun _ kt => XS.iconst X55.here hx rfl (hb hby d6_108) kt) ?_
        refine own_via (T' := T55) (g' := (mkF m 113 #[.val (.ref aA), .val (.ref aB), .val (.int (Int32.ofNat i))] [(.int (1 : Int32)), (.int (Int32.ofNat i)), (.ref na)])) (fun _ kt => XS.goto X55.here hx rfl (pc0 := 109) (pc' := 113) rfl (hb hby d6_109) (by decide) (by decide) kt) ?_
        obtain ⟨T56, h56, X56, e56, W56, A56, st56⟩ := own_bastoreZ X55 hx hZ e55 f40 (j := (Int32.ofNat i)) (i := i) rfl (by omega) (r := 1) rfl (g := (mkF m 113 #[.val (.ref aA), .val (.ref aB), .val (.int (Int32.ofNat i))] [(.int (1 : Int32)), (.int (Int32.ofNat i)), (.ref na)])) rfl rfl (hb hby d6_113)
        have f57 := f33.wr W56
        have f58 := f34.other W56 (Or.inl (own_ne (by omega)))
        have f59 := f35.other W56 (Or.inl (own_ne (by omega)))
        have f60 := f36.other W56 (Or.inl (own_ne (by omega)))
        have f61 := f37.other W56 (Or.inl (own_ne (by omega)))
        have f62 := f38.other W56 (Or.inl (own_ne (by omega)))
        have f63 := f39.other W56 (own_ne (by omega))
        have f64 := A52.other W56 (own_ne (by omega))
        have f65 := f41.other W56 (own_ne (by omega))
        have f66 := f42.wr W56
        have f67 := f43.other W56 (Or.inl (own_ne (by omega)))
        have f68 := f44.other W56 (Or.inl (own_ne (by omega)))
        have f69 := f45.other W56 (Or.inl (own_ne (by omega)))
        have f70 := f46.other W56 (Or.inl (own_ne (by omega)))
        have f71 := f47.other W56 (Or.inl (own_ne (by omega)))
        have f72 := f48.other W56 (own_ne (by omega))
        have f73 := f49.other W56 (own_ne (by omega))
        have f74 := f50.other W56 (own_ne (by omega))
        have f75 := f51.other W56 (own_ne (by omega))
        have z56 : n0 ≤ h56.size := Nat.le_trans z32 (Nat.le_of_eq W56.size.symm)
        have N56 := Fr.snoc X56 N32 gna
        have K56 := K32.wr W56 (Or.inl (List.mem_of_getElem? (i := 2) rfl))
        refine own_via (T' := T56) (g' := (mkF m 114 #[.val (.ref aA), .val (.ref aB), .val (.int (Int32.ofNat i))] [])) (fun _ kt => st56 _ kt) ?_
        have A76 : own_Ar Z h56 na .boolean 3 (fun i => .int (own_nt (qa i))) := A56.congr (own_upid (q := fun i => own_nt (qa i)) (own_nt0 hc38_6))
        refine own_via (T' := T56) (g' := (mkF m 115 #[.val (.ref aA), .val (.ref aB), .val (.int (Int32.ofNat i))] [(.ref aA)])) (fun _ kt => XS.aloadN X56.here hx rfl (hb hby d6_114) rfl rfl kt) ?_
        obtain ⟨T77, X77, e77, st77⟩ := getF X56 hx hZ hown (host := "") (Or.inl (hw _ (List.mem_of_getElem? (i := 35) rfl))) Via.refl e56 f61 (g := (mkF m 115 #[.val (.ref aA), .val (.ref aB), .val (.int (Int32.ofNat i))] [(.ref aA)])) rfl rfl (hb hby d6_115)
        refine own_via (T' := T77) (g' := (mkF m 118 #[.val (.ref aA), .val (.ref aB), .val (.int (Int32.ofNat i))] [(.ref ba)])) (fun _ kt => st77 _ kt) ?_
        refine own_via (T' := T77) (g' := (mkF m 119 #[.val (.ref aA), .val (.ref aB), .val (.int (Int32.ofNat i))] [(.int (Int32.ofNat i)), (.ref ba)])) (fun _ kt => XS.iloadN X77.here hx rfl (hb hby d6_118) rfl kt) ?_
        refine own_via (T' := T77) (g' := (mkF m 120 #[.val (.ref aA), .val (.ref aB), .val (.int (Int32.ofNat i))] [(.ref aA), (.int (Int32.ofNat i)), (.ref ba)])) (fun _ kt => XS.aloadN X77.here hx rfl (hb hby d6_119) rfl rfl kt) ?_
        obtain ⟨T78, X78, e78, st78⟩ := getF X77 hx hZ hown (host := "") (Or.inl (hw _ (List.mem_of_getElem? (i := 35) rfl))) Via.refl e77 f61 (g := (mkF m 120 #[.val (.ref aA), .val (.ref aB), .val (.int (Int32.ofNat i))] [(.ref aA), (.int (Int32.ofNat i)), (.ref ba)])) rfl rfl (hb hby d6_120)
        refine own_via (T' := T78) (g' := (mkF m 123 #[.val (.ref aA), .val (.ref aB), .val (.int (Int32.ofNat i))] [(.ref ba), (.int (Int32.ofNat i)), (.ref ba)])) (fun _ kt => st78 _ kt) ?_
        refine own_via (T' := T78) (g' := (mkF m 124 #[.val (.ref aA), .val (.ref aB), .val (.int (Int32.ofNat i))] [(.int (Int32.ofNat i)), (.ref ba), (.int (Int32.ofNat i)), (.ref ba)])) (fun _ kt => XS.iloadN X78.here hx rfl (hb hby d6_123) rfl kt) ?_
        refine own_via (T' := T78) (g' := (mkF m 125 #[.val (.ref aA), .val (.ref aB), .val (.int (Int32.ofNat i))] [(.int (own_nt (qa i))), (.int (Int32.ofNat i)), (.ref ba)])) (fun _ kt => own_baloadZ X78 hx hZ e78 f65 (j := (Int32.ofNat i)) (i := i) rfl (by omega) (g := (mkF m 124 #[.val (.ref aA), .val (.ref aB), .val (.int (Int32.ofNat i))] [(.int (Int32.ofNat i)), (.ref ba), (.int (Int32.ofNat i)), (.ref ba)])) rfl rfl (hb hby d6_124) _ kt) ?_
        refine own_via (T' := T78) (g' := (mkF m 128 #[.val (.ref aA), .val (.ref aB), .val (.int (Int32.ofNat i))] [(.int (Int32.ofNat i)), (.ref ba)])) (fun _ kt => XS.ifNo X78.here hx rfl (hb hby d6_125) rfl ((if0 _ _).trans (feq (by rw [own_nt0 hc38_6]; decide)).1) kt) ?_
        refine own_via (T' := T78) (g' := (mkF m 129 #[.val (.ref aA), .val (.ref aB), .val (.int (Int32.ofNat i))] [(.ref aB), (.int (Int32.ofNat i)), (.ref ba)])) (fun _ kt => XS.aloadN X78.here hx rfl (hb hby d6_128) rfl rfl kt) ?_
        obtain ⟨T79, X79, e79, st79⟩ := getF X78 hx hZ hown (host := "") (Or.inl (hw _ (List.mem_of_getElem? (i := 35) rfl))) Via.refl e78 f70 (g := (mkF m 129 #[.val (.ref aA), .val (.ref aB), .val (.int (Int32.ofNat i))] [(.ref aB), (.int (Int32.ofNat i)), (.ref ba)])) rfl rfl (hb hby d6_129)
        refine own_via (T' := T79) (g' := (mkF m 132 #[.val (.ref aA), .val (.ref aB), .val (.int (Int32.ofNat i))] [(.ref bb), (.int (Int32.ofNat i)), (.ref ba)])) (fun _ kt => st79 _ kt) ?_
        refine own_via (T' := T79) (g' := (mkF m 133 #[.val (.ref aA), .val (.ref aB), .val (.int (Int32.ofNat i))] [(.int (Int32.ofNat i)), (.ref bb), (.int (Int32.ofNat i)), (.ref ba)])) (fun _ kt => XS.iloadN X79.here hx rfl (hb hby d6_132) rfl kt) ?_
        refine own_via (T' := T79) (g' := (mkF m 134 #[.val (.ref aA), .val (.ref aB), .val (.int (Int32.ofNat i))] [(.int (own_nt (own_z i))), (.int (Int32.ofNat i)), (.ref ba)])) (fun _ kt => own_baloadZ X79 hx hZ e79 f75 (j := (Int32.ofNat i)) (i := i) rfl (by omega) (g := (mkF m 133 #[.val (.ref aA), .val (.ref aB), .val (.int (Int32.ofNat i))] [(.int (Int32.ofNat i)), (.ref bb), (.int (Int32.ofNat i)), (.ref ba)])) rfl rfl (hb hby d6_133) _ kt) ?_
        refine own_via (T' := T79) (g' := (mkF m 137 #[.val (.ref aA), .val (.ref aB), .val (.int (Int32.ofNat i))] [(.int (Int32.ofNat i)), (.ref ba)])) (fun _ kt => XS.ifNo X79.here hx rfl (hb hby d6_134) rfl ((if0 _ _).trans (feq (by rw [own_nt0 (show own_z i = 0 from rfl)]; decide)).1) kt) ?_
        refine own_via (T' := T79) (g' := (mkF m 138 #[.val (.ref aA), .val (.ref aB), .val (.int (Int32.ofNat i))] [(.int (1 : Int32)), (.int (Int32.ofNat i)), (.ref ba)])) (fun _ kt => XS.iconst X79.here hx rfl (hb hby d6_137) kt) ?_
        refine own_via (T' := T79) (g' := (mkF m 142 #[.val (.ref aA), .val (.ref aB), .val (.int (Int32.ofNat i))] [(.int (1 : Int32)), (.int (Int32.ofNat i)), (.ref ba)])) (fun _ kt => XS.goto X79.here hx rfl (pc0 := 138) (pc' := 142) rfl (hb hby d6_138) (by decide) (by decide) kt) ?_
        obtain ⟨T80, h80, X80, e80, W80, A80, st80⟩ := own_bastoreZ X79 hx hZ e79 f65 (j := (Int32.ofNat i)) (i := i) rfl (by omega) (r := 1) rfl (g := (mkF m 142 #[.val (.ref aA), .val (.ref aB), .val (.int (Int32.ofNat i))] [(.int (1 : Int32)), (.int (Int32.ofNat i)), (.ref ba)])) rfl rfl (hb hby d6_142)
        have f81 := f57.wr W80
        have f82 := f58.other W80 (Or.inl (own_ne (by omega)))
        have f83 := f59.other W80 (Or.inl (own_ne (by omega)))
        have f84 := f60.other W80 (Or.inl (own_ne (by omega)))
        have f85 := f61.other W80 (Or.inl (own_ne (by omega)))
        have f86 := f62.other W80 (Or.inl (own_ne (by omega)))
        have f87 := f63.other W80 (own_ne (by omega))
        have f88 := f64.other W80 (own_ne (by omega))
        have f89 := A76.other W80 (own_ne (by omega))
        have f90 := f66.wr W80
        have f91 := f67.other W80 (Or.inl (own_ne (by omega)))
        have f92 := f68.other W80 (Or.inl (own_ne (by omega)))
        have f93 := f69.other W80 (Or.inl (own_ne (by omega)))
        have f94 := f70.other W80 (Or.inl (own_ne (by omega)))
        have f95 := f71.other W80 (Or.inl (own_ne (by omega)))
        have f96 := f72.other W80 (own_ne (by omega))
        have f97 := f73.other W80 (own_ne (by omega))
        have f98 := f74.other W80 (own_ne (by omega))
        have f99 := f75.other W80 (own_ne (by omega))
        have z80 : n0 ≤ h80.size := Nat.le_trans z56 (Nat.le_of_eq W80.size.symm)
        have N80 := Fr.snoc X80 N56 gba
        have K80 := K56.wr W80 (Or.inl (List.mem_of_getElem? (i := 3) rfl))
        refine own_via (T' := T80) (g' := (mkF m 143 #[.val (.ref aA), .val (.ref aB), .val (.int (Int32.ofNat i))] [])) (fun _ kt => st80 _ kt) ?_
        have A100 : own_Ar Z h80 ba .boolean 3 (fun i => .int (own_nt (qa i))) := A80.congr (own_upid (q := fun i => own_nt (qa i)) (own_nt0 hc38_6))
        refine own_via (T' := T80) (g' := (mkF m 146 #[.val (.ref aA), .val (.ref aB), .val (.int ((Int32.ofNat i) + (1 : Int32)))] [])) (fun _ kt => XS.iinc X80.here hx rfl (hb hby d6_143) rfl (l' := #[.val (.ref aA), .val (.ref aB), .val (.int ((Int32.ofNat i) + (1 : Int32)))]) rfl kt) ?_
        rw [show ((Int32.ofNat i) + (1 : Int32)) = Int32.ofNat (i + 1) from (inc_ofNat i).symm]
        refine own_via (T' := T80) (g' := (mkF m 2 #[.val (.ref aA), .val (.ref aB), .val (.int (Int32.ofNat (i + 1)))] [])) (fun _ kt => XS.goto X80.here hx rfl (pc0 := 146) (pc' := 2) rfl (hb hby d6_146) (by decide) (by decide) kt) ?_
        exact ih (i + 1) (by omega) T80 h80 _ X80 e80 z80 N80 K80 ⟨f81, f82, f83, f84, f85, f86, f87, f88, f89, A100⟩ ⟨f90, f91, f92, f93, f94, f95, f96, f97, f98, f99⟩
      · refine own_via (T' := T5) (g' := (mkF m 50 #[.val (.ref aA), .val (.ref aB), .val (.int (Int32.ofNat i))] [(.int (Int32.ofNat i)), (.ref sa)])) (fun _ kt => XS.ifYes X5.here hx rfl (pc0 := 38) (pc' := 50) rfl (hb hby d6_38) rfl ((if0 _ _).trans (feq hc38_6).2) (by decide) (by decide) kt) ?_
        refine own_via (T' := T5) (g' := (mkF m 51 #[.val (.ref aA), .val (.ref aB), .val (.int (Int32.ofNat i))] [(.int (1 : Int32)), (.int (Int32.ofNat i)), (.ref sa)])) (fun _ kt => XS.iconst X5.here hx rfl (hb hby d6_50) kt) ?_
        refine own_via (T' := T5) (g' := (mkF m 55 #[.val (.ref aA), .val (.ref aB), .val (.int (Int32.ofNat i))] [(.int (1 : Int32)), (.int (Int32.ofNat i)), (.ref sa)])) (fun _ kt => XS.goto X5.here hx rfl (pc0 := 51) (pc' := 55) rfl (hb hby d6_51) (by decide) (by decide) kt) ?_
        obtain ⟨T101, h101, X101, e101, W101, A101, st101⟩ := own_bastoreZ X5 hx hZ e5 c6 (j := (Int32.ofNat i)) (i := i) rfl (by omega) (r := 1) rfl (g := (mkF m 55 #[.val (.ref aA), .val (.ref aB), .val (.int (Int32.ofNat i))] [(.int (1 : Int32)), (.int (Int32.ofNat i)), (.ref sa)])) rfl rfl (hb hby d6_55)
        have f102 := c0.wr W101
        have f103 := c1.other W101 (Or.inl (own_ne (by omega)))
        have f104 := c2.other W101 (Or.inl (own_ne (by omega)))
        have f105 := c3.other W101 (Or.inl (own_ne (by omega)))
        have f106 := c4.other W101 (Or.inl (own_ne (by omega)))
        have f107 := c5.other W101 (Or.inl (own_ne (by omega)))
        have f108 := c7.other W101 (own_ne (by omega))
        have f109 := c8.other W101 (own_ne (by omega))
        have f110 := c9.other W101 (own_ne (by omega))
        have f111 := d0.wr W101
        have f112 := d1.other W101 (Or.inl (own_ne (by omega)))
        have f113 := d2.other W101 (Or.inl (own_ne (by omega)))
        have f114 := d3.other W101 (Or.inl (own_ne (by omega)))
        have f115 := d4.other W101 (Or.inl (own_ne (by omega)))
        have f116 := d5.other W101 (Or.inl (own_ne (by omega)))
        have f117 := d6.other W101 (own_ne (by omega))
        have f118 := d7.other W101 (own_ne (by omega))
        have f119 := d8.other W101 (own_ne (by omega))
        have f120 := d9.other W101 (own_ne (by omega))
        have z101 : n0 ≤ h101.size := Nat.le_trans zL (Nat.le_of_eq W101.size.symm)
        have N101 := Fr.snoc X101 NL gsa
        have K101 := KL.wr W101 (Or.inl (List.mem_of_getElem? (i := 0) rfl))
        refine own_via (T' := T101) (g' := (mkF m 56 #[.val (.ref aA), .val (.ref aB), .val (.int (Int32.ofNat i))] [])) (fun _ kt => st101 _ kt) ?_
        have A121 : own_Ar Z h101 sa .boolean 3 (fun i => .int (qa i)) := A101.congr (own_upid ((hqa i).resolve_left hc38_6))
        refine own_via (T' := T101) (g' := (mkF m 57 #[.val (.ref aA), .val (.ref aB), .val (.int (Int32.ofNat i))] [(.ref aA)])) (fun _ kt => XS.aloadN X101.here hx rfl (hb hby d6_56) rfl rfl kt) ?_
        obtain ⟨T122, X122, e122, st122⟩ := getF X101 hx hZ hown (host := "") (Or.inl (hw _ (List.mem_of_getElem? (i := 31) rfl))) Via.refl e101 f104 (g := (mkF m 57 #[.val (.ref aA), .val (.ref aB), .val (.int (Int32.ofNat i))] [(.ref aA)])) rfl rfl (hb hby d6_57)
        refine own_via (T' := T122) (g' := (mkF m 60 #[.val (.ref aA), .val (.ref aB), .val (.int (Int32.ofNat i))] [(.ref ia)])) (fun _ kt => st122 _ kt) ?_
        refine own_via (T' := T122) (g' := (mkF m 61 #[.val (.ref aA), .val (.ref aB), .val (.int (Int32.ofNat i))] [(.int (Int32.ofNat i)), (.ref ia)])) (fun _ kt => XS.iloadN X122.here hx rfl (hb hby d6_60) rfl kt) ?_
        refine own_via (T' := T122) (g' := (mkF m 62 #[.val (.ref aA), .val (.ref aB), .val (.int (Int32.ofNat i))] [(.ref aA), (.int (Int32.ofNat i)), (.ref ia)])) (fun _ kt => XS.aloadN X122.here hx rfl (hb hby d6_61) rfl rfl kt) ?_
        obtain ⟨T123, X123, e123, st123⟩ := getF X122 hx hZ hown (host := "") (Or.inl (hw _ (List.mem_of_getElem? (i := 31) rfl))) Via.refl e122 f104 (g := (mkF m 62 #[.val (.ref aA), .val (.ref aB), .val (.int (Int32.ofNat i))] [(.ref aA), (.int (Int32.ofNat i)), (.ref ia)])) rfl rfl (hb hby d6_62)
        refine own_via (T' := T123) (g' := (mkF m 65 #[.val (.ref aA), .val (.ref aB), .val (.int (Int32.ofNat i))] [(.ref ia), (.int (Int32.ofNat i)), (.ref ia)])) (fun _ kt => st123 _ kt) ?_
        refine own_via (T' := T123) (g' := (mkF m 66 #[.val (.ref aA), .val (.ref aB), .val (.int (Int32.ofNat i))] [(.int (Int32.ofNat i)), (.ref ia), (.int (Int32.ofNat i)), (.ref ia)])) (fun _ kt => XS.iloadN X123.here hx rfl (hb hby d6_65) rfl kt) ?_
        refine own_via (T' := T123) (g' := (mkF m 67 #[.val (.ref aA), .val (.ref aB), .val (.int (Int32.ofNat i))] [(.int (own_nt (qa i))), (.int (Int32.ofNat i)), (.ref ia)])) (fun _ kt => own_baloadZ X123 hx hZ e123 f108 (j := (Int32.ofNat i)) (i := i) rfl (by omega) (g := (mkF m 66 #[.val (.ref aA), .val (.ref aB), .val (.int (Int32.ofNat i))] [(.int (Int32.ofNat i)), (.ref ia), (.int (Int32.ofNat i)), (.ref ia)])) rfl rfl (hb hby d6_66) _ kt) ?_
        refine own_via (T' := T123) (g' := (mkF m 83 #[.val (.ref aA), .val (.ref aB), .val (.int (Int32.ofNat i))] [(.int (Int32.ofNat i)), (.ref ia)])) (fun _ kt => XS.ifYes X123.here hx rfl (pc0 := 67) (pc' := 83) rfl (hb hby d6_67) rfl ((if0 _ _).trans (teq (own_nt1 hc38_6)).1) (by decide) (by decide) kt) ?_
        refine own_via (T' := T123) (g' := (mkF m 84 #[.val (.ref aA), .val (.ref aB), .val (.int (Int32.ofNat i))] [(.int (0 : Int32)), (.int (Int32.ofNat i)), (.ref ia)])) (fun _ kt => XS.iconst X123.here hx rfl (hb hby d6_83) kt) ?_
        obtain ⟨T124, h124, X124, e124, W124, A124, st124⟩ := own_bastoreZ X123 hx hZ e123 f108 (j := (Int32.ofNat i)) (i := i) rfl (by omega) (r := 0) rfl (g := (mkF m 84 #[.val (.ref aA), .val (.ref aB), .val (.int (Int32.ofNat i))] [(.int (0 : Int32)), (.int (Int32.ofNat i)), (.ref ia)])) rfl rfl (hb hby d6_84)
        have f125 := f102.wr W124
        have f126 := f103.other W124 (Or.inl (own_ne (by omega)))
        have f127 := f104.other W124 (Or.inl (own_ne (by omega)))
        have f128 := f105.other W124 (Or.inl (own_ne (by omega)))
        have f129 := f106.other W124 (Or.inl (own_ne (by omega)))
        have f130 := f107.other W124 (Or.inl (own_ne (by omega)))
        have f131 := A121.other W124 (own_ne (by omega))
        have f132 := f109.other W124 (own_ne (by omega))
        have f133 := f110.other W124 (own_ne (by omega))
        have f134 := f111.wr W124
        have f135 := f112.other W124 (Or.inl (own_ne (by omega)))
        have f136 := f113.other W124 (Or.inl (own_ne (by omega)))
        have f137 := f114.other W124 (Or.inl (own_ne (by omega)))
        have f138 := f115.other W124 (Or.inl (own_ne (by omega)))
        have f139 := f116.other W124 (Or.inl (own_ne (by omega)))
        have f140 := f117.other W124 (own_ne (by omega))
        have f141 := f118.other W124 (own_ne (by omega))
        have f142 := f119.other W124 (own_ne (by omega))
        have f143 := f120.other W124 (own_ne (by omega))
        have z124 : n0 ≤ h124.size := Nat.le_trans z101 (Nat.le_of_eq W124.size.symm)
        have N124 := Fr.snoc X124 N101 gia
        have K124 := K101.wr W124 (Or.inl (List.mem_of_getElem? (i := 1) rfl))
        refine own_via (T' := T124) (g' := (mkF m 85 #[.val (.ref aA), .val (.ref aB), .val (.int (Int32.ofNat i))] [])) (fun _ kt => st124 _ kt) ?_
        have A144 : own_Ar Z h124 ia .boolean 3 (fun i => .int (own_nt (qa i))) := A124.congr (own_upid (q := fun i => own_nt (qa i)) (own_nt1 hc38_6))
        refine own_via (T' := T124) (g' := (mkF m 86 #[.val (.ref aA), .val (.ref aB), .val (.int (Int32.ofNat i))] [(.ref aA)])) (fun _ kt => XS.aloadN X124.here hx rfl (hb hby d6_85) rfl rfl kt) ?_
        obtain ⟨T145, X145, e145, st145⟩ := getF X124 hx hZ hown (host := "") (Or.inl (hw _ (List.mem_of_getElem? (i := 33) rfl))) Via.refl e124 f128 (g := (mkF m 86 #[.val (.ref aA), .val (.ref aB), .val (.int (Int32.ofNat i))] [(.ref aA)])) rfl rfl (hb hby d6_86)
        refine own_via (T' := T145) (g' := (mkF m 89 #[.val (.ref aA), .val (.ref aB), .val (.int (Int32.ofNat i))] [(.ref na)])) (fun _ kt => st145 _ kt) ?_
        refine own_via (T' := T145) (g' := (mkF m 90 #[.val (.ref aA), .val (.ref aB), .val (.int (Int32.ofNat i))] [(.int (Int32.ofNat i)), (.ref na)])) (fun _ kt => XS.iloadN X145.here hx rfl (hb hby d6_89) rfl kt) ?_
        refine own_via (T' := T145) (g' := (mkF m 91 #[.val (.ref aA), .val (.ref aB), .val (.int (Int32.ofNat i))] [(.ref aA), (.int (Int32.ofNat i)), (.ref na)])) (fun _ kt => XS.aloadN X145.here hx rfl (hb hby d6_90) rfl rfl kt) ?_
        obtain ⟨T146, X146, e146, st146⟩ := getF X145 hx hZ hown (host := "") (Or.inl (hw _ (List.mem_of_getElem? (i := 33) rfl))) Via.refl e145 f128 (g := (mkF m 91 #[.val (.ref aA), .val (.ref aB), .val (.int (Int32.ofNat i))] [(.ref aA), (.int (Int32.ofNat i)), (.ref na)])) rfl rfl (hb hby d6_91)
        refine own_via (T' := T146) (g' := (mkF m 94 #[.val (.ref aA), .val (.ref aB), .val (.int (Int32.ofNat i))] [(.ref na), (.int (Int32.ofNat i)), (.ref na)])) (fun _ kt => st146 _ kt) ?_
        refine own_via (T' := T146) (g' := (mkF m 95 #[.val (.ref aA), .val (.ref aB), .val (.int (Int32.ofNat i))] [(.int (Int32.ofNat i)), (.ref na), (.int (Int32.ofNat i)), (.ref na)])) (fun _ kt => XS.iloadN X146.here hx rfl (hb hby d6_94) rfl kt) ?_
        refine own_via (T' := T146) (g' := (mkF m 96 #[.val (.ref aA), .val (.ref aB), .val (.int (Int32.ofNat i))] [(.int (own_nt (qa i))), (.int (Int32.ofNat i)), (.ref na)])) (fun _ kt => own_baloadZ X146 hx hZ e146 f132 (j := (Int32.ofNat i)) (i := i) rfl (by omega) (g := (mkF m 95 #[.val (.ref aA), .val (.ref aB), .val (.int (Int32.ofNat i))] [(.int (Int32.ofNat i)), (.ref na), (.int (Int32.ofNat i)), (.ref na)])) rfl rfl (hb hby d6_95) _ kt) ?_
        refine own_via (T' := T146) (g' := (mkF m 112 #[.val (.ref aA), .val (.ref aB), .val (.int (Int32.ofNat i))] [(.int (Int32.ofNat i)), (.ref na)])) (fun _ kt => XS.ifYes X146.here hx rfl (pc0 := 96) (pc' := 112) rfl (hb hby d6_96) rfl ((if0 _ _).trans (teq (own_nt1 hc38_6)).1) (by decide) (by decide) kt) ?_
        refine own_via (T' := T146) (g' := (mkF m 113 #[.val (.ref aA), .val (.ref aB), .val (.int (Int32.ofNat i))] [(.int (0 : Int32)), (.int (Int32.ofNat i)), (.ref na)])) (fun _ kt => XS.iconst X146.here hx rfl (hb hby d6_112) kt) ?_
        obtain ⟨T147, h147, X147, e147, W147, A147, st147⟩ := own_bastoreZ X146 hx hZ e146 f132 (j := (Int32.ofNat i)) (i := i) rfl (by omega) (r := 0) rfl (g := (mkF m 113 #[.val (.ref aA), .val (.ref aB), .val (.int (Int32.ofNat i))] [(.int (0 : Int32)), (.int (Int32.ofNat i)), (.ref na)])) rfl rfl (hb hby d6_113)
        have f148 := f125.wr W147
        have f149 := f126.other W147 (Or.inl (own_ne (by omega)))
        have f150 := f127.other W147 (Or.inl (own_ne (by omega)))
        have f151 := f128.other W147 (Or.inl (own_ne (by omega)))
        have f152 := f129.other W147 (Or.inl (own_ne (by omega)))
        have f153 := f130.other W147 (Or.inl (own_ne (by omega)))
        have f154 := f131.other W147 (own_ne (by omega))
        have f155 := A144.other W147 (own_ne (by omega))
        have f156 := f133.other W147 (own_ne (by omega))
        have f157 := f134.wr W147
        have f158 := f135.other W147 (Or.inl (own_ne (by omega)))
        have f159 := f136.other W147 (Or.inl (own_ne (by omega)))
        have f160 := f137.other W147 (Or.inl (own_ne (by omega)))
        have f161 := f138.other W147 (Or.inl (own_ne (by omega)))
        have f162 := f139.other W147 (Or.inl (own_ne (by omega)))
        have f163 := f140.other W147 (own_ne (by omega))
        have f164 := f141.other W147 (own_ne (by omega))
        have f165 := f142.other W147 (own_ne (by omega))
        have f166 := f143.other W147 (own_ne (by omega))
        have z147 : n0 ≤ h147.size := Nat.le_trans z124 (Nat.le_of_eq W147.size.symm)
        have N147 := Fr.snoc X147 N124 gna
        have K147 := K124.wr W147 (Or.inl (List.mem_of_getElem? (i := 2) rfl))
        refine own_via (T' := T147) (g' := (mkF m 114 #[.val (.ref aA), .val (.ref aB), .val (.int (Int32.ofNat i))] [])) (fun _ kt => st147 _ kt) ?_
        have A167 : own_Ar Z h147 na .boolean 3 (fun i => .int (own_nt (qa i))) := A147.congr (own_upid (q := fun i => own_nt (qa i)) (own_nt1 hc38_6))
        refine own_via (T' := T147) (g' := (mkF m 115 #[.val (.ref aA), .val (.ref aB), .val (.int (Int32.ofNat i))] [(.ref aA)])) (fun _ kt => XS.aloadN X147.here hx rfl (hb hby d6_114) rfl rfl kt) ?_
        obtain ⟨T168, X168, e168, st168⟩ := getF X147 hx hZ hown (host := "") (Or.inl (hw _ (List.mem_of_getElem? (i := 35) rfl))) Via.refl e147 f152 (g := (mkF m 115 #[.val (.ref aA), .val (.ref aB), .val (.int (Int32.ofNat i))] [(.ref aA)])) rfl rfl (hb hby d6_115)
        refine own_via (T' := T168) (g' := (mkF m 118 #[.val (.ref aA), .val (.ref aB), .val (.int (Int32.ofNat i))] [(.ref ba)])) (fun _ kt => st168 _ kt) ?_
        refine own_via (T' := T168) (g' := (mkF m 119 #[.val (.ref aA), .val (.ref aB), .val (.int (Int32.ofNat i))] [(.int (Int32.ofNat i)), (.ref ba)])) (fun _ kt => XS.iloadN X168.here hx rfl (hb hby d6_118) rfl kt) ?_
        refine own_via (T' := T168) (g' := (mkF m 120 #[.val (.ref aA), .val (.ref aB), .val (.int (Int32.ofNat i))] [(.ref aA), (.int (Int32.ofNat i)), (.ref ba)])) (fun _ kt => XS.aloadN X168.here hx rfl (hb hby d6_119) rfl rfl kt) ?_
        obtain ⟨T169, X169, e169, st169⟩ := getF X168 hx hZ hown (host := "") (Or.inl (hw _ (List.mem_of_getElem? (i := 35) rfl))) Via.refl e168 f152 (g := (mkF m 120 #[.val (.ref aA), .val (.ref aB), .val (.int (Int32.ofNat i))] [(.ref aA), (.int (Int32.ofNat i)), (.ref ba)])) rfl rfl (hb hby d6_120)
        refine own_via (T' := T169) (g' := (mkF m 123 #[.val (.ref aA), .val (.ref aB), .val (.int (Int32.ofNat i))] [(.ref ba), (.int (Int32.ofNat i)), (.ref ba)])) (fun _ kt => st169 _ kt) ?_
        refine own_via (T' := T169) (g' := (mkF m 124 #[.val (.ref aA), .val (.ref aB), .val (.int (Int32.ofNat i))] [(.int (Int32.ofNat i)), (.ref ba), (.int (Int32.ofNat i)), (.ref ba)])) (fun _ kt => XS.iloadN X169.here hx rfl (hb hby d6_123) rfl kt) ?_
        refine own_via (T' := T169) (g' := (mkF m 125 #[.val (.ref aA), .val (.ref aB), .val (.int (Int32.ofNat i))] [(.int (own_nt (qa i))), (.int (Int32.ofNat i)), (.ref ba)])) (fun _ kt => own_baloadZ X169 hx hZ e169 f156 (j := (Int32.ofNat i)) (i := i) rfl (by omega) (g := (mkF m 124 #[.val (.ref aA), .val (.ref aB), .val (.int (Int32.ofNat i))] [(.int (Int32.ofNat i)), (.ref ba), (.int (Int32.ofNat i)), (.ref ba)])) rfl rfl (hb hby d6_124) _ kt) ?_
        refine own_via (T' := T169) (g' := (mkF m 141 #[.val (.ref aA), .val (.ref aB), .val (.int (Int32.ofNat i))] [(.int (Int32.ofNat i)), (.ref ba)])) (fun _ kt => XS.ifYes X169.here hx rfl (pc0 := 125) (pc' := 141) rfl (hb hby d6_125) rfl ((if0 _ _).trans (teq (own_nt1 hc38_6)).1) (by decide) (by decide) kt) ?_
        refine own_via (T' := T169) (g' := (mkF m 142 #[.val (.ref aA), .val (.ref aB), .val (.int (Int32.ofNat i))] [(.int (0 : Int32)), (.int (Int32.ofNat i)), (.ref ba)])) (fun _ kt => XS.iconst X169.here hx rfl (hb hby d6_141) kt) ?_
        obtain ⟨T170, h170, X170, e170, W170, A170, st170⟩ := own_bastoreZ X169 hx hZ e169 f156 (j := (Int32.ofNat i)) (i := i) rfl (by omega) (r := 0) rfl (g := (mkF m 142 #[.val (.ref aA), .val (.ref aB), .val (.int (Int32.ofNat i))] [(.int (0 : Int32)), (.int (Int32.ofNat i)), (.ref ba)])) rfl rfl (hb hby d6_142)
        have f171 := f148.wr W170
        have f172 := f149.other W170 (Or.inl (own_ne (by omega)))
        have f173 := f150.other W170 (Or.inl (own_ne (by omega)))
        have f174 := f151.other W170 (Or.inl (own_ne (by omega)))
        have f175 := f152.other W170 (Or.inl (own_ne (by omega)))
        have f176 := f153.other W170 (Or.inl (own_ne (by omega)))
        have f177 := f154.other W170 (own_ne (by omega))
        have f178 := f155.other W170 (own_ne (by omega))
        have f179 := A167.other W170 (own_ne (by omega))
        have f180 := f157.wr W170
        have f181 := f158.other W170 (Or.inl (own_ne (by omega)))
        have f182 := f159.other W170 (Or.inl (own_ne (by omega)))
        have f183 := f160.other W170 (Or.inl (own_ne (by omega)))
        have f184 := f161.other W170 (Or.inl (own_ne (by omega)))
        have f185 := f162.other W170 (Or.inl (own_ne (by omega)))
        have f186 := f163.other W170 (own_ne (by omega))
        have f187 := f164.other W170 (own_ne (by omega))
        have f188 := f165.other W170 (own_ne (by omega))
        have f189 := f166.other W170 (own_ne (by omega))
        have z170 : n0 ≤ h170.size := Nat.le_trans z147 (Nat.le_of_eq W170.size.symm)
        have N170 := Fr.snoc X170 N147 gba
        have K170 := K147.wr W170 (Or.inl (List.mem_of_getElem? (i := 3) rfl))
        refine own_via (T' := T170) (g' := (mkF m 143 #[.val (.ref aA), .val (.ref aB), .val (.int (Int32.ofNat i))] [])) (fun _ kt => st170 _ kt) ?_
        have A190 : own_Ar Z h170 ba .boolean 3 (fun i => .int (own_nt (qa i))) := A170.congr (own_upid (q := fun i => own_nt (qa i)) (own_nt1 hc38_6))
        refine own_via (T' := T170) (g' := (mkF m 146 #[.val (.ref aA), .val (.ref aB), .val (.int ((Int32.ofNat i) + (1 : Int32)))] [])) (fun _ kt => XS.iinc X170.here hx rfl (hb hby d6_143) rfl (l' := #[.val (.ref aA), .val (.ref aB), .val (.int ((Int32.ofNat i) + (1 : Int32)))]) rfl kt) ?_
        rw [show ((Int32.ofNat i) + (1 : Int32)) = Int32.ofNat (i + 1) from (inc_ofNat i).symm]
        refine own_via (T' := T170) (g' := (mkF m 2 #[.val (.ref aA), .val (.ref aB), .val (.int (Int32.ofNat (i + 1)))] [])) (fun _ kt => XS.goto X170.here hx rfl (pc0 := 146) (pc' := 2) rfl (hb hby d6_146) (by decide) (by decide) kt) ?_
        exact ih (i + 1) (by omega) T170 h170 _ X170 e170 z170 N170 K170 ⟨f171, f172, f173, f174, f175, f176, f177, f178, f179, A190⟩ ⟨f180, f181, f182, f183, f184, f185, f186, f187, f188, f189⟩
  exact loop 3 0 rfl T0 h0 _ X0 e0 Z0 N0 (Keep.refl h0 _) CA CB
set_option maxRecDepth 65536 in
set_option maxHeartbeats 40000000 in
theorem rm6r (l : Launch) (Z : State) (a0 : Array Value) (hw : ∀ d ∈ tables_1, d.before a0 Z = true) (ws : List Jvm.Cond) (aA sa ia na ba aB sb ib nb bb : Addr) (wA : Value) (qa : Nat → Int32) (hqa : ∀ i, own_bit (qa i)) (wt : Addr) (b : Nat → Int32) (ow : @LT.lt Nat _ aB wt) (h0 : Heap) (n0 : Nat) (Z0 : n0 ≤ h0.size) (gsa : n0 ≤ sa) (gia : n0 ≤ ia) (gna : n0 ≤ na) (gba : n0 ≤ ba) (o1 : @LT.lt Nat _ aA sa) (o2 : @LT.lt Nat _ sa ia) (o3 : @LT.lt Nat _ ia na) (o4 : @LT.lt Nat _ na ba) (o5 : @LT.lt Nat _ ba aB) (o6 : @LT.lt Nat _ aB sb) (o7 : @LT.lt Nat _ sb ib) (o8 : @LT.lt Nat _ ib nb) (o9 : @LT.lt Nat _ nb bb) (CA : own_CT Z h0 aA sa ia na ba wA (fun i => .int (qa i)) (fun i => .int (own_nt (qa i)))) (CB : own_CT Z h0 aB sb ib nb bb (.ref wt) (fun i => .int ((own_nb b) i)) (fun i => .int (own_nt ((own_nb b) i)))) (At : own_Ar Z h0 wt .boolean 3 (fun i => .int (b i))) :
    own_Con l Z (⟨"com/example/querent/querent/engine/ColumnTypes", "addAll", "(Lcom/example/querent/querent/engine/ColumnTypes;)V"⟩ : MethodName) prog_20_method_5_code 3 none ws ({ frames := 0, cells := 0, slots := 0, locals := 0 } : Room) #[(.ref aA), (.ref aB)] h0 (fun v h L => v = none ∧ Fr n0 L ∧ Keep h0 h [sa, ia, na, ba] ∧ own_CT Z h aA sa ia na ba wA (fun i => .int (qa i)) (fun i => .int (own_nt (qa i)))) := by
  refine own_body (plainFor_of_name pn_6) ?_
  intro p e s m below meth c T0 hx hby hml hown hnm hret hlk hZ X0 e0
  replace hown : s.vm.findClass "com/example/querent/querent/engine/ColumnTypes" = some m.cls := hown
  replace hret : meth.sig.returnType = none := hret
  replace hnm : meth.name = "addAll" := hnm
  rw [ef_6 m aA aB]
  have N0 := Fr.nil n0
  refine own_via (T' := T0) (g' := (mkF m 1 #[.val (.ref aA), .val (.ref aB), .unset] [(.int (0 : Int32))])) (fun _ kt => XS.iconst X0.here hx rfl (hb hby d6_0) kt) ?_
  refine own_via (T' := T0) (g' := (mkF m 2 #[.val (.ref aA), .val (.ref aB), .val (.int (0 : Int32))] [])) (fun _ kt => XS.istoreN X0.here hx rfl (hb hby d6_1) rfl (l' := #[.val (.ref aA), .val (.ref aB), .val (.int (0 : Int32))]) rfl kt) ?_
  have loop : ∀ (k i : Nat), i + k = 3 → ∀ (T : State) (hh : Heap) (locs : List Loc), Stand p l e ({ frames := 0, cells := 0, slots := 0, locals := 0 } : Room) s m #[(.ref aA), (.ref aB)] below meth c T locs 0 0 → T.heap = hh → n0 ≤ hh.size → Fr n0 locs → Keep h0 hh [sa, ia, na, ba] → own_CT Z hh aA sa ia na ba wA (fun i => .int (qa i)) (fun i => .int (own_nt (qa i))) → own_CT Z hh aB sb ib nb bb (.ref wt) (fun i => .int ((own_nb b) i)) (fun i => .int (own_nt ((own_nb b) i))) → own_Ar Z hh wt .boolean 3 (fun i => .int (b i)) → own_Ends p e below (own_Fin below s 0 0 (fun v h L => v = none ∧ Fr n0 L ∧ Keep h0 h [sa, ia, na, ba] ∧ own_CT Z h aA sa ia na ba wA (fun i => .int (qa i)) (fun i => .int (own_nt (qa i))))) T (mkF m 2 #[.val (.ref aA), .val (.ref aB), .val (.int (Int32.ofNat i))] []) := by
    intro k; induction k with
    | zero =>
      intro i hi T hh locs XL eL zL NL KL CA CB At
      obtain ⟨c0, c1, c2, c3, c4, c5, c6, c7, c8, c9⟩ := CA
      obtain ⟨d0, d1, d2, d3, d4, d5, d6, d7, d8, d9⟩ := CB
      refine own_via (T' := T) (g' := (mkF m 3 #[.val (.ref aA), .val (.ref aB), .val (.int (Int32.ofNat i))] [(.int (Int32.ofNat i))])) (fun _ kt => XS.iloadN XL.here hx rfl (hb hby d6_2) rfl kt) ?_
      refine own_via (T' := T) (g' := (mkF m 4 #[.val (.ref aA), .val (.ref aB), .val (.int (Int32.ofNat i))] [(.ref aA), (.int (Int32.ofNat i))])) (fun _ kt => XS.aloadN XL.here hx rfl (hb hby d6_3) rfl rfl kt) ?_
      obtain ⟨T1, X1, e1, st1⟩ := getF XL hx hZ hown (host := "") (Or.inl (hw _ (List.mem_of_getElem? (i := 22) rfl))) Via.refl eL c1 (g := (mkF m 4 #[.val (.ref aA), .val (.ref aB), .val (.int (Int32.ofNat i))] [(.ref aA), (.int (Int32.ofNat i))])) rfl rfl (hb hby d6_4)
      refine own_via (T' := T1) (g' := (mkF m 7 #[.val (.ref aA), .val (.ref aB), .val (.int (Int32.ofNat i))] [(.ref sa), (.int (Int32.ofNat i))])) (fun _ kt => st1 _ kt) ?_
      refine own_via (T' := T1) (g' := (mkF m 8 #[.val (.ref aA), .val (.ref aB), .val (.int (Int32.ofNat i))] [(.int (3 : Int32)), (.int (Int32.ofNat i))])) (fun _ kt => own_alen X1 hx hZ e1 c6 (g := (mkF m 7 #[.val (.ref aA), .val (.ref aB), .val (.int (Int32.ofNat i))] [(.ref sa), (.int (Int32.ofNat i))])) rfl rfl (hb hby d6_7) _ kt) ?_
      refine own_via (T' := T1) (g' := (mkF m 149 #[.val (.ref aA), .val (.ref aB), .val (.int (Int32.ofNat i))] [])) (fun _ kt => XS.icmpYes X1.here hx rfl (pc0 := 8) (pc' := 149) rfl (hb hby d6_8) rfl (flt (fun q => absurd ((own_lt3 (by omega)).mp q) (by omega))).2.1 (by decide) (by decide) kt) ?_
      exact own_retV X1 hx hret hlk (hb hby d6_149) (by rw [e1]; exact ⟨rfl, NL, KL, ⟨c0, c1, c2, c3, c4, c5, c6, c7, c8, c9⟩⟩) (by decide) (by decide)
    | succ k ih =>
      intro i hi T hh locs XL eL zL NL KL CA CB At
      obtain ⟨c0, c1, c2, c3, c4, c5, c6, c7, c8, c9⟩ := CA
      obtain ⟨d0, d1, d2, d3, d4, d5, d6, d7, d8, d9⟩ := CB
      refine own_via (T' := T) (g' := (mkF m 3 #[.val (.ref aA), .val (.ref aB), .val (.int (Int32.ofNat i))] [(.int (Int32.ofNat i))])) (fun _ kt => XS.iloadN XL.here hx rfl (hb hby d6_2) rfl kt) ?_
      refine own_via (T' := T) (g' := (mkF m 4 #[.val (.ref aA), .val (.ref aB), .val (.int (Int32.ofNat i))] [(.ref aA), (.int (Int32.ofNat i))])) (fun _ kt => XS.aloadN XL.here hx rfl (hb hby d6_3) rfl rfl kt) ?_
      obtain ⟨T2, X2, e2, st2⟩ := getF XL hx hZ hown (host := "") (Or.inl (hw _ (List.mem_of_getElem? (i := 22) rfl))) Via.refl eL c1 (g := (mkF m 4 #[.val (.ref aA), .val (.ref aB), .val (.int (Int32.ofNat i))] [(.ref aA), (.int (Int32.ofNat i))])) rfl rfl (hb hby d6_4)
      refine own_via (T' := T2) (g' := (mkF m 7 #[.val (.ref aA), .val (.ref aB), .val (.int (Int32.ofNat i))] [(.ref sa), (.int (Int32.ofNat i))])) (fun _ kt => st2 _ kt) ?_
      refine own_via (T' := T2) (g' := (mkF m 8 #[.val (.ref aA), .val (.ref aB), .val (.int (Int32.ofNat i))] [(.int (3 : Int32)), (.int (Int32.ofNat i))])) (fun _ kt => own_alen X2 hx hZ e2 c6 (g := (mkF m 7 #[.val (.ref aA), .val (.ref aB), .val (.int (Int32.ofNat i))] [(.ref sa), (.int (Int32.ofNat i))])) rfl rfl (hb hby d6_7) _ kt) ?_
      refine own_via (T' := T2) (g' := (mkF m 11 #[.val (.ref aA), .val (.ref aB), .val (.int (Int32.ofNat i))] [])) (fun _ kt => XS.icmpNo X2.here hx rfl (hb hby d6_8) rfl (tlt ((own_lt3 (by omega)).mpr (by omega))).2.1 kt) ?_
      refine own_via (T' := T2) (g' := (mkF m 12 #[.val (.ref aA), .val (.ref aB), .val (.int (Int32.ofNat i))] [(.ref aB)])) (fun _ kt => XS.aloadN X2.here hx rfl (hb hby d6_11) rfl rfl kt) ?_
      obtain ⟨T3, X3, e3, st3⟩ := getF X2 hx hZ hown (host := "") (Or.inl (hw _ (List.mem_of_getElem? (i := 37) rfl))) Via.refl e2 d5 (g := (mkF m 12 #[.val (.ref aA), .val (.ref aB), .val (.int (Int32.ofNat i))] [(.ref aB)])) rfl rfl (hb hby d6_12)
      refine own_via (T' := T3) (g' := (mkF m 15 #[.val (.ref aA), .val (.ref aB), .val (.int (Int32.ofNat i))] [(.ref wt)])) (fun _ kt => st3 _ kt) ?_
      refine own_via (T' := T3) (g' := (mkF m 18 #[.val (.ref aA), .val (.ref aB), .val (.int (Int32.ofNat i))] [])) (fun _ kt => XS.ifnullNo X3.here hx rfl (hb hby d6_15) rfl kt) ?_
      refine own_via (T' := T3) (g' := (mkF m 19 #[.val (.ref aA), .val (.ref aB), .val (.int (Int32.ofNat i))] [(.ref aB)])) (fun _ kt => XS.aloadN X3.here hx rfl (hb hby d6_18) rfl rfl kt) ?_
      obtain ⟨T4, X4, e4, st4⟩ := getF X3 hx hZ hown (host := "") (Or.inl (hw _ (List.mem_of_getElem? (i := 37) rfl))) Via.refl e3 d5 (g := (mkF m 19 #[.val (.ref aA), .val (.ref aB), .val (.int (Int32.ofNat i))] [(.ref aB)])) rfl rfl (hb hby d6_19)
      refine own_via (T' := T4) (g' := (mkF m 22 #[.val (.ref aA), .val (.ref aB), .val (.int (Int32.ofNat i))] [(.ref wt)])) (fun _ kt => st4 _ kt) ?_
      refine own_via (T' := T4) (g' := (mkF m 23 #[.val (.ref aA), .val (.ref aB), .val (.int (Int32.ofNat i))] [(.int (Int32.ofNat i)), (.ref wt)])) (fun _ kt => XS.iloadN X4.here hx rfl (hb hby d6_22) rfl kt) ?_
      refine own_via (T' := T4) (g' := (mkF m 24 #[.val (.ref aA), .val (.ref aB), .val (.int (Int32.ofNat i))] [(.int (b i))])) (fun _ kt => own_baloadZ X4 hx hZ e4 At (j := (Int32.ofNat i)) (i := i) rfl (by omega) (g := (mkF m 23 #[.val (.ref aA), .val (.ref aB), .val (.int (Int32.ofNat i))] [(.int (Int32.ofNat i)), (.ref wt)])) rfl rfl (hb hby d6_23) _ kt) ?_
      by_cases hc24_5 : (b i) = (0 : Int32)
      · refine own_via (T' := T4) (g' := (mkF m 143 #[.val (.ref aA), .val (.ref aB), .val (.int (Int32.ofNat i))] [])) (fun _ kt => XS.ifYes X4.here hx rfl (pc0 := 24) (pc' := 143) rfl (hb hby d6_24) rfl ((if0 _ _).trans (teq hc24_5).1) (by decide) (by decide) kt) ?_
        refine own_via (T' := T4) (g' := (mkF m 146 #[.val (.ref aA), .val (.ref aB), .val (.int ((Int32.ofNat i) + (1 : Int32)))] [])) (fun _ kt => XS.iinc X4.here hx rfl (hb hby d6_143) rfl (l' := #[.val (.ref aA), .val (.ref aB), .val (.int ((Int32.ofNat i) + (1 : Int32)))]) rfl kt) ?_
        rw [show ((Int32.ofNat i) + (1 : Int32)) = Int32.ofNat (i + 1) from (inc_ofNat i).symm]
        refine own_via (T' := T4) (g' := (mkF m 2 #[.val (.ref aA), .val (.ref aB), .val (.int (Int32.ofNat (i + 1)))] [])) (fun _ kt => XS.goto X4.here hx rfl (pc0 := 146) (pc' := 2) rfl (hb hby d6_146) (by decide) (by decide) kt) ?_
        exact ih (i + 1) (by omega) T4 hh _ X4 e4 zL NL KL ⟨c0, c1, c2, c3, c4, c5, c6, c7, c8, c9⟩ ⟨d0, d1, d2, d3, d4, d5, d6, d7, d8, d9⟩ At
      · refine own_via (T' := T4) (g' := (mkF m 27 #[.val (.ref aA), .val (.ref aB), .val (.int (Int32.ofNat i))] [])) (fun _ kt => XS.ifNo X4.here hx rfl (hb hby d6_24) rfl ((if0 _ _).trans (feq hc24_5).1) kt) ?_
        refine own_via (T' := T4) (g' := (mkF m 28 #[.val (.ref aA), .val (.ref aB), .val (.int (Int32.ofNat i))] [(.ref aA)])) (fun _ kt => XS.aloadN X4.here hx rfl (hb hby d6_27) rfl rfl kt) ?_
        obtain ⟨T6, X6, e6, st6⟩ := getF X4 hx hZ hown (host := "") (Or.inl (hw _ (List.mem_of_getElem? (i := 22) rfl))) Via.refl e4 c1 (g := (mkF m 28 #[.val (.ref aA), .val (.ref aB), .val (.int (Int32.ofNat i))] [(.ref aA)])) rfl rfl (hb hby d6_28)
        refine own_via (T' := T6) (g' := (mkF m 31 #[.val (.ref aA), .val (.ref aB), .val (.int (Int32.ofNat i))] [(.ref sa)])) (fun _ kt => st6 _ kt) ?_
        refine own_via (T' := T6) (g' := (mkF m 32 #[.val (.ref aA), .val (.ref aB), .val (.int (Int32.ofNat i))] [(.int (Int32.ofNat i)), (.ref sa)])) (fun _ kt => XS.iloadN X6.here hx rfl (hb hby d6_31) rfl kt) ?_
        refine own_via (T' := T6) (g' := (mkF m 33 #[.val (.ref aA), .val (.ref aB), .val (.int (Int32.ofNat i))] [(.ref aA), (.int (Int32.ofNat i)), (.ref sa)])) (fun _ kt => XS.aloadN X6.here hx rfl (hb hby d6_32) rfl rfl kt) ?_
        obtain ⟨T7, X7, e7, st7⟩ := getF X6 hx hZ hown (host := "") (Or.inl (hw _ (List.mem_of_getElem? (i := 22) rfl))) Via.refl e6 c1 (g := (mkF m 33 #[.val (.ref aA), .val (.ref aB), .val (.int (Int32.ofNat i))] [(.ref aA), (.int (Int32.ofNat i)), (.ref sa)])) rfl rfl (hb hby d6_33)
        refine own_via (T' := T7) (g' := (mkF m 36 #[.val (.ref aA), .val (.ref aB), .val (.int (Int32.ofNat i))] [(.ref sa), (.int (Int32.ofNat i)), (.ref sa)])) (fun _ kt => st7 _ kt) ?_
        refine own_via (T' := T7) (g' := (mkF m 37 #[.val (.ref aA), .val (.ref aB), .val (.int (Int32.ofNat i))] [(.int (Int32.ofNat i)), (.ref sa), (.int (Int32.ofNat i)), (.ref sa)])) (fun _ kt => XS.iloadN X7.here hx rfl (hb hby d6_36) rfl kt) ?_
        refine own_via (T' := T7) (g' := (mkF m 38 #[.val (.ref aA), .val (.ref aB), .val (.int (Int32.ofNat i))] [(.int (qa i)), (.int (Int32.ofNat i)), (.ref sa)])) (fun _ kt => own_baloadZ X7 hx hZ e7 c6 (j := (Int32.ofNat i)) (i := i) rfl (by omega) (g := (mkF m 37 #[.val (.ref aA), .val (.ref aB), .val (.int (Int32.ofNat i))] [(.int (Int32.ofNat i)), (.ref sa), (.int (Int32.ofNat i)), (.ref sa)])) rfl rfl (hb hby d6_37) _ kt) ?_
        by_cases hc38_8 : (qa i) = (0 : Int32)
        · refine own_via (T' := T7) (g' := (mkF m 41 #[.val (.ref aA), .val (.ref aB), .val (.int (Int32.ofNat i))] [(.int (Int32.ofNat i)), (.ref sa)])) (fun _ kt => XS.ifNo X7.here hx rfl (hb hby d6_38) rfl ((if0 _ _).trans (teq hc38_8).2) kt) ?_
          refine own_via (T' := T7) (g' := (mkF m 42 #[.val (.ref aA), .val (.ref aB), .val (.int (Int32.ofNat i))] [(.ref aB), (.int (Int32.ofNat i)), (.ref sa)])) (fun _ kt => XS.aloadN X7.here hx rfl (hb hby d6_41) rfl rfl kt) ?_
          obtain ⟨T9, X9, e9, st9⟩ := getF X7 hx hZ hown (host := "") (Or.inl (hw _ (List.mem_of_getElem? (i := 22) rfl))) Via.refl e7 d1 (g := (mkF m 42 #[.val (.ref aA), .val (.ref aB), .val (.int (Int32.ofNat i))] [(.ref aB), (.int (Int32.ofNat i)), (.ref sa)])) rfl rfl (hb hby d6_42)
          refine own_via (T' := T9) (g' := (mkF m 45 #[.val (.ref aA), .val (.ref aB), .val (.int (Int32.ofNat i))] [(.ref sb), (.int (Int32.ofNat i)), (.ref sa)])) (fun _ kt => st9 _ kt) ?_
          refine own_via (T' := T9) (g' := (mkF m 46 #[.val (.ref aA), .val (.ref aB), .val (.int (Int32.ofNat i))] [(.int (Int32.ofNat i)), (.ref sb), (.int (Int32.ofNat i)), (.ref sa)])) (fun _ kt => XS.iloadN X9.here hx rfl (hb hby d6_45) rfl kt) ?_
          refine own_via (T' := T9) (g' := (mkF m 47 #[.val (.ref aA), .val (.ref aB), .val (.int (Int32.ofNat i))] [(.int ((own_nb b) i)), (.int (Int32.ofNat i)), (.ref sa)])) (fun _ kt => own_baloadZ X9 hx hZ e9 d6 (j := (Int32.ofNat i)) (i := i) rfl (by omega) (g := (mkF m 46 #[.val (.ref aA), .val (.ref aB), .val (.int (Int32.ofNat i))] [(.int (Int32.ofNat i)), (.ref sb), (.int (Int32.ofNat i)), (.ref sa)])) rfl rfl (hb hby d6_46) _ kt) ?_
          refine own_via (T' := T9) (g' := (mkF m 54 #[.val (.ref aA), .val (.ref aB), .val (.int (Int32.ofNat i))] [(.int (Int32.ofNat i)), (.ref sa)])) (fun _ kt => XS.ifYes X9.here hx rfl (pc0 := 47) (pc' := 54) rfl (hb hby d6_47) rfl ((if0 _ _).trans (teq (own_nt1 hc24_5)).1) (by decide) (by decide) kt) ?_
          refine own_via (T' := T9) (g' := (mkF m 55 #[.val (.ref aA), .val (.ref aB), .val (.int (Int32.ofNat i))] [(.int (0 : Int32)), (.int (Int32.ofNat i)), (.ref sa)])) (fun _ kt => XS.iconst X9.here hx rfl (hb hby d6_54) kt) ?_
          obtain ⟨T10, h10, X10, e10, W10, A10, st10⟩ := own_bastoreZ X9 hx hZ e9 c6 (j := (Int32.ofNat i)) (i := i) rfl (by omega) (r := 0) rfl (g := (mkF m 55 #[.val (.ref aA), .val (.ref aB), .val (.int (Int32.ofNat i))] [(.int (0 : Int32)), (.int (Int32.ofNat i)), (.ref sa)])) rfl rfl (hb hby d6_55)
          have f11 := c0.wr W10
          have f12 := c1.other W10 (Or.inl (own_ne (by omega)))
          have f13 := c2.other W10 (Or.inl (own_ne (by omega)))
          have f14 := c3.other W10 (Or.inl (own_ne (by omega)))
          have f15 := c4.other W10 (Or.inl (own_ne (by omega)))
          have f16 := c5.other W10 (Or.inl (own_ne (by omega)))
          have f17 := c7.other W10 (own_ne (by omega))
          have f18 := c8.other W10 (own_ne (by omega))
          have f19 := c9.other W10 (own_ne (by omega))
          have f20 := d0.wr W10
          have f21 := d1.other W10 (Or.inl (own_ne (by omega)))
          have f22 := d2.other W10 (Or.inl (own_ne (by omega)))
          have f23 := d3.other W10 (Or.inl (own_ne (by omega)))
          have f24 := d4.other W10 (Or.inl (own_ne (by omega)))
          have f25 := d5.other W10 (Or.inl (own_ne (by omega)))
          have f26 := d6.other W10 (own_ne (by omega))
          have f27 := d7.other W10 (own_ne (by omega))
          have f28 := d8.other W10 (own_ne (by omega))
          have f29 := d9.other W10 (own_ne (by omega))
          have f30 := At.other W10 (own_ne (by omega))
          have z10 : n0 ≤ h10.size := Nat.le_trans zL (Nat.le_of_eq W10.size.symm)
          have N10 := Fr.snoc X10 NL gsa
          have K10 := KL.wr W10 (Or.inl (List.mem_of_getElem? (i := 0) rfl))
          refine own_via (T' := T10) (g' := (mkF m 56 #[.val (.ref aA), .val (.ref aB), .val (.int (Int32.ofNat i))] [])) (fun _ kt => st10 _ kt) ?_
          have A31 : own_Ar Z h10 sa .boolean 3 (fun i => .int (qa i)) := A10.congr (own_upid hc38_8)
          refine own_via (T' := T10) (g' := (mkF m 57 #[.val (.ref aA), .val (.ref aB), .val (.int (Int32.ofNat i))] [(.ref aA)])) (fun _ kt => XS.aloadN X10.here hx rfl (hb hby d6_56) rfl rfl kt) ?_
          obtain ⟨T32, X32, e32, st32⟩ := getF X10 hx hZ hown (host := "") (Or.inl (hw _ (List.mem_of_getElem? (i := 31) rfl))) Via.refl e10 f13 (g := (mkF m 57 #[.val (.ref aA), .val (.ref aB), .val (.int (Int32.ofNat i))] [(.ref aA)])) rfl rfl (hb hby d6_57)
          refine own_via (T' := T32) (g' := (mkF m 60 #[.val (.ref aA), .val (.ref aB), .val (.int (Int32.ofNat i))] [(.ref ia)])) (fun _ kt => st32 _ kt) ?_
          refine own_via (T' := T32) (g' := (mkF m 61 #[.val (.ref aA), .val (.ref aB), .val (.int (Int32.ofNat i))] [(.int (Int32.ofNat i)), (.ref ia)])) (fun _ kt => XS.iloadN X32.here hx rfl (hb hby d6_60) rfl kt) ?_
          refine own_via (T' := T32) (g' := (mkF m 62 #[.val (.ref aA), .val (.ref aB), .val (.int (Int32.ofNat i))] [(.ref aA), (.int (Int32.ofNat i)), (.ref ia)])) (fun _ kt => XS.aloadN X32.here hx rfl (hb hby d6_61) rfl rfl kt) ?_
          obtain ⟨T33, X33, e33, st33⟩ := getF X32 hx hZ hown (host := "") (Or.inl (hw _ (List.mem_of_getElem? (i := 31) rfl))) Via.refl e32 f13 (g := (mkF m 62 #[.val (.ref aA), .val (.ref aB), .val (.int (Int32.ofNat i))] [(.ref aA), (.int (Int32.ofNat i)), (.ref ia)])) rfl rfl (hb hby d6_62)
          refine own_via (T' := T33) (g' := (mkF m 65 #[.val (.ref aA), .val (.ref aB), .val (.int (Int32.ofNat i))] [(.ref ia), (.int (Int32.ofNat i)), (.ref ia)])) (fun _ kt => st33 _ kt) ?_
          refine own_via (T' := T33) (g' := (mkF m 66 #[.val (.ref aA), .val (.ref aB), .val (.int (Int32.ofNat i))] [(.int (Int32.ofNat i)), (.ref ia), (.int (Int32.ofNat i)), (.ref ia)])) (fun _ kt => XS.iloadN X33.here hx rfl (hb hby d6_65) rfl kt) ?_
          refine own_via (T' := T33) (g' := (mkF m 67 #[.val (.ref aA), .val (.ref aB), .val (.int (Int32.ofNat i))] [(.int (own_nt (qa i))), (.int (Int32.ofNat i)), (.ref ia)])) (fun _ kt => own_baloadZ X33 hx hZ e33 f17 (j := (Int32.ofNat i)) (i := i) rfl (by omega) (g := (mkF m 66 #[.val (.ref aA), .val (.ref aB), .val (.int (Int32.ofNat i))] [(.int (Int32.ofNat i)), (.ref ia), (.int (Int32.ofNat i)), (.ref ia)])) rfl rfl (hb hby d6_66) _ kt) ?_
          refine own_via (T' := T33) (g' := (mkF m 70 #[.val (.ref aA), .val (.ref aB), .val (.int (Int32.ofNat i))] [(.int (Int32.ofNat i)), (.ref ia)])) (fun _ kt => XS.ifNo X33.here hx rfl (hb hby d6_67) rfl ((if0 _ _).trans (feq (by rw [own_nt0 hc38_8]; decide)).1) kt) ?_
          refine own_via (T' := T33) (g' := (mkF m 71 #[.val (.ref aA), .val (.ref aB), .val (.int (Int32.ofNat i))] [(.ref aB), (.int (Int32.ofNat i)), (.ref ia)])) (fun _ kt => XS.aloadN X33.here hx rfl (hb hby d6_70) rfl rfl kt) ?_
          obtain ⟨T34, X34, e34, st34⟩ := getF X33 hx hZ hown (host := "") (Or.inl (hw _ (List.mem_of_getElem? (i := 31) rfl))) Via.refl e33 f22 (g := (mkF m 71 #[.val (.ref aA), .val (.ref aB), .val (.int (Int32.ofNat i))] [(.ref aB), (.int (Int32.ofNat i)), (.ref ia)])) rfl rfl (hb hby d6_71)
          refine own_via (T' := T34) (g' := (mkF m 74 #[.val (.ref aA), .val (.ref aB), .val (.int (Int32.ofNat i))] [(.ref ib), (.int (Int32.ofNat i)), (.ref ia)])) (fun _ kt => st34 _ kt) ?_
          refine own_via (T' := T34) (g' := (mkF m 75 #[.val (.ref aA), .val (.ref aB), .val (.int (Int32.ofNat i))] [(.int (Int32.ofNat i)), (.ref ib), (.int (Int32.ofNat i)), (.ref ia)])) (fun _ kt => XS.iloadN X34.here hx rfl (hb hby d6_74) rfl kt) ?_
          refine own_via (T' := T34) (g' := (mkF m 76 #[.val (.ref aA), .val (.ref aB), .val (.int (Int32.ofNat i))] [(.int (own_nt ((own_nb b) i))), (.int (Int32.ofNat i)), (.ref ia)])) (fun _ kt => own_baloadZ X34 hx hZ e34 f27 (j := (Int32.ofNat i)) (i := i) rfl (by omega) (g := (mkF m 75 #[.val (.ref aA), .val (.ref aB), .val (.int (Int32.ofNat i))] [(.int (Int32.ofNat i)), (.ref ib), (.int (Int32.ofNat i)), (.ref ia)])) rfl rfl (hb hby d6_75) _ kt) ?_
          refine own_via (T' := T34) (g' := (mkF m 79 #[.val (.ref aA), .val (.ref aB), .val (.int (Int32.ofNat i))] [(.int (Int32.ofNat i)), (.ref ia)])) (fun _ kt => XS.ifNo X34.here hx rfl (hb hby d6_76) rfl ((if0 _ _).trans (feq (by rw [own_nt0 (show own_nb b i = 0 from own_nt1 hc24_5)]; decide)).1) kt) ?_
          refine own_via (T' := T34) (g' := (mkF m 80 #[.val (.ref aA), .val (.ref aB), .val (.int (Int32.ofNat i))] [(.int (1 : Int32)), (.int (Int32.ofNat i)), (.ref ia)])) (fun _ kt => XS.iconst X34.here hx rfl (hb hby d6_79) kt) ?_
          refine own_via (T' := T34) (g' := (mkF m 84 #[.val (.ref aA), .val (.ref aB), .val (.int (Int32.ofNat i))] [(.int (1 : Int32)), (.int (Int32.ofNat i)), (.ref ia)])) (fun _ kt => XS.goto X34.here hx rfl (pc0 := 80) (pc' := 84) rfl (hb hby d6_80) (by decide) (by decide) kt) ?_
          obtain ⟨T35, h35, X35, e35, W35, A35, st35⟩ := own_bastoreZ X34 hx hZ e34 f17 (j := (Int32.ofNat i)) (i := i) rfl (by omega) (r := 1) rfl (g := (mkF m 84 #[.val (.ref aA), .val (.ref aB), .val (.int (Int32.ofNat i))] [(.int (1 : Int32)), (.int (Int32.ofNat i)), (.ref ia)])) rfl rfl (hb hby d6_84)
          have f36 := f11.wr W35
          have f37 := f12.other W35 (Or.inl (own_ne (by omega)))
          have f38 := f13.other W35 (Or.inl (own_ne (by omega)))
          have f39 := f14.other W35 (Or.inl (own_ne (by omega)))
          have f40 := f15.other W35 (Or.inl (own_ne (by omega)))
          have f41 := f16.other W35 (Or.inl (own_ne (by omega)))
          have f42 := A31.other W35 (own_ne (by omega))
          have f43 := f18.other W35 (own_ne (by omega))
          have f44 := f19.other W35 (own_ne (by omega))
          have f45 := f20.wr W35
          have f46 := f21.other W35 (Or.inl (own_ne (by omega)))
          have f47 := f22.other W35 (Or.inl (own_ne (by omega)))
          have f48 := f23.other W35 (Or.inl (own_ne (by omega)))
          have f49 := f24.other W35 (Or.inl (own_ne (by omega)))
          have f50 := f25.other W35 (Or.inl (own_ne (by omega)))
          have f51 := f26.other W35 (own_ne (by omega))
          have f52 := f27.other W35 (own_ne (by omega))
          have f53 := f28.other W35 (own_ne (by omega))
          have f54 := f29.other W35 (own_ne (by omega))
          have f55 := f30.other W35 (own_ne (by omega))
          have z35 : n0 ≤ h35.size := Nat.le_trans z10 (Nat.le_of_eq W35.size.symm)
          have N35 := Fr.snoc X35 N10 gia
          have K35 := K10.wr W35 (Or.inl (List.mem_of_getElem? (i := 1) rfl))
          refine own_via (T' := T35) (g' := (mkF m 85 #[.val (.ref aA), .val (.ref aB), .val (.int (Int32.ofNat i))] [])) (fun _ kt => st35 _ kt) ?_
          have A56 : own_Ar Z h35 ia .boolean 3 (fun i => .int (own_nt (qa i))) := A35.congr (own_upid (q := fun i => own_nt (qa i)) (own_nt0 hc38_8))
          refine own_via (T' := T35) (g' := (mkF m 86 #[.val (.ref aA), .val (.ref aB), .val (.int (Int32.ofNat i))] [(.ref aA)])) (fun _ kt => XS.aloadN X35.here hx rfl (hb hby d6_85) rfl rfl kt) ?_
          obtain ⟨T57, X57, e57, st57⟩ := getF X35 hx hZ hown (host := "") (Or.inl (hw _ (List.mem_of_getElem? (i := 33) rfl))) Via.refl e35 f39 (g := (mkF m 86 #[.val (.ref aA), .val (.ref aB), .val (.int (Int32.ofNat i))] [(.ref aA)])) rfl rfl (hb hby d6_86)
          refine own_via (T' := T57) (g' := (mkF m 89 #[.val (.ref aA), .val (.ref aB), .val (.int (Int32.ofNat i))] [(.ref na)])) (fun _ kt => st57 _ kt) ?_
          refine own_via (T' := T57) (g' := (mkF m 90 #[.val (.ref aA), .val (.ref aB), .val (.int (Int32.ofNat i))] [(.int (Int32.ofNat i)), (.ref na)])) (fun _ kt => XS.iloadN X57.here hx rfl (hb hby d6_89) rfl kt) ?_
          refine own_via (T' := T57) (g' := (mkF m 91 #[.val (.ref aA), .val (.ref aB), .val (.int (Int32.ofNat i))] [(.ref aA), (.int (Int32.ofNat i)), (.ref na)])) (fun _ kt => XS.aloadN X57.here hx rfl (hb hby d6_90) rfl rfl kt) ?_
          obtain ⟨T58, X58, e58, st58⟩ := getF X57 hx hZ hown (host := "") (Or.inl (hw _ (List.mem_of_getElem? (i := 33) rfl))) Via.refl e57 f39 (g := (mkF m 91 #[.val (.ref aA), .val (.ref aB), .val (.int (Int32.ofNat i))] [(.ref aA), (.int (Int32.ofNat i)), (.ref na)])) rfl rfl (hb hby d6_91)
          refine own_via (T' := T58) (g' := (mkF m 94 #[.val (.ref aA), .val (.ref aB), .val (.int (Int32.ofNat i))] [(.ref na), (.int (Int32.ofNat i)), (.ref na)])) (fun _ kt => st58 _ kt) ?_
          refine own_via (T' := T58) (g' := (mkF m 95 #[.val (.ref aA), .val (.ref aB), .val (.int (Int32.ofNat i))] [(.int (Int32.ofNat i)), (.ref na), (.int (Int32.ofNat i)), (.ref na)])) (fun _ kt => XS.iloadN X58.here hx rfl (hb hby d6_94) rfl kt) ?_
          refine own_via (T' := T58) (g' := (mkF m 96 #[.val (.ref aA), .val (.ref aB), .val (.int (Int32.ofNat i))] [(.int (own_nt (qa i))), (.int (Int32.ofNat i)), (.ref na)])) (fun _ kt => own_baloadZ X58 hx hZ e58 f43 (j := (Int32.ofNat i)) (i := i) rfl (by omega) (g := (mkF m 95 #[.val (.ref aA), .val (.ref aB), .val (.int (Int32.ofNat i))] [(.int (Int32.ofNat i)), (.ref na), (.int (Int32.ofNat i)), (.ref na)])) rfl rfl (hb hby d6_95) _ kt) ?_
          refine own_via (T' := T58) (g' := (mkF m 99 #[.val (.ref aA), .val (.ref aB), .val (.int (Int32.ofNat i))] [(.int (Int32.ofNat i)), (.ref na)])) (fun _ kt => XS.ifNo X58.here hx rfl (hb hby d6_96) rfl ((if0 _ _).trans (feq (by rw [own_nt0 hc38_8]; decide)).1) kt) ?_
          refine own_via (T' := T58) (g' := (mkF m 100 #[.val (.ref aA), .val (.ref aB), .val (.int (Int32.ofNat i))] [(.ref aB), (.int (Int32.ofNat i)), (.ref na)])) (fun _ kt => XS.aloadN X58.here hx rfl (hb hby d6_99) rfl rfl kt) ?_
          obtain ⟨T59, X59, e59, st59⟩ := getF X58 hx hZ hown (host := "") (Or.inl (hw _ (List.mem_of_getElem? (i := 33) rfl))) Via.refl e58 f48 (g := (mkF m 100 #[.val (.ref aA), .val (.ref aB), .val (.int (Int32.ofNat i))] [(.ref aB), (.int (Int32.ofNat i)), (.ref na)])) rfl rfl (hb hby d6_100)
          refine own_via (T' := T59) (g' := (mkF m 103 #[.val (.ref aA), .val (.ref aB), .val (.int (Int32.ofNat i))] [(.ref nb), (.int (Int32.ofNat i)), (.ref na)])) (fun _ kt => st59 _ kt) ?_
          refine own_via (T' := T59) (g' := (mkF m 104 #[.val (.ref aA), .val (.ref aB), .val (.int (Int32.ofNat i))] [(.int (Int32.ofNat i)), (.ref nb), (.int (Int32.ofNat i)), (.ref na)])) (fun _ kt => XS.iloadN X59.here hx rfl (hb hby d6_103) rfl kt) ?_
          refine own_via (T' := T59) (g' := (mkF m 105 #[.val (.ref aA), .val (.ref aB), .val (.int (Int32.ofNat i))] [(.int (own_nt ((own_nb b) i))), (.int (Int32.ofNat i)), (.ref na)])) (fun _ kt => own_baloadZ X59 hx hZ e59 f53 (j := (Int32.ofNat i)) (i := i) rfl (by omega) (g := (mkF m 104 #[.val (.ref aA), .val (.ref aB), .val (.int (Int32.ofNat i))] [(.int (Int32.ofNat i)), (.ref nb), (.int (Int32.ofNat i)), (.ref na)])) rfl rfl (hb hby d6_104) _ kt) ?_
          refine own_via (T' := T59) (g' := (mkF m 108 #[.val (.ref aA), .val (.ref aB), .val (.int (Int32.ofNat i))] [(.int (Int32.ofNat i)), (.ref na)])) (fun _ kt => XS.ifNo X59.here hx rfl (hb hby d6_105) rfl ((if0 _ _).trans (feq (by rw [own_nt0 (show own_nb b i = 0 from own_nt1 hc24_5)]; decide)).1) kt) ?_
          refine own_via (T' := T59) (g' := (mkF m 109 #[.val (.ref aA), .val (.ref aB), .val (.int (Int32.ofNat i))] [(.int (1 : Int32)), (.int (Int32.ofNat i)), (.ref na)])) (fun _ kt => XS.iconst X59.here hx rfl (hb hby d6_108) kt) ?_
          refine own_via (T' := T59) (g' := (mkF m 113 #[.val (.ref aA), .val (.ref aB), .val (.int (Int32.ofNat i))] [(.int (1 : Int32)), (.int (Int32.ofNat i)), (.ref na)])) (fun _ kt => XS.goto X59.here hx rfl (pc0 := 109) (pc' := 113) rfl (hb hby d6_109) (by decide) (by decide) kt) ?_
          obtain ⟨T60, h60, X60, e60, W60, A60, st60⟩ := own_bastoreZ X59 hx hZ e59 f43 (j := (Int32.ofNat i)) (i := i) rfl (by omega) (r := 1) rfl (g := (mkF m 113 #[.val (.ref aA), .val (.ref aB), .val (.int (Int32.ofNat i))] [(.int (1 : Int32)), (.int (Int32.ofNat i)), (.ref na)])) rfl rfl (hb hby d6_113)
          have f61 := f36.wr W60
          have f62 := f37.other W60 (Or.inl (own_ne (by omega)))
          have f63 := f38.other W60 (Or.inl (own_ne (by omega)))
          have f64 := f39.other W60 (Or.inl (own_ne (by omega)))
          have f65 := f40.other W60 (Or.inl (own_ne (by omega)))
          have f66 := f41.other W60 (Or.inl (own_ne (by omega)))
          have f67 := f42.other W60 (own_ne (by omega))
          have f68 := A56.other W60 (own_ne (by omega))
          have f69 := f44.other W60 (own_ne (by omega))
          have f70 := f45.wr W60
          have f71 := f46.other W60 (Or.inl (own_ne (by omega)))
          have f72 := f47.other W60 (Or.inl (own_ne (by omega)))
          have f73 := f48.other W60 (Or.inl (own_ne (by omega)))
          have f74 := f49.other W60 (Or.inl (own_ne (by omega)))
          have f75 := f50.other W60 (Or.inl (own_ne (by omega)))
          have f76 := f51.other W60 (own_ne (by omega))
          have f77 := f52.other W60 (own_ne (by omega))
          have f78 := f53.other W60 (own_ne (by omega))
          have f79 := f54.other W60 (own_ne (by omega))
          have f80 := f55.other W60 (own_ne (by omega))
          have z60 : n0 ≤ h60.size := Nat.le_trans z35 (Nat.le_of_eq W60.size.symm)
          have N60 := Fr.snoc X60 N35 gna
          have K60 := K35.wr W60 (Or.inl (List.mem_of_getElem? (i := 2) rfl))
          refine own_via (T' := T60) (g' := (mkF m 114 #[.val (.ref aA), .val (.ref aB), .val (.int (Int32.ofNat i))] [])) (fun _ kt => st60 _ kt) ?_
          have A81 : own_Ar Z h60 na .boolean 3 (fun i => .int (own_nt (qa i))) := A60.congr (own_upid (q := fun i => own_nt (qa i)) (own_nt0 hc38_8))
          refine own_via (T' := T60) (g' := (mkF m 115 #[.val (.ref aA), .val (.ref aB), .val (.int (Int32.ofNat i))] [(.ref aA)])) (fun _ kt => XS.aloadN X60.here hx rfl (hb hby d6_114) rfl rfl kt) ?_
          obtain ⟨T82, X82, e82, st82⟩ := getF X60 hx hZ hown (host := "") (Or.inl (hw _ (List.mem_of_getElem? (i := 35) rfl))) Via.refl e60 f65 (g := (mkF m 115 #[.val (.ref aA), .val (.ref aB), .val (.int (Int32.ofNat i))] [(.ref aA)])) rfl rfl (hb hby d6_115)
          refine own_via (T' := T82) (g' := (mkF m 118 #[.val (.ref aA), .val (.ref aB), .val (.int (Int32.ofNat i))] [(.ref ba)])) (fun _ kt => st82 _ kt) ?_
          refine own_via (T' := T82) (g' := (mkF m 119 #[.val (.ref aA), .val (.ref aB), .val (.int (Int32.ofNat i))] [(.int (Int32.ofNat i)), (.ref ba)])) (fun _ kt => XS.iloadN X82.here hx rfl (hb hby d6_118) rfl kt) ?_
          refine own_via (T' := T82) (g' := (mkF m 120 #[.val (.ref aA), .val (.ref aB), .val (.int (Int32.ofNat i))] [(.ref aA), (.int (Int32.ofNat i)), (.ref ba)])) (fun _ kt => XS.aloadN X82.here hx rfl (hb hby d6_119) rfl rfl kt) ?_
          obtain ⟨T83, X83, e83, st83⟩ := getF X82 hx hZ hown (host := "") (Or.inl (hw _ (List.mem_of_getElem? (i := 35) rfl))) Via.refl e82 f65 (g := (mkF m 120 #[.val (.ref aA), .val (.ref aB), .val (.int (Int32.ofNat i))] [(.ref aA), (.int (Int32.ofNat i)), (.ref ba)])) rfl rfl (hb hby d6_120)
          refine own_via (T' := T83) (g' := (mkF m 123 #[.val (.ref aA), .val (.ref aB), .val (.int (Int32.ofNat i))] [(.ref ba), (.int (Int32.ofNat i)), (.ref ba)])) (fun _ kt => st83 _ kt) ?_
          refine own_via (T' := T83) (g' := (mkF m 124 #[.val (.ref aA), .val (.ref aB), .val (.int (Int32.ofNat i))] [(.int (Int32.ofNat i)), (.ref ba), (.int (Int32.ofNat i)), (.ref ba)])) (fun _ kt => XS.iloadN X83.here hx rfl (hb hby d6_123) rfl kt) ?_
          refine own_via (T' := T83) (g' := (mkF m 125 #[.val (.ref aA), .val (.ref aB), .val (.int (Int32.ofNat i))] [(.int (own_nt (qa i))), (.int (Int32.ofNat i)), (.ref ba)])) (fun _ kt => own_baloadZ X83 hx hZ e83 f69 (j := (Int32.ofNat i)) (i := i) rfl (by omega) (g := (mkF m 124 #[.val (.ref aA), .val (.ref aB), .val (.int (Int32.ofNat i))] [(.int (Int32.ofNat i)), (.ref ba), (.int (Int32.ofNat i)), (.ref ba)])) rfl rfl (hb hby d6_124) _ kt) ?_
          refine own_via (T' := T83) (g' := (mkF m 128 #[.val (.ref aA), .val (.ref aB), .val (.int (Int32.ofNat i))] [(.int (Int32.ofNat i)), (.ref ba)])) (fun _ kt => XS.ifNo X83.here hx rfl (hb hby d6_125) rfl ((if0 _ _).trans (feq (by rw [own_nt0 hc38_8]; decide)).1) kt) ?_
          refine own_via (T' := T83) (g' := (mkF m 129 #[.val (.ref aA), .val (.ref aB), .val (.int (Int32.ofNat i))] [(.ref aB), (.int (Int32.ofNat i)), (.ref ba)])) (fun _ kt => XS.aloadN X83.here hx rfl (hb hby d6_128) rfl rfl kt) ?_
          obtain ⟨T84, X84, e84, st84⟩ := getF X83 hx hZ hown (host := "") (Or.inl (hw _ (List.mem_of_getElem? (i := 35) rfl))) Via.refl e83 f74 (g := (mkF m 129 #[.val (.ref aA), .val (.ref aB), .val (.int (Int32.ofNat i))] [(.ref aB), (.int (Int32.ofNat i)), (.ref ba)])) rfl rfl (hb hby d6_129)
          refine own_via (T' := T84) (g' := (mkF m 132 #[.val (.ref aA), .val (.ref aB), .val (.int (Int32.ofNat i))] [(.ref bb), (.int (Int32.ofNat i)), (.ref ba)])) (fun _ kt => st84 _ kt) ?_
          refine own_via (T' := T84) (g' := (mkF m 133 #[.val (.ref aA), .val (.ref aB), .val (.int (Int32.ofNat i))] [(.int (Int32.ofNat i)), (.ref bb), (.int (Int32.ofNat i)), (.ref ba)])) (fun _ kt => XS.iloadN X84.here hx rfl (hb hby d6_132) rfl kt) ?_
          refine own_via (T' := T84) (g' := (mkF m 134 #[.val (.ref aA), .val (.ref aB), .val (.int (Int32.ofNat i))] [(.int (own_nt ((own_nb b) i))), (.int (Int32.ofNat i)), (.ref ba)])) (fun _ kt => own_baloadZ X84 hx hZ e84 f79 (j := (Int32.ofNat i)) (i := i) rfl (by omega) (g := (mkF m 133 #[.val (.ref aA), .val (.ref aB), .val (.int (Int32.ofNat i))] [(.int (Int32.ofNat i)), (.ref bb), (.int (Int32.ofNat i)), (.ref ba)])) rfl rfl (hb hby d6_133) _ kt) ?_
          refine own_via (T' := T84) (g' := (mkF m 137 #[.val (.ref aA), .val (.ref aB), .val (.int (Int32.ofNat i))] [(.int (Int32.ofNat i)), (.ref ba)])) (fun _ kt => XS.ifNo X84.here hx rfl (hb hby d6_134) rfl ((if0 _ _).trans (feq (by rw [own_nt0 (show own_nb b i = 0 from own_nt1 hc24_5)]; decide)).1) kt) ?_
          refine own_via (T' := T84) (g' := (mkF m 138 #[.val (.ref aA), .val (.ref aB), .val (.int (Int32.ofNat i))] [(.int (1 : Int32)), (.int (Int32.ofNat i)), (.ref ba)])) (fun _ kt => XS.iconst X84.here hx rfl (hb hby d6_137) kt) ?_
          refine own_via (T' := T84) (g' := (mkF m 142 #[.val (.ref aA), .val (.ref aB), .val (.int (Int32.ofNat i))] [(.int (1 : Int32)), (.int (Int32.ofNat i)), (.ref ba)])) (fun _ kt => XS.goto X84.here hx rfl (pc0 := 138) (pc' := 142) rfl (hb hby d6_138) (by decide) (by decide) kt) ?_
          obtain ⟨T85, h85, X85, e85, W85, A85, st85⟩ := own_bastoreZ X84 hx hZ e84 f69 (j := (Int32.ofNat i)) (i := i) rfl (by omega) (r := 1) rfl (g := (mkF m 142 #[.val (.ref aA), .val (.ref aB), .val (.int (Int32.ofNat i))] [(.int (1 : Int32)), (.int (Int32.ofNat i)), (.ref ba)])) rfl rfl (hb hby d6_142)
          have f86 := f61.wr W85
          have f87 := f62.other W85 (Or.inl (own_ne (by omega)))
          have f88 := f63.other W85 (Or.inl (own_ne (by omega)))
          have f89 := f64.other W85 (Or.inl (own_ne (by omega)))
          have f90 := f65.other W85 (Or.inl (own_ne (by omega)))
          have f91 := f66.other W85 (Or.inl (own_ne (by omega)))
          have f92 := f67.other W85 (own_ne (by omega))
          have f93 := f68.other W85 (own_ne (by omega))
          have f94 := A81.other W85 (own_ne (by omega))
          have f95 := f70.wr W85
          have f96 := f71.other W85 (Or.inl (own_ne (by omega)))
          have f97 := f72.other W85 (Or.inl (own_ne (by omega)))
          have f98 := f73.other W85 (Or.inl (own_ne (by omega)))
          have f99 := f74.other W85 (Or.inl (own_ne (by omega)))
          have f100 := f75.other W85 (Or.inl (own_ne (by omega)))
          have f101 := f76.other W85 (own_ne (by omega))
          have f102 := f77.other W85 (own_ne (by omega))
          have f103 := f78.other W85 (own_ne (by omega))
          have f104 := f79.other W85 (own_ne (by omega))
          have f105 := f80.other W85 (own_ne (by omega))
          have z85 : n0 ≤ h85.size := Nat.le_trans z60 (Nat.le_of_eq W85.size.symm)
          have N85 := Fr.snoc X85 N60 gba
          have K85 := K60.wr W85 (Or.inl (List.mem_of_getElem? (i := 3) rfl))
          refine own_via (T' := T85) (g' := (mkF m 143 #[.val (.ref aA), .val (.ref aB), .val (.int (Int32.ofNat i))] [])) (fun _ kt => st85 _ kt) ?_
          have A106 : own_Ar Z h85 ba .boolean 3 (fun i => .int (own_nt (qa i))) := A85.congr (own_upid (q := fun i => own_nt (qa i)) (own_nt0 hc38_8))
          refine own_via (T' := T85) (g' := (mkF m 146 #[.val (.ref aA), .val (.ref aB), .val (.int ((Int32.ofNat i) + (1 : Int32)))] [])) (fun _ kt => XS.iinc X85.here hx rfl (hb hby d6_143) rfl (l' := #[.val (.ref aA), .val (.ref aB), .val (.int ((Int32.ofNat i) + (1 : Int32)))]) rfl kt) ?_
          rw [show ((Int32.ofNat i) + (1 : Int32)) = Int32.ofNat (i + 1) from (inc_ofNat i).symm]
          refine own_via (T' := T85) (g' := (mkF m 2 #[.val (.ref aA), .val (.ref aB), .val (.int (Int32.ofNat (i + 1)))] [])) (fun _ kt => XS.goto X85.here hx rfl (pc0 := 146) (pc' := 2) rfl (hb hby d6_146) (by decide) (by decide) kt) ?_
          exact ih (i + 1) (by omega) T85 h85 _ X85 e85 z85 N85 K85 ⟨f86, f87, f88, f89, f90, f91, f92, f93, f94, A106⟩ ⟨f95, f96, f97, f98, f99, f100, f101, f102, f103, f104⟩ f105
        · refine own_via (T' := T7) (g' := (mkF m 50 #[.val (.ref aA), .val (.ref aB), .val (.int (Int32.ofNat i))] [(.int (Int32.ofNat i)), (.ref sa)])) (fun _ kt => XS.ifYes X7.here hx rfl (pc0 := 38) (pc' := 50) rfl (hb hby d6_38) rfl ((if0 _ _).trans (feq hc38_8).2) (by decide) (by decide) kt) ?_
          refine own_via (T' := T7) (g' := (mkF m 51 #[.val (.ref aA), .val (.ref aB), .val (.int (Int32.ofNat i))] [(.int (1 : Int32)), (.int (Int32.ofNat i)), (.ref sa)])) (fun _ kt => XS.iconst X7.here hx rfl (hb hby d6_50) kt) ?_
          refine own_via (T' := T7) (g' := (mkF m 55 #[.val (.ref aA), .val (.ref aB), .val (.int (Int32.ofNat i))] [(.int (1 : Int32)), (.int (Int32.ofNat i)), (.ref sa)])) (fun _ kt => XS.goto X7.here hx rfl (pc0 := 51) (pc' := 55) rfl (hb hby d6_51) (by decide) (by decide) kt) ?_
          obtain ⟨T107, h107, X107, e107, W107, A107, st107⟩ := own_bastoreZ X7 hx hZ e7 c6 (j := (Int32.ofNat i)) (i := i) rfl (by omega) (r := 1) rfl (g := (mkF m 55 #[.val (.ref aA), .val (.ref aB), .val (.int (Int32.ofNat i))] [(.int (1 : Int32)), (.int (Int32.ofNat i)), (.ref sa)])) rfl rfl (hb hby d6_55)
          have f108 := c0.wr W107
          have f109 := c1.other W107 (Or.inl (own_ne (by omega)))
          have f110 := c2.other W107 (Or.inl (own_ne (by omega)))
          have f111 := c3.other W107 (Or.inl (own_ne (by omega)))
          have f112 := c4.other W107 (Or.inl (own_ne (by omega)))
          have f113 := c5.other W107 (Or.inl (own_ne (by omega)))
          have f114 := c7.other W107 (own_ne (by omega))
          have f115 := c8.other W107 (own_ne (by omega))
          have f116 := c9.other W107 (own_ne (by omega))
          have f117 := d0.wr W107
          have f118 := d1.other W107 (Or.inl (own_ne (by omega)))
          have f119 := d2.other W107 (Or.inl (own_ne (by omega)))
          have f120 := d3.other W107 (Or.inl (own_ne (by omega)))
          have f121 := d4.other W107 (Or.inl (own_ne (by omega)))
          have f122 := d5.other W107 (Or.inl (own_ne (by omega)))
          have f123 := d6.other W107 (own_ne (by omega))
          have f124 := d7.other W107 (own_ne (by omega))
          have f125 := d8.other W107 (own_ne (by omega))
          have f126 := d9.other W107 (own_ne (by omega))
          have f127 := At.other W107 (own_ne (by omega))
          have z107 : n0 ≤ h107.size := Nat.le_trans zL (Nat.le_of_eq W107.size.symm)
          have N107 := Fr.snoc X107 NL gsa
          have K107 := KL.wr W107 (Or.inl (List.mem_of_getElem? (i := 0) rfl))
          refine own_via (T' := T107) (g' := (mkF m 56 #[.val (.ref aA), .val (.ref aB), .val (.int (Int32.ofNat i))] [])) (fun _ kt => st107 _ kt) ?_
          have A128 : own_Ar Z h107 sa .boolean 3 (fun i => .int (qa i)) := A107.congr (own_upid ((hqa i).resolve_left hc38_8))
          refine own_via (T' := T107) (g' := (mkF m 57 #[.val (.ref aA), .val (.ref aB), .val (.int (Int32.ofNat i))] [(.ref aA)])) (fun _ kt => XS.aloadN X107.here hx rfl (hb hby d6_56) rfl rfl kt) ?_
          obtain ⟨T129, X129, e129, st129⟩ := getF X107 hx hZ hown (host := "") (Or.inl (hw _ (List.mem_of_getElem? (i := 31) rfl))) Via.refl e107 f110 (g := (mkF m 57 #[.val (.ref aA), .val (.ref aB), .val (.int (Int32.ofNat i))] [(.ref aA)])) rfl rfl (hb hby d6_57)
          refine own_via (T' := T129) (g' := (mkF m 60 #[.val (.ref aA), .val (.ref aB), .val (.int (Int32.ofNat i))] [(.ref ia)])) (fun _ kt => st129 _ kt) ?_
          refine own_via (T' := T129) (g' := (mkF m 61 #[.val (.ref aA), .val (.ref aB), .val (.int (Int32.ofNat i))] [(.int (Int32.ofNat i)), (.ref ia)])) (fun _ kt => XS.iloadN X129.here hx rfl (hb hby d6_60) rfl kt) ?_
          refine own_via (T' := T129) (g' := (mkF m 62 #[.val (.ref aA), .val (.ref aB), .val (.int (Int32.ofNat i))] [(.ref aA), (.int (Int32.ofNat i)), (.ref ia)])) (fun _ kt => XS.aloadN X129.here hx rfl (hb hby d6_61) rfl rfl kt) ?_
          obtain ⟨T130, X130, e130, st130⟩ := getF X129 hx hZ hown (host := "") (Or.inl (hw _ (List.mem_of_getElem? (i := 31) rfl))) Via.refl e129 f110 (g := (mkF m 62 #[.val (.ref aA), .val (.ref aB), .val (.int (Int32.ofNat i))] [(.ref aA), (.int (Int32.ofNat i)), (.ref ia)])) rfl rfl (hb hby d6_62)
          refine own_via (T' := T130) (g' := (mkF m 65 #[.val (.ref aA), .val (.ref aB), .val (.int (Int32.ofNat i))] [(.ref ia), (.int (Int32.ofNat i)), (.ref ia)])) (fun _ kt => st130 _ kt) ?_
          refine own_via (T' := T130) (g' := (mkF m 66 #[.val (.ref aA), .val (.ref aB), .val (.int (Int32.ofNat i))] [(.int (Int32.ofNat i)), (.ref ia), (.int (Int32.ofNat i)), (.ref ia)])) (fun _ kt => XS.iloadN X130.here hx rfl (hb hby d6_65) rfl kt) ?_
          refine own_via (T' := T130) (g' := (mkF m 67 #[.val (.ref aA), .val (.ref aB), .val (.int (Int32.ofNat i))] [(.int (own_nt (qa i))), (.int (Int32.ofNat i)), (.ref ia)])) (fun _ kt => own_baloadZ X130 hx hZ e130 f114 (j := (Int32.ofNat i)) (i := i) rfl (by omega) (g := (mkF m 66 #[.val (.ref aA), .val (.ref aB), .val (.int (Int32.ofNat i))] [(.int (Int32.ofNat i)), (.ref ia), (.int (Int32.ofNat i)), (.ref ia)])) rfl rfl (hb hby d6_66) _ kt) ?_
          refine own_via (T' := T130) (g' := (mkF m 83 #[.val (.ref aA), .val (.ref aB), .val (.int (Int32.ofNat i))] [(.int (Int32.ofNat i)), (.ref ia)])) (fun _ kt => XS.ifYes X130.here hx rfl (pc0 := 67) (pc' := 83) rfl (hb hby d6_67) rfl ((if0 _ _).trans (teq (own_nt1 hc38_8)).1) (by decide) (by decide) kt) ?_
          refine own_via (T' := T130) (g' := (mkF m 84 #[.val (.ref aA), .val (.ref aB), .val (.int (Int32.ofNat i))] [(.int (0 : Int32)), (.int (Int32.ofNat i)), (.ref ia)])) (fun _ kt => XS.iconst X130.here hx rfl (hb hby d6_83) kt) ?_
          obtain ⟨T131, h131, X131, e131, W131, A131, st131⟩ := own_bastoreZ X130 hx hZ e130 f114 (j := (Int32.ofNat i)) (i := i) rfl (by omega) (r := 0) rfl (g := (mkF m 84 #[.val (.ref aA), .val (.ref aB), .val (.int (Int32.ofNat i))] [(.int (0 : Int32)), (.int (Int32.ofNat i)), (.ref ia)])) rfl rfl (hb hby d6_84)
          have f132 := f108.wr W131
          have f133 := f109.other W131 (Or.inl (own_ne (by omega)))
          have f134 := f110.other W131 (Or.inl (own_ne (by omega)))
          have f135 := f111.other W131 (Or.inl (own_ne (by omega)))
          have f136 := f112.other W131 (Or.inl (own_ne (by omega)))
          have f137 := f113.other W131 (Or.inl (own_ne (by omega)))
          have f138 := A128.other W131 (own_ne (by omega))
          have f139 := f115.other W131 (own_ne (by omega))
          have f140 := f116.other W131 (own_ne (by omega))
          have f141 := f117.wr W131
          have f142 := f118.other W131 (Or.inl (own_ne (by omega)))
          have f143 := f119.other W131 (Or.inl (own_ne (by omega)))
          have f144 := f120.other W131 (Or.inl (own_ne (by omega)))
          have f145 := f121.other W131 (Or.inl (own_ne (by omega)))
          have f146 := f122.other W131 (Or.inl (own_ne (by omega)))
          have f147 := f123.other W131 (own_ne (by omega))
          have f148 := f124.other W131 (own_ne (by omega))
          have f149 := f125.other W131 (own_ne (by omega))
          have f150 := f126.other W131 (own_ne (by omega))
          have f151 := f127.other W131 (own_ne (by omega))
          have z131 : n0 ≤ h131.size := Nat.le_trans z107 (Nat.le_of_eq W131.size.symm)
          have N131 := Fr.snoc X131 N107 gia
          have K131 := K107.wr W131 (Or.inl (List.mem_of_getElem? (i := 1) rfl))
          refine own_via (T' := T131) (g' := (mkF m 85 #[.val (.ref aA), .val (.ref aB), .val (.int (Int32.ofNat i))] [])) (fun _ kt => st131 _ kt) ?_
          have A152 : own_Ar Z h131 ia .boolean 3 (fun i => .int (own_nt (qa i))) := A131.congr (own_upid (q := fun i => own_nt (qa i)) (own_nt1 hc38_8))
          refine own_via (T' := T131) (g' := (mkF m 86 #[.val (.ref aA), .val (.ref aB), .val (.int (Int32.ofNat i))] [(.ref aA)])) (fun _ kt => XS.aloadN X131.here hx rfl (hb hby d6_85) rfl rfl kt) ?_
          obtain ⟨T153, X153, e153, st153⟩ := getF X131 hx hZ hown (host := "") (Or.inl (hw _ (List.mem_of_getElem? (i := 33) rfl))) Via.refl e131 f135 (g := (mkF m 86 #[.val (.ref aA), .val (.ref aB), .val (.int (Int32.ofNat i))] [(.ref aA)])) rfl rfl (hb hby d6_86)
          refine own_via (T' := T153) (g' := (mkF m 89 #[.val (.ref aA), .val (.ref aB), .val (.int (Int32.ofNat i))] [(.ref na)])) (fun _ kt => st153 _ kt) ?_
          refine own_via (T' := T153) (g' := (mkF m 90 #[.val (.ref aA), .val (.ref aB), .val (.int (Int32.ofNat i))] [(.int (Int32.ofNat i)), (.ref na)])) (fun _ kt => XS.iloadN X153.here hx rfl (hb hby d6_89) rfl kt) ?_
          refine own_via (T' := T153) (g' := (mkF m 91 #[.val (.ref aA), .val (.ref aB), .val (.int (Int32.ofNat i))] [(.ref aA), (.int (Int32.ofNat i)), (.ref na)])) (fun _ kt => XS.aloadN X153.here hx rfl (hb hby d6_90) rfl rfl kt) ?_
          obtain ⟨T154, X154, e154, st154⟩ := getF X153 hx hZ hown (host := "") (Or.inl (hw _ (List.mem_of_getElem? (i := 33) rfl))) Via.refl e153 f135 (g := (mkF m 91 #[.val (.ref aA), .val (.ref aB), .val (.int (Int32.ofNat i))] [(.ref aA), (.int (Int32.ofNat i)), (.ref na)])) rfl rfl (hb hby d6_91)
          refine own_via (T' := T154) (g' := (mkF m 94 #[.val (.ref aA), .val (.ref aB), .val (.int (Int32.ofNat i))] [(.ref na), (.int (Int32.ofNat i)), (.ref na)])) (fun _ kt => st154 _ kt) ?_
          refine own_via (T' := T154) (g' := (mkF m 95 #[.val (.ref aA), .val (.ref aB), .val (.int (Int32.ofNat i))] [(.int (Int32.ofNat i)), (.ref na), (.int (Int32.ofNat i)), (.ref na)])) (fun _ kt => XS.iloadN X154.here hx rfl (hb hby d6_94) rfl kt) ?_
          refine own_via (T' := T154) (g' := (mkF m 96 #[.val (.ref aA), .val (.ref aB), .val (.int (Int32.ofNat i))] [(.int (own_nt (qa i))), (.int (Int32.ofNat i)), (.ref na)])) (fun _ kt => own_baloadZ X154 hx hZ e154 f139 (j := (Int32.ofNat i)) (i := i) rfl (by omega) (g := (mkF m 95 #[.val (.ref aA), .val (.ref aB), .val (.int (Int32.ofNat i))] [(.int (Int32.ofNat i)), (.ref na), (.int (Int32.ofNat i)), (.ref na)])) rfl rfl (hb hby d6_95) _ kt) ?_
          refine own_via (T' := T154) (g' := (mkF m 112 #[.val (.ref aA), .val (.ref aB), .val (.int (Int32.ofNat i))] [(.int (Int32.ofNat i)), (.ref na)])) (fun _ kt => XS.ifYes X154.here hx rfl (pc0 := 96) (pc' := 112) rfl (hb hby d6_96) rfl ((if0 _ _).trans (teq (own_nt1 hc38_8)).1) (by decide) (by decide) kt) ?_
          refine own_via (T' := T154) (g' := (mkF m 113 #[.val (.ref aA), .val (.ref aB), .val (.int (Int32.ofNat i))] [(.int (0 : Int32)), (.int (Int32.ofNat i)), (.ref na)])) (fun _ kt => XS.iconst X154.here hx rfl (hb hby d6_112) kt) ?_
          obtain ⟨T155, h155, X155, e155, W155, A155, st155⟩ := own_bastoreZ X154 hx hZ e154 f139 (j := (Int32.ofNat i)) (i := i) rfl (by omega) (r := 0) rfl (g := (mkF m 113 #[.val (.ref aA), .val (.ref aB), .val (.int (Int32.ofNat i))] [(.int (0 : Int32)), (.int (Int32.ofNat i)), (.ref na)])) rfl rfl (hb hby d6_113)
          have f156 := f132.wr W155
          have f157 := f133.other W155 (Or.inl (own_ne (by omega)))
          have f158 := f134.other W155 (Or.inl (own_ne (by omega)))
          have f159 := f135.other W155 (Or.inl (own_ne (by omega)))
          have f160 := f136.other W155 (Or.inl (own_ne (by omega)))
          have f161 := f137.other W155 (Or.inl (own_ne (by omega)))
          have f162 := f138.other W155 (own_ne (by omega))
          have f163 := A152.other W155 (own_ne (by omega))
          have f164 := f140.other W155 (own_ne (by omega))
          have f165 := f141.wr W155
          have f166 := f142.other W155 (Or.inl (own_ne (by omega)))
          have f167 := f143.other W155 (Or.inl (own_ne (by omega)))
          have f168 := f144.other W155 (Or.inl (own_ne (by omega)))
          have f169 := f145.other W155 (Or.inl (own_ne (by omega)))
          have f170 := f146.other W155 (Or.inl (own_ne (by omega)))
          have f171 := f147.other W155 (own_ne (by omega))
          have f172 := f148.other W155 (own_ne (by omega))
          have f173 := f149.other W155 (own_ne (by omega))
          have f174 := f150.other W155 (own_ne (by omega))
          have f175 := f151.other W155 (own_ne (by omega))
          have z155 : n0 ≤ h155.size := Nat.le_trans z131 (Nat.le_of_eq W155.size.symm)
          have N155 := Fr.snoc X155 N131 gna
          have K155 := K131.wr W155 (Or.inl (List.mem_of_getElem? (i := 2) rfl))
          refine own_via (T' := T155) (g' := (mkF m 114 #[.val (.ref aA), .val (.ref aB), .val (.int (Int32.ofNat i))] [])) (fun _ kt => st155 _ kt) ?_
          have A176 : own_Ar Z h155 na .boolean 3 (fun i => .int (own_nt (qa i))) := A155.congr (own_upid (q := fun i => own_nt (qa i)) (own_nt1 hc38_8))
          refine own_via (T' := T155) (g' := (mkF m 115 #[.val (.ref aA), .val (.ref aB), .val (.int (Int32.ofNat i))] [(.ref aA)])) (fun _ kt => XS.aloadN X155.here hx rfl (hb hby d6_114) rfl rfl kt) ?_
          obtain ⟨T177, X177, e177, st177⟩ := getF X155 hx hZ hown (host := "") (Or.inl (hw _ (List.mem_of_getElem? (i := 35) rfl))) Via.refl e155 f160 (g := (mkF m 115 #[.val (.ref aA), .val (.ref aB), .val (.int (Int32.ofNat i))] [(.ref aA)])) rfl rfl (hb hby d6_115)
          refine own_via (T' := T177) (g' := (mkF m 118 #[.val (.ref aA), .val (.ref aB), .val (.int (Int32.ofNat i))] [(.ref ba)])) (fun _ kt => st177 _ kt) ?_
          refine own_via (T' := T177) (g' := (mkF m 119 #[.val (.ref aA), .val (.ref aB), .val (.int (Int32.ofNat i))] [(.int (Int32.ofNat i)), (.ref ba)])) (fun _ kt => XS.iloadN X177.here hx rfl (hb hby d6_118) rfl kt) ?_
          refine own_via (T' := T177) (g' := (mkF m 120 #[.val (.ref aA), .val (.ref aB), .val (.int (Int32.ofNat i))] [(.ref aA), (.int (Int32.ofNat i)), (.ref ba)])) (fun _ kt => XS.aloadN X177.here hx rfl (hb hby d6_119) rfl rfl kt) ?_
          obtain ⟨T178, X178, e178, st178⟩ := getF X177 hx hZ hown (host := "") (Or.inl (hw _ (List.mem_of_getElem? (i := 35) rfl))) Via.refl e177 f160 (g := (mkF m 120 #[.val (.ref aA), .val (.ref aB), .val (.int (Int32.ofNat i))] [(.ref aA), (.int (Int32.ofNat i)), (.ref ba)])) rfl rfl (hb hby d6_120)
          refine own_via (T' := T178) (g' := (mkF m 123 #[.val (.ref aA), .val (.ref aB), .val (.int (Int32.ofNat i))] [(.ref ba), (.int (Int32.ofNat i)), (.ref ba)])) (fun _ kt => st178 _ kt) ?_
          refine own_via (T' := T178) (g' := (mkF m 124 #[.val (.ref aA), .val (.ref aB), .val (.int (Int32.ofNat i))] [(.int (Int32.ofNat i)), (.ref ba), (.int (Int32.ofNat i)), (.ref ba)])) (fun _ kt => XS.iloadN X178.here hx rfl (hb hby d6_123) rfl kt) ?_
          refine own_via (T' := T178) (g' := (mkF m 125 #[.val (.ref aA), .val (.ref aB), .val (.int (Int32.ofNat i))] [(.int (own_nt (qa i))), (.int (Int32.ofNat i)), (.ref ba)])) (fun _ kt => own_baloadZ X178 hx hZ e178 f164 (j := (Int32.ofNat i)) (i := i) rfl (by omega) (g := (mkF m 124 #[.val (.ref aA), .val (.ref aB), .val (.int (Int32.ofNat i))] [(.int (Int32.ofNat i)), (.ref ba), (.int (Int32.ofNat i)), (.ref ba)])) rfl rfl (hb hby d6_124) _ kt) ?_
          refine own_via (T' := T178) (g' := (mkF m 141 #[.val (.ref aA), .val (.ref aB), .val (.int (Int32.ofNat i))] [(.int (Int32.ofNat i)), (.ref ba)])) (fun _ kt => XS.ifYes X178.here hx rfl (pc0 := 125) (pc' := 141) rfl (hb hby d6_125) rfl ((if0 _ _).trans (teq (own_nt1 hc38_8)).1) (by decide) (by decide) kt) ?_
          refine own_via (T' := T178) (g' := (mkF m 142 #[.val (.ref aA), .val (.ref aB), .val (.int (Int32.ofNat i))] [(.int (0 : Int32)), (.int (Int32.ofNat i)), (.ref ba)])) (fun _ kt => XS.iconst X178.here hx rfl (hb hby d6_141) kt) ?_
          obtain ⟨T179, h179, X179, e179, W179, A179, st179⟩ := own_bastoreZ X178 hx hZ e178 f164 (j := (Int32.ofNat i)) (i := i) rfl (by omega) (r := 0) rfl (g := (mkF m 142 #[.val (.ref aA), .val (.ref aB), .val (.int (Int32.ofNat i))] [(.int (0 : Int32)), (.int (Int32.ofNat i)), (.ref ba)])) rfl rfl (hb hby d6_142)
          have f180 := f156.wr W179
          have f181 := f157.other W179 (Or.inl (own_ne (by omega)))
          have f182 := f158.other W179 (Or.inl (own_ne (by omega)))
          have f183 := f159.other W179 (Or.inl (own_ne (by omega)))
          have f184 := f160.other W179 (Or.inl (own_ne (by omega)))
          have f185 := f161.other W179 (Or.inl (own_ne (by omega)))
          have f186 := f162.other W179 (own_ne (by omega))
          have f187 := f163.other W179 (own_ne (by omega))
          have f188 := A176.other W179 (own_ne (by omega))
          have f189 := f165.wr W179
          have f190 := f166.other W179 (Or.inl (own_ne (by omega)))
          have f191 := f167.other W179 (Or.inl (own_ne (by omega)))
          have f192 := f168.other W179 (Or.inl (own_ne (by omega)))
          have f193 := f169.other W179 (Or.inl (own_ne (by omega)))
          have f194 := f170.other W179 (Or.inl (own_ne (by omega)))
          have f195 := f171.other W179 (own_ne (by omega))
          have f196 := f172.other W179 (own_ne (by omega))
          have f197 := f173.other W179 (own_ne (by omega))
          have f198 := f174.other W179 (own_ne (by omega))
          have f199 := f175.other W179 (own_ne (by omega))
          have z179 : n0 ≤ h179.size := Nat.le_trans z155 (Nat.le_of_eq W179.size.symm)
          have N179 := Fr.snoc X179 N155 gba
          have K179 := K155.wr W179 (Or.inl (List.mem_of_getElem? (i := 3) rfl))
          refine own_via (T' := T179) (g' := (mkF m 143 #[.val (.ref aA), .val (.ref aB), .val (.int (Int32.ofNat i))] [])) (fun _ kt => st179 _ kt) ?_
          have A200 : own_Ar Z h179 ba .boolean 3 (fun i => .int (own_nt (qa i))) := A179.congr (own_upid (q := fun i => own_nt (qa i)) (own_nt1 hc38_8))
          refine own_via (T' := T179) (g' := (mkF m 146 #[.val (.ref aA), .val (.ref aB), .val (.int ((Int32.ofNat i) + (1 : Int32)))] [])) (fun _ kt => XS.iinc X179.here hx rfl (hb hby d6_143) rfl (l' := #[.val (.ref aA), .val (.ref aB), .val (.int ((Int32.ofNat i) + (1 : Int32)))]) rfl kt) ?_
          rw [show ((Int32.ofNat i) + (1 : Int32)) = Int32.ofNat (i + 1) from (inc_ofNat i).symm]
          refine own_via (T' := T179) (g' := (mkF m 2 #[.val (.ref aA), .val (.ref aB), .val (.int (Int32.ofNat (i + 1)))] [])) (fun _ kt => XS.goto X179.here hx rfl (pc0 := 146) (pc' := 2) rfl (hb hby d6_146) (by decide) (by decide) kt) ?_
          exact ih (i + 1) (by omega) T179 h179 _ X179 e179 z179 N179 K179 ⟨f180, f181, f182, f183, f184, f185, f186, f187, f188, A200⟩ ⟨f189, f190, f191, f192, f193, f194, f195, f196, f197, f198⟩ f199
  exact loop 3 0 rfl T0 h0 _ X0 e0 Z0 N0 (Keep.refl h0 _) CA CB At
theorem d7_0 : decode prog_20_method_9_code 0 = .ok (.aload_n 0, 1) := by decide +kernel
theorem d7_1 : decode prog_20_method_9_code 1 = .ok (.getfield 13, 3) := by decide +kernel
theorem d7_4 : decode prog_20_method_9_code 4 = .ok (.arraylength, 1) := by decide +kernel
theorem d7_5 : decode prog_20_method_9_code 5 = .ok (.anewarray 88, 3) := by decide +kernel
theorem d7_8 : decode prog_20_method_9_code 8 = .ok (.astore_n 1, 1) := by decide +kernel
theorem d7_9 : decode prog_20_method_9_code 9 = .ok (.iconst 0, 1) := by decide +kernel
theorem d7_10 : decode prog_20_method_9_code 10 = .ok (.istore_n 2, 1) := by decide +kernel
theorem d7_11 : decode prog_20_method_9_code 11 = .ok (.iload_n 2, 1) := by decide +kernel
theorem d7_12 : decode prog_20_method_9_code 12 = .ok (.aload_n 1, 1) := by decide +kernel
theorem d7_13 : decode prog_20_method_9_code 13 = .ok (.arraylength, 1) := by decide +kernel
theorem d7_14 : decode prog_20_method_9_code 14 = .ok (.if_icmp .ge 81, 3) := by decide +kernel
theorem d7_17 : decode prog_20_method_9_code 17 = .ok (.aload_n 0, 1) := by decide +kernel
theorem d7_18 : decode prog_20_method_9_code 18 = .ok (.getfield 13, 3) := by decide +kernel
theorem d7_21 : decode prog_20_method_9_code 21 = .ok (.iload_n 2, 1) := by decide +kernel
theorem d7_22 : decode prog_20_method_9_code 22 = .ok (.baload, 1) := by decide +kernel
theorem d7_23 : decode prog_20_method_9_code 23 = .ok (.ifCond .ne 10, 3) := by decide +kernel
theorem d7_26 : decode prog_20_method_9_code 26 = .ok (.getstatic 87, 3) := by decide +kernel
theorem d7_29 : decode prog_20_method_9_code 29 = .ok (.astore_n 3, 1) := by decide +kernel
theorem d7_30 : decode prog_20_method_9_code 30 = .ok (.goto 55, 3) := by decide +kernel
theorem d7_33 : decode prog_20_method_9_code 33 = .ok (.aload_n 0, 1) := by decide +kernel
theorem d7_34 : decode prog_20_method_9_code 34 = .ok (.getfield 16, 3) := by decide +kernel
theorem d7_37 : decode prog_20_method_9_code 37 = .ok (.iload_n 2, 1) := by decide +kernel
theorem d7_38 : decode prog_20_method_9_code 38 = .ok (.baload, 1) := by decide +kernel
theorem d7_39 : decode prog_20_method_9_code 39 = .ok (.ifCond .eq 10, 3) := by decide +kernel
theorem d7_49 : decode prog_20_method_9_code 49 = .ok (.aload_n 0, 1) := by decide +kernel
theorem d7_50 : decode prog_20_method_9_code 50 = .ok (.getfield 19, 3) := by decide +kernel
theorem d7_53 : decode prog_20_method_9_code 53 = .ok (.iload_n 2, 1) := by decide +kernel
theorem d7_54 : decode prog_20_method_9_code 54 = .ok (.baload, 1) := by decide +kernel
theorem d7_55 : decode prog_20_method_9_code 55 = .ok (.ifCond .eq 10, 3) := by decide +kernel
theorem d7_65 : decode prog_20_method_9_code 65 = .ok (.aload_n 0, 1) := by decide +kernel
theorem d7_66 : decode prog_20_method_9_code 66 = .ok (.getfield 22, 3) := by decide +kernel
theorem d7_69 : decode prog_20_method_9_code 69 = .ok (.iload_n 2, 1) := by decide +kernel
theorem d7_70 : decode prog_20_method_9_code 70 = .ok (.baload, 1) := by decide +kernel
theorem d7_71 : decode prog_20_method_9_code 71 = .ok (.ifCond .eq 10, 3) := by decide +kernel
theorem d7_81 : decode prog_20_method_9_code 81 = .ok (.getstatic 87, 3) := by decide +kernel
theorem d7_84 : decode prog_20_method_9_code 84 = .ok (.astore_n 3, 1) := by decide +kernel
theorem d7_85 : decode prog_20_method_9_code 85 = .ok (.aload_n 1, 1) := by decide +kernel
theorem d7_86 : decode prog_20_method_9_code 86 = .ok (.iload_n 2, 1) := by decide +kernel
theorem d7_87 : decode prog_20_method_9_code 87 = .ok (.aload_n 3, 1) := by decide +kernel
theorem d7_88 : decode prog_20_method_9_code 88 = .ok (.aastore, 1) := by decide +kernel
theorem d7_89 : decode prog_20_method_9_code 89 = .ok (.iinc 2 1, 3) := by decide +kernel
theorem d7_92 : decode prog_20_method_9_code 92 = .ok (.goto (-81), 3) := by decide +kernel
theorem d7_95 : decode prog_20_method_9_code 95 = .ok (.aload_n 1, 1) := by decide +kernel
theorem d7_96 : decode prog_20_method_9_code 96 = .ok (.areturn, 1) := by decide +kernel
theorem pn_7 : plainName "com/example/querent/querent/engine/ColumnTypes" = true := by first | (simp [plainName, overriddenIn]; done) | decide +kernel
theorem ef_7 (m : MethodId) (x0 : Addr) : entryFrame m #[(.ref x0)] 4 = mkF m 0 #[.val (.ref x0), .unset, .unset, .unset] [] := by first | (simp [entryFrame, mkF, argsToLocals, Value.category]; done) | rfl
theorem own_fe5 {tx : Addr} {i : Nat} (k : Nat) (hk : k < 3) : own_up (fun k => if k < i then .ref tx else .null) i (.ref tx) k = (if k < (i + 1) then .ref tx else .null) := by
  unfold own_up; by_cases q : k = i
  · subst q; rw [if_pos rfl, if_pos (Nat.lt_succ_self k)]
  · rw [if_neg q]; by_cases r : k < i
    · simp only [if_pos r, if_pos (show k < i + 1 by omega)]
    · simp only [if_neg r, if_neg (show ¬ k < i + 1 by omega)]
theorem own_st3 {x y t : Addr} {i : Int32} {s3 : Slot} (h : One s3) : storeLocals #[.val (.ref x), .val (.ref y), .val (.int i), s3] 3 (.ref t) = some #[.val (.ref x), .val (.ref y), .val (.int i), .val (.ref t)] := by
  rcases h with rfl | ⟨w, rfl, hw⟩
  · rfl
  · cases w <;> first | rfl | (simp [Value.category] at hw)
set_option maxRecDepth 65536 in
set_option maxHeartbeats 40000000 in
theorem rm7 (l : Launch) (Z : State) (a0 : Array Value) (hw : ∀ d ∈ tables_1, d.before a0 Z = true) (ws : List Jvm.Cond) (aA sa ia na ba : Addr) (wA : Value) (qa : Nat → Int32) (tx : Addr) (h0 : Heap) (n0 : Nat) (Z0 : n0 ≤ h0.size) (CA : own_CT Z h0 aA sa ia na ba wA (fun i => .int (qa i)) (fun i => .int (own_nt (qa i)))) (S : Sta Z h0 "com/example/querent/querent/engine/Type" "TEXT" "Lcom/example/querent/querent/engine/Type;" (.ref tx)) (E : Exa Z h0 tx "com/example/querent/querent/engine/Type") :
    own_Con l Z (⟨"com/example/querent/querent/engine/ColumnTypes", "types", "()[Lcom/example/querent/querent/engine/Type;"⟩ : MethodName) prog_20_method_9_code 4 (some (.array (.object "com/example/querent/querent/engine/Type"))) ws ({ frames := 0, cells := 1, slots := 3, locals := 0 } : Room) #[(.ref aA)] h0 (fun v h L => ∃ tb, v = some (.ref tb) ∧ h0.size ≤ tb ∧ Fr n0 L ∧ Keep h0 h [] ∧ own_Ar Z h tb (.object "com/example/querent/querent/engine/Type") 3 (fun _ => .ref tx)) := by
  refine own_body (plainFor_of_name pn_7) ?_
  intro p e s m below meth c T0 hx hby hml hown hnm hret hlk hZ X0 e0
  replace hown : s.vm.findClass "com/example/querent/querent/engine/ColumnTypes" = some m.cls := hown
  replace hret : meth.sig.returnType = (some (.array (.object "com/example/querent/querent/engine/Type"))) := hret
  replace hnm : meth.name = "types" := hnm
  rw [ef_7 m aA]
  have N0 := Fr.nil n0
  obtain ⟨c0, c1, c2, c3, c4, c5, c6, c7, c8, c9⟩ := CA
  refine own_via (T' := T0) (g' := (mkF m 1 #[.val (.ref aA), .unset, .unset, .unset] [(.ref aA)])) (fun _ kt => XS.aloadN X0.here hx rfl (hb hby d7_0) rfl rfl kt) ?_
  obtain ⟨T1, X1, e1, st1⟩ := getF X0 hx hZ hown (host := "") (Or.inl (hw _ (List.mem_of_getElem? (i := 22) rfl))) Via.refl e0 c1 (g := (mkF m 1 #[.val (.ref aA), .unset, .unset, .unset] [(.ref aA)])) rfl rfl (hb hby d7_1)
  refine own_via (T' := T1) (g' := (mkF m 4 #[.val (.ref aA), .unset, .unset, .unset] [(.ref sa)])) (fun _ kt => st1 _ kt) ?_
  refine own_via (T' := T1) (g' := (mkF m 5 #[.val (.ref aA), .unset, .unset, .unset] [(.int (3 : Int32))])) (fun _ kt => own_alen X1 hx hZ e1 c6 (g := (mkF m 4 #[.val (.ref aA), .unset, .unset, .unset] [(.ref sa)])) rfl rfl (hb hby d7_4) _ kt) ?_
  obtain ⟨T2, h2, b2, gb2, X2, e2, E2, A2, O2, st2⟩ := own_newref X1 hx hZ hown (hw _ (List.mem_of_getElem? (i := 49) rfl)) (hw _ (List.mem_of_getElem? (i := 50) rfl)) e1 (g := (mkF m 5 #[.val (.ref aA), .unset, .unset, .unset] [(.int (3 : Int32))])) rfl (hb hby d7_5) (j := (3 : Int32)) (n := 3) rfl (by decide) rfl (by decide) (by decide)
  have lt_aA_b2 : @LT.lt Nat _ aA b2 := Nat.lt_of_lt_of_le c0.lt (Nat.le_of_eq gb2.symm)
  have lt_sa_b2 : @LT.lt Nat _ sa b2 := Nat.lt_of_lt_of_le c6.lt (Nat.le_of_eq gb2.symm)
  have lt_ia_b2 : @LT.lt Nat _ ia b2 := Nat.lt_of_lt_of_le c7.lt (Nat.le_of_eq gb2.symm)
  have lt_na_b2 : @LT.lt Nat _ na b2 := Nat.lt_of_lt_of_le c8.lt (Nat.le_of_eq gb2.symm)
  have lt_ba_b2 : @LT.lt Nat _ ba b2 := Nat.lt_of_lt_of_le c9.lt (Nat.le_of_eq gb2.symm)
  have lt_tx_b2 : @LT.lt Nat _ tx b2 := Nat.lt_of_lt_of_le E.lt (Nat.le_of_eq gb2.symm)
  have gg2 : n0 ≤ b2 := Nat.le_trans Z0 (Nat.le_of_eq gb2.symm)
  have kz2 : h0.size ≤ b2 := Nat.le_trans (Keep.refl h0 []).1 (Nat.le_of_eq gb2.symm)
  have f3 := c0.ext E2
  have f4 := c1.ext E2
  have f5 := c2.ext E2
  have f6 := c3.ext E2
  have f7 := c4.ext E2
  have f8 := c5.ext E2
  have f9 := c6.ext E2
  have f10 := c7.ext E2
  have f11 := c8.ext E2
  have f12 := c9.ext E2
  have f13 := S.ext E2
  have f14 := E.ext E2
  have z2 : n0 ≤ h2.size := Nat.le_trans Z0 E2.1
  have K2 := (Keep.refl h0 []).ext E2
  refine own_via (T' := T2) (g' := (mkF m 8 #[.val (.ref aA), .unset, .unset, .unset] [(.ref b2)])) (fun _ kt => st2 _ kt) ?_
  refine own_via (T' := T2) (g' := (mkF m 9 #[.val (.ref aA), .val (.ref b2), .unset, .unset] [])) (fun _ kt => XS.astoreN X2.here hx rfl (hb hby d7_8) rfl rfl (l' := #[.val (.ref aA), .val (.ref b2), .unset, .unset]) rfl kt) ?_
  refine own_via (T' := T2) (g' := (mkF m 10 #[.val (.ref aA), .val (.ref b2), .unset, .unset] [(.int (0 : Int32))])) (fun _ kt => XS.iconst X2.here hx rfl (hb hby d7_9) kt) ?_
  refine own_via (T' := T2) (g' := (mkF m 11 #[.val (.ref aA), .val (.ref b2), .val (.int (0 : Int32)), .unset] [])) (fun _ kt => XS.istoreN X2.here hx rfl (hb hby d7_10) rfl (l' := #[.val (.ref aA), .val (.ref b2), .val (.int (0 : Int32)), .unset]) rfl kt) ?_
  have loop : ∀ (k i : Nat), i + k = 3 → ∀ (s3 : Slot), One s3 → ∀ (T : State) (hh : Heap) (locs : List Loc), Stand p l e ({ frames := 0, cells := 1, slots := 3, locals := 0 } : Room) s m #[(.ref aA)] below meth c T locs 1 3 → T.heap = hh → n0 ≤ hh.size → Fr n0 locs → Keep h0 hh [] → own_CT Z hh aA sa ia na ba wA (fun i => .int (qa i)) (fun i => .int (own_nt (qa i))) → Sta Z hh "com/example/querent/querent/engine/Type" "TEXT" "Lcom/example/querent/querent/engine/Type;" (.ref tx) → Exa Z hh tx "com/example/querent/querent/engine/Type" → own_Ar Z hh b2 (.object "com/example/querent/querent/engine/Type") 3 (fun k => if k < i then .ref tx else .null) → own_Ov Z hh b2 "com/example/querent/querent/engine/Type" → own_Ends p e below (own_Fin below s 1 3 (fun v h L => ∃ tb, v = some (.ref tb) ∧ h0.size ≤ tb ∧ Fr n0 L ∧ Keep h0 h [] ∧ own_Ar Z h tb (.object "com/example/querent/querent/engine/Type") 3 (fun _ => .ref tx))) T (mkF m 11 #[.val (.ref aA), .val (.ref b2), .val (.int (Int32.ofNat i)), s3] []) := by
    intro k; induction k with
    | zero =>
      intro i hi s3 h3 T hh locs XL eL zL NL KL CA S E At Ot
      obtain ⟨d0, d1, d2, d3, d4, d5, d6, d7, d8, d9⟩ := CA
      refine own_via (T' := T) (g' := (mkF m 12 #[.val (.ref aA), .val (.ref b2), .val (.int (Int32.ofNat i)), s3] [(.int (Int32.ofNat i))])) (fun _ kt => XS.iloadN XL.here hx rfl (hb hby d7_11) rfl kt) ?_
      refine own_via (T' := T) (g' := (mkF m 13 #[.val (.ref aA), .val (.ref b2), .val (.int (Int32.ofNat i)), s3] [(.ref b2), (.int (Int32.ofNat i))])) (fun _ kt => XS.aloadN XL.here hx rfl (hb hby d7_12) rfl rfl kt) ?_
      refine own_via (T' := T) (g' := (mkF m 14 #[.val (.ref aA), .val (.ref b2), .val (.int (Int32.ofNat i)), s3] [(.int (3 : Int32)), (.int (Int32.ofNat i))])) (fun _ kt => own_alen XL hx hZ eL At (g := (mkF m 13 #[.val (.ref aA), .val (.ref b2), .val (.int (Int32.ofNat i)), s3] [(.ref b2), (.int (Int32.ofNat i))])) rfl rfl (hb hby d7_13) _ kt) ?_
      refine own_via (T' := T) (g' := (mkF m 95 #[.val (.ref aA), .val (.ref b2), .val (.int (Int32.ofNat i)), s3] [])) (fun _ kt => XS.icmpYes XL.here hx rfl (pc0 := 14) (pc' := 95) rfl (hb hby d7_14) rfl (flt (fun q => absurd ((own_lt3 (by omega)).mp q) (by omega))).2.1 (by decide) (by decide) kt) ?_
      refine own_via (T' := T) (g' := (mkF m 96 #[.val (.ref aA), .val (.ref b2), .val (.int (Int32.ofNat i)), s3] [(.ref b2)])) (fun _ kt => XS.aloadN XL.here hx rfl (hb hby d7_95) rfl rfl kt) ?_
      have A15 : own_Ar Z hh b2 (.object "com/example/querent/querent/engine/Type") 3 (fun _ => .ref tx) := At.congr (fun k hk => by rw [if_pos (show k < i by omega)])
      exact own_retA XL hx hret rfl hlk rfl rfl (hb hby d7_96) (by rw [eL]; exact ⟨b2, rfl, kz2, NL, KL, A15⟩) (by decide) (by decide)
    | succ k ih =>
      intro i hi s3 h3 T hh locs XL eL zL NL KL CA S E At Ot
      obtain ⟨d0, d1, d2, d3, d4, d5, d6, d7, d8, d9⟩ := CA
      refine own_via (T' := T) (g' := (mkF m 12 #[.val (.ref aA), .val (.ref b2), .val (.int (Int32.ofNat i)), s3] [(.int (Int32.ofNat i))])) (fun _ kt => XS.iloadN XL.here hx rfl (hb hby d7_11) rfl kt) ?_
      refine own_via (T' := T) (g' := (mkF m 13 #[.val (.ref aA), .val (.ref b2), .val (.int (Int32.ofNat i)), s3] [(.ref b2), (.int (Int32.ofNat i))])) (fun _ kt => XS.aloadN XL.here hx rfl (hb hby d7_12) rfl rfl kt) ?_
      refine own_via (T' := T) (g' := (mkF m 14 #[.val (.ref aA), .val (.ref b2), .val (.int (Int32.ofNat i)), s3] [(.int (3 : Int32)), (.int (Int32.ofNat i))])) (fun _ kt => own_alen XL hx hZ eL At (g := (mkF m 13 #[.val (.ref aA), .val (.ref b2), .val (.int (Int32.ofNat i)), s3] [(.ref b2), (.int (Int32.ofNat i))])) rfl rfl (hb hby d7_13) _ kt) ?_
      refine own_via (T' := T) (g' := (mkF m 17 #[.val (.ref aA), .val (.ref b2), .val (.int (Int32.ofNat i)), s3] [])) (fun _ kt => XS.icmpNo XL.here hx rfl (hb hby d7_14) rfl (tlt ((own_lt3 (by omega)).mpr (by omega))).2.1 kt) ?_
      refine own_via (T' := T) (g' := (mkF m 18 #[.val (.ref aA), .val (.ref b2), .val (.int (Int32.ofNat i)), s3] [(.ref aA)])) (fun _ kt => XS.aloadN XL.here hx rfl (hb hby d7_17) rfl rfl kt) ?_
      obtain ⟨T16, X16, e16, st16⟩ := getF XL hx hZ hown (host := "") (Or.inl (hw _ (List.mem_of_getElem? (i := 22) rfl))) Via.refl eL d1 (g := (mkF m 18 #[.val (.ref aA), .val (.ref b2), .val (.int (Int32.ofNat i)), s3] [(.ref aA)])) rfl rfl (hb hby d7_18)
      refine own_via (T' := T16) (g' := (mkF m 21 #[.val (.ref aA), .val (.ref b2), .val (.int (Int32.ofNat i)), s3] [(.ref sa)])) (fun _ kt => st16 _ kt) ?_
      refine own_via (T' := T16) (g' := (mkF m 22 #[.val (.ref aA), .val (.ref b2), .val (.int (Int32.ofNat i)), s3] [(.int (Int32.ofNat i)), (.ref sa)])) (fun _ kt => XS.iloadN X16.here hx rfl (hb hby d7_21) rfl kt) ?_
      refine own_via (T' := T16) (g' := (mkF m 23 #[.val (.ref aA), .val (.ref b2), .val (.int (Int32.ofNat i)), s3] [(.int (qa i))])) (fun _ kt => own_baloadZ X16 hx hZ e16 d6 (j := (Int32.ofNat i)) (i := i) rfl (by omega) (g := (mkF m 22 #[.val (.ref aA), .val (.ref b2), .val (.int (Int32.ofNat i)), s3] [(.int (Int32.ofNat i)), (.ref sa)])) rfl rfl (hb hby d7_22) _ kt) ?_
      by_cases hc23_17 : (qa i) = (0 : Int32)
      · refine own_via (T' := T16) (g' := (mkF m 26 #[.val (.ref aA), .val (.ref b2), .val (.int (Int32.ofNat i)), s3] [])) (fun _ kt => XS.ifNo X16.here hx rfl (hb hby d7_23) rfl ((if0 _ _).trans (teq hc23_17).2) kt) ?_
        obtain ⟨T18, X18, e18, st18⟩ := getS2 X16 hx hZ hown (host := "") (Or.inl (hw _ (List.mem_of_getElem? (i := 51) rfl))) Via.refl e16 S (g := (mkF m 26 #[.val (.ref aA), .val (.ref b2), .val (.int (Int32.ofNat i)), s3] [])) rfl (hb hby d7_26)
        refine own_via (T' := T18) (g' := (mkF m 29 #[.val (.ref aA), .val (.ref b2), .val (.int (Int32.ofNat i)), s3] [(.ref tx)])) (fun _ kt => st18 _ kt) ?_
        refine own_via (T' := T18) (g' := (mkF m 30 #[.val (.ref aA), .val (.ref b2), .val (.int (Int32.ofNat i)), .val (.ref tx)] [])) (fun _ kt => XS.astoreN X18.here hx rfl (hb hby d7_29) rfl rfl (l' := #[.val (.ref aA), .val (.ref b2), .val (.int (Int32.ofNat i)), .val (.ref tx)]) (own_st3 h3) kt) ?_
        refine own_via (T' := T18) (g' := (mkF m 85 #[.val (.ref aA), .val (.ref b2), .val (.int (Int32.ofNat i)), .val (.ref tx)] [])) (fun _ kt => XS.goto X18.here hx rfl (pc0 := 30) (pc' := 85) rfl (hb hby d7_30) (by decide) (by decide) kt) ?_
        refine own_via (T' := T18) (g' := (mkF m 86 #[.val (.ref aA), .val (.ref b2), .val (.int (Int32.ofNat i)), .val (.ref tx)] [(.ref b2)])) (fun _ kt => XS.aloadN X18.here hx rfl (hb hby d7_85) rfl rfl kt) ?_
        refine own_via (T' := T18) (g' := (mkF m 87 #[.val (.ref aA), .val (.ref b2), .val (.int (Int32.ofNat i)), .val (.ref tx)] [(.int (Int32.ofNat i)), (.ref b2)])) (fun _ kt => XS.iloadN X18.here hx rfl (hb hby d7_86) rfl kt) ?_
        refine own_via (T' := T18) (g' := (mkF m 88 #[.val (.ref aA), .val (.ref b2), .val (.int (Int32.ofNat i)), .val (.ref tx)] [(.ref tx), (.int (Int32.ofNat i)), (.ref b2)])) (fun _ kt => XS.aloadN X18.here hx rfl (hb hby d7_87) rfl rfl kt) ?_
        obtain ⟨T19, h19, X19, e19, W19, A19, st19⟩ := own_aastore X18 hx hZ e18 At (j := (Int32.ofNat i)) (i := i) rfl (by omega) rfl (own_sto At Ot (Ins.self E)) (g := (mkF m 88 #[.val (.ref aA), .val (.ref b2), .val (.int (Int32.ofNat i)), .val (.ref tx)] [(.ref tx), (.int (Int32.ofNat i)), (.ref b2)])) rfl rfl (hb hby d7_88)
        have f20 := d0.wr W19
        have f21 := d1.other W19 (Or.inl (own_ne (by omega)))
        have f22 := d2.other W19 (Or.inl (own_ne (by omega)))
        have f23 := d3.other W19 (Or.inl (own_ne (by omega)))
        have f24 := d4.other W19 (Or.inl (own_ne (by omega)))
        have f25 := d5.other W19 (Or.inl (own_ne (by omega)))
        have f26 := d6.other W19 (own_ne (by omega))
        have f27 := d7.other W19 (own_ne (by omega))
        have f28 := d8.other W19 (own_ne (by omega))
        have f29 := d9.other W19 (own_ne (by omega))
        have f30 := S.wr W19
        have f31 := E.wr W19
        have f32 := Ot.wr W19
        have z19 : n0 ≤ h19.size := Nat.le_trans zL (Nat.le_of_eq W19.size.symm)
        have N19 := Fr.snoc X19 NL gg2
        have K19 := KL.wr W19 (Or.inr kz2)
        refine own_via (T' := T19) (g' := (mkF m 89 #[.val (.ref aA), .val (.ref b2), .val (.int (Int32.ofNat i)), .val (.ref tx)] [])) (fun _ kt => st19 _ kt) ?_
        have A33 : own_Ar Z h19 b2 (.object "com/example/querent/querent/engine/Type") 3 (fun k => if k < (i + 1) then .ref tx else .null) := A19.congr own_fe5
        refine own_via (T' := T19) (g' := (mkF m 92 #[.val (.ref aA), .val (.ref b2), .val (.int ((Int32.ofNat i) + (1 : Int32))), .val (.ref tx)] [])) (fun _ kt => XS.iinc X19.here hx rfl (hb hby d7_89) rfl (l' := #[.val (.ref aA), .val (.ref b2), .val (.int ((Int32.ofNat i) + (1 : Int32))), .val (.ref tx)]) rfl kt) ?_
        rw [show ((Int32.ofNat i) + (1 : Int32)) = Int32.ofNat (i + 1) from (inc_ofNat i).symm]
        refine own_via (T' := T19) (g' := (mkF m 11 #[.val (.ref aA), .val (.ref b2), .val (.int (Int32.ofNat (i + 1))), .val (.ref tx)] [])) (fun _ kt => XS.goto X19.here hx rfl (pc0 := 92) (pc' := 11) rfl (hb hby d7_92) (by decide) (by decide) kt) ?_
        exact ih (i + 1) (by omega) (.val (.ref tx)) (One.val (w := .ref tx) rfl) T19 h19 _ X19 e19 z19 N19 K19 ⟨f20, f21, f22, f23, f24, f25, f26, f27, f28, f29⟩ f30 f31 A33 f32
      · refine own_via (T' := T16) (g' := (mkF m 33 #[.val (.ref aA), .val (.ref b2), .val (.int (Int32.ofNat i)), s3] [])) (fun _ kt => XS.ifYes X16.here hx rfl (pc0 := 23) (pc' := 33) rfl (hb hby d7_23) rfl ((if0 _ _).trans (feq hc23_17).2) (by decide) (by decide) kt) ?_
        refine own_via (T' := T16) (g' := (mkF m 34 #[.val (.ref aA), .val (.ref b2), .val (.int (Int32.ofNat i)), s3] [(.ref aA)])) (fun _ kt => XS.aloadN X16.here hx rfl (hb hby d7_33) rfl rfl kt) ?_
        obtain ⟨T34, X34, e34, st34⟩ := getF X16 hx hZ hown (host := "") (Or.inl (hw _ (List.mem_of_getElem? (i := 31) rfl))) Via.refl e16 d2 (g := (mkF m 34 #[.val (.ref aA), .val (.ref b2), .val (.int (Int32.ofNat i)), s3] [(.ref aA)])) rfl rfl (hb hby d7_34)
        refine own_via (T' := T34) (g' := (mkF m 37 #[.val (.ref aA), .val (.ref b2), .val (.int (Int32.ofNat i)), s3] [(.ref ia)])) (fun _ kt => st34 _ kt) ?_
        refine own_via (T' := T34) (g' := (mkF m 38 #[.val (.ref aA), .val (.ref b2), .val (.int (Int32.ofNat i)), s3] [(.int (Int32.ofNat i)), (.ref ia)])) (fun _ kt => XS.iloadN X34.here hx rfl (hb hby d7_37) rfl kt) ?_
        refine own_via (T' := T34) (g' := (mkF m 39 #[.val (.ref aA), .val (.ref b2), .val (.int (Int32.ofNat i)), s3] [(.int (own_nt (qa i)))])) (fun _ kt => own_baloadZ X34 hx hZ e34 d7 (j := (Int32.ofNat i)) (i := i) rfl (by omega) (g := (mkF m 38 #[.val (.ref aA), .val (.ref b2), .val (.int (Int32.ofNat i)), s3] [(.int (Int32.ofNat i)), (.ref ia)])) rfl rfl (hb hby d7_38) _ kt) ?_
        refine own_via (T' := T34) (g' := (mkF m 49 #[.val (.ref aA), .val (.ref b2), .val (.int (Int32.ofNat i)), s3] [])) (fun _ kt => XS.ifYes X34.here hx rfl (pc0 := 39) (pc' := 49) rfl (hb hby d7_39) rfl ((if0 _ _).trans (teq (own_nt1 hc23_17)).1) (by decide) (by decide) kt) ?_
        refine own_via (T' := T34) (g' := (mkF m 50 #[.val (.ref aA), .val (.ref b2), .val (.int (Int32.ofNat i)), s3] [(.ref aA)])) (fun _ kt => XS.aloadN X34.here hx rfl (hb hby d7_49) rfl rfl kt) ?_
        obtain ⟨T35, X35, e35, st35⟩ := getF X34 hx hZ hown (host := "") (Or.inl (hw _ (List.mem_of_getElem? (i := 33) rfl))) Via.refl e34 d3 (g := (mkF m 50 #[.val (.ref aA), .val (.ref b2), .val (.int (Int32.ofNat i)), s3] [(.ref aA)])) rfl rfl (hb hby d7_50)
        refine own_via (T' := T35) (g' := (mkF m 53 #[.val (.ref aA), .val (.ref b2), .val (.int (Int32.ofNat i)), s3] [(.ref na)])) (fun _ kt => st35 _ kt) ?_
        refine own_via (T' := T35) (g' := (mkF m 54 #[.val (.ref aA), .val (.ref b2), .val (.int (Int32.ofNat i)), s3] [(.int (Int32.ofNat i)), (.ref na)])) (fun _ kt => XS.iloadN X35.here hx rfl (hb hby d7_53) rfl kt) ?_
        refine own_via (T' := T35) (g' := (mkF m 55 #[.val (.ref aA), .val (.ref b2), .val (.int (Int32.ofNat i)), s3] [(.int (own_nt (qa i)))])) (fun _ kt => own_baloadZ X35 hx hZ e35 d8 (j := (Int32.ofNat i)) (i := i) rfl (by omega) (g := (mkF m 54 #[.val (.ref aA), .val (.ref b2), .val (.int (Int32.ofNat i)), s3] [(.int (Int32.ofNat i)), (.ref na)])) rfl rfl (hb hby d7_54) _ kt) ?_
        refine own_via (T' := T35) (g' := (mkF m 65 #[.val (.ref aA), .val (.ref b2), .val (.int (Int32.ofNat i)), s3] [])) (fun _ kt => XS.ifYes X35.here hx rfl (pc0 := 55) (pc' := 65) rfl (hb hby d7_55) rfl ((if0 _ _).trans (teq (own_nt1 hc23_17)).1) (by decide) (by decide) kt) ?_
        refine own_via (T' := T35) (g' := (mkF m 66 #[.val (.ref aA), .val (.ref b2), .val (.int (Int32.ofNat i)), s3] [(.ref aA)])) (fun _ kt => XS.aloadN X35.here hx rfl (hb hby d7_65) rfl rfl kt) ?_
        obtain ⟨T36, X36, e36, st36⟩ := getF X35 hx hZ hown (host := "") (Or.inl (hw _ (List.mem_of_getElem? (i := 35) rfl))) Via.refl e35 d4 (g := (mkF m 66 #[.val (.ref aA), .val (.ref b2), .val (.int (Int32.ofNat i)), s3] [(.ref aA)])) rfl rfl (hb hby d7_66)
        refine own_via (T' := T36) (g' := (mkF m 69 #[.val (.ref aA), .val (.ref b2), .val (.int (Int32.ofNat i)), s3] [(.ref ba)])) (fun _ kt => st36 _ kt) ?_
        refine own_via (T' := T36) (g' := (mkF m 70 #[.val (.ref aA), .val (.ref b2), .val (.int (Int32.ofNat i)), s3] [(.int (Int32.ofNat i)), (.ref ba)])) (fun _ kt => XS.iloadN X36.here hx rfl (hb hby d7_69) rfl kt) ?_
        refine own_via (T' := T36) (g' := (mkF m 71 #[.val (.ref aA), .val (.ref b2), .val (.int (Int32.ofNat i)), s3] [(.int (own_nt (qa i)))])) (fun _ kt => own_baloadZ X36 hx hZ e36 d9 (j := (Int32.ofNat i)) (i := i) rfl (by omega) (g := (mkF m 70 #[.val (.ref aA), .val (.ref b2), .val (.int (Int32.ofNat i)), s3] [(.int (Int32.ofNat i)), (.ref ba)])) rfl rfl (hb hby d7_70) _ kt) ?_
        refine own_via (T' := T36) (g' := (mkF m 81 #[.val (.ref aA), .val (.ref b2), .val (.int (Int32.ofNat i)), s3] [])) (fun _ kt => XS.ifYes X36.here hx rfl (pc0 := 71) (pc' := 81) rfl (hb hby d7_71) rfl ((if0 _ _).trans (teq (own_nt1 hc23_17)).1) (by decide) (by decide) kt) ?_
        obtain ⟨T37, X37, e37, st37⟩ := getS2 X36 hx hZ hown (host := "") (Or.inl (hw _ (List.mem_of_getElem? (i := 51) rfl))) Via.refl e36 S (g := (mkF m 81 #[.val (.ref aA), .val (.ref b2), .val (.int (Int32.ofNat i)), s3] [])) rfl (hb hby d7_81)
        refine own_via (T' := T37) (g' := (mkF m 84 #[.val (.ref aA), .val (.ref b2), .val (.int (Int32.ofNat i)), s3] [(.ref tx)])) (fun _ kt => st37 _ kt) ?_
        refine own_via (T' := T37) (g' := (mkF m 85 #[.val (.ref aA), .val (.ref b2), .val (.int (Int32.ofNat i)), .val (.ref tx)] [])) (fun _ kt => XS.astoreN X37.here hx rfl (hb hby d7_84) rfl rfl (l' := #[.val (.ref aA), .val (.ref b2), .val (.int (Int32.ofNat i)), .val (.ref tx)]) (own_st3 h3) kt) ?_
        refine own_via (T' := T37) (g' := (mkF m 86 #[.val (.ref aA), .val (.ref b2), .val (.int (Int32.ofNat i)), .val (.ref tx)] [(.ref b2)])) (fun _ kt => XS.aloadN X37.here hx rfl (hb hby d7_85) rfl rfl kt) ?_
        refine own_via (T' := T37) (g' := (mkF m 87 #[.val (.ref aA), .val (.ref b2), .val (.int (Int32.ofNat i)), .val (.ref tx)] [(.int (Int32.ofNat i)), (.ref b2)])) (fun _ kt => XS.iloadN X37.here hx rfl (hb hby d7_86) rfl kt) ?_
        refine own_via (T' := T37) (g' := (mkF m 88 #[.val (.ref aA), .val (.ref b2), .val (.int (Int32.ofNat i)), .val (.ref tx)] [(.ref tx), (.int (Int32.ofNat i)), (.ref b2)])) (fun _ kt => XS.aloadN X37.here hx rfl (hb hby d7_87) rfl rfl kt) ?_
        obtain ⟨T38, h38, X38, e38, W38, A38, st38⟩ := own_aastore X37 hx hZ e37 At (j := (Int32.ofNat i)) (i := i) rfl (by omega) rfl (own_sto At Ot (Ins.self E)) (g := (mkF m 88 #[.val (.ref aA), .val (.ref b2), .val (.int (Int32.ofNat i)), .val (.ref tx)] [(.ref tx), (.int (Int32.ofNat i)), (.ref b2)])) rfl rfl (hb hby d7_88)
        have f39 := d0.wr W38
        have f40 := d1.other W38 (Or.inl (own_ne (by omega)))
        have f41 := d2.other W38 (Or.inl (own_ne (by omega)))
        have f42 := d3.other W38 (Or.inl (own_ne (by omega)))
        have f43 := d4.other W38 (Or.inl (own_ne (by omega)))
        have f44 := d5.other W38 (Or.inl (own_ne (by omega)))
        have f45 := d6.other W38 (own_ne (by omega))
        have f46 := d7.other W38 (own_ne (by omega))
        have f47 := d8.other W38 (own_ne (by omega))
        have f48 := d9.other W38 (own_ne (by omega))
        have f49 := S.wr W38
        have f50 := E.wr W38
        have f51 := Ot.wr W38
        have z38 : n0 ≤ h38.size := Nat.le_trans zL (Nat.le_of_eq W38.size.symm)
        have N38 := Fr.snoc X38 NL gg2
        have K38 := KL.wr W38 (Or.inr kz2)
        refine own_via (T' := T38) (g' := (mkF m 89 #[.val (.ref aA), .val (.ref b2), .val (.int (Int32.ofNat i)), .val (.ref tx)] [])) (fun _ kt => st38 _ kt) ?_
        have A52 : own_Ar Z h38 b2 (.object "com/example/querent/querent/engine/Type") 3 (fun k => if k < (i + 1) then .ref tx else .null) := A38.congr own_fe5
        refine own_via (T' := T38) (g' := (mkF m 92 #[.val (.ref aA), .val (.ref b2), .val (.int ((Int32.ofNat i) + (1 : Int32))), .val (.ref tx)] [])) (fun _ kt => XS.iinc X38.here hx rfl (hb hby d7_89) rfl (l' := #[.val (.ref aA), .val (.ref b2), .val (.int ((Int32.ofNat i) + (1 : Int32))), .val (.ref tx)]) rfl kt) ?_
        rw [show ((Int32.ofNat i) + (1 : Int32)) = Int32.ofNat (i + 1) from (inc_ofNat i).symm]
        refine own_via (T' := T38) (g' := (mkF m 11 #[.val (.ref aA), .val (.ref b2), .val (.int (Int32.ofNat (i + 1))), .val (.ref tx)] [])) (fun _ kt => XS.goto X38.here hx rfl (pc0 := 92) (pc' := 11) rfl (hb hby d7_92) (by decide) (by decide) kt) ?_
        exact ih (i + 1) (by omega) (.val (.ref tx)) (One.val (w := .ref tx) rfl) T38 h38 _ X38 e38 z38 N38 K38 ⟨f39, f40, f41, f42, f43, f44, f45, f46, f47, f48⟩ f49 f50 A52 f51
  have A53 : own_Ar Z h2 b2 (.object "com/example/querent/querent/engine/Type") 3 (fun k => if k < 0 then .ref tx else .null) := A2.congr (fun k hk => by rw [if_neg (Nat.not_lt_zero k)])
  exact loop 3 0 rfl .unset One.u T2 h2 _ X2 e2 z2 N0 K2 ⟨f3, f4, f5, f6, f7, f8, f9, f10, f11, f12⟩ f13 f14 A53 O2
theorem d9_0 : decode prog_20_method_8_code 0 = .ok (.aload_n 0, 1) := by decide +kernel
theorem d9_1 : decode prog_20_method_8_code 1 = .ok (.getfield 13, 3) := by decide +kernel
theorem d9_4 : decode prog_20_method_8_code 4 = .ok (.iload_n 1, 1) := by decide +kernel
theorem d9_5 : decode prog_20_method_8_code 5 = .ok (.baload, 1) := by decide +kernel
theorem d9_6 : decode prog_20_method_8_code 6 = .ok (.ireturn, 1) := by decide +kernel
theorem pn_9 : plainName "com/example/querent/querent/engine/ColumnTypes" = true := by first | (simp [plainName, overriddenIn]; done) | decide +kernel
theorem ef_9 (m : MethodId) (x0 : Addr) (x1 : Int32) : entryFrame m #[(.ref x0), (.int x1)] 2 = mkF m 0 #[.val (.ref x0), .val (.int x1)] [] := by first | (simp [entryFrame, mkF, argsToLocals, Value.category]; done) | rfl
set_option maxRecDepth 65536 in
set_option maxHeartbeats 40000000 in
theorem rm9 (l : Launch) (Z : State) (a0 : Array Value) (hw : ∀ d ∈ tables_1, d.before a0 Z = true) (ws : List Jvm.Cond) (aA sa ia na ba : Addr) (wA : Value) (qa : Nat → Int32) (hqa : ∀ i, own_bit (qa i)) (k : Nat) (hk : k < 3) (h0 : Heap) (CA : own_CT Z h0 aA sa ia na ba wA (fun i => .int (qa i)) (fun i => .int (own_nt (qa i)))) :
    own_Pure l Z (⟨"com/example/querent/querent/engine/ColumnTypes", "hasValue", "(I)Z"⟩ : MethodName) prog_20_method_8_code 2 (some .boolean) ws ({ frames := 0, cells := 0, slots := 0, locals := 0 } : Room) #[(.ref aA), (.int (Int32.ofNat k))] h0 (some (.int (qa k))) := by
  refine own_body (plainFor_of_name pn_9) ?_
  intro p e s m below meth c T0 hx hby hml hown hnm hret hlk hZ X0 e0
  replace hown : s.vm.findClass "com/example/querent/querent/engine/ColumnTypes" = some m.cls := hown
  replace hret : meth.sig.returnType = (some .boolean) := hret
  replace hnm : meth.name = "hasValue" := hnm
  rw [ef_9 m aA (Int32.ofNat k)]
  obtain ⟨c0, c1, c2, c3, c4, c5, c6, c7, c8, c9⟩ := CA
  refine own_via (T' := T0) (g' := (mkF m 1 #[.val (.ref aA), .val (.int (Int32.ofNat k))] [(.ref aA)])) (fun _ kt => XS.aloadN X0.here hx rfl (hb hby d9_0) rfl rfl kt) ?_
  obtain ⟨T1, X1, e1, st1⟩ := getF X0 hx hZ hown (host := "") (Or.inl (hw _ (List.mem_of_getElem? (i := 22) rfl))) Via.refl e0 c1 (g := (mkF m 1 #[.val (.ref aA), .val (.int (Int32.ofNat k))] [(.ref aA)])) rfl rfl (hb hby d9_1)
  refine own_via (T' := T1) (g' := (mkF m 4 #[.val (.ref aA), .val (.int (Int32.ofNat k))] [(.ref sa)])) (fun _ kt => st1 _ kt) ?_
  refine own_via (T' := T1) (g' := (mkF m 5 #[.val (.ref aA), .val (.int (Int32.ofNat k))] [(.int (Int32.ofNat k)), (.ref sa)])) (fun _ kt => XS.iloadN X1.here hx rfl (hb hby d9_4) rfl kt) ?_
  refine own_via (T' := T1) (g' := (mkF m 6 #[.val (.ref aA), .val (.int (Int32.ofNat k))] [(.int (qa k))])) (fun _ kt => own_baloadZ X1 hx hZ e1 c6 (j := (Int32.ofNat k)) (i := k) rfl hk (g := (mkF m 5 #[.val (.ref aA), .val (.int (Int32.ofNat k))] [(.int (Int32.ofNat k)), (.ref sa)])) rfl rfl (hb hby d9_5) _ kt) ?_
  exact own_retZ X1 hx hret hlk (hb hby d9_6) (own_narb (hqa k)) ⟨rfl, rfl, e1⟩ (by decide) (by decide)
theorem d8_0 : decode method_3_code 0 = .ok (.aload_n 0, 1) := by decide +kernel
theorem d8_1 : decode method_3_code 1 = .ok (.iload_n 2, 1) := by decide +kernel
theorem d8_2 : decode method_3_code 2 = .ok (.invokevirtual 29, 3) := by decide +kernel
theorem d8_5 : decode method_3_code 5 = .ok (.iload_n 3, 1) := by decide +kernel
theorem d8_6 : decode method_3_code 6 = .ok (.if_icmp .ne 16, 3) := by decide +kernel
theorem d8_9 : decode method_3_code 9 = .ok (.aload_n 1, 1) := by decide +kernel
theorem d8_10 : decode method_3_code 10 = .ok (.iload_n 2, 1) := by decide +kernel
theorem d8_11 : decode method_3_code 11 = .ok (.aaload, 1) := by decide +kernel
theorem d8_12 : decode method_3_code 12 = .ok (.getstatic 33, 3) := by decide +kernel
theorem d8_15 : decode method_3_code 15 = .ok (.if_acmp .ne 7, 3) := by decide +kernel
theorem d8_18 : decode method_3_code 18 = .ok (.iconst 1, 1) := by decide +kernel
theorem d8_19 : decode method_3_code 19 = .ok (.goto 4, 3) := by decide +kernel
theorem d8_23 : decode method_3_code 23 = .ok (.ireturn, 1) := by decide +kernel
theorem pn_8 : plainName "com/example/querent/querent/engine/ColumnTypesAddAllPinLaw" = true := by first | (simp [plainName, overriddenIn]; done) | decide +kernel
theorem ef_8 (m : MethodId) (x0 : Addr) (x1 : Addr) (x2 : Int32) (x3 : Int32) : entryFrame m #[(.ref x0), (.ref x1), (.int x2), (.int x3)] 4 = mkF m 0 #[.val (.ref x0), .val (.ref x1), .val (.int x2), .val (.int x3)] [] := by first | (simp [entryFrame, mkF, argsToLocals, Value.category]; done) | rfl
set_option maxRecDepth 65536 in
set_option maxHeartbeats 40000000 in
theorem rm8 (l : Launch) (Z : State) (a0 : Array Value) (hw : ∀ d ∈ tables_1, d.before a0 Z = true) (ws : List Jvm.Cond) (aA sa ia na ba tb : Addr) (wA : Value) (qa : Nat → Int32) (hqa : ∀ i, own_bit (qa i)) (k : Nat) (hk : k < 3) (sv : Int32) (hv : qa k = sv) (tx : Addr) (h0 : Heap) (CA : own_CT Z h0 aA sa ia na ba wA (fun i => .int (qa i)) (fun i => .int (own_nt (qa i)))) (At : own_Ar Z h0 tb (.object "com/example/querent/querent/engine/Type") 3 (fun _ => .ref tx)) (S : Sta Z h0 "com/example/querent/querent/engine/Type" "TEXT" "Lcom/example/querent/querent/engine/Type;" (.ref tx)) :
    own_Pure l Z (⟨"com/example/querent/querent/engine/ColumnTypesAddAllPinLaw", "col", "(Lcom/example/querent/querent/engine/ColumnTypes;[Lcom/example/querent/querent/engine/Type;IZ)Z"⟩ : MethodName) method_3_code 4 (some .boolean) ws ({ frames := 1, cells := 0, slots := 0, locals := 13 } : Room) #[(.ref aA), (.ref tb), (.int (Int32.ofNat k)), (.int sv)] h0 (some (.int 1)) := by
  refine own_body (plainFor_of_name pn_8) ?_
  intro p e s m below meth c T0 hx hby hml hown hnm hret hlk hZ X0 e0
  replace hown : s.vm.findClass "com/example/querent/querent/engine/ColumnTypesAddAllPinLaw" = some m.cls := hown
  replace hret : meth.sig.returnType = (some .boolean) := hret
  replace hnm : meth.name = "col" := hnm
  rw [ef_8 m aA tb (Int32.ofNat k) sv]
  refine own_via (T' := T0) (g' := (mkF m 1 #[.val (.ref aA), .val (.ref tb), .val (.int (Int32.ofNat k)), .val (.int sv)] [(.ref aA)])) (fun _ kt => XS.aloadN X0.here hx rfl (hb hby d8_0) rfl rfl kt) ?_
  refine own_via (T' := T0) (g' := (mkF m 2 #[.val (.ref aA), .val (.ref tb), .val (.int (Int32.ofNat k)), .val (.int sv)] [(.int (Int32.ofNat k)), (.ref aA)])) (fun _ kt => XS.iloadN X0.here hx rfl (hb hby d8_1) rfl kt) ?_
  obtain ⟨v1, T1, L1, X1, hQ1, st1⟩ := own_callV X0 hx hZ (y := (⟨"com/example/querent/querent/engine/ColumnTypes", "hasValue", "(I)Z"⟩ : MethodName)) (z := (⟨"com/example/querent/querent/engine/ColumnTypes", "hasValue", "(I)Z"⟩ : MethodName)) hown (hw _ (List.mem_of_getElem? (i := 59) rfl)) (hw _ (List.mem_of_getElem? (i := 60) rfl)) (notFace_of_selects (args := #[]) (mvT hZ (hw _ (List.mem_of_getElem? (i := 62) rfl)))) (hw _ (List.mem_of_getElem? (i := 62) rfl)) (hw _ (List.mem_of_getElem? (i := 61) rfl)) (hw _ (List.mem_of_getElem? (i := 3) rfl)) (hw _ (List.mem_of_getElem? (i := 63) rfl)) (by decide) (b := aA) (W := 0) (argsL := [(.int (Int32.ofNat k))]) (rest := []) (rm9 l Z a0 hw [] aA sa ia na ba wA qa hqa k hk h0 CA) (by decide) (by decide) (by decide) (by decide) e0 CA.1 (g := (mkF m 2 #[.val (.ref aA), .val (.ref tb), .val (.int (Int32.ofNat k)), .val (.int sv)] [(.int (Int32.ofNat k)), (.ref aA)])) rfl (by rw [hml]; rfl) (lenOf pd_3 rfl) rfl (by show 2 * 0 + _ ≤ _; exact Nat.le_of_eq rfl) (hb hby d8_2)
  obtain ⟨rfl, hL1, e1⟩ := hQ1
  replace X1 := own_pure (v := none) (r := none) X1 rfl rfl hL1
  refine own_via (T' := T1) (g' := (mkF m 5 #[.val (.ref aA), .val (.ref tb), .val (.int (Int32.ofNat k)), .val (.int sv)] [(.int (qa k))])) (fun _ kt => st1 _ kt) ?_
  refine own_via (T' := T1) (g' := (mkF m 6 #[.val (.ref aA), .val (.ref tb), .val (.int (Int32.ofNat k)), .val (.int sv)] [(.int sv), (.int (qa k))])) (fun _ kt => XS.iloadN X1.here hx rfl (hb hby d8_5) rfl kt) ?_
  refine own_via (T' := T1) (g' := (mkF m 9 #[.val (.ref aA), .val (.ref tb), .val (.int (Int32.ofNat k)), .val (.int sv)] [])) (fun _ kt => XS.icmpNo X1.here hx rfl (hb hby d8_6) rfl (teq hv).2 kt) ?_
  refine own_via (T' := T1) (g' := (mkF m 10 #[.val (.ref aA), .val (.ref tb), .val (.int (Int32.ofNat k)), .val (.int sv)] [(.ref tb)])) (fun _ kt => XS.aloadN X1.here hx rfl (hb hby d8_9) rfl rfl kt) ?_
  refine own_via (T' := T1) (g' := (mkF m 11 #[.val (.ref aA), .val (.ref tb), .val (.int (Int32.ofNat k)), .val (.int sv)] [(.int (Int32.ofNat k)), (.ref tb)])) (fun _ kt => XS.iloadN X1.here hx rfl (hb hby d8_10) rfl kt) ?_
  refine own_via (T' := T1) (g' := (mkF m 12 #[.val (.ref aA), .val (.ref tb), .val (.int (Int32.ofNat k)), .val (.int sv)] [(.ref tx)])) (fun _ kt => own_aaload X1 hx hZ e1 At rfl (j := (Int32.ofNat k)) (i := k) rfl hk (g := (mkF m 11 #[.val (.ref aA), .val (.ref tb), .val (.int (Int32.ofNat k)), .val (.int sv)] [(.int (Int32.ofNat k)), (.ref tb)])) rfl rfl (hb hby d8_11) _ kt) ?_
  obtain ⟨T2, X2, e2, st2⟩ := getS2 X1 hx hZ hown (host := "") (Or.inl (hw _ (List.mem_of_getElem? (i := 64) rfl))) Via.refl e1 S (g := (mkF m 12 #[.val (.ref aA), .val (.ref tb), .val (.int (Int32.ofNat k)), .val (.int sv)] [(.ref tx)])) rfl (hb hby d8_12)
  refine own_via (T' := T2) (g' := (mkF m 15 #[.val (.ref aA), .val (.ref tb), .val (.int (Int32.ofNat k)), .val (.int sv)] [(.ref tx), (.ref tx)])) (fun _ kt => st2 _ kt) ?_
  refine own_via (T' := T2) (g' := (mkF m 18 #[.val (.ref aA), .val (.ref tb), .val (.int (Int32.ofNat k)), .val (.int sv)] [])) (fun _ kt => Jvm.RoadKit.acmp (g := (mkF m 15 #[.val (.ref aA), .val (.ref tb), .val (.int (Int32.ofNat k)), .val (.int sv)] [(.ref tx), (.ref tx)])) X2 hx rfl rfl rfl (pc0 := 15) (pc' := 18) (same := true) rfl (hb hby d8_15) rfl (decide_eq_true rfl) (by decide) (by decide) kt) ?_
  refine own_via (T' := T2) (g' := (mkF m 19 #[.val (.ref aA), .val (.ref tb), .val (.int (Int32.ofNat k)), .val (.int sv)] [(.int (1 : Int32))])) (fun _ kt => XS.iconst X2.here hx rfl (hb hby d8_18) kt) ?_
  refine own_via (T' := T2) (g' := (mkF m 23 #[.val (.ref aA), .val (.ref tb), .val (.int (Int32.ofNat k)), .val (.int sv)] [(.int (1 : Int32))])) (fun _ kt => XS.goto X2.here hx rfl (pc0 := 19) (pc' := 23) rfl (hb hby d8_19) (by decide) (by decide) kt) ?_
  exact own_retZ X2 hx hret hlk (hb hby d8_23) (by decide) ⟨rfl, rfl, e2⟩ (by decide) (by decide)
theorem pn_0 : plainName "com/example/querent/querent/engine/ColumnTypesAddAllPinLaw" = true := by first | (simp [plainName, overriddenIn]; done) | decide +kernel
theorem ef_0 (m : MethodId) (x0 : Int32) (x1 : Int32) : entryFrame m #[(.int x0), (.int x1)] maxLocals = mkF m 0 #[.val (.int x0), .val (.int x1), .unset, .unset, .unset, .unset, .unset, .unset, .unset, .unset, .unset] [] := by first | (simp [entryFrame, mkF, argsToLocals, Value.category, maxLocals]; done) | rfl
set_option maxRecDepth 65536 in
set_option maxHeartbeats 40000000 in
theorem rm0 (l : Launch) (Z : State) (a0 : Array Value) (hw : ∀ d ∈ tables_1, d.before a0 Z = true) (ws : List Jvm.Cond) (p1 p2 : Int32) (tx : Addr) (h0 : Heap) (n0 : Nat) (Z0 : n0 ≤ h0.size) (O0 : Old Z n0 h0) (S0 : Sta Z Z.heap "com/example/querent/querent/engine/Type" "TEXT" "Lcom/example/querent/querent/engine/Type;" (.ref tx)) (E0 : Exa Z Z.heap tx "com/example/querent/querent/engine/Type") :
    own_Con l Z x code maxLocals ret ws room_1 #[(.int p1), (.int p2)] h0 (fun v h L => v = some (.int 1) ∧ Fr n0 L) := by
  refine own_body (plainFor_of_name pn_0) ?_
  intro p e s m below meth c T0 hx hby hml hown hnm hret hlk hZ X0 e0
  replace hown : s.vm.findClass "com/example/querent/querent/engine/ColumnTypesAddAllPinLaw" = some m.cls := hown
  replace hret : meth.sig.returnType = (some .boolean) := hret
  replace hnm : meth.name = "law" := hnm
  rw [ef_0 m p1 p2]
  have N0 := Fr.nil n0
  have HJ1 : ∀ v1 : Int32, own_bit v1 → own_Ends p e below (own_Fin below s room_1.cells room_1.slots (fun v h L => v = some (.int 1) ∧ Fr n0 L)) T0 (mkF m 12 #[.val (.int p1), .val (.int p2), .unset, .unset, .unset, .unset, .unset, .unset, .unset, .unset, .unset] [(.int v1)]) := by
    intro v1 hv1
    refine own_via (T' := T0) (g' := (mkF m 13 #[.val (.int p1), .val (.int p2), .val (.int v1), .unset, .unset, .unset, .unset, .unset, .unset, .unset, .unset] [])) (fun _ kt => XS.istoreN X0.here hx rfl (hb hby at_12) rfl (l' := #[.val (.int p1), .val (.int p2), .val (.int v1), .unset, .unset, .unset, .unset, .unset, .unset, .unset, .unset]) rfl kt) ?_
    have HJ2 : ∀ v2 : Int32, own_bit v2 → own_Ends p e below (own_Fin below s room_1.cells room_1.slots (fun v h L => v = some (.int 1) ∧ Fr n0 L)) T0 (mkF m 25 #[.val (.int p1), .val (.int p2), .val (.int v1), .unset, .unset, .unset, .unset, .unset, .unset, .unset, .unset] [(.int v2)]) := by
      intro v2 hv2
      refine own_via (T' := T0) (g' := (mkF m 27 #[.val (.int p1), .val (.int p2), .val (.int v1), .val (.int v2), .unset, .unset, .unset, .unset, .unset, .unset, .unset] [(.int (3 : Int32))])) (fun _ kt => XS.istoreN X0.here hx rfl (hb hby at_25) rfl (l' := #[.val (.int p1), .val (.int p2), .val (.int v1), .val (.int v2), .unset, .unset, .unset, .unset, .unset, .unset, .unset]) rfl (XS.iconst X0.here hx rfl (hb hby at_26) kt)) ?_
      obtain ⟨T3, h3, b3, gb3, X3, e3, E3, A3, Ex3, st3⟩ := own_newarrE X0 hx hZ (hw _ (List.mem_of_getElem? (i := 0) rfl)) e0 (g := (mkF m 27 #[.val (.int p1), .val (.int p2), .val (.int v1), .val (.int v2), .unset, .unset, .unset, .unset, .unset, .unset, .unset] [(.int (3 : Int32))])) rfl (hb hby at_27) (j := (3 : Int32)) (n := 3) rfl (by decide) rfl (by decide) (by decide) (ad := "[Z") (by decide)
      have gg3 : n0 ≤ b3 := Nat.le_trans Z0 (Nat.le_of_eq gb3.symm)
      have f4 := O0.ext E3
      have z3 : n0 ≤ h3.size := Nat.le_trans Z0 E3.1
      replace A3 : own_Ar Z h3 b3 .boolean 3 (fun _ => .int 0) := A3
      refine own_via (T' := T3) (g' := (mkF m 31 #[.val (.int p1), .val (.int p2), .val (.int v1), .val (.int v2), .unset, .unset, .unset, .unset, .unset, .unset, .unset] [(.int (0 : Int32)), (.ref b3), (.ref b3)])) (fun _ kt => st3 _ (XS.dup X3.here hx rfl (hb hby at_29) rfl rfl (XS.iconst X3.here hx rfl (hb hby at_30) kt))) ?_
      have HJ5 : ∀ v5 : Int32, own_bit v5 → own_Ends p e below (own_Fin below s room_1.cells room_1.slots (fun v h L => v = some (.int 1) ∧ Fr n0 L)) T3 (mkF m 42 #[.val (.int p1), .val (.int p2), .val (.int v1), .val (.int v2), .unset, .unset, .unset, .unset, .unset, .unset, .unset] [(.int v5), (.int (0 : Int32)), (.ref b3), (.ref b3)]) := by
        intro v5 hv5
        obtain ⟨T6, h6, X6, e6, W6, A6, st6⟩ := own_bastoreZ X3 hx hZ e3 A3 (j := (0 : Int32)) (i := 0) rfl (by decide) (r := v5) (own_narb hv5) (g := (mkF m 42 #[.val (.int p1), .val (.int p2), .val (.int v1), .val (.int v2), .unset, .unset, .unset, .unset, .unset, .unset, .unset] [(.int v5), (.int (0 : Int32)), (.ref b3), (.ref b3)])) rfl rfl (hb hby at_42)
        have f7 := f4.wr W6 gg3
        have f8 := Ex3.wr W6
        have z6 : n0 ≤ h6.size := Nat.le_trans z3 (Nat.le_of_eq W6.size.symm)
        have N6 := Fr.snoc X6 N0 gg3
        refine own_via (T' := T6) (g' := (mkF m 45 #[.val (.int p1), .val (.int p2), .val (.int v1), .val (.int v2), .unset, .unset, .unset, .unset, .unset, .unset, .unset] [(.int (1 : Int32)), (.ref b3), (.ref b3)])) (fun _ kt => st6 _ (XS.dup X6.here hx rfl (hb hby at_43) rfl rfl (XS.iconst X6.here hx rfl (hb hby at_44) kt))) ?_
        have HJ9 : ∀ v9 : Int32, own_bit v9 → own_Ends p e below (own_Fin below s room_1.cells room_1.slots (fun v h L => v = some (.int 1) ∧ Fr n0 L)) T6 (mkF m 56 #[.val (.int p1), .val (.int p2), .val (.int v1), .val (.int v2), .unset, .unset, .unset, .unset, .unset, .unset, .unset] [(.int v9), (.int (1 : Int32)), (.ref b3), (.ref b3)]) := by
          intro v9 hv9
          obtain ⟨T10, h10, X10, e10, W10, A10, st10⟩ := own_bastoreZ X6 hx hZ e6 A6 (j := (1 : Int32)) (i := 1) rfl (by decide) (r := v9) (own_narb hv9) (g := (mkF m 56 #[.val (.int p1), .val (.int p2), .val (.int v1), .val (.int v2), .unset, .unset, .unset, .unset, .unset, .unset, .unset] [(.int v9), (.int (1 : Int32)), (.ref b3), (.ref b3)])) rfl rfl (hb hby at_56)
          have f11 := f7.wr W10 gg3
          have f12 := f8.wr W10
          have z10 : n0 ≤ h10.size := Nat.le_trans z6 (Nat.le_of_eq W10.size.symm)
          have N10 := Fr.snoc X10 N6 gg3
          refine own_via (T' := T10) (g' := (mkF m 59 #[.val (.int p1), .val (.int p2), .val (.int v1), .val (.int v2), .unset, .unset, .unset, .unset, .unset, .unset, .unset] [(.int (2 : Int32)), (.ref b3), (.ref b3)])) (fun _ kt => st10 _ (XS.dup X10.here hx rfl (hb hby at_57) rfl rfl (XS.iconst X10.here hx rfl (hb hby at_58) kt))) ?_
          have HJ13 : ∀ v13 : Int32, own_bit v13 → own_Ends p e below (own_Fin below s room_1.cells room_1.slots (fun v h L => v = some (.int 1) ∧ Fr n0 L)) T10 (mkF m 70 #[.val (.int p1), .val (.int p2), .val (.int v1), .val (.int v2), .unset, .unset, .unset, .unset, .unset, .unset, .unset] [(.int v13), (.int (2 : Int32)), (.ref b3), (.ref b3)]) := by
            intro v13 hv13
            obtain ⟨T14, h14, X14, e14, W14, A14, st14⟩ := own_bastoreZ X10 hx hZ e10 A10 (j := (2 : Int32)) (i := 2) rfl (by decide) (r := v13) (own_narb hv13) (g := (mkF m 70 #[.val (.int p1), .val (.int p2), .val (.int v1), .val (.int v2), .unset, .unset, .unset, .unset, .unset, .unset, .unset] [(.int v13), (.int (2 : Int32)), (.ref b3), (.ref b3)])) rfl rfl (hb hby at_70)
            have f15 := f11.wr W14 gg3
            have f16 := f12.wr W14
            have z14 : n0 ≤ h14.size := Nat.le_trans z10 (Nat.le_of_eq W14.size.symm)
            have N14 := Fr.snoc X14 N10 gg3
            refine own_via (T' := T14) (g' := (mkF m 71 #[.val (.int p1), .val (.int p2), .val (.int v1), .val (.int v2), .unset, .unset, .unset, .unset, .unset, .unset, .unset] [(.ref b3)])) (fun _ kt => st14 _ kt) ?_
            obtain ⟨rb, Arb, hrb⟩ : ∃ q : Nat → Int32, own_Ar Z h14 b3 .boolean 3 (fun i => .int (q i)) ∧ ∀ i, own_bit (q i) := ⟨own_b3 v5 v9 v13, A14.congr (own_each rfl rfl rfl), own_b3b hv5 hv9 hv13⟩
            refine own_via (T' := T14) (g' := (mkF m 74 #[.val (.int p1), .val (.int p2), .val (.int v1), .val (.int v2), .val (.ref b3), .unset, .unset, .unset, .unset, .unset, .unset] [(.int (3 : Int32))])) (fun _ kt => XS.astore X14.here hx rfl (hb hby at_71) rfl rfl (l' := #[.val (.int p1), .val (.int p2), .val (.int v1), .val (.int v2), .val (.ref b3), .unset, .unset, .unset, .unset, .unset, .unset]) rfl (XS.iconst X14.here hx rfl (hb hby at_73) kt)) ?_
            obtain ⟨T17, h17, b17, gb17, X17, e17, E17, A17, Ex17, st17⟩ := own_newarrE X14 hx hZ (hw _ (List.mem_of_getElem? (i := 0) rfl)) e14 (g := (mkF m 74 #[.val (.int p1), .val (.int p2), .val (.int v1), .val (.int v2), .val (.ref b3), .unset, .unset, .unset, .unset, .unset, .unset] [(.int (3 : Int32))])) rfl (hb hby at_74) (j := (3 : Int32)) (n := 3) rfl (by decide) rfl (by decide) (by decide) (ad := "[Z") (by decide)
            have lt_b3_b17 : @LT.lt Nat _ b3 b17 := Nat.lt_of_lt_of_le Arb.lt (Nat.le_of_eq gb17.symm)
            have gg17 : n0 ≤ b17 := Nat.le_trans z14 (Nat.le_of_eq gb17.symm)
            have f18 := f15.ext E17
            have f19 := Arb.ext E17
            have f20 := f16.ext E17
            have z17 : n0 ≤ h17.size := Nat.le_trans z14 E17.1
            replace A17 : own_Ar Z h17 b17 .boolean 3 (fun _ => .int 0) := A17
            refine own_via (T' := T17) (g' := (mkF m 78 #[.val (.int p1), .val (.int p2), .val (.int v1), .val (.int v2), .val (.ref b3), .unset, .unset, .unset, .unset, .unset, .unset] [(.int (0 : Int32)), (.ref b17), (.ref b17)])) (fun _ kt => st17 _ (XS.dup X17.here hx rfl (hb hby at_76) rfl rfl (XS.iconst X17.here hx rfl (hb hby at_77) kt))) ?_
            have HJ21 : ∀ v21 : Int32, own_bit v21 → own_Ends p e below (own_Fin below s room_1.cells room_1.slots (fun v h L => v = some (.int 1) ∧ Fr n0 L)) T17 (mkF m 89 #[.val (.int p1), .val (.int p2), .val (.int v1), .val (.int v2), .val (.ref b3), .unset, .unset, .unset, .unset, .unset, .unset] [(.int v21), (.int (0 : Int32)), (.ref b17), (.ref b17)]) := by
              intro v21 hv21
              obtain ⟨T22, h22, X22, e22, W22, A22, st22⟩ := own_bastoreZ X17 hx hZ e17 A17 (j := (0 : Int32)) (i := 0) rfl (by decide) (r := v21) (own_narb hv21) (g := (mkF m 89 #[.val (.int p1), .val (.int p2), .val (.int v1), .val (.int v2), .val (.ref b3), .unset, .unset, .unset, .unset, .unset, .unset] [(.int v21), (.int (0 : Int32)), (.ref b17), (.ref b17)])) rfl rfl (hb hby at_89)
              have f23 := f18.wr W22 gg17
              have f24 := f19.other W22 (own_ne (by omega))
              have f25 := f20.wr W22
              have f26 := Ex17.wr W22
              have z22 : n0 ≤ h22.size := Nat.le_trans z17 (Nat.le_of_eq W22.size.symm)
              have N22 := Fr.snoc X22 N14 gg17
              refine own_via (T' := T22) (g' := (mkF m 92 #[.val (.int p1), .val (.int p2), .val (.int v1), .val (.int v2), .val (.ref b3), .unset, .unset, .unset, .unset, .unset, .unset] [(.int (1 : Int32)), (.ref b17), (.ref b17)])) (fun _ kt => st22 _ (XS.dup X22.here hx rfl (hb hby at_90) rfl rfl (XS.iconst X22.here hx rfl (hb hby at_91) kt))) ?_
              have HJ27 : ∀ v27 : Int32, own_bit v27 → own_Ends p e below (own_Fin below s room_1.cells room_1.slots (fun v h L => v = some (.int 1) ∧ Fr n0 L)) T22 (mkF m 103 #[.val (.int p1), .val (.int p2), .val (.int v1), .val (.int v2), .val (.ref b3), .unset, .unset, .unset, .unset, .unset, .unset] [(.int v27), (.int (1 : Int32)), (.ref b17), (.ref b17)]) := by
                intro v27 hv27
                obtain ⟨T28, h28, X28, e28, W28, A28, st28⟩ := own_bastoreZ X22 hx hZ e22 A22 (j := (1 : Int32)) (i := 1) rfl (by decide) (r := v27) (own_narb hv27) (g := (mkF m 103 #[.val (.int p1), .val (.int p2), .val (.int v1), .val (.int v2), .val (.ref b3), .unset, .unset, .unset, .unset, .unset, .unset] [(.int v27), (.int (1 : Int32)), (.ref b17), (.ref b17)])) rfl rfl (hb hby at_103)
                have f29 := f23.wr W28 gg17
                have f30 := f24.other W28 (own_ne (by omega))
                have f31 := f25.wr W28
                have f32 := f26.wr W28
                have z28 : n0 ≤ h28.size := Nat.le_trans z22 (Nat.le_of_eq W28.size.symm)
                have N28 := Fr.snoc X28 N22 gg17
                refine own_via (T' := T28) (g' := (mkF m 106 #[.val (.int p1), .val (.int p2), .val (.int v1), .val (.int v2), .val (.ref b3), .unset, .unset, .unset, .unset, .unset, .unset] [(.int (2 : Int32)), (.ref b17), (.ref b17)])) (fun _ kt => st28 _ (XS.dup X28.here hx rfl (hb hby at_104) rfl rfl (XS.iconst X28.here hx rfl (hb hby at_105) kt))) ?_
                have HJ33 : ∀ v33 : Int32, own_bit v33 → own_Ends p e below (own_Fin below s room_1.cells room_1.slots (fun v h L => v = some (.int 1) ∧ Fr n0 L)) T28 (mkF m 117 #[.val (.int p1), .val (.int p2), .val (.int v1), .val (.int v2), .val (.ref b3), .unset, .unset, .unset, .unset, .unset, .unset] [(.int v33), (.int (2 : Int32)), (.ref b17), (.ref b17)]) := by
                  intro v33 hv33
                  obtain ⟨T34, h34, X34, e34, W34, A34, st34⟩ := own_bastoreZ X28 hx hZ e28 A28 (j := (2 : Int32)) (i := 2) rfl (by decide) (r := v33) (own_narb hv33) (g := (mkF m 117 #[.val (.int p1), .val (.int p2), .val (.int v1), .val (.int v2), .val (.ref b3), .unset, .unset, .unset, .unset, .unset, .unset] [(.int v33), (.int (2 : Int32)), (.ref b17), (.ref b17)])) rfl rfl (hb hby at_117)
                  have f35 := f29.wr W34 gg17
                  have f36 := f30.other W34 (own_ne (by omega))
                  have f37 := f31.wr W34
                  have f38 := f32.wr W34
                  have z34 : n0 ≤ h34.size := Nat.le_trans z28 (Nat.le_of_eq W34.size.symm)
                  have N34 := Fr.snoc X34 N28 gg17
                  refine own_via (T' := T34) (g' := (mkF m 118 #[.val (.int p1), .val (.int p2), .val (.int v1), .val (.int v2), .val (.ref b3), .unset, .unset, .unset, .unset, .unset, .unset] [(.ref b17)])) (fun _ kt => st34 _ kt) ?_
                  obtain ⟨ob, Aob, hob⟩ : ∃ q : Nat → Int32, own_Ar Z h34 b17 .boolean 3 (fun i => .int (q i)) ∧ ∀ i, own_bit (q i) := ⟨own_b3 v21 v27 v33, A34.congr (own_each rfl rfl rfl), own_b3b hv21 hv27 hv33⟩
                  refine own_via (T' := T34) (g' := (mkF m 121 #[.val (.int p1), .val (.int p2), .val (.int v1), .val (.int v2), .val (.ref b3), .val (.ref b17), .unset, .unset, .unset, .unset, .unset] [(.int v1)])) (fun _ kt => XS.astore X34.here hx rfl (hb hby at_118) rfl rfl (l' := #[.val (.int p1), .val (.int p2), .val (.int v1), .val (.int v2), .val (.ref b3), .val (.ref b17), .unset, .unset, .unset, .unset, .unset]) rfl (XS.iloadN X34.here hx rfl (hb hby at_120) rfl kt)) ?_
                  by_cases hc121_39 : v1 = (0 : Int32)
                  · refine own_via (T' := T34) (g' := (mkF m 135 #[.val (.int p1), .val (.int p2), .val (.int v1), .val (.int v2), .val (.ref b3), .val (.ref b17), .unset, .unset, .unset, .unset, .unset] [])) (fun _ kt => XS.ifYes X34.here hx rfl (pc0 := 121) (pc' := 135) rfl (hb hby at_121) rfl ((if0 _ _).trans (teq hc121_39).1) (by decide) (by decide) kt) ?_
                    obtain ⟨T40, h40, X40, e40, E40, A40, D40, -, st40⟩ := newO X34 hx hZ hown (hw _ (List.mem_of_getElem? (i := 1) rfl)) (hw _ (List.mem_of_getElem? (i := 2) rfl)) (hw _ (List.mem_of_getElem? (i := 3) rfl)) e34 (g := (mkF m 135 #[.val (.int p1), .val (.int p2), .val (.int v1), .val (.int v2), .val (.ref b3), .val (.ref b17), .unset, .unset, .unset, .unset, .unset] [])) rfl (hb hby at_135) (by decide) (by decide)
                    obtain ⟨b40, gb40⟩ : ∃ z, z = h34.size := ⟨_, rfl⟩
                    rw [← gb40] at A40 D40 st40
                    have lt_b3_b40 : @LT.lt Nat _ b3 b40 := Nat.lt_of_lt_of_le f36.lt (Nat.le_of_eq gb40.symm)
                    have lt_b17_b40 : @LT.lt Nat _ b17 b40 := Nat.lt_of_lt_of_le Aob.lt (Nat.le_of_eq gb40.symm)
                    have gg40 : n0 ≤ b40 := Nat.le_trans z34 (Nat.le_of_eq gb40.symm)
                    have f41 := f35.ext E40
                    have f42 := f36.ext E40
                    have f43 := f37.ext E40
                    have f44 := Aob.ext E40
                    have f45 := f38.ext E40
                    have z40 : n0 ≤ h40.size := Nat.le_trans z34 E40.1
                    have f46 : Fld Z h40 b40 "com/example/querent/querent/engine/ColumnTypes" "seen" "[Z" .null := D40 (Or.inr (hw _ (List.mem_of_getElem? (i := 23) rfl))) (ty := (.array .boolean)) (by decide)
                    have f47 : Fld Z h40 b40 "com/example/querent/querent/engine/ColumnTypes" "integers" "[Z" .null := D40 (Or.inr (hw _ (List.mem_of_getElem? (i := 32) rfl))) (ty := (.array .boolean)) (by decide)
                    have f48 : Fld Z h40 b40 "com/example/querent/querent/engine/ColumnTypes" "numbers" "[Z" .null := D40 (Or.inr (hw _ (List.mem_of_getElem? (i := 34) rfl))) (ty := (.array .boolean)) (by decide)
                    have f49 : Fld Z h40 b40 "com/example/querent/querent/engine/ColumnTypes" "booleans" "[Z" .null := D40 (Or.inr (hw _ (List.mem_of_getElem? (i := 36) rfl))) (ty := (.array .boolean)) (by decide)
                    have f50 : Fld Z h40 b40 "com/example/querent/querent/engine/ColumnTypes" "watched" "[Z" .null := D40 (Or.inr (hw _ (List.mem_of_getElem? (i := 38) rfl))) (ty := (.array .boolean)) (by decide)
                    refine own_via (T' := T40) (g' := (mkF m 141 #[.val (.int p1), .val (.int p2), .val (.int v1), .val (.int v2), .val (.ref b3), .val (.ref b17), .unset, .unset, .unset, .unset, .unset] [(.ref b3), (.ref b40), (.ref b40)])) (fun _ kt => st40 _ (XS.dup X40.here hx rfl (hb hby at_138) rfl rfl (XS.aload X40.here hx rfl (hb hby at_139) rfl rfl kt))) ?_
                    obtain ⟨v51, T51, L51, X51, hQ51, st51⟩ := own_callI X40 hx hZ (y := (⟨"com/example/querent/querent/engine/ColumnTypes", "<init>", "([Z)V"⟩ : MethodName)) rfl hown (hw _ (List.mem_of_getElem? (i := 4) rfl)) (hw _ (List.mem_of_getElem? (i := 5) rfl)) (hw _ (List.mem_of_getElem? (i := 3) rfl)) (hw _ (List.mem_of_getElem? (i := 6) rfl)) (by decide) (b := b40) (W := 1) (argsL := [(.ref b3)]) (rest := [(.ref b40)]) (rm1 l Z a0 hw [] b3 rb hrb b40 _ _ _ _ _ h40 n0 z40 gg40 A40 f46 f47 f48 f49 f50 f42 f43 (by omega)) (by decide) (by decide) (by decide) (by decide) e40 (g := (mkF m 141 #[.val (.int p1), .val (.int p2), .val (.int v1), .val (.int v2), .val (.ref b3), .val (.ref b17), .unset, .unset, .unset, .unset, .unset] [(.ref b3), (.ref b40), (.ref b40)])) rfl (by rw [hml]; rfl) (lenOf pd_4 rfl) rfl (by show 2 * 0 + _ ≤ _; exact Nat.le_of_eq rfl) (hb hby at_141)
                    obtain ⟨wta, sna, ita, nma, bla, owa, o1a, o2a, o3a, o4a, rfl, Nq51, Kq51, Cq51, Wq51⟩ := hQ51
                    have lt_b3_wta : @LT.lt Nat _ b3 wta := Nat.lt_of_lt_of_le f42.lt owa
                    have lt_b17_wta : @LT.lt Nat _ b17 wta := Nat.lt_of_lt_of_le f44.lt owa
                    have lt_b40_wta : @LT.lt Nat _ b40 wta := Nat.lt_of_lt_of_le A40.lt owa
                    have zwta : n0 ≤ wta := Nat.le_trans z40 owa
                    have f52 := f41.keep Kq51 (allS gg40 all0)
                    have f53 := f42.keep Kq51 (ninS (own_ne (by omega)) nin0)
                    have f54 := f43.keep Kq51
                    have f55 := f44.keep Kq51 (ninS (own_ne (by omega)) nin0)
                    have f56 := f45.keep Kq51
                    have f57 := A40.keep Kq51
                    have z51 : n0 ≤ T51.heap.size := Nat.le_trans z40 Kq51.1
                    have N51 := Fr.app N34 Nq51
                    refine own_via (T' := T51) (g' := (mkF m 147 #[.val (.int p1), .val (.int p2), .val (.int v1), .val (.int v2), .val (.ref b3), .val (.ref b17), .val (.ref b40), .unset, .unset, .unset, .unset] [(.int v2)])) (fun _ kt => st51 _ (XS.astore X51.here hx rfl (hb hby at_144) rfl rfl (l' := #[.val (.int p1), .val (.int p2), .val (.int v1), .val (.int v2), .val (.ref b3), .val (.ref b17), .val (.ref b40), .unset, .unset, .unset, .unset]) rfl (XS.iloadN X51.here hx rfl (hb hby at_146) rfl kt))) ?_
                    by_cases hc147_58 : v2 = (0 : Int32)
                    · refine own_via (T' := T51) (g' := (mkF m 161 #[.val (.int p1), .val (.int p2), .val (.int v1), .val (.int v2), .val (.ref b3), .val (.ref b17), .val (.ref b40), .unset, .unset, .unset, .unset] [])) (fun _ kt => XS.ifYes X51.here hx rfl (pc0 := 147) (pc' := 161) rfl (hb hby at_147) rfl ((if0 _ _).trans (teq hc147_58).1) (by decide) (by decide) kt) ?_
                      obtain ⟨T59, h59, X59, e59, E59, A59, D59, -, st59⟩ := newO X51 hx hZ hown (hw _ (List.mem_of_getElem? (i := 1) rfl)) (hw _ (List.mem_of_getElem? (i := 2) rfl)) (hw _ (List.mem_of_getElem? (i := 3) rfl)) rfl (g := (mkF m 161 #[.val (.int p1), .val (.int p2), .val (.int v1), .val (.int v2), .val (.ref b3), .val (.ref b17), .val (.ref b40), .unset, .unset, .unset, .unset] [])) rfl (hb hby at_161) (by decide) (by decide)
                      obtain ⟨b59, gb59⟩ : ∃ z, z = T51.heap.size := ⟨_, rfl⟩
                      rw [← gb59] at A59 D59 st59
                      have lt_b3_b59 : @LT.lt Nat _ b3 b59 := Nat.lt_of_lt_of_le f53.lt (Nat.le_of_eq gb59.symm)
                      have lt_b17_b59 : @LT.lt Nat _ b17 b59 := Nat.lt_of_lt_of_le f55.lt (Nat.le_of_eq gb59.symm)
                      have lt_b40_b59 : @LT.lt Nat _ b40 b59 := Nat.lt_of_lt_of_le Cq51.lt_a (Nat.le_of_eq gb59.symm)
                      have lt_sna_b59 : @LT.lt Nat _ sna b59 := Nat.lt_of_lt_of_le Cq51.lt_sn (Nat.le_of_eq gb59.symm)
                      have lt_ita_b59 : @LT.lt Nat _ ita b59 := Nat.lt_of_lt_of_le Cq51.lt_it (Nat.le_of_eq gb59.symm)
                      have lt_nma_b59 : @LT.lt Nat _ nma b59 := Nat.lt_of_lt_of_le Cq51.lt_nm (Nat.le_of_eq gb59.symm)
                      have lt_bla_b59 : @LT.lt Nat _ bla b59 := Nat.lt_of_lt_of_le Cq51.lt_bl (Nat.le_of_eq gb59.symm)
                      have lt_wta_b59 : @LT.lt Nat _ wta b59 := Nat.lt_of_lt_of_le Wq51.lt (Nat.le_of_eq gb59.symm)
                      have gg59 : n0 ≤ b59 := Nat.le_trans z51 (Nat.le_of_eq gb59.symm)
                      have f60 := f52.ext E59
                      have f61 := f53.ext E59
                      have f62 := f54.ext E59
                      have f63 := f55.ext E59
                      have f64 := f56.ext E59
                      have f65 := Cq51.ext E59
                      have f66 := Wq51.ext E59
                      have z59 : n0 ≤ h59.size := Nat.le_trans z51 E59.1
                      have f67 : Fld Z h59 b59 "com/example/querent/querent/engine/ColumnTypes" "seen" "[Z" .null := D59 (Or.inr (hw _ (List.mem_of_getElem? (i := 23) rfl))) (ty := (.array .boolean)) (by decide)
                      have f68 : Fld Z h59 b59 "com/example/querent/querent/engine/ColumnTypes" "integers" "[Z" .null := D59 (Or.inr (hw _ (List.mem_of_getElem? (i := 32) rfl))) (ty := (.array .boolean)) (by decide)
                      have f69 : Fld Z h59 b59 "com/example/querent/querent/engine/ColumnTypes" "numbers" "[Z" .null := D59 (Or.inr (hw _ (List.mem_of_getElem? (i := 34) rfl))) (ty := (.array .boolean)) (by decide)
                      have f70 : Fld Z h59 b59 "com/example/querent/querent/engine/ColumnTypes" "booleans" "[Z" .null := D59 (Or.inr (hw _ (List.mem_of_getElem? (i := 36) rfl))) (ty := (.array .boolean)) (by decide)
                      have f71 : Fld Z h59 b59 "com/example/querent/querent/engine/ColumnTypes" "watched" "[Z" .null := D59 (Or.inr (hw _ (List.mem_of_getElem? (i := 38) rfl))) (ty := (.array .boolean)) (by decide)
                      refine own_via (T' := T59) (g' := (mkF m 167 #[.val (.int p1), .val (.int p2), .val (.int v1), .val (.int v2), .val (.ref b3), .val (.ref b17), .val (.ref b40), .unset, .unset, .unset, .unset] [(.ref b17), (.ref b59), (.ref b59)])) (fun _ kt => st59 _ (XS.dup X59.here hx rfl (hb hby at_164) rfl rfl (XS.aload X59.here hx rfl (hb hby at_165) rfl rfl kt))) ?_
                      obtain ⟨v72, T72, L72, X72, hQ72, st72⟩ := own_callI X59 hx hZ (y := (⟨"com/example/querent/querent/engine/ColumnTypes", "<init>", "([Z)V"⟩ : MethodName)) rfl hown (hw _ (List.mem_of_getElem? (i := 4) rfl)) (hw _ (List.mem_of_getElem? (i := 5) rfl)) (hw _ (List.mem_of_getElem? (i := 3) rfl)) (hw _ (List.mem_of_getElem? (i := 6) rfl)) (by decide) (b := b59) (W := 1) (argsL := [(.ref b17)]) (rest := [(.ref b59)]) (rm1 l Z a0 hw [] b17 ob hob b59 _ _ _ _ _ h59 n0 z59 gg59 A59 f67 f68 f69 f70 f71 f63 f64 (by omega)) (by decide) (by decide) (by decide) (by decide) e59 (g := (mkF m 167 #[.val (.int p1), .val (.int p2), .val (.int v1), .val (.int v2), .val (.ref b3), .val (.ref b17), .val (.ref b40), .unset, .unset, .unset, .unset] [(.ref b17), (.ref b59), (.ref b59)])) rfl (by rw [hml]; rfl) (lenOf pd_4 rfl) rfl (by show 2 * 0 + _ ≤ _; exact Nat.le_of_eq rfl) (hb hby at_167)
                      obtain ⟨wtb, snb, itb, nmb, blb, owb, o1b, o2b, o3b, o4b, rfl, Nq72, Kq72, Cq72, Wq72⟩ := hQ72
                      have lt_b3_wtb : @LT.lt Nat _ b3 wtb := Nat.lt_of_lt_of_le f61.lt owb
                      have lt_b17_wtb : @LT.lt Nat _ b17 wtb := Nat.lt_of_lt_of_le f63.lt owb
                      have lt_b40_wtb : @LT.lt Nat _ b40 wtb := Nat.lt_of_lt_of_le f65.lt_a owb
                      have lt_sna_wtb : @LT.lt Nat _ sna wtb := Nat.lt_of_lt_of_le f65.lt_sn owb
                      have lt_ita_wtb : @LT.lt Nat _ ita wtb := Nat.lt_of_lt_of_le f65.lt_it owb
                      have lt_nma_wtb : @LT.lt Nat _ nma wtb := Nat.lt_of_lt_of_le f65.lt_nm owb
                      have lt_bla_wtb : @LT.lt Nat _ bla wtb := Nat.lt_of_lt_of_le f65.lt_bl owb
                      have lt_wta_wtb : @LT.lt Nat _ wta wtb := Nat.lt_of_lt_of_le f66.lt owb
                      have lt_b59_wtb : @LT.lt Nat _ b59 wtb := Nat.lt_of_lt_of_le A59.lt owb
                      have zwtb : n0 ≤ wtb := Nat.le_trans z59 owb
                      have f73 := f60.keep Kq72 (allS gg59 all0)
                      have f74 := f61.keep Kq72 (ninS (own_ne (by omega)) nin0)
                      have f75 := f62.keep Kq72
                      have f76 := f63.keep Kq72 (ninS (own_ne (by omega)) nin0)
                      have f77 := f64.keep Kq72
                      have f78 := f65.keep Kq72 ⟨(ninS (own_ne (by omega)) nin0), (ninS (own_ne (by omega)) nin0), (ninS (own_ne (by omega)) nin0), (ninS (own_ne (by omega)) nin0), (ninS (own_ne (by omega)) nin0)⟩
                      have f79 := f66.keep Kq72 (ninS (own_ne (by omega)) nin0)
                      have f80 := A59.keep Kq72
                      have z72 : n0 ≤ T72.heap.size := Nat.le_trans z59 Kq72.1
                      have N72 := Fr.app N51 Nq72
                      refine own_via (T' := T72) (g' := (mkF m 176 #[.val (.int p1), .val (.int p2), .val (.int v1), .val (.int v2), .val (.ref b3), .val (.ref b17), .val (.ref b40), .val (.ref b59), .unset, .unset, .unset] [(.ref b59), (.ref b40)])) (fun _ kt => st72 _ (XS.astore X72.here hx rfl (hb hby at_170) rfl rfl (l' := #[.val (.int p1), .val (.int p2), .val (.int v1), .val (.int v2), .val (.ref b3), .val (.ref b17), .val (.ref b40), .val (.ref b59), .unset, .unset, .unset]) rfl (XS.aload X72.here hx rfl (hb hby at_172) rfl rfl (XS.aload X72.here hx rfl (hb hby at_174) rfl rfl kt)))) ?_
                      obtain ⟨v81, T81, L81, X81, hQ81, st81⟩ := own_callV X72 hx hZ (y := (⟨"com/example/querent/querent/engine/ColumnTypes", "addAll", "(Lcom/example/querent/querent/engine/ColumnTypes;)V"⟩ : MethodName)) (z := (⟨"com/example/querent/querent/engine/ColumnTypes", "addAll", "(Lcom/example/querent/querent/engine/ColumnTypes;)V"⟩ : MethodName)) hown (hw _ (List.mem_of_getElem? (i := 39) rfl)) (hw _ (List.mem_of_getElem? (i := 40) rfl)) (notFace_of_selects (args := #[]) (mvT hZ (hw _ (List.mem_of_getElem? (i := 42) rfl)))) (hw _ (List.mem_of_getElem? (i := 42) rfl)) (hw _ (List.mem_of_getElem? (i := 41) rfl)) (hw _ (List.mem_of_getElem? (i := 3) rfl)) (hw _ (List.mem_of_getElem? (i := 43) rfl)) (by decide) (b := b40) (W := 0) (argsL := [(.ref b59)]) (rest := []) (rm6r l Z a0 hw [] b40 sna ita nma bla b59 snb itb nmb blb (.ref wta) (own_nb rb) (fun i => own_ntb (rb i)) wtb ob (by omega) T72.heap n0 z72 (by omega) (by omega) (by omega) (by omega) (by omega) o2a o3a o4a (by omega) (by omega) o2b o3b o4b f78 Cq72 Wq72) (by decide) (by decide) (by decide) (by decide) rfl f78.1 (g := (mkF m 176 #[.val (.int p1), .val (.int p2), .val (.int v1), .val (.int v2), .val (.ref b3), .val (.ref b17), .val (.ref b40), .val (.ref b59), .unset, .unset, .unset] [(.ref b59), (.ref b40)])) rfl (by rw [hml]; rfl) (lenOf pd_5 rfl) rfl (by show 2 * 0 + _ ≤ _; exact Nat.le_of_eq rfl) (hb hby at_176)
                      obtain ⟨rfl, Nq81, Kq81, Cq81⟩ := hQ81
                      have f82 := f73.keep Kq81 (allS (by omega) (allS (by omega) (allS (by omega) (allS (by omega) all0))))
                      have f83 := f74.keep Kq81 (ninS (own_ne (by omega)) (ninS (own_ne (by omega)) (ninS (own_ne (by omega)) (ninS (own_ne (by omega)) nin0))))
                      have f84 := f75.keep Kq81
                      have f85 := f76.keep Kq81 (ninS (own_ne (by omega)) (ninS (own_ne (by omega)) (ninS (own_ne (by omega)) (ninS (own_ne (by omega)) nin0))))
                      have f86 := f77.keep Kq81
                      have f87 := f79.keep Kq81 (ninS (own_ne (by omega)) (ninS (own_ne (by omega)) (ninS (own_ne (by omega)) (ninS (own_ne (by omega)) nin0))))
                      have f88 := Cq72.keep Kq81 ⟨(ninS (own_ne (by omega)) (ninS (own_ne (by omega)) (ninS (own_ne (by omega)) (ninS (own_ne (by omega)) nin0)))), (ninS (own_ne (by omega)) (ninS (own_ne (by omega)) (ninS (own_ne (by omega)) (ninS (own_ne (by omega)) nin0)))), (ninS (own_ne (by omega)) (ninS (own_ne (by omega)) (ninS (own_ne (by omega)) (ninS (own_ne (by omega)) nin0)))), (ninS (own_ne (by omega)) (ninS (own_ne (by omega)) (ninS (own_ne (by omega)) (ninS (own_ne (by omega)) nin0)))), (ninS (own_ne (by omega)) (ninS (own_ne (by omega)) (ninS (own_ne (by omega)) (ninS (own_ne (by omega)) nin0))))⟩
                      have f89 := Wq72.keep Kq81 (ninS (own_ne (by omega)) (ninS (own_ne (by omega)) (ninS (own_ne (by omega)) (ninS (own_ne (by omega)) nin0))))
                      have z81 : n0 ≤ T81.heap.size := Nat.le_trans z72 Kq81.1
                      have N81 := Fr.app N72 Nq81
                      refine own_via (T' := T81) (g' := (mkF m 181 #[.val (.int p1), .val (.int p2), .val (.int v1), .val (.int v2), .val (.ref b3), .val (.ref b17), .val (.ref b40), .val (.ref b59), .unset, .unset, .unset] [(.ref b40)])) (fun _ kt => st81 _ (XS.aload X81.here hx rfl (hb hby at_179) rfl rfl kt)) ?_
                      obtain ⟨v90, T90, L90, X90, hQ90, st90⟩ := own_callV X81 hx hZ (y := (⟨"com/example/querent/querent/engine/ColumnTypes", "types", "()[Lcom/example/querent/querent/engine/Type;"⟩ : MethodName)) (z := (⟨"com/example/querent/querent/engine/ColumnTypes", "types", "()[Lcom/example/querent/querent/engine/Type;"⟩ : MethodName)) hown (hw _ (List.mem_of_getElem? (i := 44) rfl)) (hw _ (List.mem_of_getElem? (i := 45) rfl)) (notFace_of_selects (args := #[]) (mvT hZ (hw _ (List.mem_of_getElem? (i := 47) rfl)))) (hw _ (List.mem_of_getElem? (i := 47) rfl)) (hw _ (List.mem_of_getElem? (i := 46) rfl)) (hw _ (List.mem_of_getElem? (i := 3) rfl)) (hw _ (List.mem_of_getElem? (i := 48) rfl)) (by decide) (b := b40) (W := 0) (argsL := []) (rest := []) (rm7 l Z a0 hw [] b40 sna ita nma bla (.ref wta) (own_nb rb) tx T81.heap n0 z81 Cq81 (S0.ext f82.2) (E0.ext f82.2)) (by decide) (by decide) (by decide) (by decide) rfl Cq81.1 (g := (mkF m 181 #[.val (.int p1), .val (.int p2), .val (.int v1), .val (.int v2), .val (.ref b3), .val (.ref b17), .val (.ref b40), .val (.ref b59), .unset, .unset, .unset] [(.ref b40)])) rfl (by rw [hml]; rfl) (lenOf pd_6 rfl) rfl (by show 2 * 0 + _ ≤ _; exact Nat.le_of_eq rfl) (hb hby at_181)
                      obtain ⟨tba, rfl, ota, Nq90, Kq90, Aq90⟩ := hQ90
                      have f91 := f82.keep Kq90 all0
                      have f92 := f83.keep Kq90 nin0
                      have f93 := f84.keep Kq90
                      have f94 := f85.keep Kq90 nin0
                      have f95 := f86.keep Kq90
                      have f96 := Cq81.keep Kq90 ⟨nin0, nin0, nin0, nin0, nin0⟩
                      have f97 := f87.keep Kq90 nin0
                      have f98 := f88.keep Kq90 ⟨nin0, nin0, nin0, nin0, nin0⟩
                      have f99 := f89.keep Kq90 nin0
                      have z90 : n0 ≤ T90.heap.size := Nat.le_trans z81 Kq90.1
                      have N90 := Fr.app N81 Nq90
                      refine own_via (T' := T90) (g' := (mkF m 188 #[.val (.int p1), .val (.int p2), .val (.int v1), .val (.int v2), .val (.ref b3), .val (.ref b17), .val (.ref b40), .val (.ref b59), .val (.ref tba), .unset, .unset] [(.ref b59)])) (fun _ kt => st90 _ (XS.astore X90.here hx rfl (hb hby at_184) rfl rfl (l' := #[.val (.int p1), .val (.int p2), .val (.int v1), .val (.int v2), .val (.ref b3), .val (.ref b17), .val (.ref b40), .val (.ref b59), .val (.ref tba), .unset, .unset]) rfl (XS.aload X90.here hx rfl (hb hby at_186) rfl rfl kt))) ?_
                      obtain ⟨v100, T100, L100, X100, hQ100, st100⟩ := own_callV X90 hx hZ (y := (⟨"com/example/querent/querent/engine/ColumnTypes", "types", "()[Lcom/example/querent/querent/engine/Type;"⟩ : MethodName)) (z := (⟨"com/example/querent/querent/engine/ColumnTypes", "types", "()[Lcom/example/querent/querent/engine/Type;"⟩ : MethodName)) hown (hw _ (List.mem_of_getElem? (i := 44) rfl)) (hw _ (List.mem_of_getElem? (i := 45) rfl)) (notFace_of_selects (args := #[]) (mvT hZ (hw _ (List.mem_of_getElem? (i := 47) rfl)))) (hw _ (List.mem_of_getElem? (i := 47) rfl)) (hw _ (List.mem_of_getElem? (i := 46) rfl)) (hw _ (List.mem_of_getElem? (i := 3) rfl)) (hw _ (List.mem_of_getElem? (i := 48) rfl)) (by decide) (b := b59) (W := 0) (argsL := []) (rest := []) (rm7 l Z a0 hw [] b59 snb itb nmb blb (.ref wtb) (own_nb ob) tx T90.heap n0 z90 f98 (S0.ext f91.2) (E0.ext f91.2)) (by decide) (by decide) (by decide) (by decide) rfl f98.1 (g := (mkF m 188 #[.val (.int p1), .val (.int p2), .val (.int v1), .val (.int v2), .val (.ref b3), .val (.ref b17), .val (.ref b40), .val (.ref b59), .val (.ref tba), .unset, .unset] [(.ref b59)])) rfl (by rw [hml]; rfl) (lenOf pd_6 rfl) rfl (by show 2 * 0 + _ ≤ _; exact Nat.le_of_eq rfl) (hb hby at_188)
                      obtain ⟨tbb, rfl, otb, Nq100, Kq100, Aq100⟩ := hQ100
                      have f101 := f91.keep Kq100 all0
                      have f102 := f92.keep Kq100 nin0
                      have f103 := f93.keep Kq100
                      have f104 := f94.keep Kq100 nin0
                      have f105 := f95.keep Kq100
                      have f106 := f96.keep Kq100 ⟨nin0, nin0, nin0, nin0, nin0⟩
                      have f107 := f97.keep Kq100 nin0
                      have f108 := f98.keep Kq100 ⟨nin0, nin0, nin0, nin0, nin0⟩
                      have f109 := f99.keep Kq100 nin0
                      have f110 := Aq90.keep Kq100 nin0
                      have z100 : n0 ≤ T100.heap.size := Nat.le_trans z90 Kq100.1
                      have N100 := Fr.app N90 Nq100
                      refine own_via (T' := T100) (g' := (mkF m 200 #[.val (.int p1), .val (.int p2), .val (.int v1), .val (.int v2), .val (.ref b3), .val (.ref b17), .val (.ref b40), .val (.ref b59), .val (.ref tba), .val (.ref tbb), .unset] [])) (fun _ kt => st100 _ (XS.astore X100.here hx rfl (hb hby at_191) rfl rfl (l' := #[.val (.int p1), .val (.int p2), .val (.int v1), .val (.int v2), .val (.ref b3), .val (.ref b17), .val (.ref b40), .val (.ref b59), .val (.ref tba), .val (.ref tbb), .unset]) rfl (XS.aload X100.here hx rfl (hb hby at_193) rfl rfl (own_alen X100 hx hZ rfl f110 (g := (mkF m 195 #[.val (.int p1), .val (.int p2), .val (.int v1), .val (.int v2), .val (.ref b3), .val (.ref b17), .val (.ref b40), .val (.ref b59), .val (.ref tba), .val (.ref tbb), .unset] [(.ref tba)])) rfl rfl (hb hby at_195) _ (XS.iconst X100.here hx rfl (hb hby at_196) (XS.icmpNo X100.here hx rfl (hb hby at_197) rfl (teq (by decide : ((3 : Int32) = (3 : Int32)))).2 kt)))))) ?_
                      refine own_via (T' := T100) (g' := (mkF m 213 #[.val (.int p1), .val (.int p2), .val (.int v1), .val (.int v2), .val (.ref b3), .val (.ref b17), .val (.ref b40), .val (.ref b59), .val (.ref tba), .val (.ref tbb), .unset] [(.ref tba), (.ref b40)])) (fun _ kt => XS.aload X100.here hx rfl (hb hby at_200) rfl rfl (own_alen X100 hx hZ rfl Aq100 (g := (mkF m 202 #[.val (.int p1), .val (.int p2), .val (.int v1), .val (.int v2), .val (.ref b3), .val (.ref b17), .val (.ref b40), .val (.ref b59), .val (.ref tba), .val (.ref tbb), .unset] [(.ref tbb)])) rfl rfl (hb hby at_202) _ (XS.iconst X100.here hx rfl (hb hby at_203) (XS.icmpYes X100.here hx rfl (pc0 := 204) (pc' := 209) rfl (hb hby at_204) rfl (teq (by decide : ((3 : Int32) = (3 : Int32)))).1 (by decide) (by decide) (XS.aload X100.here hx rfl (hb hby at_209) rfl rfl (XS.aload X100.here hx rfl (hb hby at_211) rfl rfl kt)))))) ?_
                      refine own_via (T' := T100) (g' := (mkF m 218 #[.val (.int p1), .val (.int p2), .val (.int v1), .val (.int v2), .val (.ref b3), .val (.ref b17), .val (.ref b40), .val (.ref b59), .val (.ref tba), .val (.ref tbb), .unset] [(.int (0 : Int32)), (.ref tba), (.ref b40)])) (fun _ kt => XS.iconst X100.here hx rfl (hb hby at_213) (XS.iloadN X100.here hx rfl (hb hby at_214) rfl (XS.ifNo X100.here hx rfl (hb hby at_215) rfl ((if0 _ _).trans (teq hc121_39).2) kt))) ?_
                      have HJ111 : ∀ v111 : Int32, own_nt (rb 0) = v111 → own_Ends p e below (own_Fin below s room_1.cells room_1.slots (fun v h L => v = some (.int 1) ∧ Fr n0 L)) T100 (mkF m 230 #[.val (.int p1), .val (.int p2), .val (.int v1), .val (.int v2), .val (.ref b3), .val (.ref b17), .val (.ref b40), .val (.ref b59), .val (.ref tba), .val (.ref tbb), .unset] [(.int v111), (.int (0 : Int32)), (.ref tba), (.ref b40)]) := by
                        intro v111 hv111
                        obtain ⟨v112, T112, L112, X112, hQ112, st112⟩ := own_callS X100 hx hZ (y := (⟨"com/example/querent/querent/engine/ColumnTypesAddAllPinLaw", "col", "(Lcom/example/querent/querent/engine/ColumnTypes;[Lcom/example/querent/querent/engine/Type;IZ)Z"⟩ : MethodName)) hown (hw _ (List.mem_of_getElem? (i := 55) rfl)) (hw _ (List.mem_of_getElem? (i := 56) rfl)) (hw _ (List.mem_of_getElem? (i := 57) rfl)) (hw _ (List.mem_of_getElem? (i := 58) rfl)) (by decide) (W := 0) (argsL := [(.ref b40), (.ref tba), (.int (0 : Int32)), (.int v111)]) (rest := []) (rm8 l Z a0 hw [] b40 sna ita nma bla tba (.ref wta) (own_nb rb) (fun i => own_ntb (rb i)) 0 (by decide) v111 hv111 tx T100.heap f106 f110 (S0.ext f101.2)) (by decide) (by decide) (by decide) (by decide) rfl (g := (mkF m 230 #[.val (.int p1), .val (.int p2), .val (.int v1), .val (.int v2), .val (.ref b3), .val (.ref b17), .val (.ref b40), .val (.ref b59), .val (.ref tba), .val (.ref tbb), .unset] [(.int v111), (.int (0 : Int32)), (.ref tba), (.ref b40)])) rfl (by rw [hml]; rfl) (lenOf pd_7 rfl) rfl (by show 2 * 0 + _ ≤ _; exact Nat.le_of_eq rfl) (hb hby at_230)
                        obtain ⟨rfl, hL112, e112⟩ := hQ112
                        replace X112 := own_pure (v := none) (r := none) X112 rfl rfl hL112
                        refine own_via (T' := T112) (g' := (mkF m 244 #[.val (.int p1), .val (.int p2), .val (.int v1), .val (.int v2), .val (.ref b3), .val (.ref b17), .val (.ref b40), .val (.ref b59), .val (.ref tba), .val (.ref tbb), .val (.int (1 : Int32))] [(.ref tba), (.ref b40)])) (fun _ kt => st112 _ (XS.istore X112.here hx rfl (hb hby at_233) rfl (l' := #[.val (.int p1), .val (.int p2), .val (.int v1), .val (.int v2), .val (.ref b3), .val (.ref b17), .val (.ref b40), .val (.ref b59), .val (.ref tba), .val (.ref tbb), .val (.int (1 : Int32))]) rfl (XS.iload X112.here hx rfl (hb hby at_235) rfl (XS.ifNo X112.here hx rfl (hb hby at_237) rfl ((if0 _ _).trans (feq (by decide : ¬ ((1 : Int32) = (0 : Int32)))).1) (XS.aload X112.here hx rfl (hb hby at_240) rfl rfl (XS.aload X112.here hx rfl (hb hby at_242) rfl rfl kt)))))) ?_
                        refine own_via (T' := T112) (g' := (mkF m 249 #[.val (.int p1), .val (.int p2), .val (.int v1), .val (.int v2), .val (.ref b3), .val (.ref b17), .val (.ref b40), .val (.ref b59), .val (.ref tba), .val (.ref tbb), .val (.int (1 : Int32))] [(.int (1 : Int32)), (.ref tba), (.ref b40)])) (fun _ kt => XS.iconst X112.here hx rfl (hb hby at_244) (XS.iloadN X112.here hx rfl (hb hby at_245) rfl (XS.ifNo X112.here hx rfl (hb hby at_246) rfl ((if0 _ _).trans (teq hc121_39).2) kt))) ?_
                        have HJ113 : ∀ v113 : Int32, own_nt (rb 1) = v113 → own_Ends p e below (own_Fin below s room_1.cells room_1.slots (fun v h L => v = some (.int 1) ∧ Fr n0 L)) T112 (mkF m 261 #[.val (.int p1), .val (.int p2), .val (.int v1), .val (.int v2), .val (.ref b3), .val (.ref b17), .val (.ref b40), .val (.ref b59), .val (.ref tba), .val (.ref tbb), .val (.int (1 : Int32))] [(.int v113), (.int (1 : Int32)), (.ref tba), (.ref b40)]) := by
                          intro v113 hv113
                          obtain ⟨v114, T114, L114, X114, hQ114, st114⟩ := own_callS X112 hx hZ (y := (⟨"com/example/querent/querent/engine/ColumnTypesAddAllPinLaw", "col", "(Lcom/example/querent/querent/engine/ColumnTypes;[Lcom/example/querent/querent/engine/Type;IZ)Z"⟩ : MethodName)) hown (hw _ (List.mem_of_getElem? (i := 55) rfl)) (hw _ (List.mem_of_getElem? (i := 56) rfl)) (hw _ (List.mem_of_getElem? (i := 57) rfl)) (hw _ (List.mem_of_getElem? (i := 58) rfl)) (by decide) (W := 0) (argsL := [(.ref b40), (.ref tba), (.int (1 : Int32)), (.int v113)]) (rest := []) (rm8 l Z a0 hw [] b40 sna ita nma bla tba (.ref wta) (own_nb rb) (fun i => own_ntb (rb i)) 1 (by decide) v113 hv113 tx T100.heap f106 f110 (S0.ext f101.2)) (by decide) (by decide) (by decide) (by decide) e112 (g := (mkF m 261 #[.val (.int p1), .val (.int p2), .val (.int v1), .val (.int v2), .val (.ref b3), .val (.ref b17), .val (.ref b40), .val (.ref b59), .val (.ref tba), .val (.ref tbb), .val (.int (1 : Int32))] [(.int v113), (.int (1 : Int32)), (.ref tba), (.ref b40)])) rfl (by rw [hml]; rfl) (lenOf pd_7 rfl) rfl (by show 2 * 0 + _ ≤ _; exact Nat.le_of_eq rfl) (hb hby at_261)
                          obtain ⟨rfl, hL114, e114⟩ := hQ114
                          replace X114 := own_pure (v := none) (r := none) X114 rfl rfl hL114
                          refine own_via (T' := T114) (g' := (mkF m 276 #[.val (.int p1), .val (.int p2), .val (.int v1), .val (.int v2), .val (.ref b3), .val (.ref b17), .val (.ref b40), .val (.ref b59), .val (.ref tba), .val (.ref tbb), .val (.int (1 : Int32))] [(.int (1 : Int32))])) (fun _ kt => st114 _ (XS.ifNo X114.here hx rfl (hb hby at_264) rfl ((if0 _ _).trans (feq (by decide : ¬ ((1 : Int32) = (0 : Int32)))).1) (XS.iconst X114.here hx rfl (hb hby at_267) (XS.goto X114.here hx rfl (pc0 := 268) (pc' := 272) rfl (hb hby at_268) (by decide) (by decide) (XS.istore X114.here hx rfl (hb hby at_272) rfl (l' := #[.val (.int p1), .val (.int p2), .val (.int v1), .val (.int v2), .val (.ref b3), .val (.ref b17), .val (.ref b40), .val (.ref b59), .val (.ref tba), .val (.ref tbb), .val (.int (1 : Int32))]) rfl (XS.iload X114.here hx rfl (hb hby at_274) rfl kt)))))) ?_
                          refine own_via (T' := T114) (g' := (mkF m 288 #[.val (.int p1), .val (.int p2), .val (.int v1), .val (.int v2), .val (.ref b3), .val (.ref b17), .val (.ref b40), .val (.ref b59), .val (.ref tba), .val (.ref tbb), .val (.int (1 : Int32))] [(.int (2 : Int32)), (.ref tba), (.ref b40)])) (fun _ kt => XS.ifNo X114.here hx rfl (hb hby at_276) rfl ((if0 _ _).trans (feq (by decide : ¬ ((1 : Int32) = (0 : Int32)))).1) (XS.aload X114.here hx rfl (hb hby at_279) rfl rfl (XS.aload X114.here hx rfl (hb hby at_281) rfl rfl (XS.iconst X114.here hx rfl (hb hby at_283) (XS.iloadN X114.here hx rfl (hb hby at_284) rfl (XS.ifNo X114.here hx rfl (hb hby at_285) rfl ((if0 _ _).trans (teq hc121_39).2) kt)))))) ?_
                          have HJ115 : ∀ v115 : Int32, own_nt (rb 2) = v115 → own_Ends p e below (own_Fin below s room_1.cells room_1.slots (fun v h L => v = some (.int 1) ∧ Fr n0 L)) T114 (mkF m 300 #[.val (.int p1), .val (.int p2), .val (.int v1), .val (.int v2), .val (.ref b3), .val (.ref b17), .val (.ref b40), .val (.ref b59), .val (.ref tba), .val (.ref tbb), .val (.int (1 : Int32))] [(.int v115), (.int (2 : Int32)), (.ref tba), (.ref b40)]) := by
                            intro v115 hv115
                            obtain ⟨v116, T116, L116, X116, hQ116, st116⟩ := own_callS X114 hx hZ (y := (⟨"com/example/querent/querent/engine/ColumnTypesAddAllPinLaw", "col", "(Lcom/example/querent/querent/engine/ColumnTypes;[Lcom/example/querent/querent/engine/Type;IZ)Z"⟩ : MethodName)) hown (hw _ (List.mem_of_getElem? (i := 55) rfl)) (hw _ (List.mem_of_getElem? (i := 56) rfl)) (hw _ (List.mem_of_getElem? (i := 57) rfl)) (hw _ (List.mem_of_getElem? (i := 58) rfl)) (by decide) (W := 0) (argsL := [(.ref b40), (.ref tba), (.int (2 : Int32)), (.int v115)]) (rest := []) (rm8 l Z a0 hw [] b40 sna ita nma bla tba (.ref wta) (own_nb rb) (fun i => own_ntb (rb i)) 2 (by decide) v115 hv115 tx T100.heap f106 f110 (S0.ext f101.2)) (by decide) (by decide) (by decide) (by decide) e114 (g := (mkF m 300 #[.val (.int p1), .val (.int p2), .val (.int v1), .val (.int v2), .val (.ref b3), .val (.ref b17), .val (.ref b40), .val (.ref b59), .val (.ref tba), .val (.ref tbb), .val (.int (1 : Int32))] [(.int v115), (.int (2 : Int32)), (.ref tba), (.ref b40)])) rfl (by rw [hml]; rfl) (lenOf pd_7 rfl) rfl (by show 2 * 0 + _ ≤ _; exact Nat.le_of_eq rfl) (hb hby at_300)
                            obtain ⟨rfl, hL116, e116⟩ := hQ116
                            replace X116 := own_pure (v := none) (r := none) X116 rfl rfl hL116
                            refine own_via (T' := T116) (g' := (mkF m 315 #[.val (.int p1), .val (.int p2), .val (.int v1), .val (.int v2), .val (.ref b3), .val (.ref b17), .val (.ref b40), .val (.ref b59), .val (.ref tba), .val (.ref tbb), .val (.int (1 : Int32))] [(.int (1 : Int32))])) (fun _ kt => st116 _ (XS.ifNo X116.here hx rfl (hb hby at_303) rfl ((if0 _ _).trans (feq (by decide : ¬ ((1 : Int32) = (0 : Int32)))).1) (XS.iconst X116.here hx rfl (hb hby at_306) (XS.goto X116.here hx rfl (pc0 := 307) (pc' := 311) rfl (hb hby at_307) (by decide) (by decide) (XS.istore X116.here hx rfl (hb hby at_311) rfl (l' := #[.val (.int p1), .val (.int p2), .val (.int v1), .val (.int v2), .val (.ref b3), .val (.ref b17), .val (.ref b40), .val (.ref b59), .val (.ref tba), .val (.ref tbb), .val (.int (1 : Int32))]) rfl (XS.iload X116.here hx rfl (hb hby at_313) rfl kt)))))) ?_
                            refine own_via (T' := T116) (g' := (mkF m 327 #[.val (.int p1), .val (.int p2), .val (.int v1), .val (.int v2), .val (.ref b3), .val (.ref b17), .val (.ref b40), .val (.ref b59), .val (.ref tba), .val (.ref tbb), .val (.int (1 : Int32))] [(.int (0 : Int32)), (.ref tbb), (.ref b59)])) (fun _ kt => XS.ifNo X116.here hx rfl (hb hby at_315) rfl ((if0 _ _).trans (feq (by decide : ¬ ((1 : Int32) = (0 : Int32)))).1) (XS.aload X116.here hx rfl (hb hby at_318) rfl rfl (XS.aload X116.here hx rfl (hb hby at_320) rfl rfl (XS.iconst X116.here hx rfl (hb hby at_322) (XS.iloadN X116.here hx rfl (hb hby at_323) rfl (XS.ifNo X116.here hx rfl (hb hby at_324) rfl ((if0 _ _).trans (teq hc147_58).2) kt)))))) ?_
                            have HJ117 : ∀ v117 : Int32, own_nt (ob 0) = v117 → own_Ends p e below (own_Fin below s room_1.cells room_1.slots (fun v h L => v = some (.int 1) ∧ Fr n0 L)) T116 (mkF m 339 #[.val (.int p1), .val (.int p2), .val (.int v1), .val (.int v2), .val (.ref b3), .val (.ref b17), .val (.ref b40), .val (.ref b59), .val (.ref tba), .val (.ref tbb), .val (.int (1 : Int32))] [(.int v117), (.int (0 : Int32)), (.ref tbb), (.ref b59)]) := by
                              intro v117 hv117
                              obtain ⟨v118, T118, L118, X118, hQ118, st118⟩ := own_callS X116 hx hZ (y := (⟨"com/example/querent/querent/engine/ColumnTypesAddAllPinLaw", "col", "(Lcom/example/querent/querent/engine/ColumnTypes;[Lcom/example/querent/querent/engine/Type;IZ)Z"⟩ : MethodName)) hown (hw _ (List.mem_of_getElem? (i := 55) rfl)) (hw _ (List.mem_of_getElem? (i := 56) rfl)) (hw _ (List.mem_of_getElem? (i := 57) rfl)) (hw _ (List.mem_of_getElem? (i := 58) rfl)) (by decide) (W := 0) (argsL := [(.ref b59), (.ref tbb), (.int (0 : Int32)), (.int v117)]) (rest := []) (rm8 l Z a0 hw [] b59 snb itb nmb blb tbb (.ref wtb) (own_nb ob) (fun i => own_ntb (ob i)) 0 (by decide) v117 hv117 tx T100.heap f108 Aq100 (S0.ext f101.2)) (by decide) (by decide) (by decide) (by decide) e116 (g := (mkF m 339 #[.val (.int p1), .val (.int p2), .val (.int v1), .val (.int v2), .val (.ref b3), .val (.ref b17), .val (.ref b40), .val (.ref b59), .val (.ref tba), .val (.ref tbb), .val (.int (1 : Int32))] [(.int v117), (.int (0 : Int32)), (.ref tbb), (.ref b59)])) rfl (by rw [hml]; rfl) (lenOf pd_7 rfl) rfl (by show 2 * 0 + _ ≤ _; exact Nat.le_of_eq rfl) (hb hby at_339)
                              obtain ⟨rfl, hL118, e118⟩ := hQ118
                              replace X118 := own_pure (v := none) (r := none) X118 rfl rfl hL118
                              refine own_via (T' := T118) (g' := (mkF m 354 #[.val (.int p1), .val (.int p2), .val (.int v1), .val (.int v2), .val (.ref b3), .val (.ref b17), .val (.ref b40), .val (.ref b59), .val (.ref tba), .val (.ref tbb), .val (.int (1 : Int32))] [(.int (1 : Int32))])) (fun _ kt => st118 _ (XS.ifNo X118.here hx rfl (hb hby at_342) rfl ((if0 _ _).trans (feq (by decide : ¬ ((1 : Int32) = (0 : Int32)))).1) (XS.iconst X118.here hx rfl (hb hby at_345) (XS.goto X118.here hx rfl (pc0 := 346) (pc' := 350) rfl (hb hby at_346) (by decide) (by decide) (XS.istore X118.here hx rfl (hb hby at_350) rfl (l' := #[.val (.int p1), .val (.int p2), .val (.int v1), .val (.int v2), .val (.ref b3), .val (.ref b17), .val (.ref b40), .val (.ref b59), .val (.ref tba), .val (.ref tbb), .val (.int (1 : Int32))]) rfl (XS.iload X118.here hx rfl (hb hby at_352) rfl kt)))))) ?_
                              refine own_via (T' := T118) (g' := (mkF m 366 #[.val (.int p1), .val (.int p2), .val (.int v1), .val (.int v2), .val (.ref b3), .val (.ref b17), .val (.ref b40), .val (.ref b59), .val (.ref tba), .val (.ref tbb), .val (.int (1 : Int32))] [(.int (1 : Int32)), (.ref tbb), (.ref b59)])) (fun _ kt => XS.ifNo X118.here hx rfl (hb hby at_354) rfl ((if0 _ _).trans (feq (by decide : ¬ ((1 : Int32) = (0 : Int32)))).1) (XS.aload X118.here hx rfl (hb hby at_357) rfl rfl (XS.aload X118.here hx rfl (hb hby at_359) rfl rfl (XS.iconst X118.here hx rfl (hb hby at_361) (XS.iloadN X118.here hx rfl (hb hby at_362) rfl (XS.ifNo X118.here hx rfl (hb hby at_363) rfl ((if0 _ _).trans (teq hc147_58).2) kt)))))) ?_
                              have HJ119 : ∀ v119 : Int32, own_nt (ob 1) = v119 → own_Ends p e below (own_Fin below s room_1.cells room_1.slots (fun v h L => v = some (.int 1) ∧ Fr n0 L)) T118 (mkF m 378 #[.val (.int p1), .val (.int p2), .val (.int v1), .val (.int v2), .val (.ref b3), .val (.ref b17), .val (.ref b40), .val (.ref b59), .val (.ref tba), .val (.ref tbb), .val (.int (1 : Int32))] [(.int v119), (.int (1 : Int32)), (.ref tbb), (.ref b59)]) := by
                                intro v119 hv119
                                obtain ⟨v120, T120, L120, X120, hQ120, st120⟩ := own_callS X118 hx hZ (y := (⟨"com/example/querent/querent/engine/ColumnTypesAddAllPinLaw", "col", "(Lcom/example/querent/querent/engine/ColumnTypes;[Lcom/example/querent/querent/engine/Type;IZ)Z"⟩ : MethodName)) hown (hw _ (List.mem_of_getElem? (i := 55) rfl)) (hw _ (List.mem_of_getElem? (i := 56) rfl)) (hw _ (List.mem_of_getElem? (i := 57) rfl)) (hw _ (List.mem_of_getElem? (i := 58) rfl)) (by decide) (W := 0) (argsL := [(.ref b59), (.ref tbb), (.int (1 : Int32)), (.int v119)]) (rest := []) (rm8 l Z a0 hw [] b59 snb itb nmb blb tbb (.ref wtb) (own_nb ob) (fun i => own_ntb (ob i)) 1 (by decide) v119 hv119 tx T100.heap f108 Aq100 (S0.ext f101.2)) (by decide) (by decide) (by decide) (by decide) e118 (g := (mkF m 378 #[.val (.int p1), .val (.int p2), .val (.int v1), .val (.int v2), .val (.ref b3), .val (.ref b17), .val (.ref b40), .val (.ref b59), .val (.ref tba), .val (.ref tbb), .val (.int (1 : Int32))] [(.int v119), (.int (1 : Int32)), (.ref tbb), (.ref b59)])) rfl (by rw [hml]; rfl) (lenOf pd_7 rfl) rfl (by show 2 * 0 + _ ≤ _; exact Nat.le_of_eq rfl) (hb hby at_378)
                                obtain ⟨rfl, hL120, e120⟩ := hQ120
                                replace X120 := own_pure (v := none) (r := none) X120 rfl rfl hL120
                                refine own_via (T' := T120) (g' := (mkF m 393 #[.val (.int p1), .val (.int p2), .val (.int v1), .val (.int v2), .val (.ref b3), .val (.ref b17), .val (.ref b40), .val (.ref b59), .val (.ref tba), .val (.ref tbb), .val (.int (1 : Int32))] [(.int (1 : Int32))])) (fun _ kt => st120 _ (XS.ifNo X120.here hx rfl (hb hby at_381) rfl ((if0 _ _).trans (feq (by decide : ¬ ((1 : Int32) = (0 : Int32)))).1) (XS.iconst X120.here hx rfl (hb hby at_384) (XS.goto X120.here hx rfl (pc0 := 385) (pc' := 389) rfl (hb hby at_385) (by decide) (by decide) (XS.istore X120.here hx rfl (hb hby at_389) rfl (l' := #[.val (.int p1), .val (.int p2), .val (.int v1), .val (.int v2), .val (.ref b3), .val (.ref b17), .val (.ref b40), .val (.ref b59), .val (.ref tba), .val (.ref tbb), .val (.int (1 : Int32))]) rfl (XS.iload X120.here hx rfl (hb hby at_391) rfl kt)))))) ?_
                                refine own_via (T' := T120) (g' := (mkF m 405 #[.val (.int p1), .val (.int p2), .val (.int v1), .val (.int v2), .val (.ref b3), .val (.ref b17), .val (.ref b40), .val (.ref b59), .val (.ref tba), .val (.ref tbb), .val (.int (1 : Int32))] [(.int (2 : Int32)), (.ref tbb), (.ref b59)])) (fun _ kt => XS.ifNo X120.here hx rfl (hb hby at_393) rfl ((if0 _ _).trans (feq (by decide : ¬ ((1 : Int32) = (0 : Int32)))).1) (XS.aload X120.here hx rfl (hb hby at_396) rfl rfl (XS.aload X120.here hx rfl (hb hby at_398) rfl rfl (XS.iconst X120.here hx rfl (hb hby at_400) (XS.iloadN X120.here hx rfl (hb hby at_401) rfl (XS.ifNo X120.here hx rfl (hb hby at_402) rfl ((if0 _ _).trans (teq hc147_58).2) kt)))))) ?_
                                have HJ121 : ∀ v121 : Int32, own_nt (ob 2) = v121 → own_Ends p e below (own_Fin below s room_1.cells room_1.slots (fun v h L => v = some (.int 1) ∧ Fr n0 L)) T120 (mkF m 417 #[.val (.int p1), .val (.int p2), .val (.int v1), .val (.int v2), .val (.ref b3), .val (.ref b17), .val (.ref b40), .val (.ref b59), .val (.ref tba), .val (.ref tbb), .val (.int (1 : Int32))] [(.int v121), (.int (2 : Int32)), (.ref tbb), (.ref b59)]) := by
                                  intro v121 hv121
                                  obtain ⟨v122, T122, L122, X122, hQ122, st122⟩ := own_callS X120 hx hZ (y := (⟨"com/example/querent/querent/engine/ColumnTypesAddAllPinLaw", "col", "(Lcom/example/querent/querent/engine/ColumnTypes;[Lcom/example/querent/querent/engine/Type;IZ)Z"⟩ : MethodName)) hown (hw _ (List.mem_of_getElem? (i := 55) rfl)) (hw _ (List.mem_of_getElem? (i := 56) rfl)) (hw _ (List.mem_of_getElem? (i := 57) rfl)) (hw _ (List.mem_of_getElem? (i := 58) rfl)) (by decide) (W := 0) (argsL := [(.ref b59), (.ref tbb), (.int (2 : Int32)), (.int v121)]) (rest := []) (rm8 l Z a0 hw [] b59 snb itb nmb blb tbb (.ref wtb) (own_nb ob) (fun i => own_ntb (ob i)) 2 (by decide) v121 hv121 tx T100.heap f108 Aq100 (S0.ext f101.2)) (by decide) (by decide) (by decide) (by decide) e120 (g := (mkF m 417 #[.val (.int p1), .val (.int p2), .val (.int v1), .val (.int v2), .val (.ref b3), .val (.ref b17), .val (.ref b40), .val (.ref b59), .val (.ref tba), .val (.ref tbb), .val (.int (1 : Int32))] [(.int v121), (.int (2 : Int32)), (.ref tbb), (.ref b59)])) rfl (by rw [hml]; rfl) (lenOf pd_7 rfl) rfl (by show 2 * 0 + _ ≤ _; exact Nat.le_of_eq rfl) (hb hby at_417)
                                  obtain ⟨rfl, hL122, e122⟩ := hQ122
                                  replace X122 := own_pure (v := none) (r := none) X122 rfl rfl hL122
                                  refine own_via (T' := T122) (g' := (mkF m 432 #[.val (.int p1), .val (.int p2), .val (.int v1), .val (.int v2), .val (.ref b3), .val (.ref b17), .val (.ref b40), .val (.ref b59), .val (.ref tba), .val (.ref tbb), .val (.int (1 : Int32))] [(.int (1 : Int32))])) (fun _ kt => st122 _ (XS.ifNo X122.here hx rfl (hb hby at_420) rfl ((if0 _ _).trans (feq (by decide : ¬ ((1 : Int32) = (0 : Int32)))).1) (XS.iconst X122.here hx rfl (hb hby at_423) (XS.goto X122.here hx rfl (pc0 := 424) (pc' := 428) rfl (hb hby at_424) (by decide) (by decide) (XS.istore X122.here hx rfl (hb hby at_428) rfl (l' := #[.val (.int p1), .val (.int p2), .val (.int v1), .val (.int v2), .val (.ref b3), .val (.ref b17), .val (.ref b40), .val (.ref b59), .val (.ref tba), .val (.ref tbb), .val (.int (1 : Int32))]) rfl (XS.iload X122.here hx rfl (hb hby at_430) rfl kt)))))) ?_
                                  exact own_retZ X122 hx hret hlk (hb hby at_432) (by decide) ⟨rfl, N100⟩ (by decide) (by decide)
                                refine own_via (T' := T120) (g' := (mkF m 409 #[.val (.int p1), .val (.int p2), .val (.int v1), .val (.int v2), .val (.ref b3), .val (.ref b17), .val (.ref b40), .val (.ref b59), .val (.ref tba), .val (.ref tbb), .val (.int (1 : Int32))] [(.int (ob 2)), (.int (2 : Int32)), (.ref tbb), (.ref b59)])) (fun _ kt => XS.aload X120.here hx rfl (hb hby at_405) rfl rfl (XS.iconst X120.here hx rfl (hb hby at_407) (own_baloadZ X120 hx hZ e120 f104 (j := (2 : Int32)) (i := 2) rfl (by decide) (g := (mkF m 408 #[.val (.int p1), .val (.int p2), .val (.int v1), .val (.int v2), .val (.ref b3), .val (.ref b17), .val (.ref b40), .val (.ref b59), .val (.ref tba), .val (.ref tbb), .val (.int (1 : Int32))] [(.int (2 : Int32)), (.ref b17), (.int (2 : Int32)), (.ref tbb), (.ref b59)])) rfl rfl (hb hby at_408) _ kt))) ?_
                                by_cases hc409_123 : (ob 2) = (0 : Int32)
                                · refine own_via (T' := T120) (g' := (mkF m 417 #[.val (.int p1), .val (.int p2), .val (.int v1), .val (.int v2), .val (.ref b3), .val (.ref b17), .val (.ref b40), .val (.ref b59), .val (.ref tba), .val (.ref tbb), .val (.int (1 : Int32))] [(.int (1 : Int32)), (.int (2 : Int32)), (.ref tbb), (.ref b59)])) (fun _ kt => XS.ifNo X120.here hx rfl (hb hby at_409) rfl ((if0 _ _).trans (teq hc409_123).2) (XS.iconst X120.here hx rfl (hb hby at_412) (XS.goto X120.here hx rfl (pc0 := 413) (pc' := 417) rfl (hb hby at_413) (by decide) (by decide) kt))) ?_
                                  exact HJ121 (1 : Int32) (own_nt0 hc409_123)
                                · refine own_via (T' := T120) (g' := (mkF m 417 #[.val (.int p1), .val (.int p2), .val (.int v1), .val (.int v2), .val (.ref b3), .val (.ref b17), .val (.ref b40), .val (.ref b59), .val (.ref tba), .val (.ref tbb), .val (.int (1 : Int32))] [(.int (0 : Int32)), (.int (2 : Int32)), (.ref tbb), (.ref b59)])) (fun _ kt => XS.ifYes X120.here hx rfl (pc0 := 409) (pc' := 416) rfl (hb hby at_409) rfl ((if0 _ _).trans (feq hc409_123).2) (by decide) (by decide) (XS.iconst X120.here hx rfl (hb hby at_416) kt)) ?_
                                  exact HJ121 (0 : Int32) (own_nt1 hc409_123)
                              refine own_via (T' := T118) (g' := (mkF m 370 #[.val (.int p1), .val (.int p2), .val (.int v1), .val (.int v2), .val (.ref b3), .val (.ref b17), .val (.ref b40), .val (.ref b59), .val (.ref tba), .val (.ref tbb), .val (.int (1 : Int32))] [(.int (ob 1)), (.int (1 : Int32)), (.ref tbb), (.ref b59)])) (fun _ kt => XS.aload X118.here hx rfl (hb hby at_366) rfl rfl (XS.iconst X118.here hx rfl (hb hby at_368) (own_baloadZ X118 hx hZ e118 f104 (j := (1 : Int32)) (i := 1) rfl (by decide) (g := (mkF m 369 #[.val (.int p1), .val (.int p2), .val (.int v1), .val (.int v2), .val (.ref b3), .val (.ref b17), .val (.ref b40), .val (.ref b59), .val (.ref tba), .val (.ref tbb), .val (.int (1 : Int32))] [(.int (1 : Int32)), (.ref b17), (.int (1 : Int32)), (.ref tbb), (.ref b59)])) rfl rfl (hb hby at_369) _ kt))) ?_
                              by_cases hc370_124 : (ob 1) = (0 : Int32)
                              · refine own_via (T' := T118) (g' := (mkF m 378 #[.val (.int p1), .val (.int p2), .val (.int v1), .val (.int v2), .val (.ref b3), .val (.ref b17), .val (.ref b40), .val (.ref b59), .val (.ref tba), .val (.ref tbb), .val (.int (1 : Int32))] [(.int (1 : Int32)), (.int (1 : Int32)), (.ref tbb), (.ref b59)])) (fun _ kt => XS.ifNo X118.here hx rfl (hb hby at_370) rfl ((if0 _ _).trans (teq hc370_124).2) (XS.iconst X118.here hx rfl (hb hby at_373) (XS.goto X118.here hx rfl (pc0 := 374) (pc' := 378) rfl (hb hby at_374) (by decide) (by decide) kt))) ?_
                                exact HJ119 (1 : Int32) (own_nt0 hc370_124)
                              · refine own_via (T' := T118) (g' := (mkF m 378 #[.val (.int p1), .val (.int p2), .val (.int v1), .val (.int v2), .val (.ref b3), .val (.ref b17), .val (.ref b40), .val (.ref b59), .val (.ref tba), .val (.ref tbb), .val (.int (1 : Int32))] [(.int (0 : Int32)), (.int (1 : Int32)), (.ref tbb), (.ref b59)])) (fun _ kt => XS.ifYes X118.here hx rfl (pc0 := 370) (pc' := 377) rfl (hb hby at_370) rfl ((if0 _ _).trans (feq hc370_124).2) (by decide) (by decide) (XS.iconst X118.here hx rfl (hb hby at_377) kt)) ?_
                                exact HJ119 (0 : Int32) (own_nt1 hc370_124)
                            refine own_via (T' := T116) (g' := (mkF m 331 #[.val (.int p1), .val (.int p2), .val (.int v1), .val (.int v2), .val (.ref b3), .val (.ref b17), .val (.ref b40), .val (.ref b59), .val (.ref tba), .val (.ref tbb), .val (.int (1 : Int32))] [(.int (ob 0)), (.int (0 : Int32)), (.ref tbb), (.ref b59)])) (fun _ kt => XS.aload X116.here hx rfl (hb hby at_327) rfl rfl (XS.iconst X116.here hx rfl (hb hby at_329) (own_baloadZ X116 hx hZ e116 f104 (j := (0 : Int32)) (i := 0) rfl (by decide) (g := (mkF m 330 #[.val (.int p1), .val (.int p2), .val (.int v1), .val (.int v2), .val (.ref b3), .val (.ref b17), .val (.ref b40), .val (.ref b59), .val (.ref tba), .val (.ref tbb), .val (.int (1 : Int32))] [(.int (0 : Int32)), (.ref b17), (.int (0 : Int32)), (.ref tbb), (.ref b59)])) rfl rfl (hb hby at_330) _ kt))) ?_
                            by_cases hc331_125 : (ob 0) = (0 : Int32)
                            · refine own_via (T' := T116) (g' := (mkF m 339 #[.val (.int p1), .val (.int p2), .val (.int v1), .val (.int v2), .val (.ref b3), .val (.ref b17), .val (.ref b40), .val (.ref b59), .val (.ref tba), .val (.ref tbb), .val (.int (1 : Int32))] [(.int (1 : Int32)), (.int (0 : Int32)), (.ref tbb), (.ref b59)])) (fun _ kt => XS.ifNo X116.here hx rfl (hb hby at_331) rfl ((if0 _ _).trans (teq hc331_125).2) (XS.iconst X116.here hx rfl (hb hby at_334) (XS.goto X116.here hx rfl (pc0 := 335) (pc' := 339) rfl (hb hby at_335) (by decide) (by decide) kt))) ?_
                              exact HJ117 (1 : Int32) (own_nt0 hc331_125)
                            · refine own_via (T' := T116) (g' := (mkF m 339 #[.val (.int p1), .val (.int p2), .val (.int v1), .val (.int v2), .val (.ref b3), .val (.ref b17), .val (.ref b40), .val (.ref b59), .val (.ref tba), .val (.ref tbb), .val (.int (1 : Int32))] [(.int (0 : Int32)), (.int (0 : Int32)), (.ref tbb), (.ref b59)])) (fun _ kt => XS.ifYes X116.here hx rfl (pc0 := 331) (pc' := 338) rfl (hb hby at_331) rfl ((if0 _ _).trans (feq hc331_125).2) (by decide) (by decide) (XS.iconst X116.here hx rfl (hb hby at_338) kt)) ?_
                              exact HJ117 (0 : Int32) (own_nt1 hc331_125)
                          refine own_via (T' := T114) (g' := (mkF m 292 #[.val (.int p1), .val (.int p2), .val (.int v1), .val (.int v2), .val (.ref b3), .val (.ref b17), .val (.ref b40), .val (.ref b59), .val (.ref tba), .val (.ref tbb), .val (.int (1 : Int32))] [(.int (rb 2)), (.int (2 : Int32)), (.ref tba), (.ref b40)])) (fun _ kt => XS.aload X114.here hx rfl (hb hby at_288) rfl rfl (XS.iconst X114.here hx rfl (hb hby at_290) (own_baloadZ X114 hx hZ e114 f102 (j := (2 : Int32)) (i := 2) rfl (by decide) (g := (mkF m 291 #[.val (.int p1), .val (.int p2), .val (.int v1), .val (.int v2), .val (.ref b3), .val (.ref b17), .val (.ref b40), .val (.ref b59), .val (.ref tba), .val (.ref tbb), .val (.int (1 : Int32))] [(.int (2 : Int32)), (.ref b3), (.int (2 : Int32)), (.ref tba), (.ref b40)])) rfl rfl (hb hby at_291) _ kt))) ?_
                          by_cases hc292_126 : (rb 2) = (0 : Int32)
                          · refine own_via (T' := T114) (g' := (mkF m 300 #[.val (.int p1), .val (.int p2), .val (.int v1), .val (.int v2), .val (.ref b3), .val (.ref b17), .val (.ref b40), .val (.ref b59), .val (.ref tba), .val (.ref tbb), .val (.int (1 : Int32))] [(.int (1 : Int32)), (.int (2 : Int32)), (.ref tba), (.ref b40)])) (fun _ kt => XS.ifNo X114.here hx rfl (hb hby at_292) rfl ((if0 _ _).trans (teq hc292_126).2) (XS.iconst X114.here hx rfl (hb hby at_295) (XS.goto X114.here hx rfl (pc0 := 296) (pc' := 300) rfl (hb hby at_296) (by decide) (by decide) kt))) ?_
                            exact HJ115 (1 : Int32) (own_nt0 hc292_126)
                          · refine own_via (T' := T114) (g' := (mkF m 300 #[.val (.int p1), .val (.int p2), .val (.int v1), .val (.int v2), .val (.ref b3), .val (.ref b17), .val (.ref b40), .val (.ref b59), .val (.ref tba), .val (.ref tbb), .val (.int (1 : Int32))] [(.int (0 : Int32)), (.int (2 : Int32)), (.ref tba), (.ref b40)])) (fun _ kt => XS.ifYes X114.here hx rfl (pc0 := 292) (pc' := 299) rfl (hb hby at_292) rfl ((if0 _ _).trans (feq hc292_126).2) (by decide) (by decide) (XS.iconst X114.here hx rfl (hb hby at_299) kt)) ?_
                            exact HJ115 (0 : Int32) (own_nt1 hc292_126)
                        refine own_via (T' := T112) (g' := (mkF m 253 #[.val (.int p1), .val (.int p2), .val (.int v1), .val (.int v2), .val (.ref b3), .val (.ref b17), .val (.ref b40), .val (.ref b59), .val (.ref tba), .val (.ref tbb), .val (.int (1 : Int32))] [(.int (rb 1)), (.int (1 : Int32)), (.ref tba), (.ref b40)])) (fun _ kt => XS.aload X112.here hx rfl (hb hby at_249) rfl rfl (XS.iconst X112.here hx rfl (hb hby at_251) (own_baloadZ X112 hx hZ e112 f102 (j := (1 : Int32)) (i := 1) rfl (by decide) (g := (mkF m 252 #[.val (.int p1), .val (.int p2), .val (.int v1), .val (.int v2), .val (.ref b3), .val (.ref b17), .val (.ref b40), .val (.ref b59), .val (.ref tba), .val (.ref tbb), .val (.int (1 : Int32))] [(.int (1 : Int32)), (.ref b3), (.int (1 : Int32)), (.ref tba), (.ref b40)])) rfl rfl (hb hby at_252) _ kt))) ?_
                        by_cases hc253_127 : (rb 1) = (0 : Int32)
                        · refine own_via (T' := T112) (g' := (mkF m 261 #[.val (.int p1), .val (.int p2), .val (.int v1), .val (.int v2), .val (.ref b3), .val (.ref b17), .val (.ref b40), .val (.ref b59), .val (.ref tba), .val (.ref tbb), .val (.int (1 : Int32))] [(.int (1 : Int32)), (.int (1 : Int32)), (.ref tba), (.ref b40)])) (fun _ kt => XS.ifNo X112.here hx rfl (hb hby at_253) rfl ((if0 _ _).trans (teq hc253_127).2) (XS.iconst X112.here hx rfl (hb hby at_256) (XS.goto X112.here hx rfl (pc0 := 257) (pc' := 261) rfl (hb hby at_257) (by decide) (by decide) kt))) ?_
                          exact HJ113 (1 : Int32) (own_nt0 hc253_127)
                        · refine own_via (T' := T112) (g' := (mkF m 261 #[.val (.int p1), .val (.int p2), .val (.int v1), .val (.int v2), .val (.ref b3), .val (.ref b17), .val (.ref b40), .val (.ref b59), .val (.ref tba), .val (.ref tbb), .val (.int (1 : Int32))] [(.int (0 : Int32)), (.int (1 : Int32)), (.ref tba), (.ref b40)])) (fun _ kt => XS.ifYes X112.here hx rfl (pc0 := 253) (pc' := 260) rfl (hb hby at_253) rfl ((if0 _ _).trans (feq hc253_127).2) (by decide) (by decide) (XS.iconst X112.here hx rfl (hb hby at_260) kt)) ?_
                          exact HJ113 (0 : Int32) (own_nt1 hc253_127)
                      refine own_via (T' := T100) (g' := (mkF m 222 #[.val (.int p1), .val (.int p2), .val (.int v1), .val (.int v2), .val (.ref b3), .val (.ref b17), .val (.ref b40), .val (.ref b59), .val (.ref tba), .val (.ref tbb), .unset] [(.int (rb 0)), (.int (0 : Int32)), (.ref tba), (.ref b40)])) (fun _ kt => XS.aload X100.here hx rfl (hb hby at_218) rfl rfl (XS.iconst X100.here hx rfl (hb hby at_220) (own_baloadZ X100 hx hZ rfl f102 (j := (0 : Int32)) (i := 0) rfl (by decide) (g := (mkF m 221 #[.val (.int p1), .val (.int p2), .val (.int v1), .val (.int v2), .val (.ref b3), .val (.ref b17), .val (.ref b40), .val (.ref b59), .val (.ref tba), .val (.ref tbb), .unset] [(.int (0 : Int32)), (.ref b3), (.int (0 : Int32)), (.ref tba), (.ref b40)])) rfl rfl (hb hby at_221) _ kt))) ?_
                      by_cases hc222_128 : (rb 0) = (0 : Int32)
                      · refine own_via (T' := T100) (g' := (mkF m 230 #[.val (.int p1), .val (.int p2), .val (.int v1), .val (.int v2), .val (.ref b3), .val (.ref b17), .val (.ref b40), .val (.ref b59), .val (.ref tba), .val (.ref tbb), .unset] [(.int (1 : Int32)), (.int (0 : Int32)), (.ref tba), (.ref b40)])) (fun _ kt => XS.ifNo X100.here hx rfl (hb hby at_222) rfl ((if0 _ _).trans (teq hc222_128).2) (XS.iconst X100.here hx rfl (hb hby at_225) (XS.goto X100.here hx rfl (pc0 := 226) (pc' := 230) rfl (hb hby at_226) (by decide) (by decide) kt))) ?_
                        exact HJ111 (1 : Int32) (own_nt0 hc222_128)
                      · refine own_via (T' := T100) (g' := (mkF m 230 #[.val (.int p1), .val (.int p2), .val (.int v1), .val (.int v2), .val (.ref b3), .val (.ref b17), .val (.ref b40), .val (.ref b59), .val (.ref tba), .val (.ref tbb), .unset] [(.int (0 : Int32)), (.int (0 : Int32)), (.ref tba), (.ref b40)])) (fun _ kt => XS.ifYes X100.here hx rfl (pc0 := 222) (pc' := 229) rfl (hb hby at_222) rfl ((if0 _ _).trans (feq hc222_128).2) (by decide) (by decide) (XS.iconst X100.here hx rfl (hb hby at_229) kt)) ?_
                        exact HJ111 (0 : Int32) (own_nt1 hc222_128)
                    · refine own_via (T' := T51) (g' := (mkF m 150 #[.val (.int p1), .val (.int p2), .val (.int v1), .val (.int v2), .val (.ref b3), .val (.ref b17), .val (.ref b40), .unset, .unset, .unset, .unset] [])) (fun _ kt => XS.ifNo X51.here hx rfl (hb hby at_147) rfl ((if0 _ _).trans (feq hc147_58).1) kt) ?_
                      obtain ⟨T129, h129, X129, e129, E129, A129, D129, -, st129⟩ := newO X51 hx hZ hown (hw _ (List.mem_of_getElem? (i := 1) rfl)) (hw _ (List.mem_of_getElem? (i := 2) rfl)) (hw _ (List.mem_of_getElem? (i := 3) rfl)) rfl (g := (mkF m 150 #[.val (.int p1), .val (.int p2), .val (.int v1), .val (.int v2), .val (.ref b3), .val (.ref b17), .val (.ref b40), .unset, .unset, .unset, .unset] [])) rfl (hb hby at_150) (by decide) (by decide)
                      obtain ⟨b129, gb129⟩ : ∃ z, z = T51.heap.size := ⟨_, rfl⟩
                      rw [← gb129] at A129 D129 st129
                      have lt_b3_b129 : @LT.lt Nat _ b3 b129 := Nat.lt_of_lt_of_le f53.lt (Nat.le_of_eq gb129.symm)
                      have lt_b17_b129 : @LT.lt Nat _ b17 b129 := Nat.lt_of_lt_of_le f55.lt (Nat.le_of_eq gb129.symm)
                      have lt_b40_b129 : @LT.lt Nat _ b40 b129 := Nat.lt_of_lt_of_le Cq51.lt_a (Nat.le_of_eq gb129.symm)
                      have lt_sna_b129 : @LT.lt Nat _ sna b129 := Nat.lt_of_lt_of_le Cq51.lt_sn (Nat.le_of_eq gb129.symm)
                      have lt_ita_b129 : @LT.lt Nat _ ita b129 := Nat.lt_of_lt_of_le Cq51.lt_it (Nat.le_of_eq gb129.symm)
                      have lt_nma_b129 : @LT.lt Nat _ nma b129 := Nat.lt_of_lt_of_le Cq51.lt_nm (Nat.le_of_eq gb129.symm)
                      have lt_bla_b129 : @LT.lt Nat _ bla b129 := Nat.lt_of_lt_of_le Cq51.lt_bl (Nat.le_of_eq gb129.symm)
                      have lt_wta_b129 : @LT.lt Nat _ wta b129 := Nat.lt_of_lt_of_le Wq51.lt (Nat.le_of_eq gb129.symm)
                      have gg129 : n0 ≤ b129 := Nat.le_trans z51 (Nat.le_of_eq gb129.symm)
                      have f130 := f52.ext E129
                      have f131 := f53.ext E129
                      have f132 := f54.ext E129
                      have f133 := f55.ext E129
                      have f134 := f56.ext E129
                      have f135 := Cq51.ext E129
                      have f136 := Wq51.ext E129
                      have z129 : n0 ≤ h129.size := Nat.le_trans z51 E129.1
                      have f137 : Fld Z h129 b129 "com/example/querent/querent/engine/ColumnTypes" "seen" "[Z" .null := D129 (Or.inr (hw _ (List.mem_of_getElem? (i := 23) rfl))) (ty := (.array .boolean)) (by decide)
                      have f138 : Fld Z h129 b129 "com/example/querent/querent/engine/ColumnTypes" "integers" "[Z" .null := D129 (Or.inr (hw _ (List.mem_of_getElem? (i := 32) rfl))) (ty := (.array .boolean)) (by decide)
                      have f139 : Fld Z h129 b129 "com/example/querent/querent/engine/ColumnTypes" "numbers" "[Z" .null := D129 (Or.inr (hw _ (List.mem_of_getElem? (i := 34) rfl))) (ty := (.array .boolean)) (by decide)
                      have f140 : Fld Z h129 b129 "com/example/querent/querent/engine/ColumnTypes" "booleans" "[Z" .null := D129 (Or.inr (hw _ (List.mem_of_getElem? (i := 36) rfl))) (ty := (.array .boolean)) (by decide)
                      have f141 : Fld Z h129 b129 "com/example/querent/querent/engine/ColumnTypes" "watched" "[Z" .null := D129 (Or.inr (hw _ (List.mem_of_getElem? (i := 38) rfl))) (ty := (.array .boolean)) (by decide)
                      refine own_via (T' := T129) (g' := (mkF m 155 #[.val (.int p1), .val (.int p2), .val (.int v1), .val (.int v2), .val (.ref b3), .val (.ref b17), .val (.ref b40), .unset, .unset, .unset, .unset] [(.int (3 : Int32)), (.ref b129), (.ref b129)])) (fun _ kt => st129 _ (XS.dup X129.here hx rfl (hb hby at_153) rfl rfl (XS.iconst X129.here hx rfl (hb hby at_154) kt))) ?_
                      obtain ⟨v142, T142, L142, X142, hQ142, st142⟩ := own_callI X129 hx hZ (y := (⟨"com/example/querent/querent/engine/ColumnTypes", "<init>", "(I)V"⟩ : MethodName)) rfl hown (hw _ (List.mem_of_getElem? (i := 65) rfl)) (hw _ (List.mem_of_getElem? (i := 66) rfl)) (hw _ (List.mem_of_getElem? (i := 3) rfl)) (hw _ (List.mem_of_getElem? (i := 67) rfl)) (by decide) (b := b129) (W := 1) (argsL := [(.int (3 : Int32))]) (rest := [(.ref b129)]) (rm10 l Z a0 hw [] b129 _ _ _ _ _ h129 n0 z129 gg129 A129 f137 f138 f139 f140 f141) (by decide) (by decide) (by decide) (by decide) e129 (g := (mkF m 155 #[.val (.int p1), .val (.int p2), .val (.int v1), .val (.int v2), .val (.ref b3), .val (.ref b17), .val (.ref b40), .unset, .unset, .unset, .unset] [(.int (3 : Int32)), (.ref b129), (.ref b129)])) rfl (by rw [hml]; rfl) (lenOf pd_8 rfl) rfl (by show 2 * 0 + _ ≤ _; exact Nat.le_of_eq rfl) (hb hby at_155)
                      obtain ⟨snb, itb, nmb, blb, o1b, o2b, o3b, o4b, rfl, Nq142, Kq142, Cq142⟩ := hQ142
                      have lt_b3_snb : @LT.lt Nat _ b3 snb := Nat.lt_of_lt_of_le f131.lt o1b
                      have lt_b17_snb : @LT.lt Nat _ b17 snb := Nat.lt_of_lt_of_le f133.lt o1b
                      have lt_b40_snb : @LT.lt Nat _ b40 snb := Nat.lt_of_lt_of_le f135.lt_a o1b
                      have lt_sna_snb : @LT.lt Nat _ sna snb := Nat.lt_of_lt_of_le f135.lt_sn o1b
                      have lt_ita_snb : @LT.lt Nat _ ita snb := Nat.lt_of_lt_of_le f135.lt_it o1b
                      have lt_nma_snb : @LT.lt Nat _ nma snb := Nat.lt_of_lt_of_le f135.lt_nm o1b
                      have lt_bla_snb : @LT.lt Nat _ bla snb := Nat.lt_of_lt_of_le f135.lt_bl o1b
                      have lt_wta_snb : @LT.lt Nat _ wta snb := Nat.lt_of_lt_of_le f136.lt o1b
                      have lt_b129_snb : @LT.lt Nat _ b129 snb := Nat.lt_of_lt_of_le A129.lt o1b
                      have zsnb : n0 ≤ snb := Nat.le_trans z129 o1b
                      have f143 := f130.keep Kq142 (allS gg129 all0)
                      have f144 := f131.keep Kq142 (ninS (own_ne (by omega)) nin0)
                      have f145 := f132.keep Kq142
                      have f146 := f133.keep Kq142 (ninS (own_ne (by omega)) nin0)
                      have f147 := f134.keep Kq142
                      have f148 := f135.keep Kq142 ⟨(ninS (own_ne (by omega)) nin0), (ninS (own_ne (by omega)) nin0), (ninS (own_ne (by omega)) nin0), (ninS (own_ne (by omega)) nin0), (ninS (own_ne (by omega)) nin0)⟩
                      have f149 := f136.keep Kq142 (ninS (own_ne (by omega)) nin0)
                      have f150 := A129.keep Kq142
                      have z142 : n0 ≤ T142.heap.size := Nat.le_trans z129 Kq142.1
                      have N142 := Fr.app N51 Nq142
                      refine own_via (T' := T142) (g' := (mkF m 176 #[.val (.int p1), .val (.int p2), .val (.int v1), .val (.int v2), .val (.ref b3), .val (.ref b17), .val (.ref b40), .val (.ref b129), .unset, .unset, .unset] [(.ref b129), (.ref b40)])) (fun _ kt => st142 _ (XS.goto X142.here hx rfl (pc0 := 158) (pc' := 170) rfl (hb hby at_158) (by decide) (by decide) (XS.astore X142.here hx rfl (hb hby at_170) rfl rfl (l' := #[.val (.int p1), .val (.int p2), .val (.int v1), .val (.int v2), .val (.ref b3), .val (.ref b17), .val (.ref b40), .val (.ref b129), .unset, .unset, .unset]) rfl (XS.aload X142.here hx rfl (hb hby at_172) rfl rfl (XS.aload X142.here hx rfl (hb hby at_174) rfl rfl kt))))) ?_
                      obtain ⟨v151, T151, L151, X151, hQ151, st151⟩ := own_callV X142 hx hZ (y := (⟨"com/example/querent/querent/engine/ColumnTypes", "addAll", "(Lcom/example/querent/querent/engine/ColumnTypes;)V"⟩ : MethodName)) (z := (⟨"com/example/querent/querent/engine/ColumnTypes", "addAll", "(Lcom/example/querent/querent/engine/ColumnTypes;)V"⟩ : MethodName)) hown (hw _ (List.mem_of_getElem? (i := 39) rfl)) (hw _ (List.mem_of_getElem? (i := 40) rfl)) (notFace_of_selects (args := #[]) (mvT hZ (hw _ (List.mem_of_getElem? (i := 42) rfl)))) (hw _ (List.mem_of_getElem? (i := 42) rfl)) (hw _ (List.mem_of_getElem? (i := 41) rfl)) (hw _ (List.mem_of_getElem? (i := 3) rfl)) (hw _ (List.mem_of_getElem? (i := 43) rfl)) (by decide) (b := b40) (W := 0) (argsL := [(.ref b129)]) (rest := []) (rm6n l Z a0 hw [] b40 sna ita nma bla b129 snb itb nmb blb (.ref wta) (own_nb rb) (fun i => own_ntb (rb i)) T142.heap n0 z142 (by omega) (by omega) (by omega) (by omega) (by omega) o2a o3a o4a (by omega) (by omega) o2b o3b o4b f148 Cq142) (by decide) (by decide) (by decide) (by decide) rfl f148.1 (g := (mkF m 176 #[.val (.int p1), .val (.int p2), .val (.int v1), .val (.int v2), .val (.ref b3), .val (.ref b17), .val (.ref b40), .val (.ref b129), .unset, .unset, .unset] [(.ref b129), (.ref b40)])) rfl (by rw [hml]; rfl) (lenOf pd_5 rfl) rfl (by show 2 * 0 + _ ≤ _; exact Nat.le_of_eq rfl) (hb hby at_176)
                      obtain ⟨rfl, Nq151, Kq151, Cq151⟩ := hQ151
                      have f152 := f143.keep Kq151 (allS (by omega) (allS (by omega) (allS (by omega) (allS (by omega) all0))))
                      have f153 := f144.keep Kq151 (ninS (own_ne (by omega)) (ninS (own_ne (by omega)) (ninS (own_ne (by omega)) (ninS (own_ne (by omega)) nin0))))
                      have f154 := f145.keep Kq151
                      have f155 := f146.keep Kq151 (ninS (own_ne (by omega)) (ninS (own_ne (by omega)) (ninS (own_ne (by omega)) (ninS (own_ne (by omega)) nin0))))
                      have f156 := f147.keep Kq151
                      have f157 := f149.keep Kq151 (ninS (own_ne (by omega)) (ninS (own_ne (by omega)) (ninS (own_ne (by omega)) (ninS (own_ne (by omega)) nin0))))
                      have f158 := Cq142.keep Kq151 ⟨(ninS (own_ne (by omega)) (ninS (own_ne (by omega)) (ninS (own_ne (by omega)) (ninS (own_ne (by omega)) nin0)))), (ninS (own_ne (by omega)) (ninS (own_ne (by omega)) (ninS (own_ne (by omega)) (ninS (own_ne (by omega)) nin0)))), (ninS (own_ne (by omega)) (ninS (own_ne (by omega)) (ninS (own_ne (by omega)) (ninS (own_ne (by omega)) nin0)))), (ninS (own_ne (by omega)) (ninS (own_ne (by omega)) (ninS (own_ne (by omega)) (ninS (own_ne (by omega)) nin0)))), (ninS (own_ne (by omega)) (ninS (own_ne (by omega)) (ninS (own_ne (by omega)) (ninS (own_ne (by omega)) nin0))))⟩
                      have z151 : n0 ≤ T151.heap.size := Nat.le_trans z142 Kq151.1
                      have N151 := Fr.app N142 Nq151
                      refine own_via (T' := T151) (g' := (mkF m 181 #[.val (.int p1), .val (.int p2), .val (.int v1), .val (.int v2), .val (.ref b3), .val (.ref b17), .val (.ref b40), .val (.ref b129), .unset, .unset, .unset] [(.ref b40)])) (fun _ kt => st151 _ (XS.aload X151.here hx rfl (hb hby at_179) rfl rfl kt)) ?_
                      obtain ⟨v159, T159, L159, X159, hQ159, st159⟩ := own_callV X151 hx hZ (y := (⟨"com/example/querent/querent/engine/ColumnTypes", "types", "()[Lcom/example/querent/querent/engine/Type;"⟩ : MethodName)) (z := (⟨"com/example/querent/querent/engine/ColumnTypes", "types", "()[Lcom/example/querent/querent/engine/Type;"⟩ : MethodName)) hown (hw _ (List.mem_of_getElem? (i := 44) rfl)) (hw _ (List.mem_of_getElem? (i := 45) rfl)) (notFace_of_selects (args := #[]) (mvT hZ (hw _ (List.mem_of_getElem? (i := 47) rfl)))) (hw _ (List.mem_of_getElem? (i := 47) rfl)) (hw _ (List.mem_of_getElem? (i := 46) rfl)) (hw _ (List.mem_of_getElem? (i := 3) rfl)) (hw _ (List.mem_of_getElem? (i := 48) rfl)) (by decide) (b := b40) (W := 0) (argsL := []) (rest := []) (rm7 l Z a0 hw [] b40 sna ita nma bla (.ref wta) (own_nb rb) tx T151.heap n0 z151 Cq151 (S0.ext f152.2) (E0.ext f152.2)) (by decide) (by decide) (by decide) (by decide) rfl Cq151.1 (g := (mkF m 181 #[.val (.int p1), .val (.int p2), .val (.int v1), .val (.int v2), .val (.ref b3), .val (.ref b17), .val (.ref b40), .val (.ref b129), .unset, .unset, .unset] [(.ref b40)])) rfl (by rw [hml]; rfl) (lenOf pd_6 rfl) rfl (by show 2 * 0 + _ ≤ _; exact Nat.le_of_eq rfl) (hb hby at_181)
                      obtain ⟨tba, rfl, ota, Nq159, Kq159, Aq159⟩ := hQ159
                      have f160 := f152.keep Kq159 all0
                      have f161 := f153.keep Kq159 nin0
                      have f162 := f154.keep Kq159
                      have f163 := f155.keep Kq159 nin0
                      have f164 := f156.keep Kq159
                      have f165 := Cq151.keep Kq159 ⟨nin0, nin0, nin0, nin0, nin0⟩
                      have f166 := f157.keep Kq159 nin0
                      have f167 := f158.keep Kq159 ⟨nin0, nin0, nin0, nin0, nin0⟩
                      have z159 : n0 ≤ T159.heap.size := Nat.le_trans z151 Kq159.1
                      have N159 := Fr.app N151 Nq159
                      refine own_via (T' := T159) (g' := (mkF m 188 #[.val (.int p1), .val (.int p2), .val (.int v1), .val (.int v2), .val (.ref b3), .val (.ref b17), .val (.ref b40), .val (.ref b129), .val (.ref tba), .unset, .unset] [(.ref b129)])) (fun _ kt => st159 _ (XS.astore X159.here hx rfl (hb hby at_184) rfl rfl (l' := #[.val (.int p1), .val (.int p2), .val (.int v1), .val (.int v2), .val (.ref b3), .val (.ref b17), .val (.ref b40), .val (.ref b129), .val (.ref tba), .unset, .unset]) rfl (XS.aload X159.here hx rfl (hb hby at_186) rfl rfl kt))) ?_
                      obtain ⟨v168, T168, L168, X168, hQ168, st168⟩ := own_callV X159 hx hZ (y := (⟨"com/example/querent/querent/engine/ColumnTypes", "types", "()[Lcom/example/querent/querent/engine/Type;"⟩ : MethodName)) (z := (⟨"com/example/querent/querent/engine/ColumnTypes", "types", "()[Lcom/example/querent/querent/engine/Type;"⟩ : MethodName)) hown (hw _ (List.mem_of_getElem? (i := 44) rfl)) (hw _ (List.mem_of_getElem? (i := 45) rfl)) (notFace_of_selects (args := #[]) (mvT hZ (hw _ (List.mem_of_getElem? (i := 47) rfl)))) (hw _ (List.mem_of_getElem? (i := 47) rfl)) (hw _ (List.mem_of_getElem? (i := 46) rfl)) (hw _ (List.mem_of_getElem? (i := 3) rfl)) (hw _ (List.mem_of_getElem? (i := 48) rfl)) (by decide) (b := b129) (W := 0) (argsL := []) (rest := []) (rm7 l Z a0 hw [] b129 snb itb nmb blb .null own_z tx T159.heap n0 z159 f167 (S0.ext f160.2) (E0.ext f160.2)) (by decide) (by decide) (by decide) (by decide) rfl f167.1 (g := (mkF m 188 #[.val (.int p1), .val (.int p2), .val (.int v1), .val (.int v2), .val (.ref b3), .val (.ref b17), .val (.ref b40), .val (.ref b129), .val (.ref tba), .unset, .unset] [(.ref b129)])) rfl (by rw [hml]; rfl) (lenOf pd_6 rfl) rfl (by show 2 * 0 + _ ≤ _; exact Nat.le_of_eq rfl) (hb hby at_188)
                      obtain ⟨tbb, rfl, otb, Nq168, Kq168, Aq168⟩ := hQ168
                      have f169 := f160.keep Kq168 all0
                      have f170 := f161.keep Kq168 nin0
                      have f171 := f162.keep Kq168
                      have f172 := f163.keep Kq168 nin0
                      have f173 := f164.keep Kq168
                      have f174 := f165.keep Kq168 ⟨nin0, nin0, nin0, nin0, nin0⟩
                      have f175 := f166.keep Kq168 nin0
                      have f176 := f167.keep Kq168 ⟨nin0, nin0, nin0, nin0, nin0⟩
                      have f177 := Aq159.keep Kq168 nin0
                      have z168 : n0 ≤ T168.heap.size := Nat.le_trans z159 Kq168.1
                      have N168 := Fr.app N159 Nq168
                      refine own_via (T' := T168) (g' := (mkF m 200 #[.val (.int p1), .val (.int p2), .val (.int v1), .val (.int v2), .val (.ref b3), .val (.ref b17), .val (.ref b40), .val (.ref b129), .val (.ref tba), .val (.ref tbb), .unset] [])) (fun _ kt => st168 _ (XS.astore X168.here hx rfl (hb hby at_191) rfl rfl (l' := #[.val (.int p1), .val (.int p2), .val (.int v1), .val (.int v2), .val (.ref b3), .val (.ref b17), .val (.ref b40), .val (.ref b129), .val (.ref tba), .val (.ref tbb), .unset]) rfl (XS.aload X168.here hx rfl (hb hby at_193) rfl rfl (own_alen X168 hx hZ rfl f177 (g := (mkF m 195 #[.val (.int p1), .val (.int p2), .val (.int v1), .val (.int v2), .val (.ref b3), .val (.ref b17), .val (.ref b40), .val (.ref b129), .val (.ref tba), .val (.ref tbb), .unset] [(.ref tba)])) rfl rfl (hb hby at_195) _ (XS.iconst X168.here hx rfl (hb hby at_196) (XS.icmpNo X168.here hx rfl (hb hby at_197) rfl (teq (by decide : ((3 : Int32) = (3 : Int32)))).2 kt)))))) ?_
                      refine own_via (T' := T168) (g' := (mkF m 213 #[.val (.int p1), .val (.int p2), .val (.int v1), .val (.int v2), .val (.ref b3), .val (.ref b17), .val (.ref b40), .val (.ref b129), .val (.ref tba), .val (.ref tbb), .unset] [(.ref tba), (.ref b40)])) (fun _ kt => XS.aload X168.here hx rfl (hb hby at_200) rfl rfl (own_alen X168 hx hZ rfl Aq168 (g := (mkF m 202 #[.val (.int p1), .val (.int p2), .val (.int v1), .val (.int v2), .val (.ref b3), .val (.ref b17), .val (.ref b40), .val (.ref b129), .val (.ref tba), .val (.ref tbb), .unset] [(.ref tbb)])) rfl rfl (hb hby at_202) _ (XS.iconst X168.here hx rfl (hb hby at_203) (XS.icmpYes X168.here hx rfl (pc0 := 204) (pc' := 209) rfl (hb hby at_204) rfl (teq (by decide : ((3 : Int32) = (3 : Int32)))).1 (by decide) (by decide) (XS.aload X168.here hx rfl (hb hby at_209) rfl rfl (XS.aload X168.here hx rfl (hb hby at_211) rfl rfl kt)))))) ?_
                      refine own_via (T' := T168) (g' := (mkF m 218 #[.val (.int p1), .val (.int p2), .val (.int v1), .val (.int v2), .val (.ref b3), .val (.ref b17), .val (.ref b40), .val (.ref b129), .val (.ref tba), .val (.ref tbb), .unset] [(.int (0 : Int32)), (.ref tba), (.ref b40)])) (fun _ kt => XS.iconst X168.here hx rfl (hb hby at_213) (XS.iloadN X168.here hx rfl (hb hby at_214) rfl (XS.ifNo X168.here hx rfl (hb hby at_215) rfl ((if0 _ _).trans (teq hc121_39).2) kt))) ?_
                      have HJ178 : ∀ v178 : Int32, own_nt (rb 0) = v178 → own_Ends p e below (own_Fin below s room_1.cells room_1.slots (fun v h L => v = some (.int 1) ∧ Fr n0 L)) T168 (mkF m 230 #[.val (.int p1), .val (.int p2), .val (.int v1), .val (.int v2), .val (.ref b3), .val (.ref b17), .val (.ref b40), .val (.ref b129), .val (.ref tba), .val (.ref tbb), .unset] [(.int v178), (.int (0 : Int32)), (.ref tba), (.ref b40)]) := by
                        intro v178 hv178
                        obtain ⟨v179, T179, L179, X179, hQ179, st179⟩ := own_callS X168 hx hZ (y := (⟨"com/example/querent/querent/engine/ColumnTypesAddAllPinLaw", "col", "(Lcom/example/querent/querent/engine/ColumnTypes;[Lcom/example/querent/querent/engine/Type;IZ)Z"⟩ : MethodName)) hown (hw _ (List.mem_of_getElem? (i := 55) rfl)) (hw _ (List.mem_of_getElem? (i := 56) rfl)) (hw _ (List.mem_of_getElem? (i := 57) rfl)) (hw _ (List.mem_of_getElem? (i := 58) rfl)) (by decide) (W := 0) (argsL := [(.ref b40), (.ref tba), (.int (0 : Int32)), (.int v178)]) (rest := []) (rm8 l Z a0 hw [] b40 sna ita nma bla tba (.ref wta) (own_nb rb) (fun i => own_ntb (rb i)) 0 (by decide) v178 hv178 tx T168.heap f174 f177 (S0.ext f169.2)) (by decide) (by decide) (by decide) (by decide) rfl (g := (mkF m 230 #[.val (.int p1), .val (.int p2), .val (.int v1), .val (.int v2), .val (.ref b3), .val (.ref b17), .val (.ref b40), .val (.ref b129), .val (.ref tba), .val (.ref tbb), .unset] [(.int v178), (.int (0 : Int32)), (.ref tba), (.ref b40)])) rfl (by rw [hml]; rfl) (lenOf pd_7 rfl) rfl (by show 2 * 0 + _ ≤ _; exact Nat.le_of_eq rfl) (hb hby at_230)
                        obtain ⟨rfl, hL179, e179⟩ := hQ179
                        replace X179 := own_pure (v := none) (r := none) X179 rfl rfl hL179
                        refine own_via (T' := T179) (g' := (mkF m 244 #[.val (.int p1), .val (.int p2), .val (.int v1), .val (.int v2), .val (.ref b3), .val (.ref b17), .val (.ref b40), .val (.ref b129), .val (.ref tba), .val (.ref tbb), .val (.int (1 : Int32))] [(.ref tba), (.ref b40)])) (fun _ kt => st179 _ (XS.istore X179.here hx rfl (hb hby at_233) rfl (l' := #[.val (.int p1), .val (.int p2), .val (.int v1), .val (.int v2), .val (.ref b3), .val (.ref b17), .val (.ref b40), .val (.ref b129), .val (.ref tba), .val (.ref tbb), .val (.int (1 : Int32))]) rfl (XS.iload X179.here hx rfl (hb hby at_235) rfl (XS.ifNo X179.here hx rfl (hb hby at_237) rfl ((if0 _ _).trans (feq (by decide : ¬ ((1 : Int32) = (0 : Int32)))).1) (XS.aload X179.here hx rfl (hb hby at_240) rfl rfl (XS.aload X179.here hx rfl (hb hby at_242) rfl rfl kt)))))) ?_
                        refine own_via (T' := T179) (g' := (mkF m 249 #[.val (.int p1), .val (.int p2), .val (.int v1), .val (.int v2), .val (.ref b3), .val (.ref b17), .val (.ref b40), .val (.ref b129), .val (.ref tba), .val (.ref tbb), .val (.int (1 : Int32))] [(.int (1 : Int32)), (.ref tba), (.ref b40)])) (fun _ kt => XS.iconst X179.here hx rfl (hb hby at_244) (XS.iloadN X179.here hx rfl (hb hby at_245) rfl (XS.ifNo X179.here hx rfl (hb hby at_246) rfl ((if0 _ _).trans (teq hc121_39).2) kt))) ?_
                        have HJ180 : ∀ v180 : Int32, own_nt (rb 1) = v180 → own_Ends p e below (own_Fin below s room_1.cells room_1.slots (fun v h L => v = some (.int 1) ∧ Fr n0 L)) T179 (mkF m 261 #[.val (.int p1), .val (.int p2), .val (.int v1), .val (.int v2), .val (.ref b3), .val (.ref b17), .val (.ref b40), .val (.ref b129), .val (.ref tba), .val (.ref tbb), .val (.int (1 : Int32))] [(.int v180), (.int (1 : Int32)), (.ref tba), (.ref b40)]) := by
                          intro v180 hv180
                          obtain ⟨v181, T181, L181, X181, hQ181, st181⟩ := own_callS X179 hx hZ (y := (⟨"com/example/querent/querent/engine/ColumnTypesAddAllPinLaw", "col", "(Lcom/example/querent/querent/engine/ColumnTypes;[Lcom/example/querent/querent/engine/Type;IZ)Z"⟩ : MethodName)) hown (hw _ (List.mem_of_getElem? (i := 55) rfl)) (hw _ (List.mem_of_getElem? (i := 56) rfl)) (hw _ (List.mem_of_getElem? (i := 57) rfl)) (hw _ (List.mem_of_getElem? (i := 58) rfl)) (by decide) (W := 0) (argsL := [(.ref b40), (.ref tba), (.int (1 : Int32)), (.int v180)]) (rest := []) (rm8 l Z a0 hw [] b40 sna ita nma bla tba (.ref wta) (own_nb rb) (fun i => own_ntb (rb i)) 1 (by decide) v180 hv180 tx T168.heap f174 f177 (S0.ext f169.2)) (by decide) (by decide) (by decide) (by decide) e179 (g := (mkF m 261 #[.val (.int p1), .val (.int p2), .val (.int v1), .val (.int v2), .val (.ref b3), .val (.ref b17), .val (.ref b40), .val (.ref b129), .val (.ref tba), .val (.ref tbb), .val (.int (1 : Int32))] [(.int v180), (.int (1 : Int32)), (.ref tba), (.ref b40)])) rfl (by rw [hml]; rfl) (lenOf pd_7 rfl) rfl (by show 2 * 0 + _ ≤ _; exact Nat.le_of_eq rfl) (hb hby at_261)
                          obtain ⟨rfl, hL181, e181⟩ := hQ181
                          replace X181 := own_pure (v := none) (r := none) X181 rfl rfl hL181
                          refine own_via (T' := T181) (g' := (mkF m 276 #[.val (.int p1), .val (.int p2), .val (.int v1), .val (.int v2), .val (.ref b3), .val (.ref b17), .val (.ref b40), .val (.ref b129), .val (.ref tba), .val (.ref tbb), .val (.int (1 : Int32))] [(.int (1 : Int32))])) (fun _ kt => st181 _ (XS.ifNo X181.here hx rfl (hb hby at_264) rfl ((if0 _ _).trans (feq (by decide : ¬ ((1 : Int32) = (0 : Int32)))).1) (XS.iconst X181.here hx rfl (hb hby at_267) (XS.goto X181.here hx rfl (pc0 := 268) (pc' := 272) rfl (hb hby at_268) (by decide) (by decide) (XS.istore X181.here hx rfl (hb hby at_272) rfl (l' := #[.val (.int p1), .val (.int p2), .val (.int v1), .val (.int v2), .val (.ref b3), .val (.ref b17), .val (.ref b40), .val (.ref b129), .val (.ref tba), .val (.ref tbb), .val (.int (1 : Int32))]) rfl (XS.iload X181.here hx rfl (hb hby at_274) rfl kt)))))) ?_
                          refine own_via (T' := T181) (g' := (mkF m 288 #[.val (.int p1), .val (.int p2), .val (.int v1), .val (.int v2), .val (.ref b3), .val (.ref b17), .val (.ref b40), .val (.ref b129), .val (.ref tba), .val (.ref tbb), .val (.int (1 : Int32))] [(.int (2 : Int32)), (.ref tba), (.ref b40)])) (fun _ kt => XS.ifNo X181.here hx rfl (hb hby at_276) rfl ((if0 _ _).trans (feq (by decide : ¬ ((1 : Int32) = (0 : Int32)))).1) (XS.aload X181.here hx rfl (hb hby at_279) rfl rfl (XS.aload X181.here hx rfl (hb hby at_281) rfl rfl (XS.iconst X181.here hx rfl (hb hby at_283) (XS.iloadN X181.here hx rfl (hb hby at_284) rfl (XS.ifNo X181.here hx rfl (hb hby at_285) rfl ((if0 _ _).trans (teq hc121_39).2) kt)))))) ?_
                          have HJ182 : ∀ v182 : Int32, own_nt (rb 2) = v182 → own_Ends p e below (own_Fin below s room_1.cells room_1.slots (fun v h L => v = some (.int 1) ∧ Fr n0 L)) T181 (mkF m 300 #[.val (.int p1), .val (.int p2), .val (.int v1), .val (.int v2), .val (.ref b3), .val (.ref b17), .val (.ref b40), .val (.ref b129), .val (.ref tba), .val (.ref tbb), .val (.int (1 : Int32))] [(.int v182), (.int (2 : Int32)), (.ref tba), (.ref b40)]) := by
                            intro v182 hv182
                            obtain ⟨v183, T183, L183, X183, hQ183, st183⟩ := own_callS X181 hx hZ (y := (⟨"com/example/querent/querent/engine/ColumnTypesAddAllPinLaw", "col", "(Lcom/example/querent/querent/engine/ColumnTypes;[Lcom/example/querent/querent/engine/Type;IZ)Z"⟩ : MethodName)) hown (hw _ (List.mem_of_getElem? (i := 55) rfl)) (hw _ (List.mem_of_getElem? (i := 56) rfl)) (hw _ (List.mem_of_getElem? (i := 57) rfl)) (hw _ (List.mem_of_getElem? (i := 58) rfl)) (by decide) (W := 0) (argsL := [(.ref b40), (.ref tba), (.int (2 : Int32)), (.int v182)]) (rest := []) (rm8 l Z a0 hw [] b40 sna ita nma bla tba (.ref wta) (own_nb rb) (fun i => own_ntb (rb i)) 2 (by decide) v182 hv182 tx T168.heap f174 f177 (S0.ext f169.2)) (by decide) (by decide) (by decide) (by decide) e181 (g := (mkF m 300 #[.val (.int p1), .val (.int p2), .val (.int v1), .val (.int v2), .val (.ref b3), .val (.ref b17), .val (.ref b40), .val (.ref b129), .val (.ref tba), .val (.ref tbb), .val (.int (1 : Int32))] [(.int v182), (.int (2 : Int32)), (.ref tba), (.ref b40)])) rfl (by rw [hml]; rfl) (lenOf pd_7 rfl) rfl (by show 2 * 0 + _ ≤ _; exact Nat.le_of_eq rfl) (hb hby at_300)
                            obtain ⟨rfl, hL183, e183⟩ := hQ183
                            replace X183 := own_pure (v := none) (r := none) X183 rfl rfl hL183
                            refine own_via (T' := T183) (g' := (mkF m 315 #[.val (.int p1), .val (.int p2), .val (.int v1), .val (.int v2), .val (.ref b3), .val (.ref b17), .val (.ref b40), .val (.ref b129), .val (.ref tba), .val (.ref tbb), .val (.int (1 : Int32))] [(.int (1 : Int32))])) (fun _ kt => st183 _ (XS.ifNo X183.here hx rfl (hb hby at_303) rfl ((if0 _ _).trans (feq (by decide : ¬ ((1 : Int32) = (0 : Int32)))).1) (XS.iconst X183.here hx rfl (hb hby at_306) (XS.goto X183.here hx rfl (pc0 := 307) (pc' := 311) rfl (hb hby at_307) (by decide) (by decide) (XS.istore X183.here hx rfl (hb hby at_311) rfl (l' := #[.val (.int p1), .val (.int p2), .val (.int v1), .val (.int v2), .val (.ref b3), .val (.ref b17), .val (.ref b40), .val (.ref b129), .val (.ref tba), .val (.ref tbb), .val (.int (1 : Int32))]) rfl (XS.iload X183.here hx rfl (hb hby at_313) rfl kt)))))) ?_
                            refine own_via (T' := T183) (g' := (mkF m 338 #[.val (.int p1), .val (.int p2), .val (.int v1), .val (.int v2), .val (.ref b3), .val (.ref b17), .val (.ref b40), .val (.ref b129), .val (.ref tba), .val (.ref tbb), .val (.int (1 : Int32))] [(.int (0 : Int32)), (.ref tbb), (.ref b129)])) (fun _ kt => XS.ifNo X183.here hx rfl (hb hby at_315) rfl ((if0 _ _).trans (feq (by decide : ¬ ((1 : Int32) = (0 : Int32)))).1) (XS.aload X183.here hx rfl (hb hby at_318) rfl rfl (XS.aload X183.here hx rfl (hb hby at_320) rfl rfl (XS.iconst X183.here hx rfl (hb hby at_322) (XS.iloadN X183.here hx rfl (hb hby at_323) rfl (XS.ifYes X183.here hx rfl (pc0 := 324) (pc' := 338) rfl (hb hby at_324) rfl ((if0 _ _).trans (feq hc147_58).2) (by decide) (by decide) kt)))))) ?_
                            refine own_via (T' := T183) (g' := (mkF m 339 #[.val (.int p1), .val (.int p2), .val (.int v1), .val (.int v2), .val (.ref b3), .val (.ref b17), .val (.ref b40), .val (.ref b129), .val (.ref tba), .val (.ref tbb), .val (.int (1 : Int32))] [(.int (0 : Int32)), (.int (0 : Int32)), (.ref tbb), (.ref b129)])) (fun _ kt => XS.iconst X183.here hx rfl (hb hby at_338) kt) ?_
                            obtain ⟨v184, T184, L184, X184, hQ184, st184⟩ := own_callS X183 hx hZ (y := (⟨"com/example/querent/querent/engine/ColumnTypesAddAllPinLaw", "col", "(Lcom/example/querent/querent/engine/ColumnTypes;[Lcom/example/querent/querent/engine/Type;IZ)Z"⟩ : MethodName)) hown (hw _ (List.mem_of_getElem? (i := 55) rfl)) (hw _ (List.mem_of_getElem? (i := 56) rfl)) (hw _ (List.mem_of_getElem? (i := 57) rfl)) (hw _ (List.mem_of_getElem? (i := 58) rfl)) (by decide) (W := 0) (argsL := [(.ref b129), (.ref tbb), (.int (0 : Int32)), (.int (0 : Int32))]) (rest := []) (rm8 l Z a0 hw [] b129 snb itb nmb blb tbb .null own_z (fun _ => Or.inl rfl) 0 (by decide) (0 : Int32) rfl tx T168.heap f176 Aq168 (S0.ext f169.2)) (by decide) (by decide) (by decide) (by decide) e183 (g := (mkF m 339 #[.val (.int p1), .val (.int p2), .val (.int v1), .val (.int v2), .val (.ref b3), .val (.ref b17), .val (.ref b40), .val (.ref b129), .val (.ref tba), .val (.ref tbb), .val (.int (1 : Int32))] [(.int (0 : Int32)), (.int (0 : Int32)), (.ref tbb), (.ref b129)])) rfl (by rw [hml]; rfl) (lenOf pd_7 rfl) rfl (by show 2 * 0 + _ ≤ _; exact Nat.le_of_eq rfl) (hb hby at_339)
                            obtain ⟨rfl, hL184, e184⟩ := hQ184
                            replace X184 := own_pure (v := none) (r := none) X184 rfl rfl hL184
                            refine own_via (T' := T184) (g' := (mkF m 354 #[.val (.int p1), .val (.int p2), .val (.int v1), .val (.int v2), .val (.ref b3), .val (.ref b17), .val (.ref b40), .val (.ref b129), .val (.ref tba), .val (.ref tbb), .val (.int (1 : Int32))] [(.int (1 : Int32))])) (fun _ kt => st184 _ (XS.ifNo X184.here hx rfl (hb hby at_342) rfl ((if0 _ _).trans (feq (by decide : ¬ ((1 : Int32) = (0 : Int32)))).1) (XS.iconst X184.here hx rfl (hb hby at_345) (XS.goto X184.here hx rfl (pc0 := 346) (pc' := 350) rfl (hb hby at_346) (by decide) (by decide) (XS.istore X184.here hx rfl (hb hby at_350) rfl (l' := #[.val (.int p1), .val (.int p2), .val (.int v1), .val (.int v2), .val (.ref b3), .val (.ref b17), .val (.ref b40), .val (.ref b129), .val (.ref tba), .val (.ref tbb), .val (.int (1 : Int32))]) rfl (XS.iload X184.here hx rfl (hb hby at_352) rfl kt)))))) ?_
                            refine own_via (T' := T184) (g' := (mkF m 377 #[.val (.int p1), .val (.int p2), .val (.int v1), .val (.int v2), .val (.ref b3), .val (.ref b17), .val (.ref b40), .val (.ref b129), .val (.ref tba), .val (.ref tbb), .val (.int (1 : Int32))] [(.int (1 : Int32)), (.ref tbb), (.ref b129)])) (fun _ kt => XS.ifNo X184.here hx rfl (hb hby at_354) rfl ((if0 _ _).trans (feq (by decide : ¬ ((1 : Int32) = (0 : Int32)))).1) (XS.aload X184.here hx rfl (hb hby at_357) rfl rfl (XS.aload X184.here hx rfl (hb hby at_359) rfl rfl (XS.iconst X184.here hx rfl (hb hby at_361) (XS.iloadN X184.here hx rfl (hb hby at_362) rfl (XS.ifYes X184.here hx rfl (pc0 := 363) (pc' := 377) rfl (hb hby at_363) rfl ((if0 _ _).trans (feq hc147_58).2) (by decide) (by decide) kt)))))) ?_
                            refine own_via (T' := T184) (g' := (mkF m 378 #[.val (.int p1), .val (.int p2), .val (.int v1), .val (.int v2), .val (.ref b3), .val (.ref b17), .val (.ref b40), .val (.ref b129), .val (.ref tba), .val (.ref tbb), .val (.int (1 : Int32))] [(.int (0 : Int32)), (.int (1 : Int32)), (.ref tbb), (.ref b129)])) (fun _ kt => XS.iconst X184.here hx rfl (hb hby at_377) kt) ?_
                            obtain ⟨v185, T185, L185, X185, hQ185, st185⟩ := own_callS X184 hx hZ (y := (⟨"com/example/querent/querent/engine/ColumnTypesAddAllPinLaw", "col", "(Lcom/example/querent/querent/engine/ColumnTypes;[Lcom/example/querent/querent/engine/Type;IZ)Z"⟩ : MethodName)) hown (hw _ (List.mem_of_getElem? (i := 55) rfl)) (hw _ (List.mem_of_getElem? (i := 56) rfl)) (hw _ (List.mem_of_getElem? (i := 57) rfl)) (hw _ (List.mem_of_getElem? (i := 58) rfl)) (by decide) (W := 0) (argsL := [(.ref b129), (.ref tbb), (.int (1 : Int32)), (.int (0 : Int32))]) (rest := []) (rm8 l Z a0 hw [] b129 snb itb nmb blb tbb .null own_z (fun _ => Or.inl rfl) 1 (by decide) (0 : Int32) rfl tx T168.heap f176 Aq168 (S0.ext f169.2)) (by decide) (by decide) (by decide) (by decide) e184 (g := (mkF m 378 #[.val (.int p1), .val (.int p2), .val (.int v1), .val (.int v2), .val (.ref b3), .val (.ref b17), .val (.ref b40), .val (.ref b129), .val (.ref tba), .val (.ref tbb), .val (.int (1 : Int32))] [(.int (0 : Int32)), (.int (1 : Int32)), (.ref tbb), (.ref b129)])) rfl (by rw [hml]; rfl) (lenOf pd_7 rfl) rfl (by show 2 * 0 + _ ≤ _; exact Nat.le_of_eq rfl) (hb hby at_378)
                            obtain ⟨rfl, hL185, e185⟩ := hQ185
                            replace X185 := own_pure (v := none) (r := none) X185 rfl rfl hL185
                            refine own_via (T' := T185) (g' := (mkF m 393 #[.val (.int p1), .val (.int p2), .val (.int v1), .val (.int v2), .val (.ref b3), .val (.ref b17), .val (.ref b40), .val (.ref b129), .val (.ref tba), .val (.ref tbb), .val (.int (1 : Int32))] [(.int (1 : Int32))])) (fun _ kt => st185 _ (XS.ifNo X185.here hx rfl (hb hby at_381) rfl ((if0 _ _).trans (feq (by decide : ¬ ((1 : Int32) = (0 : Int32)))).1) (XS.iconst X185.here hx rfl (hb hby at_384) (XS.goto X185.here hx rfl (pc0 := 385) (pc' := 389) rfl (hb hby at_385) (by decide) (by decide) (XS.istore X185.here hx rfl (hb hby at_389) rfl (l' := #[.val (.int p1), .val (.int p2), .val (.int v1), .val (.int v2), .val (.ref b3), .val (.ref b17), .val (.ref b40), .val (.ref b129), .val (.ref tba), .val (.ref tbb), .val (.int (1 : Int32))]) rfl (XS.iload X185.here hx rfl (hb hby at_391) rfl kt)))))) ?_
                            refine own_via (T' := T185) (g' := (mkF m 416 #[.val (.int p1), .val (.int p2), .val (.int v1), .val (.int v2), .val (.ref b3), .val (.ref b17), .val (.ref b40), .val (.ref b129), .val (.ref tba), .val (.ref tbb), .val (.int (1 : Int32))] [(.int (2 : Int32)), (.ref tbb), (.ref b129)])) (fun _ kt => XS.ifNo X185.here hx rfl (hb hby at_393) rfl ((if0 _ _).trans (feq (by decide : ¬ ((1 : Int32) = (0 : Int32)))).1) (XS.aload X185.here hx rfl (hb hby at_396) rfl rfl (XS.aload X185.here hx rfl (hb hby at_398) rfl rfl (XS.iconst X185.here hx rfl (hb hby at_400) (XS.iloadN X185.here hx rfl (hb hby at_401) rfl (XS.ifYes X185.here hx rfl (pc0 := 402) (pc' := 416) rfl (hb hby at_402) rfl ((if0 _ _).trans (feq hc147_58).2) (by decide) (by decide) kt)))))) ?_
                            refine own_via (T' := T185) (g' := (mkF m 417 #[.val (.int p1), .val (.int p2), .val (.int v1), .val (.int v2), .val (.ref b3), .val (.ref b17), .val (.ref b40), .val (.ref b129), .val (.ref tba), .val (.ref tbb), .val (.int (1 : Int32))] [(.int (0 : Int32)), (.int (2 : Int32)), (.ref tbb), (.ref b129)])) (fun _ kt => XS.iconst X185.here hx rfl (hb hby at_416) kt) ?_
                            obtain ⟨v186, T186, L186, X186, hQ186, st186⟩ := own_callS X185 hx hZ (y := (⟨"com/example/querent/querent/engine/ColumnTypesAddAllPinLaw", "col", "(Lcom/example/querent/querent/engine/ColumnTypes;[Lcom/example/querent/querent/engine/Type;IZ)Z"⟩ : MethodName)) hown (hw _ (List.mem_of_getElem? (i := 55) rfl)) (hw _ (List.mem_of_getElem? (i := 56) rfl)) (hw _ (List.mem_of_getElem? (i := 57) rfl)) (hw _ (List.mem_of_getElem? (i := 58) rfl)) (by decide) (W := 0) (argsL := [(.ref b129), (.ref tbb), (.int (2 : Int32)), (.int (0 : Int32))]) (rest := []) (rm8 l Z a0 hw [] b129 snb itb nmb blb tbb .null own_z (fun _ => Or.inl rfl) 2 (by decide) (0 : Int32) rfl tx T168.heap f176 Aq168 (S0.ext f169.2)) (by decide) (by decide) (by decide) (by decide) e185 (g := (mkF m 417 #[.val (.int p1), .val (.int p2), .val (.int v1), .val (.int v2), .val (.ref b3), .val (.ref b17), .val (.ref b40), .val (.ref b129), .val (.ref tba), .val (.ref tbb), .val (.int (1 : Int32))] [(.int (0 : Int32)), (.int (2 : Int32)), (.ref tbb), (.ref b129)])) rfl (by rw [hml]; rfl) (lenOf pd_7 rfl) rfl (by show 2 * 0 + _ ≤ _; exact Nat.le_of_eq rfl) (hb hby at_417)
                            obtain ⟨rfl, hL186, e186⟩ := hQ186
                            replace X186 := own_pure (v := none) (r := none) X186 rfl rfl hL186
                            refine own_via (T' := T186) (g' := (mkF m 432 #[.val (.int p1), .val (.int p2), .val (.int v1), .val (.int v2), .val (.ref b3), .val (.ref b17), .val (.ref b40), .val (.ref b129), .val (.ref tba), .val (.ref tbb), .val (.int (1 : Int32))] [(.int (1 : Int32))])) (fun _ kt => st186 _ (XS.ifNo X186.here hx rfl (hb hby at_420) rfl ((if0 _ _).trans (feq (by decide : ¬ ((1 : Int32) = (0 : Int32)))).1) (XS.iconst X186.here hx rfl (hb hby at_423) (XS.goto X186.here hx rfl (pc0 := 424) (pc' := 428) rfl (hb hby at_424) (by decide) (by decide) (XS.istore X186.here hx rfl (hb hby at_428) rfl (l' := #[.val (.int p1), .val (.int p2), .val (.int v1), .val (.int v2), .val (.ref b3), .val (.ref b17), .val (.ref b40), .val (.ref b129), .val (.ref tba), .val (.ref tbb), .val (.int (1 : Int32))]) rfl (XS.iload X186.here hx rfl (hb hby at_430) rfl kt)))))) ?_
                            exact own_retZ X186 hx hret hlk (hb hby at_432) (by decide) ⟨rfl, N168⟩ (by decide) (by decide)
                          refine own_via (T' := T181) (g' := (mkF m 292 #[.val (.int p1), .val (.int p2), .val (.int v1), .val (.int v2), .val (.ref b3), .val (.ref b17), .val (.ref b40), .val (.ref b129), .val (.ref tba), .val (.ref tbb), .val (.int (1 : Int32))] [(.int (rb 2)), (.int (2 : Int32)), (.ref tba), (.ref b40)])) (fun _ kt => XS.aload X181.here hx rfl (hb hby at_288) rfl rfl (XS.iconst X181.here hx rfl (hb hby at_290) (own_baloadZ X181 hx hZ e181 f170 (j := (2 : Int32)) (i := 2) rfl (by decide) (g := (mkF m 291 #[.val (.int p1), .val (.int p2), .val (.int v1), .val (.int v2), .val (.ref b3), .val (.ref b17), .val (.ref b40), .val (.ref b129), .val (.ref tba), .val (.ref tbb), .val (.int (1 : Int32))] [(.int (2 : Int32)), (.ref b3), (.int (2 : Int32)), (.ref tba), (.ref b40)])) rfl rfl (hb hby at_291) _ kt))) ?_
                          by_cases hc292_187 : (rb 2) = (0 : Int32)
                          · refine own_via (T' := T181) (g' := (mkF m 300 #[.val (.int p1), .val (.int p2), .val (.int v1), .val (.int v2), .val (.ref b3), .val (.ref b17), .val (.ref b40), .val (.ref b129), .val (.ref tba), .val (.ref tbb), .val (.int (1 : Int32))] [(.int (1 : Int32)), (.int (2 : Int32)), (.ref tba), (.ref b40)])) (fun _ kt => XS.ifNo X181.here hx rfl (hb hby at_292) rfl ((if0 _ _).trans (teq hc292_187).2) (XS.iconst X181.here hx rfl (hb hby at_295) (XS.goto X181.here hx rfl (pc0 := 296) (pc' := 300) rfl (hb hby at_296) (by decide) (by decide) kt))) ?_
                            exact HJ182 (1 : Int32) (own_nt0 hc292_187)
                          · refine own_via (T' := T181) (g' := (mkF m 300 #[.val (.int p1), .val (.int p2), .val (.int v1), .val (.int v2), .val (.ref b3), .val (.ref b17), .val (.ref b40), .val (.ref b129), .val (.ref tba), .val (.ref tbb), .val (.int (1 : Int32))] [(.int (0 : Int32)), (.int (2 : Int32)), (.ref tba), (.ref b40)])) (fun _ kt => XS.ifYes X181.here hx rfl (pc0 := 292) (pc' := 299) rfl (hb hby at_292) rfl ((if0 _ _).trans (feq hc292_187).2) (by decide) (by decide) (XS.iconst X181.here hx rfl (hb hby at_299) kt)) ?_
                            exact HJ182 (0 : Int32) (own_nt1 hc292_187)
                        refine own_via (T' := T179) (g' := (mkF m 253 #[.val (.int p1), .val (.int p2), .val (.int v1), .val (.int v2), .val (.ref b3), .val (.ref b17), .val (.ref b40), .val (.ref b129), .val (.ref tba), .val (.ref tbb), .val (.int (1 : Int32))] [(.int (rb 1)), (.int (1 : Int32)), (.ref tba), (.ref b40)])) (fun _ kt => XS.aload X179.here hx rfl (hb hby at_249) rfl rfl (XS.iconst X179.here hx rfl (hb hby at_251) (own_baloadZ X179 hx hZ e179 f170 (j := (1 : Int32)) (i := 1) rfl (by decide) (g := (mkF m 252 #[.val (.int p1), .val (.int p2), .val (.int v1), .val (.int v2), .val (.ref b3), .val (.ref b17), .val (.ref b40), .val (.ref b129), .val (.ref tba), .val (.ref tbb), .val (.int (1 : Int32))] [(.int (1 : Int32)), (.ref b3), (.int (1 : Int32)), (.ref tba), (.ref b40)])) rfl rfl (hb hby at_252) _ kt))) ?_
                        by_cases hc253_188 : (rb 1) = (0 : Int32)
                        · refine own_via (T' := T179) (g' := (mkF m 261 #[.val (.int p1), .val (.int p2), .val (.int v1), .val (.int v2), .val (.ref b3), .val (.ref b17), .val (.ref b40), .val (.ref b129), .val (.ref tba), .val (.ref tbb), .val (.int (1 : Int32))] [(.int (1 : Int32)), (.int (1 : Int32)), (.ref tba), (.ref b40)])) (fun _ kt => XS.ifNo X179.here hx rfl (hb hby at_253) rfl ((if0 _ _).trans (teq hc253_188).2) (XS.iconst X179.here hx rfl (hb hby at_256) (XS.goto X179.here hx rfl (pc0 := 257) (pc' := 261) rfl (hb hby at_257) (by decide) (by decide) kt))) ?_
                          exact HJ180 (1 : Int32) (own_nt0 hc253_188)
                        · refine own_via (T' := T179) (g' := (mkF m 261 #[.val (.int p1), .val (.int p2), .val (.int v1), .val (.int v2), .val (.ref b3), .val (.ref b17), .val (.ref b40), .val (.ref b129), .val (.ref tba), .val (.ref tbb), .val (.int (1 : Int32))] [(.int (0 : Int32)), (.int (1 : Int32)), (.ref tba), (.ref b40)])) (fun _ kt => XS.ifYes X179.here hx rfl (pc0 := 253) (pc' := 260) rfl (hb hby at_253) rfl ((if0 _ _).trans (feq hc253_188).2) (by decide) (by decide) (XS.iconst X179.here hx rfl (hb hby at_260) kt)) ?_
                          exact HJ180 (0 : Int32) (own_nt1 hc253_188)
                      refine own_via (T' := T168) (g' := (mkF m 222 #[.val (.int p1), .val (.int p2), .val (.int v1), .val (.int v2), .val (.ref b3), .val (.ref b17), .val (.ref b40), .val (.ref b129), .val (.ref tba), .val (.ref tbb), .unset] [(.int (rb 0)), (.int (0 : Int32)), (.ref tba), (.ref b40)])) (fun _ kt => XS.aload X168.here hx rfl (hb hby at_218) rfl rfl (XS.iconst X168.here hx rfl (hb hby at_220) (own_baloadZ X168 hx hZ rfl f170 (j := (0 : Int32)) (i := 0) rfl (by decide) (g := (mkF m 221 #[.val (.int p1), .val (.int p2), .val (.int v1), .val (.int v2), .val (.ref b3), .val (.ref b17), .val (.ref b40), .val (.ref b129), .val (.ref tba), .val (.ref tbb), .unset] [(.int (0 : Int32)), (.ref b3), (.int (0 : Int32)), (.ref tba), (.ref b40)])) rfl rfl (hb hby at_221) _ kt))) ?_
                      by_cases hc222_189 : (rb 0) = (0 : Int32)
                      · refine own_via (T' := T168) (g' := (mkF m 230 #[.val (.int p1), .val (.int p2), .val (.int v1), .val (.int v2), .val (.ref b3), .val (.ref b17), .val (.ref b40), .val (.ref b129), .val (.ref tba), .val (.ref tbb), .unset] [(.int (1 : Int32)), (.int (0 : Int32)), (.ref tba), (.ref b40)])) (fun _ kt => XS.ifNo X168.here hx rfl (hb hby at_222) rfl ((if0 _ _).trans (teq hc222_189).2) (XS.iconst X168.here hx rfl (hb hby at_225) (XS.goto X168.here hx rfl (pc0 := 226) (pc' := 230) rfl (hb hby at_226) (by decide) (by decide) kt))) ?_
                        exact HJ178 (1 : Int32) (own_nt0 hc222_189)
                      · refine own_via (T' := T168) (g' := (mkF m 230 #[.val (.int p1), .val (.int p2), .val (.int v1), .val (.int v2), .val (.ref b3), .val (.ref b17), .val (.ref b40), .val (.ref b129), .val (.ref tba), .val (.ref tbb), .unset] [(.int (0 : Int32)), (.int (0 : Int32)), (.ref tba), (.ref b40)])) (fun _ kt => XS.ifYes X168.here hx rfl (pc0 := 222) (pc' := 229) rfl (hb hby at_222) rfl ((if0 _ _).trans (feq hc222_189).2) (by decide) (by decide) (XS.iconst X168.here hx rfl (hb hby at_229) kt)) ?_
                        exact HJ178 (0 : Int32) (own_nt1 hc222_189)
                  · refine own_via (T' := T34) (g' := (mkF m 124 #[.val (.int p1), .val (.int p2), .val (.int v1), .val (.int v2), .val (.ref b3), .val (.ref b17), .unset, .unset, .unset, .unset, .unset] [])) (fun _ kt => XS.ifNo X34.here hx rfl (hb hby at_121) rfl ((if0 _ _).trans (feq hc121_39).1) kt) ?_
                    obtain ⟨T190, h190, X190, e190, E190, A190, D190, -, st190⟩ := newO X34 hx hZ hown (hw _ (List.mem_of_getElem? (i := 1) rfl)) (hw _ (List.mem_of_getElem? (i := 2) rfl)) (hw _ (List.mem_of_getElem? (i := 3) rfl)) e34 (g := (mkF m 124 #[.val (.int p1), .val (.int p2), .val (.int v1), .val (.int v2), .val (.ref b3), .val (.ref b17), .unset, .unset, .unset, .unset, .unset] [])) rfl (hb hby at_124) (by decide) (by decide)
                    obtain ⟨b190, gb190⟩ : ∃ z, z = h34.size := ⟨_, rfl⟩
                    rw [← gb190] at A190 D190 st190
                    have lt_b3_b190 : @LT.lt Nat _ b3 b190 := Nat.lt_of_lt_of_le f36.lt (Nat.le_of_eq gb190.symm)
                    have lt_b17_b190 : @LT.lt Nat _ b17 b190 := Nat.lt_of_lt_of_le Aob.lt (Nat.le_of_eq gb190.symm)
                    have gg190 : n0 ≤ b190 := Nat.le_trans z34 (Nat.le_of_eq gb190.symm)
                    have f191 := f35.ext E190
                    have f192 := f36.ext E190
                    have f193 := f37.ext E190
                    have f194 := Aob.ext E190
                    have f195 := f38.ext E190
                    have z190 : n0 ≤ h190.size := Nat.le_trans z34 E190.1
                    have f196 : Fld Z h190 b190 "com/example/querent/querent/engine/ColumnTypes" "seen" "[Z" .null := D190 (Or.inr (hw _ (List.mem_of_getElem? (i := 23) rfl))) (ty := (.array .boolean)) (by decide)
                    have f197 : Fld Z h190 b190 "com/example/querent/querent/engine/ColumnTypes" "integers" "[Z" .null := D190 (Or.inr (hw _ (List.mem_of_getElem? (i := 32) rfl))) (ty := (.array .boolean)) (by decide)
                    have f198 : Fld Z h190 b190 "com/example/querent/querent/engine/ColumnTypes" "numbers" "[Z" .null := D190 (Or.inr (hw _ (List.mem_of_getElem? (i := 34) rfl))) (ty := (.array .boolean)) (by decide)
                    have f199 : Fld Z h190 b190 "com/example/querent/querent/engine/ColumnTypes" "booleans" "[Z" .null := D190 (Or.inr (hw _ (List.mem_of_getElem? (i := 36) rfl))) (ty := (.array .boolean)) (by decide)
                    have f200 : Fld Z h190 b190 "com/example/querent/querent/engine/ColumnTypes" "watched" "[Z" .null := D190 (Or.inr (hw _ (List.mem_of_getElem? (i := 38) rfl))) (ty := (.array .boolean)) (by decide)
                    refine own_via (T' := T190) (g' := (mkF m 129 #[.val (.int p1), .val (.int p2), .val (.int v1), .val (.int v2), .val (.ref b3), .val (.ref b17), .unset, .unset, .unset, .unset, .unset] [(.int (3 : Int32)), (.ref b190), (.ref b190)])) (fun _ kt => st190 _ (XS.dup X190.here hx rfl (hb hby at_127) rfl rfl (XS.iconst X190.here hx rfl (hb hby at_128) kt))) ?_
                    obtain ⟨v201, T201, L201, X201, hQ201, st201⟩ := own_callI X190 hx hZ (y := (⟨"com/example/querent/querent/engine/ColumnTypes", "<init>", "(I)V"⟩ : MethodName)) rfl hown (hw _ (List.mem_of_getElem? (i := 65) rfl)) (hw _ (List.mem_of_getElem? (i := 66) rfl)) (hw _ (List.mem_of_getElem? (i := 3) rfl)) (hw _ (List.mem_of_getElem? (i := 67) rfl)) (by decide) (b := b190) (W := 1) (argsL := [(.int (3 : Int32))]) (rest := [(.ref b190)]) (rm10 l Z a0 hw [] b190 _ _ _ _ _ h190 n0 z190 gg190 A190 f196 f197 f198 f199 f200) (by decide) (by decide) (by decide) (by decide) e190 (g := (mkF m 129 #[.val (.int p1), .val (.int p2), .val (.int v1), .val (.int v2), .val (.ref b3), .val (.ref b17), .unset, .unset, .unset, .unset, .unset] [(.int (3 : Int32)), (.ref b190), (.ref b190)])) rfl (by rw [hml]; rfl) (lenOf pd_8 rfl) rfl (by show 2 * 0 + _ ≤ _; exact Nat.le_of_eq rfl) (hb hby at_129)
                    obtain ⟨sna, ita, nma, bla, o1a, o2a, o3a, o4a, rfl, Nq201, Kq201, Cq201⟩ := hQ201
                    have lt_b3_sna : @LT.lt Nat _ b3 sna := Nat.lt_of_lt_of_le f192.lt o1a
                    have lt_b17_sna : @LT.lt Nat _ b17 sna := Nat.lt_of_lt_of_le f194.lt o1a
                    have lt_b190_sna : @LT.lt Nat _ b190 sna := Nat.lt_of_lt_of_le A190.lt o1a
                    have zsna : n0 ≤ sna := Nat.le_trans z190 o1a
                    have f202 := f191.keep Kq201 (allS gg190 all0)
                    have f203 := f192.keep Kq201 (ninS (own_ne (by omega)) nin0)
                    have f204 := f193.keep Kq201
                    have f205 := f194.keep Kq201 (ninS (own_ne (by omega)) nin0)
                    have f206 := f195.keep Kq201
                    have f207 := A190.keep Kq201
                    have z201 : n0 ≤ T201.heap.size := Nat.le_trans z190 Kq201.1
                    have N201 := Fr.app N34 Nq201
                    refine own_via (T' := T201) (g' := (mkF m 147 #[.val (.int p1), .val (.int p2), .val (.int v1), .val (.int v2), .val (.ref b3), .val (.ref b17), .val (.ref b190), .unset, .unset, .unset, .unset] [(.int v2)])) (fun _ kt => st201 _ (XS.goto X201.here hx rfl (pc0 := 132) (pc' := 144) rfl (hb hby at_132) (by decide) (by decide) (XS.astore X201.here hx rfl (hb hby at_144) rfl rfl (l' := #[.val (.int p1), .val (.int p2), .val (.int v1), .val (.int v2), .val (.ref b3), .val (.ref b17), .val (.ref b190), .unset, .unset, .unset, .unset]) rfl (XS.iloadN X201.here hx rfl (hb hby at_146) rfl kt)))) ?_
                    by_cases hc147_208 : v2 = (0 : Int32)
                    · refine own_via (T' := T201) (g' := (mkF m 161 #[.val (.int p1), .val (.int p2), .val (.int v1), .val (.int v2), .val (.ref b3), .val (.ref b17), .val (.ref b190), .unset, .unset, .unset, .unset] [])) (fun _ kt => XS.ifYes X201.here hx rfl (pc0 := 147) (pc' := 161) rfl (hb hby at_147) rfl ((if0 _ _).trans (teq hc147_208).1) (by decide) (by decide) kt) ?_
                      obtain ⟨T209, h209, X209, e209, E209, A209, D209, -, st209⟩ := newO X201 hx hZ hown (hw _ (List.mem_of_getElem? (i := 1) rfl)) (hw _ (List.mem_of_getElem? (i := 2) rfl)) (hw _ (List.mem_of_getElem? (i := 3) rfl)) rfl (g := (mkF m 161 #[.val (.int p1), .val (.int p2), .val (.int v1), .val (.int v2), .val (.ref b3), .val (.ref b17), .val (.ref b190), .unset, .unset, .unset, .unset] [])) rfl (hb hby at_161) (by decide) (by decide)
                      obtain ⟨b209, gb209⟩ : ∃ z, z = T201.heap.size := ⟨_, rfl⟩
                      rw [← gb209] at A209 D209 st209
                      have lt_b3_b209 : @LT.lt Nat _ b3 b209 := Nat.lt_of_lt_of_le f203.lt (Nat.le_of_eq gb209.symm)
                      have lt_b17_b209 : @LT.lt Nat _ b17 b209 := Nat.lt_of_lt_of_le f205.lt (Nat.le_of_eq gb209.symm)
                      have lt_b190_b209 : @LT.lt Nat _ b190 b209 := Nat.lt_of_lt_of_le Cq201.lt_a (Nat.le_of_eq gb209.symm)
                      have lt_sna_b209 : @LT.lt Nat _ sna b209 := Nat.lt_of_lt_of_le Cq201.lt_sn (Nat.le_of_eq gb209.symm)
                      have lt_ita_b209 : @LT.lt Nat _ ita b209 := Nat.lt_of_lt_of_le Cq201.lt_it (Nat.le_of_eq gb209.symm)
                      have lt_nma_b209 : @LT.lt Nat _ nma b209 := Nat.lt_of_lt_of_le Cq201.lt_nm (Nat.le_of_eq gb209.symm)
                      have lt_bla_b209 : @LT.lt Nat _ bla b209 := Nat.lt_of_lt_of_le Cq201.lt_bl (Nat.le_of_eq gb209.symm)
                      have gg209 : n0 ≤ b209 := Nat.le_trans z201 (Nat.le_of_eq gb209.symm)
                      have f210 := f202.ext E209
                      have f211 := f203.ext E209
                      have f212 := f204.ext E209
                      have f213 := f205.ext E209
                      have f214 := f206.ext E209
                      have f215 := Cq201.ext E209
                      have z209 : n0 ≤ h209.size := Nat.le_trans z201 E209.1
                      have f216 : Fld Z h209 b209 "com/example/querent/querent/engine/ColumnTypes" "seen" "[Z" .null := D209 (Or.inr (hw _ (List.mem_of_getElem? (i := 23) rfl))) (ty := (.array .boolean)) (by decide)
                      have f217 : Fld Z h209 b209 "com/example/querent/querent/engine/ColumnTypes" "integers" "[Z" .null := D209 (Or.inr (hw _ (List.mem_of_getElem? (i := 32) rfl))) (ty := (.array .boolean)) (by decide)
                      have f218 : Fld Z h209 b209 "com/example/querent/querent/engine/ColumnTypes" "numbers" "[Z" .null := D209 (Or.inr (hw _ (List.mem_of_getElem? (i := 34) rfl))) (ty := (.array .boolean)) (by decide)
                      have f219 : Fld Z h209 b209 "com/example/querent/querent/engine/ColumnTypes" "booleans" "[Z" .null := D209 (Or.inr (hw _ (List.mem_of_getElem? (i := 36) rfl))) (ty := (.array .boolean)) (by decide)
                      have f220 : Fld Z h209 b209 "com/example/querent/querent/engine/ColumnTypes" "watched" "[Z" .null := D209 (Or.inr (hw _ (List.mem_of_getElem? (i := 38) rfl))) (ty := (.array .boolean)) (by decide)
                      refine own_via (T' := T209) (g' := (mkF m 167 #[.val (.int p1), .val (.int p2), .val (.int v1), .val (.int v2), .val (.ref b3), .val (.ref b17), .val (.ref b190), .unset, .unset, .unset, .unset] [(.ref b17), (.ref b209), (.ref b209)])) (fun _ kt => st209 _ (XS.dup X209.here hx rfl (hb hby at_164) rfl rfl (XS.aload X209.here hx rfl (hb hby at_165) rfl rfl kt))) ?_
                      obtain ⟨v221, T221, L221, X221, hQ221, st221⟩ := own_callI X209 hx hZ (y := (⟨"com/example/querent/querent/engine/ColumnTypes", "<init>", "([Z)V"⟩ : MethodName)) rfl hown (hw _ (List.mem_of_getElem? (i := 4) rfl)) (hw _ (List.mem_of_getElem? (i := 5) rfl)) (hw _ (List.mem_of_getElem? (i := 3) rfl)) (hw _ (List.mem_of_getElem? (i := 6) rfl)) (by decide) (b := b209) (W := 1) (argsL := [(.ref b17)]) (rest := [(.ref b209)]) (rm1 l Z a0 hw [] b17 ob hob b209 _ _ _ _ _ h209 n0 z209 gg209 A209 f216 f217 f218 f219 f220 f213 f214 (by omega)) (by decide) (by decide) (by decide) (by decide) e209 (g := (mkF m 167 #[.val (.int p1), .val (.int p2), .val (.int v1), .val (.int v2), .val (.ref b3), .val (.ref b17), .val (.ref b190), .unset, .unset, .unset, .unset] [(.ref b17), (.ref b209), (.ref b209)])) rfl (by rw [hml]; rfl) (lenOf pd_4 rfl) rfl (by show 2 * 0 + _ ≤ _; exact Nat.le_of_eq rfl) (hb hby at_167)
                      obtain ⟨wtb, snb, itb, nmb, blb, owb, o1b, o2b, o3b, o4b, rfl, Nq221, Kq221, Cq221, Wq221⟩ := hQ221
                      have lt_b3_wtb : @LT.lt Nat _ b3 wtb := Nat.lt_of_lt_of_le f211.lt owb
                      have lt_b17_wtb : @LT.lt Nat _ b17 wtb := Nat.lt_of_lt_of_le f213.lt owb
                      have lt_b190_wtb : @LT.lt Nat _ b190 wtb := Nat.lt_of_lt_of_le f215.lt_a owb
                      have lt_sna_wtb : @LT.lt Nat _ sna wtb := Nat.lt_of_lt_of_le f215.lt_sn owb
                      have lt_ita_wtb : @LT.lt Nat _ ita wtb := Nat.lt_of_lt_of_le f215.lt_it owb
                      have lt_nma_wtb : @LT.lt Nat _ nma wtb := Nat.lt_of_lt_of_le f215.lt_nm owb
                      have lt_bla_wtb : @LT.lt Nat _ bla wtb := Nat.lt_of_lt_of_le f215.lt_bl owb
                      have lt_b209_wtb : @LT.lt Nat _ b209 wtb := Nat.lt_of_lt_of_le A209.lt owb
                      have zwtb : n0 ≤ wtb := Nat.le_trans z209 owb
                      have f222 := f210.keep Kq221 (allS gg209 all0)
                      have f223 := f211.keep Kq221 (ninS (own_ne (by omega)) nin0)
                      have f224 := f212.keep Kq221
                      have f225 := f213.keep Kq221 (ninS (own_ne (by omega)) nin0)
                      have f226 := f214.keep Kq221
                      have f227 := f215.keep Kq221 ⟨(ninS (own_ne (by omega)) nin0), (ninS (own_ne (by omega)) nin0), (ninS (own_ne (by omega)) nin0), (ninS (own_ne (by omega)) nin0), (ninS (own_ne (by omega)) nin0)⟩
                      have f228 := A209.keep Kq221
                      have z221 : n0 ≤ T221.heap.size := Nat.le_trans z209 Kq221.1
                      have N221 := Fr.app N201 Nq221
                      refine own_via (T' := T221) (g' := (mkF m 176 #[.val (.int p1), .val (.int p2), .val (.int v1), .val (.int v2), .val (.ref b3), .val (.ref b17), .val (.ref b190), .val (.ref b209), .unset, .unset, .unset] [(.ref b209), (.ref b190)])) (fun _ kt => st221 _ (XS.astore X221.here hx rfl (hb hby at_170) rfl rfl (l' := #[.val (.int p1), .val (.int p2), .val (.int v1), .val (.int v2), .val (.ref b3), .val (.ref b17), .val (.ref b190), .val (.ref b209), .unset, .unset, .unset]) rfl (XS.aload X221.here hx rfl (hb hby at_172) rfl rfl (XS.aload X221.here hx rfl (hb hby at_174) rfl rfl kt)))) ?_
                      obtain ⟨v229, T229, L229, X229, hQ229, st229⟩ := own_callV X221 hx hZ (y := (⟨"com/example/querent/querent/engine/ColumnTypes", "addAll", "(Lcom/example/querent/querent/engine/ColumnTypes;)V"⟩ : MethodName)) (z := (⟨"com/example/querent/querent/engine/ColumnTypes", "addAll", "(Lcom/example/querent/querent/engine/ColumnTypes;)V"⟩ : MethodName)) hown (hw _ (List.mem_of_getElem? (i := 39) rfl)) (hw _ (List.mem_of_getElem? (i := 40) rfl)) (notFace_of_selects (args := #[]) (mvT hZ (hw _ (List.mem_of_getElem? (i := 42) rfl)))) (hw _ (List.mem_of_getElem? (i := 42) rfl)) (hw _ (List.mem_of_getElem? (i := 41) rfl)) (hw _ (List.mem_of_getElem? (i := 3) rfl)) (hw _ (List.mem_of_getElem? (i := 43) rfl)) (by decide) (b := b190) (W := 0) (argsL := [(.ref b209)]) (rest := []) (rm6r l Z a0 hw [] b190 sna ita nma bla b209 snb itb nmb blb .null own_z (fun _ => Or.inl rfl) wtb ob (by omega) T221.heap n0 z221 (by omega) (by omega) (by omega) (by omega) (by omega) o2a o3a o4a (by omega) (by omega) o2b o3b o4b f227 Cq221 Wq221) (by decide) (by decide) (by decide) (by decide) rfl f227.1 (g := (mkF m 176 #[.val (.int p1), .val (.int p2), .val (.int v1), .val (.int v2), .val (.ref b3), .val (.ref b17), .val (.ref b190), .val (.ref b209), .unset, .unset, .unset] [(.ref b209), (.ref b190)])) rfl (by rw [hml]; rfl) (lenOf pd_5 rfl) rfl (by show 2 * 0 + _ ≤ _; exact Nat.le_of_eq rfl) (hb hby at_176)
                      obtain ⟨rfl, Nq229, Kq229, Cq229⟩ := hQ229
                      have f230 := f222.keep Kq229 (allS (by omega) (allS (by omega) (allS (by omega) (allS (by omega) all0))))
                      have f231 := f223.keep Kq229 (ninS (own_ne (by omega)) (ninS (own_ne (by omega)) (ninS (own_ne (by omega)) (ninS (own_ne (by omega)) nin0))))
                      have f232 := f224.keep Kq229
                      have f233 := f225.keep Kq229 (ninS (own_ne (by omega)) (ninS (own_ne (by omega)) (ninS (own_ne (by omega)) (ninS (own_ne (by omega)) nin0))))
                      have f234 := f226.keep Kq229
                      have f235 := Cq221.keep Kq229 ⟨(ninS (own_ne (by omega)) (ninS (own_ne (by omega)) (ninS (own_ne (by omega)) (ninS (own_ne (by omega)) nin0)))), (ninS (own_ne (by omega)) (ninS (own_ne (by omega)) (ninS (own_ne (by omega)) (ninS (own_ne (by omega)) nin0)))), (ninS (own_ne (by omega)) (ninS (own_ne (by omega)) (ninS (own_ne (by omega)) (ninS (own_ne (by omega)) nin0)))), (ninS (own_ne (by omega)) (ninS (own_ne (by omega)) (ninS (own_ne (by omega)) (ninS (own_ne (by omega)) nin0)))), (ninS (own_ne (by omega)) (ninS (own_ne (by omega)) (ninS (own_ne (by omega)) (ninS (own_ne (by omega)) nin0))))⟩
                      have f236 := Wq221.keep Kq229 (ninS (own_ne (by omega)) (ninS (own_ne (by omega)) (ninS (own_ne (by omega)) (ninS (own_ne (by omega)) nin0))))
                      have z229 : n0 ≤ T229.heap.size := Nat.le_trans z221 Kq229.1
                      have N229 := Fr.app N221 Nq229
                      refine own_via (T' := T229) (g' := (mkF m 181 #[.val (.int p1), .val (.int p2), .val (.int v1), .val (.int v2), .val (.ref b3), .val (.ref b17), .val (.ref b190), .val (.ref b209), .unset, .unset, .unset] [(.ref b190)])) (fun _ kt => st229 _ (XS.aload X229.here hx rfl (hb hby at_179) rfl rfl kt)) ?_
                      obtain ⟨v237, T237, L237, X237, hQ237, st237⟩ := own_callV X229 hx hZ (y := (⟨"com/example/querent/querent/engine/ColumnTypes", "types", "()[Lcom/example/querent/querent/engine/Type;"⟩ : MethodName)) (z := (⟨"com/example/querent/querent/engine/ColumnTypes", "types", "()[Lcom/example/querent/querent/engine/Type;"⟩ : MethodName)) hown (hw _ (List.mem_of_getElem? (i := 44) rfl)) (hw _ (List.mem_of_getElem? (i := 45) rfl)) (notFace_of_selects (args := #[]) (mvT hZ (hw _ (List.mem_of_getElem? (i := 47) rfl)))) (hw _ (List.mem_of_getElem? (i := 47) rfl)) (hw _ (List.mem_of_getElem? (i := 46) rfl)) (hw _ (List.mem_of_getElem? (i := 3) rfl)) (hw _ (List.mem_of_getElem? (i := 48) rfl)) (by decide) (b := b190) (W := 0) (argsL := []) (rest := []) (rm7 l Z a0 hw [] b190 sna ita nma bla .null own_z tx T229.heap n0 z229 Cq229 (S0.ext f230.2) (E0.ext f230.2)) (by decide) (by decide) (by decide) (by decide) rfl Cq229.1 (g := (mkF m 181 #[.val (.int p1), .val (.int p2), .val (.int v1), .val (.int v2), .val (.ref b3), .val (.ref b17), .val (.ref b190), .val (.ref b209), .unset, .unset, .unset] [(.ref b190)])) rfl (by rw [hml]; rfl) (lenOf pd_6 rfl) rfl (by show 2 * 0 + _ ≤ _; exact Nat.le_of_eq rfl) (hb hby at_181)
                      obtain ⟨tba, rfl, ota, Nq237, Kq237, Aq237⟩ := hQ237
                      have f238 := f230.keep Kq237 all0
                      have f239 := f231.keep Kq237 nin0
                      have f240 := f232.keep Kq237
                      have f241 := f233.keep Kq237 nin0
                      have f242 := f234.keep Kq237
                      have f243 := Cq229.keep Kq237 ⟨nin0, nin0, nin0, nin0, nin0⟩
                      have f244 := f235.keep Kq237 ⟨nin0, nin0, nin0, nin0, nin0⟩
                      have f245 := f236.keep Kq237 nin0
                      have z237 : n0 ≤ T237.heap.size := Nat.le_trans z229 Kq237.1
                      have N237 := Fr.app N229 Nq237
                      refine own_via (T' := T237) (g' := (mkF m 188 #[.val (.int p1), .val (.int p2), .val (.int v1), .val (.int v2), .val (.ref b3), .val (.ref b17), .val (.ref b190), .val (.ref b209), .val (.ref tba), .unset, .unset] [(.ref b209)])) (fun _ kt => st237 _ (XS.astore X237.here hx rfl (hb hby at_184) rfl rfl (l' := #[.val (.int p1), .val (.int p2), .val (.int v1), .val (.int v2), .val (.ref b3), .val (.ref b17), .val (.ref b190), .val (.ref b209), .val (.ref tba), .unset, .unset]) rfl (XS.aload X237.here hx rfl (hb hby at_186) rfl rfl kt))) ?_
                      obtain ⟨v246, T246, L246, X246, hQ246, st246⟩ := own_callV X237 hx hZ (y := (⟨"com/example/querent/querent/engine/ColumnTypes", "types", "()[Lcom/example/querent/querent/engine/Type;"⟩ : MethodName)) (z := (⟨"com/example/querent/querent/engine/ColumnTypes", "types", "()[Lcom/example/querent/querent/engine/Type;"⟩ : MethodName)) hown (hw _ (List.mem_of_getElem? (i := 44) rfl)) (hw _ (List.mem_of_getElem? (i := 45) rfl)) (notFace_of_selects (args := #[]) (mvT hZ (hw _ (List.mem_of_getElem? (i := 47) rfl)))) (hw _ (List.mem_of_getElem? (i := 47) rfl)) (hw _ (List.mem_of_getElem? (i := 46) rfl)) (hw _ (List.mem_of_getElem? (i := 3) rfl)) (hw _ (List.mem_of_getElem? (i := 48) rfl)) (by decide) (b := b209) (W := 0) (argsL := []) (rest := []) (rm7 l Z a0 hw [] b209 snb itb nmb blb (.ref wtb) (own_nb ob) tx T237.heap n0 z237 f244 (S0.ext f238.2) (E0.ext f238.2)) (by decide) (by decide) (by decide) (by decide) rfl f244.1 (g := (mkF m 188 #[.val (.int p1), .val (.int p2), .val (.int v1), .val (.int v2), .val (.ref b3), .val (.ref b17), .val (.ref b190), .val (.ref b209), .val (.ref tba), .unset, .unset] [(.ref b209)])) rfl (by rw [hml]; rfl) (lenOf pd_6 rfl) rfl (by show 2 * 0 + _ ≤ _; exact Nat.le_of_eq rfl) (hb hby at_188)
                      obtain ⟨tbb, rfl, otb, Nq246, Kq246, Aq246⟩ := hQ246
                      have f247 := f238.keep Kq246 all0
                      have f248 := f239.keep Kq246 nin0
                      have f249 := f240.keep Kq246
                      have f250 := f241.keep Kq246 nin0
                      have f251 := f242.keep Kq246
                      have f252 := f243.keep Kq246 ⟨nin0, nin0, nin0, nin0, nin0⟩
                      have f253 := f244.keep Kq246 ⟨nin0, nin0, nin0, nin0, nin0⟩
                      have f254 := f245.keep Kq246 nin0
                      have f255 := Aq237.keep Kq246 nin0
                      have z246 : n0 ≤ T246.heap.size := Nat.le_trans z237 Kq246.1
                      have N246 := Fr.app N237 Nq246
                      refine own_via (T' := T246) (g' := (mkF m 200 #[.val (.int p1), .val (.int p2), .val (.int v1), .val (.int v2), .val (.ref b3), .val (.ref b17), .val (.ref b190), .val (.ref b209), .val (.ref tba), .val (.ref tbb), .unset] [])) (fun _ kt => st246 _ (XS.astore X246.here hx rfl (hb hby at_191) rfl rfl (l' := #[.val (.int p1), .val (.int p2), .val (.int v1), .val (.int v2), .val (.ref b3), .val (.ref b17), .val (.ref b190), .val (.ref b209), .val (.ref tba), .val (.ref tbb), .unset]) rfl (XS.aload X246.here hx rfl (hb hby at_193) rfl rfl (own_alen X246 hx hZ rfl f255 (g := (mkF m 195 #[.val (.int p1), .val (.int p2), .val (.int v1), .val (.int v2), .val (.ref b3), .val (.ref b17), .val (.ref b190), .val (.ref b209), .val (.ref tba), .val (.ref tbb), .unset] [(.ref tba)])) rfl rfl (hb hby at_195) _ (XS.iconst X246.here hx rfl (hb hby at_196) (XS.icmpNo X246.here hx rfl (hb hby at_197) rfl (teq (by decide : ((3 : Int32) = (3 : Int32)))).2 kt)))))) ?_
                      refine own_via (T' := T246) (g' := (mkF m 213 #[.val (.int p1), .val (.int p2), .val (.int v1), .val (.int v2), .val (.ref b3), .val (.ref b17), .val (.ref b190), .val (.ref b209), .val (.ref tba), .val (.ref tbb), .unset] [(.ref tba), (.ref b190)])) (fun _ kt => XS.aload X246.here hx rfl (hb hby at_200) rfl rfl (own_alen X246 hx hZ rfl Aq246 (g := (mkF m 202 #[.val (.int p1), .val (.int p2), .val (.int v1), .val (.int v2), .val (.ref b3), .val (.ref b17), .val (.ref b190), .val (.ref b209), .val (.ref tba), .val (.ref tbb), .unset] [(.ref tbb)])) rfl rfl (hb hby at_202) _ (XS.iconst X246.here hx rfl (hb hby at_203) (XS.icmpYes X246.here hx rfl (pc0 := 204) (pc' := 209) rfl (hb hby at_204) rfl (teq (by decide : ((3 : Int32) = (3 : Int32)))).1 (by decide) (by decide) (XS.aload X246.here hx rfl (hb hby at_209) rfl rfl (XS.aload X246.here hx rfl (hb hby at_211) rfl rfl kt)))))) ?_
                      refine own_via (T' := T246) (g' := (mkF m 230 #[.val (.int p1), .val (.int p2), .val (.int v1), .val (.int v2), .val (.ref b3), .val (.ref b17), .val (.ref b190), .val (.ref b209), .val (.ref tba), .val (.ref tbb), .unset] [(.int (0 : Int32)), (.int (0 : Int32)), (.ref tba), (.ref b190)])) (fun _ kt => XS.iconst X246.here hx rfl (hb hby at_213) (XS.iloadN X246.here hx rfl (hb hby at_214) rfl (XS.ifYes X246.here hx rfl (pc0 := 215) (pc' := 229) rfl (hb hby at_215) rfl ((if0 _ _).trans (feq hc121_39).2) (by decide) (by decide) (XS.iconst X246.here hx rfl (hb hby at_229) kt)))) ?_
                      obtain ⟨v256, T256, L256, X256, hQ256, st256⟩ := own_callS X246 hx hZ (y := (⟨"com/example/querent/querent/engine/ColumnTypesAddAllPinLaw", "col", "(Lcom/example/querent/querent/engine/ColumnTypes;[Lcom/example/querent/querent/engine/Type;IZ)Z"⟩ : MethodName)) hown (hw _ (List.mem_of_getElem? (i := 55) rfl)) (hw _ (List.mem_of_getElem? (i := 56) rfl)) (hw _ (List.mem_of_getElem? (i := 57) rfl)) (hw _ (List.mem_of_getElem? (i := 58) rfl)) (by decide) (W := 0) (argsL := [(.ref b190), (.ref tba), (.int (0 : Int32)), (.int (0 : Int32))]) (rest := []) (rm8 l Z a0 hw [] b190 sna ita nma bla tba .null own_z (fun _ => Or.inl rfl) 0 (by decide) (0 : Int32) rfl tx T246.heap f252 f255 (S0.ext f247.2)) (by decide) (by decide) (by decide) (by decide) rfl (g := (mkF m 230 #[.val (.int p1), .val (.int p2), .val (.int v1), .val (.int v2), .val (.ref b3), .val (.ref b17), .val (.ref b190), .val (.ref b209), .val (.ref tba), .val (.ref tbb), .unset] [(.int (0 : Int32)), (.int (0 : Int32)), (.ref tba), (.ref b190)])) rfl (by rw [hml]; rfl) (lenOf pd_7 rfl) rfl (by show 2 * 0 + _ ≤ _; exact Nat.le_of_eq rfl) (hb hby at_230)
                      obtain ⟨rfl, hL256, e256⟩ := hQ256
                      replace X256 := own_pure (v := none) (r := none) X256 rfl rfl hL256
                      refine own_via (T' := T256) (g' := (mkF m 244 #[.val (.int p1), .val (.int p2), .val (.int v1), .val (.int v2), .val (.ref b3), .val (.ref b17), .val (.ref b190), .val (.ref b209), .val (.ref tba), .val (.ref tbb), .val (.int (1 : Int32))] [(.ref tba), (.ref b190)])) (fun _ kt => st256 _ (XS.istore X256.here hx rfl (hb hby at_233) rfl (l' := #[.val (.int p1), .val (.int p2), .val (.int v1), .val (.int v2), .val (.ref b3), .val (.ref b17), .val (.ref b190), .val (.ref b209), .val (.ref tba), .val (.ref tbb), .val (.int (1 : Int32))]) rfl (XS.iload X256.here hx rfl (hb hby at_235) rfl (XS.ifNo X256.here hx rfl (hb hby at_237) rfl ((if0 _ _).trans (feq (by decide : ¬ ((1 : Int32) = (0 : Int32)))).1) (XS.aload X256.here hx rfl (hb hby at_240) rfl rfl (XS.aload X256.here hx rfl (hb hby at_242) rfl rfl kt)))))) ?_
                      refine own_via (T' := T256) (g' := (mkF m 261 #[.val (.int p1), .val (.int p2), .val (.int v1), .val (.int v2), .val (.ref b3), .val (.ref b17), .val (.ref b190), .val (.ref b209), .val (.ref tba), .val (.ref tbb), .val (.int (1 : Int32))] [(.int (0 : Int32)), (.int (1 : Int32)), (.ref tba), (.ref b190)])) (fun _ kt => XS.iconst X256.here hx rfl (hb hby at_244) (XS.iloadN X256.here hx rfl (hb hby at_245) rfl (XS.ifYes X256.here hx rfl (pc0 := 246) (pc' := 260) rfl (hb hby at_246) rfl ((if0 _ _).trans (feq hc121_39).2) (by decide) (by decide) (XS.iconst X256.here hx rfl (hb hby at_260) kt)))) ?_
                      obtain ⟨v257, T257, L257, X257, hQ257, st257⟩ := own_callS X256 hx hZ (y := (⟨"com/example/querent/querent/engine/ColumnTypesAddAllPinLaw", "col", "(Lcom/example/querent/querent/engine/ColumnTypes;[Lcom/example/querent/querent/engine/Type;IZ)Z"⟩ : MethodName)) hown (hw _ (List.mem_of_getElem? (i := 55) rfl)) (hw _ (List.mem_of_getElem? (i := 56) rfl)) (hw _ (List.mem_of_getElem? (i := 57) rfl)) (hw _ (List.mem_of_getElem? (i := 58) rfl)) (by decide) (W := 0) (argsL := [(.ref b190), (.ref tba), (.int (1 : Int32)), (.int (0 : Int32))]) (rest := []) (rm8 l Z a0 hw [] b190 sna ita nma bla tba .null own_z (fun _ => Or.inl rfl) 1 (by decide) (0 : Int32) rfl tx T246.heap f252 f255 (S0.ext f247.2)) (by decide) (by decide) (by decide) (by decide) e256 (g := (mkF m 261 #[.val (.int p1), .val (.int p2), .val (.int v1), .val (.int v2), .val (.ref b3), .val (.ref b17), .val (.ref b190), .val (.ref b209), .val (.ref tba), .val (.ref tbb), .val (.int (1 : Int32))] [(.int (0 : Int32)), (.int (1 : Int32)), (.ref tba), (.ref b190)])) rfl (by rw [hml]; rfl) (lenOf pd_7 rfl) rfl (by show 2 * 0 + _ ≤ _; exact Nat.le_of_eq rfl) (hb hby at_261)
                      obtain ⟨rfl, hL257, e257⟩ := hQ257
                      replace X257 := own_pure (v := none) (r := none) X257 rfl rfl hL257
                      refine own_via (T' := T257) (g' := (mkF m 276 #[.val (.int p1), .val (.int p2), .val (.int v1), .val (.int v2), .val (.ref b3), .val (.ref b17), .val (.ref b190), .val (.ref b209), .val (.ref tba), .val (.ref tbb), .val (.int (1 : Int32))] [(.int (1 : Int32))])) (fun _ kt => st257 _ (XS.ifNo X257.here hx rfl (hb hby at_264) rfl ((if0 _ _).trans (feq (by decide : ¬ ((1 : Int32) = (0 : Int32)))).1) (XS.iconst X257.here hx rfl (hb hby at_267) (XS.goto X257.here hx rfl (pc0 := 268) (pc' := 272) rfl (hb hby at_268) (by decide) (by decide) (XS.istore X257.here hx rfl (hb hby at_272) rfl (l' := #[.val (.int p1), .val (.int p2), .val (.int v1), .val (.int v2), .val (.ref b3), .val (.ref b17), .val (.ref b190), .val (.ref b209), .val (.ref tba), .val (.ref tbb), .val (.int (1 : Int32))]) rfl (XS.iload X257.here hx rfl (hb hby at_274) rfl kt)))))) ?_
                      refine own_via (T' := T257) (g' := (mkF m 299 #[.val (.int p1), .val (.int p2), .val (.int v1), .val (.int v2), .val (.ref b3), .val (.ref b17), .val (.ref b190), .val (.ref b209), .val (.ref tba), .val (.ref tbb), .val (.int (1 : Int32))] [(.int (2 : Int32)), (.ref tba), (.ref b190)])) (fun _ kt => XS.ifNo X257.here hx rfl (hb hby at_276) rfl ((if0 _ _).trans (feq (by decide : ¬ ((1 : Int32) = (0 : Int32)))).1) (XS.aload X257.here hx rfl (hb hby at_279) rfl rfl (XS.aload X257.here hx rfl (hb hby at_281) rfl rfl (XS.iconst X257.here hx rfl (hb hby at_283) (XS.iloadN X257.here hx rfl (hb hby at_284) rfl (XS.ifYes X257.here hx rfl (pc0 := 285) (pc' := 299) rfl (hb hby at_285) rfl ((if0 _ _).trans (feq hc121_39).2) (by decide) (by decide) kt)))))) ?_
                      refine own_via (T' := T257) (g' := (mkF m 300 #[.val (.int p1), .val (.int p2), .val (.int v1), .val (.int v2), .val (.ref b3), .val (.ref b17), .val (.ref b190), .val (.ref b209), .val (.ref tba), .val (.ref tbb), .val (.int (1 : Int32))] [(.int (0 : Int32)), (.int (2 : Int32)), (.ref tba), (.ref b190)])) (fun _ kt => XS.iconst X257.here hx rfl (hb hby at_299) kt) ?_
                      obtain ⟨v258, T258, L258, X258, hQ258, st258⟩ := own_callS X257 hx hZ (y := (⟨"com/example/querent/querent/engine/ColumnTypesAddAllPinLaw", "col", "(Lcom/example/querent/querent/engine/ColumnTypes;[Lcom/example/querent/querent/engine/Type;IZ)Z"⟩ : MethodName)) hown (hw _ (List.mem_of_getElem? (i := 55) rfl)) (hw _ (List.mem_of_getElem? (i := 56) rfl)) (hw _ (List.mem_of_getElem? (i := 57) rfl)) (hw _ (List.mem_of_getElem? (i := 58) rfl)) (by decide) (W := 0) (argsL := [(.ref b190), (.ref tba), (.int (2 : Int32)), (.int (0 : Int32))]) (rest := []) (rm8 l Z a0 hw [] b190 sna ita nma bla tba .null own_z (fun _ => Or.inl rfl) 2 (by decide) (0 : Int32) rfl tx T246.heap f252 f255 (S0.ext f247.2)) (by decide) (by decide) (by decide) (by decide) e257 (g := (mkF m 300 #[.val (.int p1), .val (.int p2), .val (.int v1), .val (.int v2), .val (.ref b3), .val (.ref b17), .val (.ref b190), .val (.ref b209), .val (.ref tba), .val (.ref tbb), .val (.int (1 : Int32))] [(.int (0 : Int32)), (.int (2 : Int32)), (.ref tba), (.ref b190)])) rfl (by rw [hml]; rfl) (lenOf pd_7 rfl) rfl (by show 2 * 0 + _ ≤ _; exact Nat.le_of_eq rfl) (hb hby at_300)
                      obtain ⟨rfl, hL258, e258⟩ := hQ258
                      replace X258 := own_pure (v := none) (r := none) X258 rfl rfl hL258
                      refine own_via (T' := T258) (g' := (mkF m 315 #[.val (.int p1), .val (.int p2), .val (.int v1), .val (.int v2), .val (.ref b3), .val (.ref b17), .val (.ref b190), .val (.ref b209), .val (.ref tba), .val (.ref tbb), .val (.int (1 : Int32))] [(.int (1 : Int32))])) (fun _ kt => st258 _ (XS.ifNo X258.here hx rfl (hb hby at_303) rfl ((if0 _ _).trans (feq (by decide : ¬ ((1 : Int32) = (0 : Int32)))).1) (XS.iconst X258.here hx rfl (hb hby at_306) (XS.goto X258.here hx rfl (pc0 := 307) (pc' := 311) rfl (hb hby at_307) (by decide) (by decide) (XS.istore X258.here hx rfl (hb hby at_311) rfl (l' := #[.val (.int p1), .val (.int p2), .val (.int v1), .val (.int v2), .val (.ref b3), .val (.ref b17), .val (.ref b190), .val (.ref b209), .val (.ref tba), .val (.ref tbb), .val (.int (1 : Int32))]) rfl (XS.iload X258.here hx rfl (hb hby at_313) rfl kt)))))) ?_
                      refine own_via (T' := T258) (g' := (mkF m 327 #[.val (.int p1), .val (.int p2), .val (.int v1), .val (.int v2), .val (.ref b3), .val (.ref b17), .val (.ref b190), .val (.ref b209), .val (.ref tba), .val (.ref tbb), .val (.int (1 : Int32))] [(.int (0 : Int32)), (.ref tbb), (.ref b209)])) (fun _ kt => XS.ifNo X258.here hx rfl (hb hby at_315) rfl ((if0 _ _).trans (feq (by decide : ¬ ((1 : Int32) = (0 : Int32)))).1) (XS.aload X258.here hx rfl (hb hby at_318) rfl rfl (XS.aload X258.here hx rfl (hb hby at_320) rfl rfl (XS.iconst X258.here hx rfl (hb hby at_322) (XS.iloadN X258.here hx rfl (hb hby at_323) rfl (XS.ifNo X258.here hx rfl (hb hby at_324) rfl ((if0 _ _).trans (teq hc147_208).2) kt)))))) ?_
                      have HJ259 : ∀ v259 : Int32, own_nt (ob 0) = v259 → own_Ends p e below (own_Fin below s room_1.cells room_1.slots (fun v h L => v = some (.int 1) ∧ Fr n0 L)) T258 (mkF m 339 #[.val (.int p1), .val (.int p2), .val (.int v1), .val (.int v2), .val (.ref b3), .val (.ref b17), .val (.ref b190), .val (.ref b209), .val (.ref tba), .val (.ref tbb), .val (.int (1 : Int32))] [(.int v259), (.int (0 : Int32)), (.ref tbb), (.ref b209)]) := by
                        intro v259 hv259
                        obtain ⟨v260, T260, L260, X260, hQ260, st260⟩ := own_callS X258 hx hZ (y := (⟨"com/example/querent/querent/engine/ColumnTypesAddAllPinLaw", "col", "(Lcom/example/querent/querent/engine/ColumnTypes;[Lcom/example/querent/querent/engine/Type;IZ)Z"⟩ : MethodName)) hown (hw _ (List.mem_of_getElem? (i := 55) rfl)) (hw _ (List.mem_of_getElem? (i := 56) rfl)) (hw _ (List.mem_of_getElem? (i := 57) rfl)) (hw _ (List.mem_of_getElem? (i := 58) rfl)) (by decide) (W := 0) (argsL := [(.ref b209), (.ref tbb), (.int (0 : Int32)), (.int v259)]) (rest := []) (rm8 l Z a0 hw [] b209 snb itb nmb blb tbb (.ref wtb) (own_nb ob) (fun i => own_ntb (ob i)) 0 (by decide) v259 hv259 tx T246.heap f253 Aq246 (S0.ext f247.2)) (by decide) (by decide) (by decide) (by decide) e258 (g := (mkF m 339 #[.val (.int p1), .val (.int p2), .val (.int v1), .val (.int v2), .val (.ref b3), .val (.ref b17), .val (.ref b190), .val (.ref b209), .val (.ref tba), .val (.ref tbb), .val (.int (1 : Int32))] [(.int v259), (.int (0 : Int32)), (.ref tbb), (.ref b209)])) rfl (by rw [hml]; rfl) (lenOf pd_7 rfl) rfl (by show 2 * 0 + _ ≤ _; exact Nat.le_of_eq rfl) (hb hby at_339)
                        obtain ⟨rfl, hL260, e260⟩ := hQ260
                        replace X260 := own_pure (v := none) (r := none) X260 rfl rfl hL260
                        refine own_via (T' := T260) (g' := (mkF m 354 #[.val (.int p1), .val (.int p2), .val (.int v1), .val (.int v2), .val (.ref b3), .val (.ref b17), .val (.ref b190), .val (.ref b209), .val (.ref tba), .val (.ref tbb), .val (.int (1 : Int32))] [(.int (1 : Int32))])) (fun _ kt => st260 _ (XS.ifNo X260.here hx rfl (hb hby at_342) rfl ((if0 _ _).trans (feq (by decide : ¬ ((1 : Int32) = (0 : Int32)))).1) (XS.iconst X260.here hx rfl (hb hby at_345) (XS.goto X260.here hx rfl (pc0 := 346) (pc' := 350) rfl (hb hby at_346) (by decide) (by decide) (XS.istore X260.here hx rfl (hb hby at_350) rfl (l' := #[.val (.int p1), .val (.int p2), .val (.int v1), .val (.int v2), .val (.ref b3), .val (.ref b17), .val (.ref b190), .val (.ref b209), .val (.ref tba), .val (.ref tbb), .val (.int (1 : Int32))]) rfl (XS.iload X260.here hx rfl (hb hby at_352) rfl kt)))))) ?_
                        refine own_via (T' := T260) (g' := (mkF m 366 #[.val (.int p1), .val (.int p2), .val (.int v1), .val (.int v2), .val (.ref b3), .val (.ref b17), .val (.ref b190), .val (.ref b209), .val (.ref tba), .val (.ref tbb), .val (.int (1 : Int32))] [(.int (1 : Int32)), (.ref tbb), (.ref b209)])) (fun _ kt => XS.ifNo X260.here hx rfl (hb hby at_354) rfl ((if0 _ _).trans (feq (by decide : ¬ ((1 : Int32) = (0 : Int32)))).1) (XS.aload X260.here hx rfl (hb hby at_357) rfl rfl (XS.aload X260.here hx rfl (hb hby at_359) rfl rfl (XS.iconst X260.here hx rfl (hb hby at_361) (XS.iloadN X260.here hx rfl (hb hby at_362) rfl (XS.ifNo X260.here hx rfl (hb hby at_363) rfl ((if0 _ _).trans (teq hc147_208).2) kt)))))) ?_
                        have HJ261 : ∀ v261 : Int32, own_nt (ob 1) = v261 → own_Ends p e below (own_Fin below s room_1.cells room_1.slots (fun v h L => v = some (.int 1) ∧ Fr n0 L)) T260 (mkF m 378 #[.val (.int p1), .val (.int p2), .val (.int v1), .val (.int v2), .val (.ref b3), .val (.ref b17), .val (.ref b190), .val (.ref b209), .val (.ref tba), .val (.ref tbb), .val (.int (1 : Int32))] [(.int v261), (.int (1 : Int32)), (.ref tbb), (.ref b209)]) := by
                          intro v261 hv261
                          obtain ⟨v262, T262, L262, X262, hQ262, st262⟩ := own_callS X260 hx hZ (y := (⟨"com/example/querent/querent/engine/ColumnTypesAddAllPinLaw", "col", "(Lcom/example/querent/querent/engine/ColumnTypes;[Lcom/example/querent/querent/engine/Type;IZ)Z"⟩ : MethodName)) hown (hw _ (List.mem_of_getElem? (i := 55) rfl)) (hw _ (List.mem_of_getElem? (i := 56) rfl)) (hw _ (List.mem_of_getElem? (i := 57) rfl)) (hw _ (List.mem_of_getElem? (i := 58) rfl)) (by decide) (W := 0) (argsL := [(.ref b209), (.ref tbb), (.int (1 : Int32)), (.int v261)]) (rest := []) (rm8 l Z a0 hw [] b209 snb itb nmb blb tbb (.ref wtb) (own_nb ob) (fun i => own_ntb (ob i)) 1 (by decide) v261 hv261 tx T246.heap f253 Aq246 (S0.ext f247.2)) (by decide) (by decide) (by decide) (by decide) e260 (g := (mkF m 378 #[.val (.int p1), .val (.int p2), .val (.int v1), .val (.int v2), .val (.ref b3), .val (.ref b17), .val (.ref b190), .val (.ref b209), .val (.ref tba), .val (.ref tbb), .val (.int (1 : Int32))] [(.int v261), (.int (1 : Int32)), (.ref tbb), (.ref b209)])) rfl (by rw [hml]; rfl) (lenOf pd_7 rfl) rfl (by show 2 * 0 + _ ≤ _; exact Nat.le_of_eq rfl) (hb hby at_378)
                          obtain ⟨rfl, hL262, e262⟩ := hQ262
                          replace X262 := own_pure (v := none) (r := none) X262 rfl rfl hL262
                          refine own_via (T' := T262) (g' := (mkF m 393 #[.val (.int p1), .val (.int p2), .val (.int v1), .val (.int v2), .val (.ref b3), .val (.ref b17), .val (.ref b190), .val (.ref b209), .val (.ref tba), .val (.ref tbb), .val (.int (1 : Int32))] [(.int (1 : Int32))])) (fun _ kt => st262 _ (XS.ifNo X262.here hx rfl (hb hby at_381) rfl ((if0 _ _).trans (feq (by decide : ¬ ((1 : Int32) = (0 : Int32)))).1) (XS.iconst X262.here hx rfl (hb hby at_384) (XS.goto X262.here hx rfl (pc0 := 385) (pc' := 389) rfl (hb hby at_385) (by decide) (by decide) (XS.istore X262.here hx rfl (hb hby at_389) rfl (l' := #[.val (.int p1), .val (.int p2), .val (.int v1), .val (.int v2), .val (.ref b3), .val (.ref b17), .val (.ref b190), .val (.ref b209), .val (.ref tba), .val (.ref tbb), .val (.int (1 : Int32))]) rfl (XS.iload X262.here hx rfl (hb hby at_391) rfl kt)))))) ?_
                          refine own_via (T' := T262) (g' := (mkF m 405 #[.val (.int p1), .val (.int p2), .val (.int v1), .val (.int v2), .val (.ref b3), .val (.ref b17), .val (.ref b190), .val (.ref b209), .val (.ref tba), .val (.ref tbb), .val (.int (1 : Int32))] [(.int (2 : Int32)), (.ref tbb), (.ref b209)])) (fun _ kt => XS.ifNo X262.here hx rfl (hb hby at_393) rfl ((if0 _ _).trans (feq (by decide : ¬ ((1 : Int32) = (0 : Int32)))).1) (XS.aload X262.here hx rfl (hb hby at_396) rfl rfl (XS.aload X262.here hx rfl (hb hby at_398) rfl rfl (XS.iconst X262.here hx rfl (hb hby at_400) (XS.iloadN X262.here hx rfl (hb hby at_401) rfl (XS.ifNo X262.here hx rfl (hb hby at_402) rfl ((if0 _ _).trans (teq hc147_208).2) kt)))))) ?_
                          have HJ263 : ∀ v263 : Int32, own_nt (ob 2) = v263 → own_Ends p e below (own_Fin below s room_1.cells room_1.slots (fun v h L => v = some (.int 1) ∧ Fr n0 L)) T262 (mkF m 417 #[.val (.int p1), .val (.int p2), .val (.int v1), .val (.int v2), .val (.ref b3), .val (.ref b17), .val (.ref b190), .val (.ref b209), .val (.ref tba), .val (.ref tbb), .val (.int (1 : Int32))] [(.int v263), (.int (2 : Int32)), (.ref tbb), (.ref b209)]) := by
                            intro v263 hv263
                            obtain ⟨v264, T264, L264, X264, hQ264, st264⟩ := own_callS X262 hx hZ (y := (⟨"com/example/querent/querent/engine/ColumnTypesAddAllPinLaw", "col", "(Lcom/example/querent/querent/engine/ColumnTypes;[Lcom/example/querent/querent/engine/Type;IZ)Z"⟩ : MethodName)) hown (hw _ (List.mem_of_getElem? (i := 55) rfl)) (hw _ (List.mem_of_getElem? (i := 56) rfl)) (hw _ (List.mem_of_getElem? (i := 57) rfl)) (hw _ (List.mem_of_getElem? (i := 58) rfl)) (by decide) (W := 0) (argsL := [(.ref b209), (.ref tbb), (.int (2 : Int32)), (.int v263)]) (rest := []) (rm8 l Z a0 hw [] b209 snb itb nmb blb tbb (.ref wtb) (own_nb ob) (fun i => own_ntb (ob i)) 2 (by decide) v263 hv263 tx T246.heap f253 Aq246 (S0.ext f247.2)) (by decide) (by decide) (by decide) (by decide) e262 (g := (mkF m 417 #[.val (.int p1), .val (.int p2), .val (.int v1), .val (.int v2), .val (.ref b3), .val (.ref b17), .val (.ref b190), .val (.ref b209), .val (.ref tba), .val (.ref tbb), .val (.int (1 : Int32))] [(.int v263), (.int (2 : Int32)), (.ref tbb), (.ref b209)])) rfl (by rw [hml]; rfl) (lenOf pd_7 rfl) rfl (by show 2 * 0 + _ ≤ _; exact Nat.le_of_eq rfl) (hb hby at_417)
                            obtain ⟨rfl, hL264, e264⟩ := hQ264
                            replace X264 := own_pure (v := none) (r := none) X264 rfl rfl hL264
                            refine own_via (T' := T264) (g' := (mkF m 432 #[.val (.int p1), .val (.int p2), .val (.int v1), .val (.int v2), .val (.ref b3), .val (.ref b17), .val (.ref b190), .val (.ref b209), .val (.ref tba), .val (.ref tbb), .val (.int (1 : Int32))] [(.int (1 : Int32))])) (fun _ kt => st264 _ (XS.ifNo X264.here hx rfl (hb hby at_420) rfl ((if0 _ _).trans (feq (by decide : ¬ ((1 : Int32) = (0 : Int32)))).1) (XS.iconst X264.here hx rfl (hb hby at_423) (XS.goto X264.here hx rfl (pc0 := 424) (pc' := 428) rfl (hb hby at_424) (by decide) (by decide) (XS.istore X264.here hx rfl (hb hby at_428) rfl (l' := #[.val (.int p1), .val (.int p2), .val (.int v1), .val (.int v2), .val (.ref b3), .val (.ref b17), .val (.ref b190), .val (.ref b209), .val (.ref tba), .val (.ref tbb), .val (.int (1 : Int32))]) rfl (XS.iload X264.here hx rfl (hb hby at_430) rfl kt)))))) ?_
                            exact own_retZ X264 hx hret hlk (hb hby at_432) (by decide) ⟨rfl, N246⟩ (by decide) (by decide)
                          refine own_via (T' := T262) (g' := (mkF m 409 #[.val (.int p1), .val (.int p2), .val (.int v1), .val (.int v2), .val (.ref b3), .val (.ref b17), .val (.ref b190), .val (.ref b209), .val (.ref tba), .val (.ref tbb), .val (.int (1 : Int32))] [(.int (ob 2)), (.int (2 : Int32)), (.ref tbb), (.ref b209)])) (fun _ kt => XS.aload X262.here hx rfl (hb hby at_405) rfl rfl (XS.iconst X262.here hx rfl (hb hby at_407) (own_baloadZ X262 hx hZ e262 f250 (j := (2 : Int32)) (i := 2) rfl (by decide) (g := (mkF m 408 #[.val (.int p1), .val (.int p2), .val (.int v1), .val (.int v2), .val (.ref b3), .val (.ref b17), .val (.ref b190), .val (.ref b209), .val (.ref tba), .val (.ref tbb), .val (.int (1 : Int32))] [(.int (2 : Int32)), (.ref b17), (.int (2 : Int32)), (.ref tbb), (.ref b209)])) rfl rfl (hb hby at_408) _ kt))) ?_
                          by_cases hc409_265 : (ob 2) = (0 : Int32)
                          · refine own_via (T' := T262) (g' := (mkF m 417 #[.val (.int p1), .val (.int p2), .val (.int v1), .val (.int v2), .val (.ref b3), .val (.ref b17), .val (.ref b190), .val (.ref b209), .val (.ref tba), .val (.ref tbb), .val (.int (1 : Int32))] [(.int (1 : Int32)), (.int (2 : Int32)), (.ref tbb), (.ref b209)])) (fun _ kt => XS.ifNo X262.here hx rfl (hb hby at_409) rfl ((if0 _ _).trans (teq hc409_265).2) (XS.iconst X262.here hx rfl (hb hby at_412) (XS.goto X262.here hx rfl (pc0 := 413) (pc' := 417) rfl (hb hby at_413) (by decide) (by decide) kt))) ?_
                            exact HJ263 (1 : Int32) (own_nt0 hc409_265)
                          · refine own_via (T' := T262) (g' := (mkF m 417 #[.val (.int p1), .val (.int p2), .val (.int v1), .val (.int v2), .val (.ref b3), .val (.ref b17), .val (.ref b190), .val (.ref b209), .val (.ref tba), .val (.ref tbb), .val (.int (1 : Int32))] [(.int (0 : Int32)), (.int (2 : Int32)), (.ref tbb), (.ref b209)])) (fun _ kt => XS.ifYes X262.here hx rfl (pc0 := 409) (pc' := 416) rfl (hb hby at_409) rfl ((if0 _ _).trans (feq hc409_265).2) (by decide) (by decide) (XS.iconst X262.here hx rfl (hb hby at_416) kt)) ?_
                            exact HJ263 (0 : Int32) (own_nt1 hc409_265)
                        refine own_via (T' := T260) (g' := (mkF m 370 #[.val (.int p1), .val (.int p2), .val (.int v1), .val (.int v2), .val (.ref b3), .val (.ref b17), .val (.ref b190), .val (.ref b209), .val (.ref tba), .val (.ref tbb), .val (.int (1 : Int32))] [(.int (ob 1)), (.int (1 : Int32)), (.ref tbb), (.ref b209)])) (fun _ kt => XS.aload X260.here hx rfl (hb hby at_366) rfl rfl (XS.iconst X260.here hx rfl (hb hby at_368) (own_baloadZ X260 hx hZ e260 f250 (j := (1 : Int32)) (i := 1) rfl (by decide) (g := (mkF m 369 #[.val (.int p1), .val (.int p2), .val (.int v1), .val (.int v2), .val (.ref b3), .val (.ref b17), .val (.ref b190), .val (.ref b209), .val (.ref tba), .val (.ref tbb), .val (.int (1 : Int32))] [(.int (1 : Int32)), (.ref b17), (.int (1 : Int32)), (.ref tbb), (.ref b209)])) rfl rfl (hb hby at_369) _ kt))) ?_
                        by_cases hc370_266 : (ob 1) = (0 : Int32)
                        · refine own_via (T' := T260) (g' := (mkF m 378 #[.val (.int p1), .val (.int p2), .val (.int v1), .val (.int v2), .val (.ref b3), .val (.ref b17), .val (.ref b190), .val (.ref b209), .val (.ref tba), .val (.ref tbb), .val (.int (1 : Int32))] [(.int (1 : Int32)), (.int (1 : Int32)), (.ref tbb), (.ref b209)])) (fun _ kt => XS.ifNo X260.here hx rfl (hb hby at_370) rfl ((if0 _ _).trans (teq hc370_266).2) (XS.iconst X260.here hx rfl (hb hby at_373) (XS.goto X260.here hx rfl (pc0 := 374) (pc' := 378) rfl (hb hby at_374) (by decide) (by decide) kt))) ?_
                          exact HJ261 (1 : Int32) (own_nt0 hc370_266)
                        · refine own_via (T' := T260) (g' := (mkF m 378 #[.val (.int p1), .val (.int p2), .val (.int v1), .val (.int v2), .val (.ref b3), .val (.ref b17), .val (.ref b190), .val (.ref b209), .val (.ref tba), .val (.ref tbb), .val (.int (1 : Int32))] [(.int (0 : Int32)), (.int (1 : Int32)), (.ref tbb), (.ref b209)])) (fun _ kt => XS.ifYes X260.here hx rfl (pc0 := 370) (pc' := 377) rfl (hb hby at_370) rfl ((if0 _ _).trans (feq hc370_266).2) (by decide) (by decide) (XS.iconst X260.here hx rfl (hb hby at_377) kt)) ?_
                          exact HJ261 (0 : Int32) (own_nt1 hc370_266)
                      refine own_via (T' := T258) (g' := (mkF m 331 #[.val (.int p1), .val (.int p2), .val (.int v1), .val (.int v2), .val (.ref b3), .val (.ref b17), .val (.ref b190), .val (.ref b209), .val (.ref tba), .val (.ref tbb), .val (.int (1 : Int32))] [(.int (ob 0)), (.int (0 : Int32)), (.ref tbb), (.ref b209)])) (fun _ kt => XS.aload X258.here hx rfl (hb hby at_327) rfl rfl (XS.iconst X258.here hx rfl (hb hby at_329) (own_baloadZ X258 hx hZ e258 f250 (j := (0 : Int32)) (i := 0) rfl (by decide) (g := (mkF m 330 #[.val (.int p1), .val (.int p2), .val (.int v1), .val (.int v2), .val (.ref b3), .val (.ref b17), .val (.ref b190), .val (.ref b209), .val (.ref tba), .val (.ref tbb), .val (.int (1 : Int32))] [(.int (0 : Int32)), (.ref b17), (.int (0 : Int32)), (.ref tbb), (.ref b209)])) rfl rfl (hb hby at_330) _ kt))) ?_
                      by_cases hc331_267 : (ob 0) = (0 : Int32)
                      · refine own_via (T' := T258) (g' := (mkF m 339 #[.val (.int p1), .val (.int p2), .val (.int v1), .val (.int v2), .val (.ref b3), .val (.ref b17), .val (.ref b190), .val (.ref b209), .val (.ref tba), .val (.ref tbb), .val (.int (1 : Int32))] [(.int (1 : Int32)), (.int (0 : Int32)), (.ref tbb), (.ref b209)])) (fun _ kt => XS.ifNo X258.here hx rfl (hb hby at_331) rfl ((if0 _ _).trans (teq hc331_267).2) (XS.iconst X258.here hx rfl (hb hby at_334) (XS.goto X258.here hx rfl (pc0 := 335) (pc' := 339) rfl (hb hby at_335) (by decide) (by decide) kt))) ?_
                        exact HJ259 (1 : Int32) (own_nt0 hc331_267)
                      · refine own_via (T' := T258) (g' := (mkF m 339 #[.val (.int p1), .val (.int p2), .val (.int v1), .val (.int v2), .val (.ref b3), .val (.ref b17), .val (.ref b190), .val (.ref b209), .val (.ref tba), .val (.ref tbb), .val (.int (1 : Int32))] [(.int (0 : Int32)), (.int (0 : Int32)), (.ref tbb), (.ref b209)])) (fun _ kt => XS.ifYes X258.here hx rfl (pc0 := 331) (pc' := 338) rfl (hb hby at_331) rfl ((if0 _ _).trans (feq hc331_267).2) (by decide) (by decide) (XS.iconst X258.here hx rfl (hb hby at_338) kt)) ?_
                        exact HJ259 (0 : Int32) (own_nt1 hc331_267)
                    · refine own_via (T' := T201) (g' := (mkF m 150 #[.val (.int p1), .val (.int p2), .val (.int v1), .val (.int v2), .val (.ref b3), .val (.ref b17), .val (.ref b190), .unset, .unset, .unset, .unset] [])) (fun _ kt => XS.ifNo X201.here hx rfl (hb hby at_147) rfl ((if0 _ _).trans (feq hc147_208).1) kt) ?_
                      obtain ⟨T268, h268, X268, e268, E268, A268, D268, -, st268⟩ := newO X201 hx hZ hown (hw _ (List.mem_of_getElem? (i := 1) rfl)) (hw _ (List.mem_of_getElem? (i := 2) rfl)) (hw _ (List.mem_of_getElem? (i := 3) rfl)) rfl (g := (mkF m 150 #[.val (.int p1), .val (.int p2), .val (.int v1), .val (.int v2), .val (.ref b3), .val (.ref b17), .val (.ref b190), .unset, .unset, .unset, .unset] [])) rfl (hb hby at_150) (by decide) (by decide)
                      obtain ⟨b268, gb268⟩ : ∃ z, z = T201.heap.size := ⟨_, rfl⟩
                      rw [← gb268] at A268 D268 st268
                      have lt_b3_b268 : @LT.lt Nat _ b3 b268 := Nat.lt_of_lt_of_le f203.lt (Nat.le_of_eq gb268.symm)
                      have lt_b17_b268 : @LT.lt Nat _ b17 b268 := Nat.lt_of_lt_of_le f205.lt (Nat.le_of_eq gb268.symm)
                      have lt_b190_b268 : @LT.lt Nat _ b190 b268 := Nat.lt_of_lt_of_le Cq201.lt_a (Nat.le_of_eq gb268.symm)
                      have lt_sna_b268 : @LT.lt Nat _ sna b268 := Nat.lt_of_lt_of_le Cq201.lt_sn (Nat.le_of_eq gb268.symm)
                      have lt_ita_b268 : @LT.lt Nat _ ita b268 := Nat.lt_of_lt_of_le Cq201.lt_it (Nat.le_of_eq gb268.symm)
                      have lt_nma_b268 : @LT.lt Nat _ nma b268 := Nat.lt_of_lt_of_le Cq201.lt_nm (Nat.le_of_eq gb268.symm)
                      have lt_bla_b268 : @LT.lt Nat _ bla b268 := Nat.lt_of_lt_of_le Cq201.lt_bl (Nat.le_of_eq gb268.symm)
                      have gg268 : n0 ≤ b268 := Nat.le_trans z201 (Nat.le_of_eq gb268.symm)
                      have f269 := f202.ext E268
                      have f270 := f203.ext E268
                      have f271 := f204.ext E268
                      have f272 := f205.ext E268
                      have f273 := f206.ext E268
                      have f274 := Cq201.ext E268
                      have z268 : n0 ≤ h268.size := Nat.le_trans z201 E268.1
                      have f275 : Fld Z h268 b268 "com/example/querent/querent/engine/ColumnTypes" "seen" "[Z" .null := D268 (Or.inr (hw _ (List.mem_of_getElem? (i := 23) rfl))) (ty := (.array .boolean)) (by decide)
                      have f276 : Fld Z h268 b268 "com/example/querent/querent/engine/ColumnTypes" "integers" "[Z" .null := D268 (Or.inr (hw _ (List.mem_of_getElem? (i := 32) rfl))) (ty := (.array .boolean)) (by decide)
                      have f277 : Fld Z h268 b268 "com/example/querent/querent/engine/ColumnTypes" "numbers" "[Z" .null := D268 (Or.inr (hw _ (List.mem_of_getElem? (i := 34) rfl))) (ty := (.array .boolean)) (by decide)
                      have f278 : Fld Z h268 b268 "com/example/querent/querent/engine/ColumnTypes" "booleans" "[Z" .null := D268 (Or.inr (hw _ (List.mem_of_getElem? (i := 36) rfl))) (ty := (.array .boolean)) (by decide)
                      have f279 : Fld Z h268 b268 "com/example/querent/querent/engine/ColumnTypes" "watched" "[Z" .null := D268 (Or.inr (hw _ (List.mem_of_getElem? (i := 38) rfl))) (ty := (.array .boolean)) (by decide)
                      refine own_via (T' := T268) (g' := (mkF m 155 #[.val (.int p1), .val (.int p2), .val (.int v1), .val (.int v2), .val (.ref b3), .val (.ref b17), .val (.ref b190), .unset, .unset, .unset, .unset] [(.int (3 : Int32)), (.ref b268), (.ref b268)])) (fun _ kt => st268 _ (XS.dup X268.here hx rfl (hb hby at_153) rfl rfl (XS.iconst X268.here hx rfl (hb hby at_154) kt))) ?_
                      obtain ⟨v280, T280, L280, X280, hQ280, st280⟩ := own_callI X268 hx hZ (y := (⟨"com/example/querent/querent/engine/ColumnTypes", "<init>", "(I)V"⟩ : MethodName)) rfl hown (hw _ (List.mem_of_getElem? (i := 65) rfl)) (hw _ (List.mem_of_getElem? (i := 66) rfl)) (hw _ (List.mem_of_getElem? (i := 3) rfl)) (hw _ (List.mem_of_getElem? (i := 67) rfl)) (by decide) (b := b268) (W := 1) (argsL := [(.int (3 : Int32))]) (rest := [(.ref b268)]) (rm10 l Z a0 hw [] b268 _ _ _ _ _ h268 n0 z268 gg268 A268 f275 f276 f277 f278 f279) (by decide) (by decide) (by decide) (by decide) e268 (g := (mkF m 155 #[.val (.int p1), .val (.int p2), .val (.int v1), .val (.int v2), .val (.ref b3), .val (.ref b17), .val (.ref b190), .unset, .unset, .unset, .unset] [(.int (3 : Int32)), (.ref b268), (.ref b268)])) rfl (by rw [hml]; rfl) (lenOf pd_8 rfl) rfl (by show 2 * 0 + _ ≤ _; exact Nat.le_of_eq rfl) (hb hby at_155)
                      obtain ⟨snb, itb, nmb, blb, o1b, o2b, o3b, o4b, rfl, Nq280, Kq280, Cq280⟩ := hQ280
                      have lt_b3_snb : @LT.lt Nat _ b3 snb := Nat.lt_of_lt_of_le f270.lt o1b
                      have lt_b17_snb : @LT.lt Nat _ b17 snb := Nat.lt_of_lt_of_le f272.lt o1b
                      have lt_b190_snb : @LT.lt Nat _ b190 snb := Nat.lt_of_lt_of_le f274.lt_a o1b
                      have lt_sna_snb : @LT.lt Nat _ sna snb := Nat.lt_of_lt_of_le f274.lt_sn o1b
                      have lt_ita_snb : @LT.lt Nat _ ita snb := Nat.lt_of_lt_of_le f274.lt_it o1b
                      have lt_nma_snb : @LT.lt Nat _ nma snb := Nat.lt_of_lt_of_le f274.lt_nm o1b
                      have lt_bla_snb : @LT.lt Nat _ bla snb := Nat.lt_of_lt_of_le f274.lt_bl o1b
                      have lt_b268_snb : @LT.lt Nat _ b268 snb := Nat.lt_of_lt_of_le A268.lt o1b
                      have zsnb : n0 ≤ snb := Nat.le_trans z268 o1b
                      have f281 := f269.keep Kq280 (allS gg268 all0)
                      have f282 := f270.keep Kq280 (ninS (own_ne (by omega)) nin0)
                      have f283 := f271.keep Kq280
                      have f284 := f272.keep Kq280 (ninS (own_ne (by omega)) nin0)
                      have f285 := f273.keep Kq280
                      have f286 := f274.keep Kq280 ⟨(ninS (own_ne (by omega)) nin0), (ninS (own_ne (by omega)) nin0), (ninS (own_ne (by omega)) nin0), (ninS (own_ne (by omega)) nin0), (ninS (own_ne (by omega)) nin0)⟩
                      have f287 := A268.keep Kq280
                      have z280 : n0 ≤ T280.heap.size := Nat.le_trans z268 Kq280.1
                      have N280 := Fr.app N201 Nq280
                      refine own_via (T' := T280) (g' := (mkF m 176 #[.val (.int p1), .val (.int p2), .val (.int v1), .val (.int v2), .val (.ref b3), .val (.ref b17), .val (.ref b190), .val (.ref b268), .unset, .unset, .unset] [(.ref b268), (.ref b190)])) (fun _ kt => st280 _ (XS.goto X280.here hx rfl (pc0 := 158) (pc' := 170) rfl (hb hby at_158) (by decide) (by decide) (XS.astore X280.here hx rfl (hb hby at_170) rfl rfl (l' := #[.val (.int p1), .val (.int p2), .val (.int v1), .val (.int v2), .val (.ref b3), .val (.ref b17), .val (.ref b190), .val (.ref b268), .unset, .unset, .unset]) rfl (XS.aload X280.here hx rfl (hb hby at_172) rfl rfl (XS.aload X280.here hx rfl (hb hby at_174) rfl rfl kt))))) ?_
                      obtain ⟨v288, T288, L288, X288, hQ288, st288⟩ := own_callV X280 hx hZ (y := (⟨"com/example/querent/querent/engine/ColumnTypes", "addAll", "(Lcom/example/querent/querent/engine/ColumnTypes;)V"⟩ : MethodName)) (z := (⟨"com/example/querent/querent/engine/ColumnTypes", "addAll", "(Lcom/example/querent/querent/engine/ColumnTypes;)V"⟩ : MethodName)) hown (hw _ (List.mem_of_getElem? (i := 39) rfl)) (hw _ (List.mem_of_getElem? (i := 40) rfl)) (notFace_of_selects (args := #[]) (mvT hZ (hw _ (List.mem_of_getElem? (i := 42) rfl)))) (hw _ (List.mem_of_getElem? (i := 42) rfl)) (hw _ (List.mem_of_getElem? (i := 41) rfl)) (hw _ (List.mem_of_getElem? (i := 3) rfl)) (hw _ (List.mem_of_getElem? (i := 43) rfl)) (by decide) (b := b190) (W := 0) (argsL := [(.ref b268)]) (rest := []) (rm6n l Z a0 hw [] b190 sna ita nma bla b268 snb itb nmb blb .null own_z (fun _ => Or.inl rfl) T280.heap n0 z280 (by omega) (by omega) (by omega) (by omega) (by omega) o2a o3a o4a (by omega) (by omega) o2b o3b o4b f286 Cq280) (by decide) (by decide) (by decide) (by decide) rfl f286.1 (g := (mkF m 176 #[.val (.int p1), .val (.int p2), .val (.int v1), .val (.int v2), .val (.ref b3), .val (.ref b17), .val (.ref b190), .val (.ref b268), .unset, .unset, .unset] [(.ref b268), (.ref b190)])) rfl (by rw [hml]; rfl) (lenOf pd_5 rfl) rfl (by show 2 * 0 + _ ≤ _; exact Nat.le_of_eq rfl) (hb hby at_176)
                      obtain ⟨rfl, Nq288, Kq288, Cq288⟩ := hQ288
                      have f289 := f281.keep Kq288 (allS (by omega) (allS (by omega) (allS (by omega) (allS (by omega) all0))))
                      have f290 := f282.keep Kq288 (ninS (own_ne (by omega)) (ninS (own_ne (by omega)) (ninS (own_ne (by omega)) (ninS (own_ne (by omega)) nin0))))
                      have f291 := f283.keep Kq288
                      have f292 := f284.keep Kq288 (ninS (own_ne (by omega)) (ninS (own_ne (by omega)) (ninS (own_ne (by omega)) (ninS (own_ne (by omega)) nin0))))
                      have f293 := f285.keep Kq288
                      have f294 := Cq280.keep Kq288 ⟨(ninS (own_ne (by omega)) (ninS (own_ne (by omega)) (ninS (own_ne (by omega)) (ninS (own_ne (by omega)) nin0)))), (ninS (own_ne (by omega)) (ninS (own_ne (by omega)) (ninS (own_ne (by omega)) (ninS (own_ne (by omega)) nin0)))), (ninS (own_ne (by omega)) (ninS (own_ne (by omega)) (ninS (own_ne (by omega)) (ninS (own_ne (by omega)) nin0)))), (ninS (own_ne (by omega)) (ninS (own_ne (by omega)) (ninS (own_ne (by omega)) (ninS (own_ne (by omega)) nin0)))), (ninS (own_ne (by omega)) (ninS (own_ne (by omega)) (ninS (own_ne (by omega)) (ninS (own_ne (by omega)) nin0))))⟩
                      have z288 : n0 ≤ T288.heap.size := Nat.le_trans z280 Kq288.1
                      have N288 := Fr.app N280 Nq288
                      refine own_via (T' := T288) (g' := (mkF m 181 #[.val (.int p1), .val (.int p2), .val (.int v1), .val (.int v2), .val (.ref b3), .val (.ref b17), .val (.ref b190), .val (.ref b268), .unset, .unset, .unset] [(.ref b190)])) (fun _ kt => st288 _ (XS.aload X288.here hx rfl (hb hby at_179) rfl rfl kt)) ?_
                      obtain ⟨v295, T295, L295, X295, hQ295, st295⟩ := own_callV X288 hx hZ (y := (⟨"com/example/querent/querent/engine/ColumnTypes", "types", "()[Lcom/example/querent/querent/engine/Type;"⟩ : MethodName)) (z := (⟨"com/example/querent/querent/engine/ColumnTypes", "types", "()[Lcom/example/querent/querent/engine/Type;"⟩ : MethodName)) hown (hw _ (List.mem_of_getElem? (i := 44) rfl)) (hw _ (List.mem_of_getElem? (i := 45) rfl)) (notFace_of_selects (args := #[]) (mvT hZ (hw _ (List.mem_of_getElem? (i := 47) rfl)))) (hw _ (List.mem_of_getElem? (i := 47) rfl)) (hw _ (List.mem_of_getElem? (i := 46) rfl)) (hw _ (List.mem_of_getElem? (i := 3) rfl)) (hw _ (List.mem_of_getElem? (i := 48) rfl)) (by decide) (b := b190) (W := 0) (argsL := []) (rest := []) (rm7 l Z a0 hw [] b190 sna ita nma bla .null own_z tx T288.heap n0 z288 Cq288 (S0.ext f289.2) (E0.ext f289.2)) (by decide) (by decide) (by decide) (by decide) rfl Cq288.1 (g := (mkF m 181 #[.val (.int p1), .val (.int p2), .val (.int v1), .val (.int v2), .val (.ref b3), .val (.ref b17), .val (.ref b190), .val (.ref b268), .unset, .unset, .unset] [(.ref b190)])) rfl (by rw [hml]; rfl) (lenOf pd_6 rfl) rfl (by show 2 * 0 + _ ≤ _; exact Nat.le_of_eq rfl) (hb hby at_181)
                      obtain ⟨tba, rfl, ota, Nq295, Kq295, Aq295⟩ := hQ295
                      have f296 := f289.keep Kq295 all0
                      have f297 := f290.keep Kq295 nin0
                      have f298 := f291.keep Kq295
                      have f299 := f292.keep Kq295 nin0
                      have f300 := f293.keep Kq295
                      have f301 := Cq288.keep Kq295 ⟨nin0, nin0, nin0, nin0, nin0⟩
                      have f302 := f294.keep Kq295 ⟨nin0, nin0, nin0, nin0, nin0⟩
                      have z295 : n0 ≤ T295.heap.size := Nat.le_trans z288 Kq295.1
                      have N295 := Fr.app N288 Nq295
                      refine own_via (T' := T295) (g' := (mkF m 188 #[.val (.int p1), .val (.int p2), .val (.int v1), .val (.int v2), .val (.ref b3), .val (.ref b17), .val (.ref b190), .val (.ref b268), .val (.ref tba), .unset, .unset] [(.ref b268)])) (fun _ kt => st295 _ (XS.astore X295.here hx rfl (hb hby at_184) rfl rfl (l' := #[.val (.int p1), .val (.int p2), .val (.int v1), .val (.int v2), .val (.ref b3), .val (.ref b17), .val (.ref b190), .val (.ref b268), .val (.ref tba), .unset, .unset]) rfl (XS.aload X295.here hx rfl (hb hby at_186) rfl rfl kt))) ?_
                      obtain ⟨v303, T303, L303, X303, hQ303, st303⟩ := own_callV X295 hx hZ (y := (⟨"com/example/querent/querent/engine/ColumnTypes", "types", "()[Lcom/example/querent/querent/engine/Type;"⟩ : MethodName)) (z := (⟨"com/example/querent/querent/engine/ColumnTypes", "types", "()[Lcom/example/querent/querent/engine/Type;"⟩ : MethodName)) hown (hw _ (List.mem_of_getElem? (i := 44) rfl)) (hw _ (List.mem_of_getElem? (i := 45) rfl)) (notFace_of_selects (args := #[]) (mvT hZ (hw _ (List.mem_of_getElem? (i := 47) rfl)))) (hw _ (List.mem_of_getElem? (i := 47) rfl)) (hw _ (List.mem_of_getElem? (i := 46) rfl)) (hw _ (List.mem_of_getElem? (i := 3) rfl)) (hw _ (List.mem_of_getElem? (i := 48) rfl)) (by decide) (b := b268) (W := 0) (argsL := []) (rest := []) (rm7 l Z a0 hw [] b268 snb itb nmb blb .null own_z tx T295.heap n0 z295 f302 (S0.ext f296.2) (E0.ext f296.2)) (by decide) (by decide) (by decide) (by decide) rfl f302.1 (g := (mkF m 188 #[.val (.int p1), .val (.int p2), .val (.int v1), .val (.int v2), .val (.ref b3), .val (.ref b17), .val (.ref b190), .val (.ref b268), .val (.ref tba), .unset, .unset] [(.ref b268)])) rfl (by rw [hml]; rfl) (lenOf pd_6 rfl) rfl (by show 2 * 0 + _ ≤ _; exact Nat.le_of_eq rfl) (hb hby at_188)
                      obtain ⟨tbb, rfl, otb, Nq303, Kq303, Aq303⟩ := hQ303
                      have f304 := f296.keep Kq303 all0
                      have f305 := f297.keep Kq303 nin0
                      have f306 := f298.keep Kq303
                      have f307 := f299.keep Kq303 nin0
                      have f308 := f300.keep Kq303
                      have f309 := f301.keep Kq303 ⟨nin0, nin0, nin0, nin0, nin0⟩
                      have f310 := f302.keep Kq303 ⟨nin0, nin0, nin0, nin0, nin0⟩
                      have f311 := Aq295.keep Kq303 nin0
                      have z303 : n0 ≤ T303.heap.size := Nat.le_trans z295 Kq303.1
                      have N303 := Fr.app N295 Nq303
                      refine own_via (T' := T303) (g' := (mkF m 200 #[.val (.int p1), .val (.int p2), .val (.int v1), .val (.int v2), .val (.ref b3), .val (.ref b17), .val (.ref b190), .val (.ref b268), .val (.ref tba), .val (.ref tbb), .unset] [])) (fun _ kt => st303 _ (XS.astore X303.here hx rfl (hb hby at_191) rfl rfl (l' := #[.val (.int p1), .val (.int p2), .val (.int v1), .val (.int v2), .val (.ref b3), .val (.ref b17), .val (.ref b190), .val (.ref b268), .val (.ref tba), .val (.ref tbb), .unset]) rfl (XS.aload X303.here hx rfl (hb hby at_193) rfl rfl (own_alen X303 hx hZ rfl f311 (g := (mkF m 195 #[.val (.int p1), .val (.int p2), .val (.int v1), .val (.int v2), .val (.ref b3), .val (.ref b17), .val (.ref b190), .val (.ref b268), .val (.ref tba), .val (.ref tbb), .unset] [(.ref tba)])) rfl rfl (hb hby at_195) _ (XS.iconst X303.here hx rfl (hb hby at_196) (XS.icmpNo X303.here hx rfl (hb hby at_197) rfl (teq (by decide : ((3 : Int32) = (3 : Int32)))).2 kt)))))) ?_
                      refine own_via (T' := T303) (g' := (mkF m 213 #[.val (.int p1), .val (.int p2), .val (.int v1), .val (.int v2), .val (.ref b3), .val (.ref b17), .val (.ref b190), .val (.ref b268), .val (.ref tba), .val (.ref tbb), .unset] [(.ref tba), (.ref b190)])) (fun _ kt => XS.aload X303.here hx rfl (hb hby at_200) rfl rfl (own_alen X303 hx hZ rfl Aq303 (g := (mkF m 202 #[.val (.int p1), .val (.int p2), .val (.int v1), .val (.int v2), .val (.ref b3), .val (.ref b17), .val (.ref b190), .val (.ref b268), .val (.ref tba), .val (.ref tbb), .unset] [(.ref tbb)])) rfl rfl (hb hby at_202) _ (XS.iconst X303.here hx rfl (hb hby at_203) (XS.icmpYes X303.here hx rfl (pc0 := 204) (pc' := 209) rfl (hb hby at_204) rfl (teq (by decide : ((3 : Int32) = (3 : Int32)))).1 (by decide) (by decide) (XS.aload X303.here hx rfl (hb hby at_209) rfl rfl (XS.aload X303.here hx rfl (hb hby at_211) rfl rfl kt)))))) ?_
                      refine own_via (T' := T303) (g' := (mkF m 230 #[.val (.int p1), .val (.int p2), .val (.int v1), .val (.int v2), .val (.ref b3), .val (.ref b17), .val (.ref b190), .val (.ref b268), .val (.ref tba), .val (.ref tbb), .unset] [(.int (0 : Int32)), (.int (0 : Int32)), (.ref tba), (.ref b190)])) (fun _ kt => XS.iconst X303.here hx rfl (hb hby at_213) (XS.iloadN X303.here hx rfl (hb hby at_214) rfl (XS.ifYes X303.here hx rfl (pc0 := 215) (pc' := 229) rfl (hb hby at_215) rfl ((if0 _ _).trans (feq hc121_39).2) (by decide) (by decide) (XS.iconst X303.here hx rfl (hb hby at_229) kt)))) ?_
                      obtain ⟨v312, T312, L312, X312, hQ312, st312⟩ := own_callS X303 hx hZ (y := (⟨"com/example/querent/querent/engine/ColumnTypesAddAllPinLaw", "col", "(Lcom/example/querent/querent/engine/ColumnTypes;[Lcom/example/querent/querent/engine/Type;IZ)Z"⟩ : MethodName)) hown (hw _ (List.mem_of_getElem? (i := 55) rfl)) (hw _ (List.mem_of_getElem? (i := 56) rfl)) (hw _ (List.mem_of_getElem? (i := 57) rfl)) (hw _ (List.mem_of_getElem? (i := 58) rfl)) (by decide) (W := 0) (argsL := [(.ref b190), (.ref tba), (.int (0 : Int32)), (.int (0 : Int32))]) (rest := []) (rm8 l Z a0 hw [] b190 sna ita nma bla tba .null own_z (fun _ => Or.inl rfl) 0 (by decide) (0 : Int32) rfl tx T303.heap f309 f311 (S0.ext f304.2)) (by decide) (by decide) (by decide) (by decide) rfl (g := (mkF m 230 #[.val (.int p1), .val (.int p2), .val (.int v1), .val (.int v2), .val (.ref b3), .val (.ref b17), .val (.ref b190), .val (.ref b268), .val (.ref tba), .val (.ref tbb), .unset] [(.int (0 : Int32)), (.int (0 : Int32)), (.ref tba), (.ref b190)])) rfl (by rw [hml]; rfl) (lenOf pd_7 rfl) rfl (by show 2 * 0 + _ ≤ _; exact Nat.le_of_eq rfl) (hb hby at_230)
                      obtain ⟨rfl, hL312, e312⟩ := hQ312
                      replace X312 := own_pure (v := none) (r := none) X312 rfl rfl hL312
                      refine own_via (T' := T312) (g' := (mkF m 244 #[.val (.int p1), .val (.int p2), .val (.int v1), .val (.int v2), .val (.ref b3), .val (.ref b17), .val (.ref b190), .val (.ref b268), .val (.ref tba), .val (.ref tbb), .val (.int (1 : Int32))] [(.ref tba), (.ref b190)])) (fun _ kt => st312 _ (XS.istore X312.here hx rfl (hb hby at_233) rfl (l' := #[.val (.int p1), .val (.int p2), .val (.int v1), .val (.int v2), .val (.ref b3), .val (.ref b17), .val (.ref b190), .val (.ref b268), .val (.ref tba), .val (.ref tbb), .val (.int (1 : Int32))]) rfl (XS.iload X312.here hx rfl (hb hby at_235) rfl (XS.ifNo X312.here hx rfl (hb hby at_237) rfl ((if0 _ _).trans (feq (by decide : ¬ ((1 : Int32) = (0 : Int32)))).1) (XS.aload X312.here hx rfl (hb hby at_240) rfl rfl (XS.aload X312.here hx rfl (hb hby at_242) rfl rfl kt)))))) ?_
                      refine own_via (T' := T312) (g' := (mkF m 261 #[.val (.int p1), .val (.int p2), .val (.int v1), .val (.int v2), .val (.ref b3), .val (.ref b17), .val (.ref b190), .val (.ref b268), .val (.ref tba), .val (.ref tbb), .val (.int (1 : Int32))] [(.int (0 : Int32)), (.int (1 : Int32)), (.ref tba), (.ref b190)])) (fun _ kt => XS.iconst X312.here hx rfl (hb hby at_244) (XS.iloadN X312.here hx rfl (hb hby at_245) rfl (XS.ifYes X312.here hx rfl (pc0 := 246) (pc' := 260) rfl (hb hby at_246) rfl ((if0 _ _).trans (feq hc121_39).2) (by decide) (by decide) (XS.iconst X312.here hx rfl (hb hby at_260) kt)))) ?_
                      obtain ⟨v313, T313, L313, X313, hQ313, st313⟩ := own_callS X312 hx hZ (y := (⟨"com/example/querent/querent/engine/ColumnTypesAddAllPinLaw", "col", "(Lcom/example/querent/querent/engine/ColumnTypes;[Lcom/example/querent/querent/engine/Type;IZ)Z"⟩ : MethodName)) hown (hw _ (List.mem_of_getElem? (i := 55) rfl)) (hw _ (List.mem_of_getElem? (i := 56) rfl)) (hw _ (List.mem_of_getElem? (i := 57) rfl)) (hw _ (List.mem_of_getElem? (i := 58) rfl)) (by decide) (W := 0) (argsL := [(.ref b190), (.ref tba), (.int (1 : Int32)), (.int (0 : Int32))]) (rest := []) (rm8 l Z a0 hw [] b190 sna ita nma bla tba .null own_z (fun _ => Or.inl rfl) 1 (by decide) (0 : Int32) rfl tx T303.heap f309 f311 (S0.ext f304.2)) (by decide) (by decide) (by decide) (by decide) e312 (g := (mkF m 261 #[.val (.int p1), .val (.int p2), .val (.int v1), .val (.int v2), .val (.ref b3), .val (.ref b17), .val (.ref b190), .val (.ref b268), .val (.ref tba), .val (.ref tbb), .val (.int (1 : Int32))] [(.int (0 : Int32)), (.int (1 : Int32)), (.ref tba), (.ref b190)])) rfl (by rw [hml]; rfl) (lenOf pd_7 rfl) rfl (by show 2 * 0 + _ ≤ _; exact Nat.le_of_eq rfl) (hb hby at_261)
                      obtain ⟨rfl, hL313, e313⟩ := hQ313
                      replace X313 := own_pure (v := none) (r := none) X313 rfl rfl hL313
                      refine own_via (T' := T313) (g' := (mkF m 276 #[.val (.int p1), .val (.int p2), .val (.int v1), .val (.int v2), .val (.ref b3), .val (.ref b17), .val (.ref b190), .val (.ref b268), .val (.ref tba), .val (.ref tbb), .val (.int (1 : Int32))] [(.int (1 : Int32))])) (fun _ kt => st313 _ (XS.ifNo X313.here hx rfl (hb hby at_264) rfl ((if0 _ _).trans (feq (by decide : ¬ ((1 : Int32) = (0 : Int32)))).1) (XS.iconst X313.here hx rfl (hb hby at_267) (XS.goto X313.here hx rfl (pc0 := 268) (pc' := 272) rfl (hb hby at_268) (by decide) (by decide) (XS.istore X313.here hx rfl (hb hby at_272) rfl (l' := #[.val (.int p1), .val (.int p2), .val (.int v1), .val (.int v2), .val (.ref b3), .val (.ref b17), .val (.ref b190), .val (.ref b268), .val (.ref tba), .val (.ref tbb), .val (.int (1 : Int32))]) rfl (XS.iload X313.here hx rfl (hb hby at_274) rfl kt)))))) ?_
                      refine own_via (T' := T313) (g' := (mkF m 299 #[.val (.int p1), .val (.int p2), .val (.int v1), .val (.int v2), .val (.ref b3), .val (.ref b17), .val (.ref b190), .val (.ref b268), .val (.ref tba), .val (.ref tbb), .val (.int (1 : Int32))] [(.int (2 : Int32)), (.ref tba), (.ref b190)])) (fun _ kt => XS.ifNo X313.here hx rfl (hb hby at_276) rfl ((if0 _ _).trans (feq (by decide : ¬ ((1 : Int32) = (0 : Int32)))).1) (XS.aload X313.here hx rfl (hb hby at_279) rfl rfl (XS.aload X313.here hx rfl (hb hby at_281) rfl rfl (XS.iconst X313.here hx rfl (hb hby at_283) (XS.iloadN X313.here hx rfl (hb hby at_284) rfl (XS.ifYes X313.here hx rfl (pc0 := 285) (pc' := 299) rfl (hb hby at_285) rfl ((if0 _ _).trans (feq hc121_39).2) (by decide) (by decide) kt)))))) ?_
                      refine own_via (T' := T313) (g' := (mkF m 300 #[.val (.int p1), .val (.int p2), .val (.int v1), .val (.int v2), .val (.ref b3), .val (.ref b17), .val (.ref b190), .val (.ref b268), .val (.ref tba), .val (.ref tbb), .val (.int (1 : Int32))] [(.int (0 : Int32)), (.int (2 : Int32)), (.ref tba), (.ref b190)])) (fun _ kt => XS.iconst X313.here hx rfl (hb hby at_299) kt) ?_
                      obtain ⟨v314, T314, L314, X314, hQ314, st314⟩ := own_callS X313 hx hZ (y := (⟨"com/example/querent/querent/engine/ColumnTypesAddAllPinLaw", "col", "(Lcom/example/querent/querent/engine/ColumnTypes;[Lcom/example/querent/querent/engine/Type;IZ)Z"⟩ : MethodName)) hown (hw _ (List.mem_of_getElem? (i := 55) rfl)) (hw _ (List.mem_of_getElem? (i := 56) rfl)) (hw _ (List.mem_of_getElem? (i := 57) rfl)) (hw _ (List.mem_of_getElem? (i := 58) rfl)) (by decide) (W := 0) (argsL := [(.ref b190), (.ref tba), (.int (2 : Int32)), (.int (0 : Int32))]) (rest := []) (rm8 l Z a0 hw [] b190 sna ita nma bla tba .null own_z (fun _ => Or.inl rfl) 2 (by decide) (0 : Int32) rfl tx T303.heap f309 f311 (S0.ext f304.2)) (by decide) (by decide) (by decide) (by decide) e313 (g := (mkF m 300 #[.val (.int p1), .val (.int p2), .val (.int v1), .val (.int v2), .val (.ref b3), .val (.ref b17), .val (.ref b190), .val (.ref b268), .val (.ref tba), .val (.ref tbb), .val (.int (1 : Int32))] [(.int (0 : Int32)), (.int (2 : Int32)), (.ref tba), (.ref b190)])) rfl (by rw [hml]; rfl) (lenOf pd_7 rfl) rfl (by show 2 * 0 + _ ≤ _; exact Nat.le_of_eq rfl) (hb hby at_300)
                      obtain ⟨rfl, hL314, e314⟩ := hQ314
                      replace X314 := own_pure (v := none) (r := none) X314 rfl rfl hL314
                      refine own_via (T' := T314) (g' := (mkF m 315 #[.val (.int p1), .val (.int p2), .val (.int v1), .val (.int v2), .val (.ref b3), .val (.ref b17), .val (.ref b190), .val (.ref b268), .val (.ref tba), .val (.ref tbb), .val (.int (1 : Int32))] [(.int (1 : Int32))])) (fun _ kt => st314 _ (XS.ifNo X314.here hx rfl (hb hby at_303) rfl ((if0 _ _).trans (feq (by decide : ¬ ((1 : Int32) = (0 : Int32)))).1) (XS.iconst X314.here hx rfl (hb hby at_306) (XS.goto X314.here hx rfl (pc0 := 307) (pc' := 311) rfl (hb hby at_307) (by decide) (by decide) (XS.istore X314.here hx rfl (hb hby at_311) rfl (l' := #[.val (.int p1), .val (.int p2), .val (.int v1), .val (.int v2), .val (.ref b3), .val (.ref b17), .val (.ref b190), .val (.ref b268), .val (.ref tba), .val (.ref tbb), .val (.int (1 : Int32))]) rfl (XS.iload X314.here hx rfl (hb hby at_313) rfl kt)))))) ?_
                      refine own_via (T' := T314) (g' := (mkF m 338 #[.val (.int p1), .val (.int p2), .val (.int v1), .val (.int v2), .val (.ref b3), .val (.ref b17), .val (.ref b190), .val (.ref b268), .val (.ref tba), .val (.ref tbb), .val (.int (1 : Int32))] [(.int (0 : Int32)), (.ref tbb), (.ref b268)])) (fun _ kt => XS.ifNo X314.here hx rfl (hb hby at_315) rfl ((if0 _ _).trans (feq (by decide : ¬ ((1 : Int32) = (0 : Int32)))).1) (XS.aload X314.here hx rfl (hb hby at_318) rfl rfl (XS.aload X314.here hx rfl (hb hby at_320) rfl rfl (XS.iconst X314.here hx rfl (hb hby at_322) (XS.iloadN X314.here hx rfl (hb hby at_323) rfl (XS.ifYes X314.here hx rfl (pc0 := 324) (pc' := 338) rfl (hb hby at_324) rfl ((if0 _ _).trans (feq hc147_208).2) (by decide) (by decide) kt)))))) ?_
                      refine own_via (T' := T314) (g' := (mkF m 339 #[.val (.int p1), .val (.int p2), .val (.int v1), .val (.int v2), .val (.ref b3), .val (.ref b17), .val (.ref b190), .val (.ref b268), .val (.ref tba), .val (.ref tbb), .val (.int (1 : Int32))] [(.int (0 : Int32)), (.int (0 : Int32)), (.ref tbb), (.ref b268)])) (fun _ kt => XS.iconst X314.here hx rfl (hb hby at_338) kt) ?_
                      obtain ⟨v315, T315, L315, X315, hQ315, st315⟩ := own_callS X314 hx hZ (y := (⟨"com/example/querent/querent/engine/ColumnTypesAddAllPinLaw", "col", "(Lcom/example/querent/querent/engine/ColumnTypes;[Lcom/example/querent/querent/engine/Type;IZ)Z"⟩ : MethodName)) hown (hw _ (List.mem_of_getElem? (i := 55) rfl)) (hw _ (List.mem_of_getElem? (i := 56) rfl)) (hw _ (List.mem_of_getElem? (i := 57) rfl)) (hw _ (List.mem_of_getElem? (i := 58) rfl)) (by decide) (W := 0) (argsL := [(.ref b268), (.ref tbb), (.int (0 : Int32)), (.int (0 : Int32))]) (rest := []) (rm8 l Z a0 hw [] b268 snb itb nmb blb tbb .null own_z (fun _ => Or.inl rfl) 0 (by decide) (0 : Int32) rfl tx T303.heap f310 Aq303 (S0.ext f304.2)) (by decide) (by decide) (by decide) (by decide) e314 (g := (mkF m 339 #[.val (.int p1), .val (.int p2), .val (.int v1), .val (.int v2), .val (.ref b3), .val (.ref b17), .val (.ref b190), .val (.ref b268), .val (.ref tba), .val (.ref tbb), .val (.int (1 : Int32))] [(.int (0 : Int32)), (.int (0 : Int32)), (.ref tbb), (.ref b268)])) rfl (by rw [hml]; rfl) (lenOf pd_7 rfl) rfl (by show 2 * 0 + _ ≤ _; exact Nat.le_of_eq rfl) (hb hby at_339)
                      obtain ⟨rfl, hL315, e315⟩ := hQ315
                      replace X315 := own_pure (v := none) (r := none) X315 rfl rfl hL315
                      refine own_via (T' := T315) (g' := (mkF m 354 #[.val (.int p1), .val (.int p2), .val (.int v1), .val (.int v2), .val (.ref b3), .val (.ref b17), .val (.ref b190), .val (.ref b268), .val (.ref tba), .val (.ref tbb), .val (.int (1 : Int32))] [(.int (1 : Int32))])) (fun _ kt => st315 _ (XS.ifNo X315.here hx rfl (hb hby at_342) rfl ((if0 _ _).trans (feq (by decide : ¬ ((1 : Int32) = (0 : Int32)))).1) (XS.iconst X315.here hx rfl (hb hby at_345) (XS.goto X315.here hx rfl (pc0 := 346) (pc' := 350) rfl (hb hby at_346) (by decide) (by decide) (XS.istore X315.here hx rfl (hb hby at_350) rfl (l' := #[.val (.int p1), .val (.int p2), .val (.int v1), .val (.int v2), .val (.ref b3), .val (.ref b17), .val (.ref b190), .val (.ref b268), .val (.ref tba), .val (.ref tbb), .val (.int (1 : Int32))]) rfl (XS.iload X315.here hx rfl (hb hby at_352) rfl kt)))))) ?_
                      refine own_via (T' := T315) (g' := (mkF m 377 #[.val (.int p1), .val (.int p2), .val (.int v1), .val (.int v2), .val (.ref b3), .val (.ref b17), .val (.ref b190), .val (.ref b268), .val (.ref tba), .val (.ref tbb), .val (.int (1 : Int32))] [(.int (1 : Int32)), (.ref tbb), (.ref b268)])) (fun _ kt => XS.ifNo X315.here hx rfl (hb hby at_354) rfl ((if0 _ _).trans (feq (by decide : ¬ ((1 : Int32) = (0 : Int32)))).1) (XS.aload X315.here hx rfl (hb hby at_357) rfl rfl (XS.aload X315.here hx rfl (hb hby at_359) rfl rfl (XS.iconst X315.here hx rfl (hb hby at_361) (XS.iloadN X315.here hx rfl (hb hby at_362) rfl (XS.ifYes X315.here hx rfl (pc0 := 363) (pc' := 377) rfl (hb hby at_363) rfl ((if0 _ _).trans (feq hc147_208).2) (by decide) (by decide) kt)))))) ?_
                      refine own_via (T' := T315) (g' := (mkF m 378 #[.val (.int p1), .val (.int p2), .val (.int v1), .val (.int v2), .val (.ref b3), .val (.ref b17), .val (.ref b190), .val (.ref b268), .val (.ref tba), .val (.ref tbb), .val (.int (1 : Int32))] [(.int (0 : Int32)), (.int (1 : Int32)), (.ref tbb), (.ref b268)])) (fun _ kt => XS.iconst X315.here hx rfl (hb hby at_377) kt) ?_
                      obtain ⟨v316, T316, L316, X316, hQ316, st316⟩ := own_callS X315 hx hZ (y := (⟨"com/example/querent/querent/engine/ColumnTypesAddAllPinLaw", "col", "(Lcom/example/querent/querent/engine/ColumnTypes;[Lcom/example/querent/querent/engine/Type;IZ)Z"⟩ : MethodName)) hown (hw _ (List.mem_of_getElem? (i := 55) rfl)) (hw _ (List.mem_of_getElem? (i := 56) rfl)) (hw _ (List.mem_of_getElem? (i := 57) rfl)) (hw _ (List.mem_of_getElem? (i := 58) rfl)) (by decide) (W := 0) (argsL := [(.ref b268), (.ref tbb), (.int (1 : Int32)), (.int (0 : Int32))]) (rest := []) (rm8 l Z a0 hw [] b268 snb itb nmb blb tbb .null own_z (fun _ => Or.inl rfl) 1 (by decide) (0 : Int32) rfl tx T303.heap f310 Aq303 (S0.ext f304.2)) (by decide) (by decide) (by decide) (by decide) e315 (g := (mkF m 378 #[.val (.int p1), .val (.int p2), .val (.int v1), .val (.int v2), .val (.ref b3), .val (.ref b17), .val (.ref b190), .val (.ref b268), .val (.ref tba), .val (.ref tbb), .val (.int (1 : Int32))] [(.int (0 : Int32)), (.int (1 : Int32)), (.ref tbb), (.ref b268)])) rfl (by rw [hml]; rfl) (lenOf pd_7 rfl) rfl (by show 2 * 0 + _ ≤ _; exact Nat.le_of_eq rfl) (hb hby at_378)
                      obtain ⟨rfl, hL316, e316⟩ := hQ316
                      replace X316 := own_pure (v := none) (r := none) X316 rfl rfl hL316
                      refine own_via (T' := T316) (g' := (mkF m 393 #[.val (.int p1), .val (.int p2), .val (.int v1), .val (.int v2), .val (.ref b3), .val (.ref b17), .val (.ref b190), .val (.ref b268), .val (.ref tba), .val (.ref tbb), .val (.int (1 : Int32))] [(.int (1 : Int32))])) (fun _ kt => st316 _ (XS.ifNo X316.here hx rfl (hb hby at_381) rfl ((if0 _ _).trans (feq (by decide : ¬ ((1 : Int32) = (0 : Int32)))).1) (XS.iconst X316.here hx rfl (hb hby at_384) (XS.goto X316.here hx rfl (pc0 := 385) (pc' := 389) rfl (hb hby at_385) (by decide) (by decide) (XS.istore X316.here hx rfl (hb hby at_389) rfl (l' := #[.val (.int p1), .val (.int p2), .val (.int v1), .val (.int v2), .val (.ref b3), .val (.ref b17), .val (.ref b190), .val (.ref b268), .val (.ref tba), .val (.ref tbb), .val (.int (1 : Int32))]) rfl (XS.iload X316.here hx rfl (hb hby at_391) rfl kt)))))) ?_
                      refine own_via (T' := T316) (g' := (mkF m 416 #[.val (.int p1), .val (.int p2), .val (.int v1), .val (.int v2), .val (.ref b3), .val (.ref b17), .val (.ref b190), .val (.ref b268), .val (.ref tba), .val (.ref tbb), .val (.int (1 : Int32))] [(.int (2 : Int32)), (.ref tbb), (.ref b268)])) (fun _ kt => XS.ifNo X316.here hx rfl (hb hby at_393) rfl ((if0 _ _).trans (feq (by decide : ¬ ((1 : Int32) = (0 : Int32)))).1) (XS.aload X316.here hx rfl (hb hby at_396) rfl rfl (XS.aload X316.here hx rfl (hb hby at_398) rfl rfl (XS.iconst X316.here hx rfl (hb hby at_400) (XS.iloadN X316.here hx rfl (hb hby at_401) rfl (XS.ifYes X316.here hx rfl (pc0 := 402) (pc' := 416) rfl (hb hby at_402) rfl ((if0 _ _).trans (feq hc147_208).2) (by decide) (by decide) kt)))))) ?_
                      refine own_via (T' := T316) (g' := (mkF m 417 #[.val (.int p1), .val (.int p2), .val (.int v1), .val (.int v2), .val (.ref b3), .val (.ref b17), .val (.ref b190), .val (.ref b268), .val (.ref tba), .val (.ref tbb), .val (.int (1 : Int32))] [(.int (0 : Int32)), (.int (2 : Int32)), (.ref tbb), (.ref b268)])) (fun _ kt => XS.iconst X316.here hx rfl (hb hby at_416) kt) ?_
                      obtain ⟨v317, T317, L317, X317, hQ317, st317⟩ := own_callS X316 hx hZ (y := (⟨"com/example/querent/querent/engine/ColumnTypesAddAllPinLaw", "col", "(Lcom/example/querent/querent/engine/ColumnTypes;[Lcom/example/querent/querent/engine/Type;IZ)Z"⟩ : MethodName)) hown (hw _ (List.mem_of_getElem? (i := 55) rfl)) (hw _ (List.mem_of_getElem? (i := 56) rfl)) (hw _ (List.mem_of_getElem? (i := 57) rfl)) (hw _ (List.mem_of_getElem? (i := 58) rfl)) (by decide) (W := 0) (argsL := [(.ref b268), (.ref tbb), (.int (2 : Int32)), (.int (0 : Int32))]) (rest := []) (rm8 l Z a0 hw [] b268 snb itb nmb blb tbb .null own_z (fun _ => Or.inl rfl) 2 (by decide) (0 : Int32) rfl tx T303.heap f310 Aq303 (S0.ext f304.2)) (by decide) (by decide) (by decide) (by decide) e316 (g := (mkF m 417 #[.val (.int p1), .val (.int p2), .val (.int v1), .val (.int v2), .val (.ref b3), .val (.ref b17), .val (.ref b190), .val (.ref b268), .val (.ref tba), .val (.ref tbb), .val (.int (1 : Int32))] [(.int (0 : Int32)), (.int (2 : Int32)), (.ref tbb), (.ref b268)])) rfl (by rw [hml]; rfl) (lenOf pd_7 rfl) rfl (by show 2 * 0 + _ ≤ _; exact Nat.le_of_eq rfl) (hb hby at_417)
                      obtain ⟨rfl, hL317, e317⟩ := hQ317
                      replace X317 := own_pure (v := none) (r := none) X317 rfl rfl hL317
                      refine own_via (T' := T317) (g' := (mkF m 432 #[.val (.int p1), .val (.int p2), .val (.int v1), .val (.int v2), .val (.ref b3), .val (.ref b17), .val (.ref b190), .val (.ref b268), .val (.ref tba), .val (.ref tbb), .val (.int (1 : Int32))] [(.int (1 : Int32))])) (fun _ kt => st317 _ (XS.ifNo X317.here hx rfl (hb hby at_420) rfl ((if0 _ _).trans (feq (by decide : ¬ ((1 : Int32) = (0 : Int32)))).1) (XS.iconst X317.here hx rfl (hb hby at_423) (XS.goto X317.here hx rfl (pc0 := 424) (pc' := 428) rfl (hb hby at_424) (by decide) (by decide) (XS.istore X317.here hx rfl (hb hby at_428) rfl (l' := #[.val (.int p1), .val (.int p2), .val (.int v1), .val (.int v2), .val (.ref b3), .val (.ref b17), .val (.ref b190), .val (.ref b268), .val (.ref tba), .val (.ref tbb), .val (.int (1 : Int32))]) rfl (XS.iload X317.here hx rfl (hb hby at_430) rfl kt)))))) ?_
                      exact own_retZ X317 hx hret hlk (hb hby at_432) (by decide) ⟨rfl, N303⟩ (by decide) (by decide)
                refine own_via (T' := T28) (g' := (mkF m 109 #[.val (.int p1), .val (.int p2), .val (.int v1), .val (.int v2), .val (.ref b3), .unset, .unset, .unset, .unset, .unset, .unset] [(.int (p2 &&& (4 : Int32))), (.int (2 : Int32)), (.ref b17), (.ref b17)])) (fun _ kt => XS.iloadN X28.here hx rfl (hb hby at_106) rfl (XS.iconst X28.here hx rfl (hb hby at_107) (XS.iand X28.here hx rfl (hb hby at_108) rfl kt))) ?_
                by_cases hc109_318 : (p2 &&& (4 : Int32)) = (0 : Int32)
                · refine own_via (T' := T28) (g' := (mkF m 117 #[.val (.int p1), .val (.int p2), .val (.int v1), .val (.int v2), .val (.ref b3), .unset, .unset, .unset, .unset, .unset, .unset] [(.int (0 : Int32)), (.int (2 : Int32)), (.ref b17), (.ref b17)])) (fun _ kt => XS.ifYes X28.here hx rfl (pc0 := 109) (pc' := 116) rfl (hb hby at_109) rfl ((if0 _ _).trans (teq hc109_318).1) (by decide) (by decide) (XS.iconst X28.here hx rfl (hb hby at_116) kt)) ?_
                  exact HJ33 (0 : Int32) (Or.inl rfl)
                · refine own_via (T' := T28) (g' := (mkF m 117 #[.val (.int p1), .val (.int p2), .val (.int v1), .val (.int v2), .val (.ref b3), .unset, .unset, .unset, .unset, .unset, .unset] [(.int (1 : Int32)), (.int (2 : Int32)), (.ref b17), (.ref b17)])) (fun _ kt => XS.ifNo X28.here hx rfl (hb hby at_109) rfl ((if0 _ _).trans (feq hc109_318).1) (XS.iconst X28.here hx rfl (hb hby at_112) (XS.goto X28.here hx rfl (pc0 := 113) (pc' := 117) rfl (hb hby at_113) (by decide) (by decide) kt))) ?_
                  exact HJ33 (1 : Int32) (Or.inr rfl)
              refine own_via (T' := T22) (g' := (mkF m 95 #[.val (.int p1), .val (.int p2), .val (.int v1), .val (.int v2), .val (.ref b3), .unset, .unset, .unset, .unset, .unset, .unset] [(.int (p2 &&& (2 : Int32))), (.int (1 : Int32)), (.ref b17), (.ref b17)])) (fun _ kt => XS.iloadN X22.here hx rfl (hb hby at_92) rfl (XS.iconst X22.here hx rfl (hb hby at_93) (XS.iand X22.here hx rfl (hb hby at_94) rfl kt))) ?_
              by_cases hc95_319 : (p2 &&& (2 : Int32)) = (0 : Int32)
              · refine own_via (T' := T22) (g' := (mkF m 103 #[.val (.int p1), .val (.int p2), .val (.int v1), .val (.int v2), .val (.ref b3), .unset, .unset, .unset, .unset, .unset, .unset] [(.int (0 : Int32)), (.int (1 : Int32)), (.ref b17), (.ref b17)])) (fun _ kt => XS.ifYes X22.here hx rfl (pc0 := 95) (pc' := 102) rfl (hb hby at_95) rfl ((if0 _ _).trans (teq hc95_319).1) (by decide) (by decide) (XS.iconst X22.here hx rfl (hb hby at_102) kt)) ?_
                exact HJ27 (0 : Int32) (Or.inl rfl)
              · refine own_via (T' := T22) (g' := (mkF m 103 #[.val (.int p1), .val (.int p2), .val (.int v1), .val (.int v2), .val (.ref b3), .unset, .unset, .unset, .unset, .unset, .unset] [(.int (1 : Int32)), (.int (1 : Int32)), (.ref b17), (.ref b17)])) (fun _ kt => XS.ifNo X22.here hx rfl (hb hby at_95) rfl ((if0 _ _).trans (feq hc95_319).1) (XS.iconst X22.here hx rfl (hb hby at_98) (XS.goto X22.here hx rfl (pc0 := 99) (pc' := 103) rfl (hb hby at_99) (by decide) (by decide) kt))) ?_
                exact HJ27 (1 : Int32) (Or.inr rfl)
            refine own_via (T' := T17) (g' := (mkF m 81 #[.val (.int p1), .val (.int p2), .val (.int v1), .val (.int v2), .val (.ref b3), .unset, .unset, .unset, .unset, .unset, .unset] [(.int (p2 &&& (1 : Int32))), (.int (0 : Int32)), (.ref b17), (.ref b17)])) (fun _ kt => XS.iloadN X17.here hx rfl (hb hby at_78) rfl (XS.iconst X17.here hx rfl (hb hby at_79) (XS.iand X17.here hx rfl (hb hby at_80) rfl kt))) ?_
            by_cases hc81_320 : (p2 &&& (1 : Int32)) = (0 : Int32)
            · refine own_via (T' := T17) (g' := (mkF m 89 #[.val (.int p1), .val (.int p2), .val (.int v1), .val (.int v2), .val (.ref b3), .unset, .unset, .unset, .unset, .unset, .unset] [(.int (0 : Int32)), (.int (0 : Int32)), (.ref b17), (.ref b17)])) (fun _ kt => XS.ifYes X17.here hx rfl (pc0 := 81) (pc' := 88) rfl (hb hby at_81) rfl ((if0 _ _).trans (teq hc81_320).1) (by decide) (by decide) (XS.iconst X17.here hx rfl (hb hby at_88) kt)) ?_
              exact HJ21 (0 : Int32) (Or.inl rfl)
            · refine own_via (T' := T17) (g' := (mkF m 89 #[.val (.int p1), .val (.int p2), .val (.int v1), .val (.int v2), .val (.ref b3), .unset, .unset, .unset, .unset, .unset, .unset] [(.int (1 : Int32)), (.int (0 : Int32)), (.ref b17), (.ref b17)])) (fun _ kt => XS.ifNo X17.here hx rfl (hb hby at_81) rfl ((if0 _ _).trans (feq hc81_320).1) (XS.iconst X17.here hx rfl (hb hby at_84) (XS.goto X17.here hx rfl (pc0 := 85) (pc' := 89) rfl (hb hby at_85) (by decide) (by decide) kt))) ?_
              exact HJ21 (1 : Int32) (Or.inr rfl)
          refine own_via (T' := T10) (g' := (mkF m 62 #[.val (.int p1), .val (.int p2), .val (.int v1), .val (.int v2), .unset, .unset, .unset, .unset, .unset, .unset, .unset] [(.int (p1 &&& (4 : Int32))), (.int (2 : Int32)), (.ref b3), (.ref b3)])) (fun _ kt => XS.iloadN X10.here hx rfl (hb hby at_59) rfl (XS.iconst X10.here hx rfl (hb hby at_60) (XS.iand X10.here hx rfl (hb hby at_61) rfl kt))) ?_
          by_cases hc62_321 : (p1 &&& (4 : Int32)) = (0 : Int32)
          · refine own_via (T' := T10) (g' := (mkF m 70 #[.val (.int p1), .val (.int p2), .val (.int v1), .val (.int v2), .unset, .unset, .unset, .unset, .unset, .unset, .unset] [(.int (0 : Int32)), (.int (2 : Int32)), (.ref b3), (.ref b3)])) (fun _ kt => XS.ifYes X10.here hx rfl (pc0 := 62) (pc' := 69) rfl (hb hby at_62) rfl ((if0 _ _).trans (teq hc62_321).1) (by decide) (by decide) (XS.iconst X10.here hx rfl (hb hby at_69) kt)) ?_
            exact HJ13 (0 : Int32) (Or.inl rfl)
          · refine own_via (T' := T10) (g' := (mkF m 70 #[.val (.int p1), .val (.int p2), .val (.int v1), .val (.int v2), .unset, .unset, .unset, .unset, .unset, .unset, .unset] [(.int (1 : Int32)), (.int (2 : Int32)), (.ref b3), (.ref b3)])) (fun _ kt => XS.ifNo X10.here hx rfl (hb hby at_62) rfl ((if0 _ _).trans (feq hc62_321).1) (XS.iconst X10.here hx rfl (hb hby at_65) (XS.goto X10.here hx rfl (pc0 := 66) (pc' := 70) rfl (hb hby at_66) (by decide) (by decide) kt))) ?_
            exact HJ13 (1 : Int32) (Or.inr rfl)
        refine own_via (T' := T6) (g' := (mkF m 48 #[.val (.int p1), .val (.int p2), .val (.int v1), .val (.int v2), .unset, .unset, .unset, .unset, .unset, .unset, .unset] [(.int (p1 &&& (2 : Int32))), (.int (1 : Int32)), (.ref b3), (.ref b3)])) (fun _ kt => XS.iloadN X6.here hx rfl (hb hby at_45) rfl (XS.iconst X6.here hx rfl (hb hby at_46) (XS.iand X6.here hx rfl (hb hby at_47) rfl kt))) ?_
        by_cases hc48_322 : (p1 &&& (2 : Int32)) = (0 : Int32)
        · refine own_via (T' := T6) (g' := (mkF m 56 #[.val (.int p1), .val (.int p2), .val (.int v1), .val (.int v2), .unset, .unset, .unset, .unset, .unset, .unset, .unset] [(.int (0 : Int32)), (.int (1 : Int32)), (.ref b3), (.ref b3)])) (fun _ kt => XS.ifYes X6.here hx rfl (pc0 := 48) (pc' := 55) rfl (hb hby at_48) rfl ((if0 _ _).trans (teq hc48_322).1) (by decide) (by decide) (XS.iconst X6.here hx rfl (hb hby at_55) kt)) ?_
          exact HJ9 (0 : Int32) (Or.inl rfl)
        · refine own_via (T' := T6) (g' := (mkF m 56 #[.val (.int p1), .val (.int p2), .val (.int v1), .val (.int v2), .unset, .unset, .unset, .unset, .unset, .unset, .unset] [(.int (1 : Int32)), (.int (1 : Int32)), (.ref b3), (.ref b3)])) (fun _ kt => XS.ifNo X6.here hx rfl (hb hby at_48) rfl ((if0 _ _).trans (feq hc48_322).1) (XS.iconst X6.here hx rfl (hb hby at_51) (XS.goto X6.here hx rfl (pc0 := 52) (pc' := 56) rfl (hb hby at_52) (by decide) (by decide) kt))) ?_
          exact HJ9 (1 : Int32) (Or.inr rfl)
      refine own_via (T' := T3) (g' := (mkF m 34 #[.val (.int p1), .val (.int p2), .val (.int v1), .val (.int v2), .unset, .unset, .unset, .unset, .unset, .unset, .unset] [(.int (p1 &&& (1 : Int32))), (.int (0 : Int32)), (.ref b3), (.ref b3)])) (fun _ kt => XS.iloadN X3.here hx rfl (hb hby at_31) rfl (XS.iconst X3.here hx rfl (hb hby at_32) (XS.iand X3.here hx rfl (hb hby at_33) rfl kt))) ?_
      by_cases hc34_323 : (p1 &&& (1 : Int32)) = (0 : Int32)
      · refine own_via (T' := T3) (g' := (mkF m 42 #[.val (.int p1), .val (.int p2), .val (.int v1), .val (.int v2), .unset, .unset, .unset, .unset, .unset, .unset, .unset] [(.int (0 : Int32)), (.int (0 : Int32)), (.ref b3), (.ref b3)])) (fun _ kt => XS.ifYes X3.here hx rfl (pc0 := 34) (pc' := 41) rfl (hb hby at_34) rfl ((if0 _ _).trans (teq hc34_323).1) (by decide) (by decide) (XS.iconst X3.here hx rfl (hb hby at_41) kt)) ?_
        exact HJ5 (0 : Int32) (Or.inl rfl)
      · refine own_via (T' := T3) (g' := (mkF m 42 #[.val (.int p1), .val (.int p2), .val (.int v1), .val (.int v2), .unset, .unset, .unset, .unset, .unset, .unset, .unset] [(.int (1 : Int32)), (.int (0 : Int32)), (.ref b3), (.ref b3)])) (fun _ kt => XS.ifNo X3.here hx rfl (hb hby at_34) rfl ((if0 _ _).trans (feq hc34_323).1) (XS.iconst X3.here hx rfl (hb hby at_37) (XS.goto X3.here hx rfl (pc0 := 38) (pc' := 42) rfl (hb hby at_38) (by decide) (by decide) kt))) ?_
        exact HJ5 (1 : Int32) (Or.inr rfl)
    refine own_via (T' := T0) (g' := (mkF m 17 #[.val (.int p1), .val (.int p2), .val (.int v1), .unset, .unset, .unset, .unset, .unset, .unset, .unset, .unset] [(.int (p2 &&& (8 : Int32)))])) (fun _ kt => XS.iloadN X0.here hx rfl (hb hby at_13) rfl (XS.bipush X0.here hx rfl (hb hby at_14) (XS.iand X0.here hx rfl (hb hby at_16) rfl kt))) ?_
    by_cases hc17_324 : (p2 &&& (8 : Int32)) = (0 : Int32)
    · refine own_via (T' := T0) (g' := (mkF m 25 #[.val (.int p1), .val (.int p2), .val (.int v1), .unset, .unset, .unset, .unset, .unset, .unset, .unset, .unset] [(.int (0 : Int32))])) (fun _ kt => XS.ifYes X0.here hx rfl (pc0 := 17) (pc' := 24) rfl (hb hby at_17) rfl ((if0 _ _).trans (teq hc17_324).1) (by decide) (by decide) (XS.iconst X0.here hx rfl (hb hby at_24) kt)) ?_
      exact HJ2 (0 : Int32) (Or.inl rfl)
    · refine own_via (T' := T0) (g' := (mkF m 25 #[.val (.int p1), .val (.int p2), .val (.int v1), .unset, .unset, .unset, .unset, .unset, .unset, .unset, .unset] [(.int (1 : Int32))])) (fun _ kt => XS.ifNo X0.here hx rfl (hb hby at_17) rfl ((if0 _ _).trans (feq hc17_324).1) (XS.iconst X0.here hx rfl (hb hby at_20) (XS.goto X0.here hx rfl (pc0 := 21) (pc' := 25) rfl (hb hby at_21) (by decide) (by decide) kt))) ?_
      exact HJ2 (1 : Int32) (Or.inr rfl)
  refine own_via (T' := T0) (g' := (mkF m 4 #[.val (.int p1), .val (.int p2), .unset, .unset, .unset, .unset, .unset, .unset, .unset, .unset, .unset] [(.int (p1 &&& (8 : Int32)))])) (fun _ kt => XS.iloadN X0.here hx rfl (hb hby at_0) rfl (XS.bipush X0.here hx rfl (hb hby at_1) (XS.iand X0.here hx rfl (hb hby at_3) rfl kt))) ?_
  by_cases hc4_325 : (p1 &&& (8 : Int32)) = (0 : Int32)
  · refine own_via (T' := T0) (g' := (mkF m 12 #[.val (.int p1), .val (.int p2), .unset, .unset, .unset, .unset, .unset, .unset, .unset, .unset, .unset] [(.int (0 : Int32))])) (fun _ kt => XS.ifYes X0.here hx rfl (pc0 := 4) (pc' := 11) rfl (hb hby at_4) rfl ((if0 _ _).trans (teq hc4_325).1) (by decide) (by decide) (XS.iconst X0.here hx rfl (hb hby at_11) kt)) ?_
    exact HJ1 (0 : Int32) (Or.inl rfl)
  · refine own_via (T' := T0) (g' := (mkF m 12 #[.val (.int p1), .val (.int p2), .unset, .unset, .unset, .unset, .unset, .unset, .unset, .unset, .unset] [(.int (1 : Int32))])) (fun _ kt => XS.ifNo X0.here hx rfl (hb hby at_4) rfl ((if0 _ _).trans (feq hc4_325).1) (XS.iconst X0.here hx rfl (hb hby at_7) (XS.goto X0.here hx rfl (pc0 := 8) (pc' := 12) rfl (hb hby at_8) (by decide) (by decide) kt))) ?_
    exact HJ1 (1 : Int32) (Or.inr rfl)
set_option maxRecDepth 65536 in
set_option maxHeartbeats 40000000 in
theorem comes_1 {Post : Tables → Env → Array Value → State → Outcome → State → Prop} (hpost : ∀ tb e args s v u, (limb_1_1.after args s (.returned v) u = true ∧ limb_1_2.after args s (.returned v) u = true ∧ True) → FrameEnd s (.returned v) u (Jvm.fieldLocs frame_1_writes args s ++ Jvm.arrayLocs frame_1_arrays args s ++ Jvm.staticLocs frame_1_statics s) 40 192 → Post tb e args s (.returned v) u) :
    ArmFor flags0 classFile x code maxLocals ret World_1 tables_1 room_1 Calls_1 rest_1 Pre_1 Post := by
  intro l hfl _ _ p e ha hc hk s m args below hf hA hF happ hP
  obtain ⟨hcalls, hrest, hpre⟩ := hP
  obtain ⟨-, -, -, hnamed, -, -, -, hat⟩ := (Spec.applies_iff hf).mp happ
  obtain ⟨hg, hn⟩ := and_e (Cond.before_iff.mp (show (Jvm.Cond.and given_1 narrow_1).before args s = true from hpre))
  obtain ⟨gc, g0⟩ := and_e hg
  obtain ⟨v0, g1⟩ := and_e g0
  obtain ⟨w0, w1, rfl⟩ : ∃ w0 w1 : Value, args = #[w0, w1] := by
    have hs : args.size = 2 := by simpa [Cond.value, given_1] using gc
    obtain ⟨L⟩ := args
    match L, hs with
    | [w0, w1], _ => exact ⟨w0, w1, rfl⟩
  have hw := fun d (hd : d ∈ tables_1) => atoms_spec (ws := Jvm.Cond.code x code maxLocals ret :: tables_1) hat d (List.mem_cons_of_mem _ hd)
  have hfit : Fit s := fun {y c} hc i hi => by
    obtain ⟨ha, rfl⟩ := Array.getElem?_eq_some_iff.mp hc
    have q := List.all_eq_true.mp ((Array.all_eq_true_iff_forall_mem.mp hF) _ (Array.getElem_mem ha)) i (List.mem_range.mpr hi)
    simpa [Array.getElem?_eq_getElem hi] using q
  obtain ⟨i0, ei0⟩ := is_v v0
  obtain rfl : w0 = (.int i0) := Option.some.inj ei0
  obtain ⟨i1, ei1⟩ := is_v g1
  obtain rfl : w1 = (.int i1) := Option.some.inj ei1
  obtain ⟨tx, ev, S0, E0⟩ := own_stat hn (hw _ (List.mem_of_getElem? (i := 52) rfl)) (hw _ (List.mem_of_getElem? (i := 53) rfl))
  obtain ⟨n, o, h1, h2, h3, _, L, rfl, ⟨rfl, N⟩, hq⟩ := rm0 l s _ hw tables_1 i0 i1 tx s.heap s.heap.size (Nat.le_refl _) (Old.start s) S0 E0 p e ha hc hk s m _ below hf ((Spec.applies_iff_loose hf).mp happ).1 ⟨rfl, State.Warmed39.refl s, rfl⟩ trivial
  refine ⟨n, _, h1, h2, h3, hpost _ _ _ _ _ _ ⟨Cond.after_iff.mpr rfl, Cond.after_iff.mpr (eq_i res_at (Term.int_eval (1)) rfl), trivial⟩ ⟨hq.1, hq.2.1, (hq.2.2.sift fun y hy => Or.inr (N y hy)).mono (by decide) (by decide)⟩⟩
theorem main_1_1 : Claimed_1_1 := comes_1 fun _ _ _ _ _ _ h hF => ⟨h.1, hF⟩
theorem main_1_2 : Claimed_1_2 := comes_1 fun _ _ _ _ _ _ h hF => ⟨h.2.1, hF⟩
end Jvm.Pilot.@@N@@
namespace Jvm.Pilot.@@N@@
open Jvm Jvm.ClassFile Sem Op Lib Jvm.Free Jvm.Stand Jvm.Pilot.@@N@@.Jvm.D
/-! MADE BY PROGRAM (witnessworld.py) out of the Statement's table words and the real class files: 17 classes; the members and pool entries that the words name. The judged class is class 1, her method 1. -/
namespace start1
open Jvm.ClassFile
def u (s : String) : CpInfo := .utf8 (stringToUtf16 s)
/-- a pool by its gaps: so many unusable entries, then the entry; so many at the end -/
def gap : Nat → List CpInfo → List CpInfo
  | 0, r => r
  | n + 1, r => .unusable :: gap n r
def poolList (es : List (Nat × CpInfo)) (last : Nat) : List CpInfo := es.foldr (fun e r => gap e.1 (e.2 :: r)) (gap last [])
def pool (es : List (Nat × CpInfo)) (last : Nat) : Array CpInfo := ⟨poolList es last⟩
def fileOf (pool : Array CpInfo) (this : Nat) (attrs : Array Attribute := #[]) (ms : Array MethodInfo := #[]) (fl : Nat := 33) (sup : Nat := 0) (ifs : Array Nat := #[]) (fds : Array FieldInfo := #[]) : ClassFile where
  minorVersion := 0
  majorVersion := 65
  constantPool := pool
  accessFlags := fl
  thisClass := this
  superClass := sup
  interfaces := ifs
  fields := fds
  methods := ms
  attributes := attrs
def plain (name : String) (sup : Option ClassId) : Class where
  name := name
  kind := .ordinary
  loader := none
  accessFlags := 33
  super := sup
  interfaces := #[]
  cf := none
  fields := #[]
  methods := #[]
  instanceTypes := #[]
  staticTypes := #[]
  resolved := #[]
  callSites := []
  init := .initialized
  statics := none
  mirror := none

def pool0 : Array CpInfo := pool [(5, u "<init>"), (0, u "()V"), (1, .class_ 10), (1, u "java/lang/Object"), (85, u "clone"), (0, u "()Ljava/lang/Object;")] 26

def k0c0 : Code := { maxStack := 0, maxLocals := 1, code := object_method_1_code, exceptionTable := #[], attributes := #[] }
def k0m0 : Method := { name := "<init>", desc := "()V", sig := { parameters := [], returnType := none }, accessFlags := 1, code := some k0c0 }
def k0m1 : Method := { name := "clone", desc := "()Ljava/lang/Object;", sig := { parameters := [], returnType := some (.object "java/lang/Object") }, accessFlags := 260, code := none }
/-- java/lang/Object -/
def k0 : Class := { plain "java/lang/Object" none with
  accessFlags := 33
  interfaces := #[]
  cf := some (fileOf pool0 8 #[] #[{ accessFlags := 1, nameIndex := 5, descriptorIndex := 6, attributes := #[] }, { accessFlags := 260, nameIndex := 96, descriptorIndex := 97, attributes := #[] }] 33 0 #[] #[])
  fields := #[]
  methods := #[k0m0, k0m1]
  instanceTypes := #[]
  staticTypes := #[]
  resolved := Array.replicate 124 none
  statics := none }

def pool1 : Array CpInfo := pool [(2, .class_ 4), (1, u "java/lang/Object"), (0, u "<init>"), (0, u "()V"), (0, .class_ 8), (0, u "com/example/querent/querent/engine/ColumnTypes"), (0, .methodref 7 10), (0, .nameAndType 5 11), (0, u "(I)V"), (0, .methodref 7 13), (0, .nameAndType 5 14), (0, u "([Z)V"), (0, .methodref 7 16), (0, .nameAndType 17 18), (0, u "addAll"), (0, u "(Lcom/example/querent/querent/engine/ColumnTypes;)V"), (0, .methodref 7 20), (0, .nameAndType 21 22), (0, u "types"), (0, u "()[Lcom/example/querent/querent/engine/Type;"), (0, .methodref 24 25), (0, .class_ 26), (0, .nameAndType 27 28), (0, u "com/example/querent/querent/engine/ColumnTypesAddAllPinLaw"), (0, u "col"), (0, u "(Lcom/example/querent/querent/engine/ColumnTypes;[Lcom/example/querent/querent/engine/Type;IZ)Z"), (0, .methodref 7 30), (0, .nameAndType 31 32), (0, u "hasValue"), (0, u "(I)Z"), (0, .fieldref 34 35), (0, .class_ 36), (0, .nameAndType 37 38), (0, u "com/example/querent/querent/engine/Type"), (0, u "TEXT"), (0, u "Lcom/example/querent/querent/engine/Type;"), (2, u "law"), (0, u "(II)Z")] 7

def k1m0 : Method := { name := "<init>", desc := "()V", sig := { parameters := [], returnType := none }, accessFlags := 1, code := none }
def k1c1 : Code := { maxStack := 5, maxLocals := 11, code := code, exceptionTable := #[], attributes := #[] }
def k1m1 : Method := { name := "law", desc := "(II)Z", sig := { parameters := [.int, .int], returnType := some .boolean }, accessFlags := 9, code := some k1c1 }
def k1c2 : Code := { maxStack := 2, maxLocals := 4, code := method_3_code, exceptionTable := #[], attributes := #[] }
def k1m2 : Method := { name := "col", desc := "(Lcom/example/querent/querent/engine/ColumnTypes;[Lcom/example/querent/querent/engine/Type;IZ)Z", sig := { parameters := [(.object "com/example/querent/querent/engine/ColumnTypes"), (.array (.object "com/example/querent/querent/engine/Type")), .int, .boolean], returnType := some .boolean }, accessFlags := 10, code := some k1c2 }
/-- com/example/querent/querent/engine/ColumnTypesAddAllPinLaw -/
def k1 : Class := { plain "com/example/querent/querent/engine/ColumnTypesAddAllPinLaw" (some 0) with
  accessFlags := 49
  interfaces := #[]
  cf := some (fileOf pool1 24 #[] #[{ accessFlags := 1, nameIndex := 5, descriptorIndex := 6, attributes := #[] }, { accessFlags := 9, nameIndex := 41, descriptorIndex := 42, attributes := #[] }, { accessFlags := 10, nameIndex := 27, descriptorIndex := 28, attributes := #[] }] 49 2 #[] #[])
  fields := #[]
  methods := #[k1m0, k1m1, k1m2]
  instanceTypes := #[]
  staticTypes := #[]
  resolved := Array.replicate 50 none
  statics := none }

def pool2 : Array CpInfo := pool [(1, .methodref 2 3), (0, .class_ 4), (0, .nameAndType 5 6), (0, u "com/example/querent/querent/engine/ColumnTypes"), (0, u "<init>"), (0, u "(I[Z)V"), (0, .methodref 8 9), (0, .class_ 10), (0, .nameAndType 11 12), (0, u "[Z"), (0, u "clone"), (0, u "()Ljava/lang/Object;"), (0, .fieldref 2 14), (0, .nameAndType 15 10), (0, u "seen"), (0, .fieldref 2 17), (0, .nameAndType 18 10), (0, u "integers"), (0, .fieldref 2 20), (0, .nameAndType 21 10), (0, u "numbers"), (0, .fieldref 2 23), (0, .nameAndType 24 10), (0, u "booleans"), (0, .methodref 26 27), (0, .class_ 28), (0, .nameAndType 5 29), (0, u "java/lang/Object"), (0, u "()V"), (0, .methodref 2 31), (0, .nameAndType 32 33), (0, u "filled"), (0, u "(I)[Z"), (0, .fieldref 2 35), (0, .nameAndType 36 10), (0, u "watched"), (9, u "(I)Z"), (22, u "TRUE"), (0, u "[B"), (1, .class_ 74), (1, u "java/util/Arrays"), (9, u "FALSE"), (2, .fieldref 88 89), (0, .class_ 90), (0, .nameAndType 91 92), (0, u "com/example/querent/querent/engine/Type"), (0, u "TEXT"), (0, u "Lcom/example/querent/querent/engine/Type;"), (9, .methodref 72 103), (0, .nameAndType 104 105), (0, u "fill"), (0, u "([ZZ)V"), (16, u "(I)V"), (2, u "([Z)V"), (4, u "addAll"), (0, u "(Lcom/example/querent/querent/engine/ColumnTypes;)V"), (2, u "hasValue"), (0, u "types"), (0, u "()[Lcom/example/querent/querent/engine/Type;")] 5

def k2c0 : Code := { maxStack := 3, maxLocals := 2, code := prog_20_method_1_code, exceptionTable := #[], attributes := #[] }
def k2m0 : Method := { name := "<init>", desc := "(I)V", sig := { parameters := [.int], returnType := none }, accessFlags := 0, code := some k2c0 }
def k2c1 : Code := { maxStack := 3, maxLocals := 3, code := prog_20_method_2_code, exceptionTable := #[], attributes := #[] }
def k2m1 : Method := { name := "<init>", desc := "([Z)V", sig := { parameters := [(.array .boolean)], returnType := none }, accessFlags := 0, code := some k2c1 }
def k2c2 : Code := { maxStack := 2, maxLocals := 3, code := prog_20_method_3_code, exceptionTable := #[], attributes := #[] }
def k2m2 : Method := { name := "<init>", desc := "(I[Z)V", sig := { parameters := [.int, (.array .boolean)], returnType := none }, accessFlags := 2, code := some k2c2 }
def k2c3 : Code := { maxStack := 4, maxLocals := 3, code := prog_20_method_5_code, exceptionTable := #[], attributes := #[] }
def k2m3 : Method := { name := "addAll", desc := "(Lcom/example/querent/querent/engine/ColumnTypes;)V", sig := { parameters := [(.object "com/example/querent/querent/engine/ColumnTypes")], returnType := none }, accessFlags := 0, code := some k2c3 }
def k2c4 : Code := { maxStack := 2, maxLocals := 2, code := prog_20_method_8_code, exceptionTable := #[], attributes := #[] }
def k2m4 : Method := { name := "hasValue", desc := "(I)Z", sig := { parameters := [.int], returnType := some .boolean }, accessFlags := 0, code := some k2c4 }
def k2c5 : Code := { maxStack := 3, maxLocals := 4, code := prog_20_method_9_code, exceptionTable := #[], attributes := #[] }
def k2m5 : Method := { name := "types", desc := "()[Lcom/example/querent/querent/engine/Type;", sig := { parameters := [], returnType := some (.array (.object "com/example/querent/querent/engine/Type")) }, accessFlags := 0, code := some k2c5 }
def k2c6 : Code := { maxStack := 2, maxLocals := 2, code := prog_20_method_10_code, exceptionTable := #[], attributes := #[] }
def k2m6 : Method := { name := "filled", desc := "(I)[Z", sig := { parameters := [.int], returnType := some (.array .boolean) }, accessFlags := 10, code := some k2c6 }
/-- com/example/querent/querent/engine/ColumnTypes -/
def k2 : Class := { plain "com/example/querent/querent/engine/ColumnTypes" (some 0) with
  accessFlags := 48
  interfaces := #[]
  cf := some (fileOf pool2 2 #[] #[{ accessFlags := 0, nameIndex := 5, descriptorIndex := 122, attributes := #[] }, { accessFlags := 0, nameIndex := 5, descriptorIndex := 125, attributes := #[] }, { accessFlags := 2, nameIndex := 5, descriptorIndex := 6, attributes := #[] }, { accessFlags := 0, nameIndex := 130, descriptorIndex := 131, attributes := #[] }, { accessFlags := 0, nameIndex := 134, descriptorIndex := 46, attributes := #[] }, { accessFlags := 0, nameIndex := 135, descriptorIndex := 136, attributes := #[] }, { accessFlags := 10, nameIndex := 32, descriptorIndex := 33, attributes := #[] }] 48 26 #[] #[{ accessFlags := 26, nameIndex := 69, descriptorIndex := 70, attributes := #[] }, { accessFlags := 26, nameIndex := 84, descriptorIndex := 70, attributes := #[] }, { accessFlags := 18, nameIndex := 15, descriptorIndex := 10, attributes := #[] }, { accessFlags := 18, nameIndex := 18, descriptorIndex := 10, attributes := #[] }, { accessFlags := 18, nameIndex := 21, descriptorIndex := 10, attributes := #[] }, { accessFlags := 18, nameIndex := 24, descriptorIndex := 10, attributes := #[] }, { accessFlags := 18, nameIndex := 36, descriptorIndex := 10, attributes := #[] }])
  fields := #[{ name := "TRUE", type := (.array .byte), accessFlags := 26, slot := 0, constantValue := 0 }, { name := "FALSE", type := (.array .byte), accessFlags := 26, slot := 1, constantValue := 0 }, { name := "seen", type := (.array .boolean), accessFlags := 18, slot := 0, constantValue := 0 }, { name := "integers", type := (.array .boolean), accessFlags := 18, slot := 1, constantValue := 0 }, { name := "numbers", type := (.array .boolean), accessFlags := 18, slot := 2, constantValue := 0 }, { name := "booleans", type := (.array .boolean), accessFlags := 18, slot := 3, constantValue := 0 }, { name := "watched", type := (.array .boolean), accessFlags := 18, slot := 4, constantValue := 0 }]
  methods := #[k2m0, k2m1, k2m2, k2m3, k2m4, k2m5, k2m6]
  instanceTypes := #[(.array .boolean), (.array .boolean), (.array .boolean), (.array .boolean), (.array .boolean)]
  staticTypes := #[(.array .byte), (.array .byte)]
  resolved := Array.replicate 142 none
  statics := none }

def pool3 : Array CpInfo := pool [(1, .class_ 2), (0, u "java/lang/Cloneable"), (0, .class_ 4), (0, u "java/lang/Object")] 2

/-- java/lang/Cloneable -/
def k3 : Class := { plain "java/lang/Cloneable" (some 0) with
  accessFlags := 1537
  interfaces := #[]
  cf := some (fileOf pool3 1 #[] #[] 1537 3 #[] #[])
  fields := #[]
  methods := #[]
  instanceTypes := #[]
  staticTypes := #[]
  resolved := Array.replicate 7 none
  statics := none }

def pool4 : Array CpInfo := pool [(2, .class_ 4), (1, u "java/lang/Object"), (0, u "<init>"), (0, u "()V"), (7, .class_ 16), (1, u "java/util/Arrays"), (57, .class_ 76), (1, u "java/util/Arrays$NaturalOrder"), (36, .class_ 115), (1, u "java/util/Arrays$LegacyMergeSort"), (1, u "Z"), (257, .class_ 376), (0, u "java/util/Arrays$ArrayList"), (68, u "$assertionsDisabled"), (269, u "MIN_ARRAY_SORT_GRAN"), (0, u "I"), (2, u "INSERTIONSORT_THRESHOLD"), (120, u "fill"), (11, u "([ZZ)V"), (122, .class_ 976), (0, u "java/util/Arrays$ArrayItr")] 52

def k4m0 : Method := { name := "<init>", desc := "()V", sig := { parameters := [], returnType := none }, accessFlags := 2, code := none }
def k4c1 : Code := { maxStack := 3, maxLocals := 4, code := jdk_65_method_111_code, exceptionTable := #[], attributes := #[] }
def k4m1 : Method := { name := "fill", desc := "([ZZ)V", sig := { parameters := [(.array .boolean), .boolean], returnType := none }, accessFlags := 9, code := some k4c1 }
/-- java/util/Arrays -/
def k4 : Class := { plain "java/util/Arrays" (some 0) with
  accessFlags := 49
  interfaces := #[]
  cf := some (fileOf pool4 14 #[.nestMembers #[975, 375, 113, 74]] #[{ accessFlags := 2, nameIndex := 5, descriptorIndex := 6, attributes := #[] }, { accessFlags := 9, nameIndex := 840, descriptorIndex := 852, attributes := #[] }] 49 2 #[] #[{ accessFlags := 26, nameIndex := 715, descriptorIndex := 716, attributes := #[] }, { accessFlags := 26, nameIndex := 719, descriptorIndex := 716, attributes := #[] }, { accessFlags := 4120, nameIndex := 445, descriptorIndex := 117, attributes := #[] }])
  fields := #[{ name := "MIN_ARRAY_SORT_GRAN", type := .int, accessFlags := 26, slot := 0, constantValue := 0 }, { name := "INSERTIONSORT_THRESHOLD", type := .int, accessFlags := 26, slot := 1, constantValue := 0 }, { name := "$assertionsDisabled", type := .boolean, accessFlags := 4120, slot := 2, constantValue := 0 }]
  methods := #[k4m0, k4m1]
  instanceTypes := #[]
  staticTypes := #[.int, .int, .boolean]
  resolved := Array.replicate 1029 none
  statics := none }

def pool5 : Array CpInfo := pool [(1, .class_ 2), (0, u "java/lang/constant/Constable"), (0, .class_ 4), (0, u "java/lang/Object")] 6

/-- java/lang/constant/Constable -/
def k5 : Class := { plain "java/lang/constant/Constable" (some 0) with
  accessFlags := 1537
  interfaces := #[]
  cf := some (fileOf pool5 1 #[] #[] 1537 3 #[] #[])
  fields := #[]
  methods := #[]
  instanceTypes := #[]
  staticTypes := #[]
  resolved := Array.replicate 11 none
  statics := none }

def pool6 : Array CpInfo := pool [(1, .class_ 2), (0, u "java/lang/Comparable"), (0, .class_ 4), (0, u "java/lang/Object")] 7

/-- java/lang/Comparable -/
def k6 : Class := { plain "java/lang/Comparable" (some 0) with
  accessFlags := 1537
  interfaces := #[]
  cf := some (fileOf pool6 1 #[] #[] 1537 3 #[] #[])
  fields := #[]
  methods := #[]
  instanceTypes := #[]
  staticTypes := #[]
  resolved := Array.replicate 12 none
  statics := none }

def pool7 : Array CpInfo := pool [(1, .class_ 2), (0, u "java/io/Serializable"), (0, .class_ 4), (0, u "java/lang/Object")] 2

/-- java/io/Serializable -/
def k7 : Class := { plain "java/io/Serializable" (some 0) with
  accessFlags := 1537
  interfaces := #[]
  cf := some (fileOf pool7 1 #[] #[] 1537 3 #[] #[])
  fields := #[]
  methods := #[]
  instanceTypes := #[]
  staticTypes := #[]
  resolved := Array.replicate 7 none
  statics := none }

def pool8 : Array CpInfo := pool [(2, .class_ 4), (1, u "java/lang/Enum"), (0, u "name"), (0, u "Ljava/lang/String;"), (2, u "ordinal"), (0, u "I"), (1, .class_ 14), (1, u "java/lang/Object"), (4, u "hash"), (86, .class_ 108), (1, u "java/lang/Enum$EnumDesc"), (2, .class_ 112), (0, u "java/lang/constant/Constable"), (0, .class_ 114), (0, u "java/lang/Comparable"), (0, .class_ 116), (0, u "java/io/Serializable")] 87

/-- java/lang/Enum -/
def k8 : Class := { plain "java/lang/Enum" (some 0) with
  accessFlags := 1057
  interfaces := #[5, 6, 7]
  cf := some (fileOf pool8 2 #[.nestMembers #[106]] #[] 1057 12 #[111, 113, 115] #[{ accessFlags := 18, nameIndex := 5, descriptorIndex := 6, attributes := #[] }, { accessFlags := 18, nameIndex := 9, descriptorIndex := 10, attributes := #[] }, { accessFlags := 2, nameIndex := 19, descriptorIndex := 10, attributes := #[] }])
  fields := #[{ name := "name", type := (.object "java/lang/String"), accessFlags := 18, slot := 0, constantValue := 0 }, { name := "ordinal", type := .int, accessFlags := 18, slot := 1, constantValue := 0 }, { name := "hash", type := .int, accessFlags := 2, slot := 2, constantValue := 0 }]
  methods := #[]
  instanceTypes := #[(.object "java/lang/String"), .int, .int]
  staticTypes := #[]
  resolved := Array.replicate 204 none
  statics := none }

def pool9 : Array CpInfo := pool [(1, .class_ 2), (0, u "com/example/querent/querent/engine/Type"), (2, u "BIGINT"), (0, u "Lcom/example/querent/querent/engine/Type;"), (2, u "INTEGER"), (2, u "DOUBLE_PRECISION"), (2, u "TEXT"), (2, u "VARCHAR"), (2, u "BOOLEAN"), (2, u "DATE"), (2, u "TIMESTAMP"), (2, u "UNKNOWN"), (2, u "$VALUES"), (0, u "[Lcom/example/querent/querent/engine/Type;"), (6, .class_ 43), (1, u "java/lang/Enum"), (8, u "sqlName"), (0, u "Ljava/lang/String;"), (2, u "javaClass"), (0, u "Ljava/lang/Class;"), (2, u "NAMES"), (0, u "Ljava/util/Map;")] 148

/-- com/example/querent/querent/engine/Type -/
def k9 : Class := { plain "com/example/querent/querent/engine/Type" (some 8) with
  accessFlags := 16432
  interfaces := #[]
  cf := some (fileOf pool9 1 #[] #[] 16432 41 #[] #[{ accessFlags := 16409, nameIndex := 5, descriptorIndex := 6, attributes := #[] }, { accessFlags := 16409, nameIndex := 9, descriptorIndex := 6, attributes := #[] }, { accessFlags := 16409, nameIndex := 12, descriptorIndex := 6, attributes := #[] }, { accessFlags := 16409, nameIndex := 15, descriptorIndex := 6, attributes := #[] }, { accessFlags := 16409, nameIndex := 18, descriptorIndex := 6, attributes := #[] }, { accessFlags := 16409, nameIndex := 21, descriptorIndex := 6, attributes := #[] }, { accessFlags := 16409, nameIndex := 24, descriptorIndex := 6, attributes := #[] }, { accessFlags := 16409, nameIndex := 27, descriptorIndex := 6, attributes := #[] }, { accessFlags := 16409, nameIndex := 30, descriptorIndex := 6, attributes := #[] }, { accessFlags := 26, nameIndex := 60, descriptorIndex := 61, attributes := #[] }, { accessFlags := 18, nameIndex := 52, descriptorIndex := 53, attributes := #[] }, { accessFlags := 18, nameIndex := 56, descriptorIndex := 57, attributes := #[] }, { accessFlags := 4122, nameIndex := 33, descriptorIndex := 34, attributes := #[] }])
  fields := #[{ name := "BIGINT", type := (.object "com/example/querent/querent/engine/Type"), accessFlags := 16409, slot := 0, constantValue := 0 }, { name := "INTEGER", type := (.object "com/example/querent/querent/engine/Type"), accessFlags := 16409, slot := 1, constantValue := 0 }, { name := "DOUBLE_PRECISION", type := (.object "com/example/querent/querent/engine/Type"), accessFlags := 16409, slot := 2, constantValue := 0 }, { name := "TEXT", type := (.object "com/example/querent/querent/engine/Type"), accessFlags := 16409, slot := 3, constantValue := 0 }, { name := "VARCHAR", type := (.object "com/example/querent/querent/engine/Type"), accessFlags := 16409, slot := 4, constantValue := 0 }, { name := "BOOLEAN", type := (.object "com/example/querent/querent/engine/Type"), accessFlags := 16409, slot := 5, constantValue := 0 }, { name := "DATE", type := (.object "com/example/querent/querent/engine/Type"), accessFlags := 16409, slot := 6, constantValue := 0 }, { name := "TIMESTAMP", type := (.object "com/example/querent/querent/engine/Type"), accessFlags := 16409, slot := 7, constantValue := 0 }, { name := "UNKNOWN", type := (.object "com/example/querent/querent/engine/Type"), accessFlags := 16409, slot := 8, constantValue := 0 }, { name := "NAMES", type := (.object "java/util/Map"), accessFlags := 26, slot := 9, constantValue := 0 }, { name := "sqlName", type := (.object "java/lang/String"), accessFlags := 18, slot := 3, constantValue := 0 }, { name := "javaClass", type := (.object "java/lang/Class"), accessFlags := 18, slot := 4, constantValue := 0 }, { name := "$VALUES", type := (.array (.object "com/example/querent/querent/engine/Type")), accessFlags := 4122, slot := 10, constantValue := 0 }]
  methods := #[]
  instanceTypes := #[(.object "java/lang/String"), .int, .int, (.object "java/lang/String"), (.object "java/lang/Class")]
  staticTypes := #[(.object "com/example/querent/querent/engine/Type"), (.object "com/example/querent/querent/engine/Type"), (.object "com/example/querent/querent/engine/Type"), (.object "com/example/querent/querent/engine/Type"), (.object "com/example/querent/querent/engine/Type"), (.object "com/example/querent/querent/engine/Type"), (.object "com/example/querent/querent/engine/Type"), (.object "com/example/querent/querent/engine/Type"), (.object "com/example/querent/querent/engine/Type"), (.object "java/util/Map"), (.array (.object "com/example/querent/querent/engine/Type"))]
  resolved := Array.replicate 210 none
  statics := some 0 }

/-- the primitive boolean -/
def k10 : Class := { plain "boolean" none with kind := .primitive 'Z', accessFlags := 0x411 }
/-- [Z -/
def k11 : Class := { plain "[Z" (some 0) with kind := .array 10 .boolean, interfaces := #[3, 7], accessFlags := 1041 }

/-- the primitive byte -/
def k12 : Class := { plain "byte" none with kind := .primitive 'B', accessFlags := 0x411 }
/-- [B -/
def k13 : Class := { plain "[B" (some 0) with kind := .array 12 .byte, interfaces := #[3, 7], accessFlags := 1041 }

/-- the primitive int -/
def k14 : Class := { plain "int" none with kind := .primitive 'I', accessFlags := 0x411 }
/-- [I -/
def k15 : Class := { plain "[I" (some 0) with kind := .array 14 .int, interfaces := #[3, 7], accessFlags := 1041 }

/-- [Lcom/example/querent/querent/engine/Type; -/
def k16 : Class := { plain "[Lcom/example/querent/querent/engine/Type;" (some 0) with kind := .array 9 (.object "com/example/querent/querent/engine/Type"), interfaces := #[3, 7], accessFlags := 1041 }

def heap : Heap := #[{ cls := 9, slots := #[.null, .null, .null, .ref 1, .null, .null, .null, .null, .null, .null, .null], vm := .statics 9 },
  { cls := 9, slots := #[.null, .int 0, .int 0, .null, .null], vm := .none }]
def classes : Array Class := #[k0, k1, k2, k3, k4, k5, k6, k7, k8, k9, k10, k11, k12, k13, k14, k15, k16]
def interned : List (Array UInt16 × Addr) := []
def slotsUsed : Nat := 16
def theMethod : MethodId := ⟨1, 1⟩
def args0 : Array Value := #[.int 5, .int 6]
def aboutOver (below : List Frame) : State where
  vm := { classes := classes, interned := interned.toArray }
  heap := heap
  slotsUsed := slotsUsed
  threads := #[{ frames := .invoking theMethod args0 :: below }]
def below0 : List Frame := [.native { method := ⟨0, 0⟩, args := #[] }]
def about1 : State := aboutOver below0
def p0 : Program := .bare "" "" ""
def e0 : Env := launch0.env 0 0 0
theorem w_frames : about1.frames = Frame.invoking theMethod args0 :: below0 := rfl
set_option maxRecDepth 65536 in
theorem w_args : argsFit about1.vm theMethod args0 = true := by decide +kernel
set_option maxRecDepth 65536 in
theorem w_heap : heapFits about1 = true := by decide +kernel
set_option maxRecDepth 65536 in
theorem w_runnable : about1.curStatus? = some .runnable := by decide +kernel
set_option maxRecDepth 65536 in
theorem w_alone : about1.alone = true := by decide +kernel
set_option maxRecDepth 65536 in
theorem w_named : about1.methodNamed? x = some theMethod := by decide +kernel
set_option maxRecDepth 65536 in
theorem w_hears : about1.hears theMethod below0 = true := by decide +kernel
set_option maxRecDepth 65536 in
theorem w_ripe : about1.ripe theMethod args0 below0 = true := by decide +kernel
theorem w_running : about1.status = .running := rfl
set_option maxRecDepth 65536 in
theorem w_room : about1.hasRoom e0.platform room_1 = true :=
  launch0.hasRoom_least _ room_1 (by decide +kernel) (by decide +kernel) (by decide +kernel) (by decide +kernel) (by decide +kernel) (by decide +kernel)
theorem allAtoms_all (ts : List Jvm.Cond) (a : Array Jvm.Value) (st : Jvm.State) : (allAtoms ts).before a st = ts.all (fun c => c.before a st) := by
  induction ts with
  | nil => rfl
  | cons c t ih =>
    show (Jvm.Cond.and c (allAtoms t)).before a st = _
    rw [Jvm.Cond.before_and, ih, List.all_cons]
def words1 : List Jvm.Cond := Jvm.Cond.code x code maxLocals ret :: tables_1
/-- a 'code' word, met by the world's own term for the bytes: nothing is compared byte by byte -/
theorem code_word {y : MethodName} {bytes : ByteArray} {mx : Nat} {rt : Option FieldType} {a : Array Value} {s : State} {m : MethodId} {meth : Method} {c : Code} (h1 : s.methodNamed? y = some m) (h2 : s.vm.method? m = some meth) (h3 : meth.code = some c) (h4 : c.code = bytes)
    (h5 : (c.maxLocals == mx && c.exceptionTable.isEmpty && decide (c.maxStack ≤ mostOperands) && decide (meth.sig.returnType = rt) && !meth.locks && decide (parseMethodDescriptor y.desc = some meth.sig)) = true) : (Jvm.Cond.code y bytes mx rt).before a s = true := by
  simp only [Bool.and_eq_true, beq_iff_eq, Bool.not_eq_true', decide_eq_true_eq] at h5
  obtain ⟨⟨⟨⟨⟨g1, g2⟩, g3⟩, g4⟩, g5⟩, g6⟩ := h5
  simp [Cond.before, Cond.holds, Cond.value, h1, h2, h3, h4, g1, g2, g3, g4, g5, g6]
def isCode : Jvm.Cond → Bool
  | .code _ _ _ _ => true
  | _ => false
theorem all_split {L : List Jvm.Cond} {P : Jvm.Cond → Bool} (h1 : L.all (fun c => isCode c || P c) = true) (h2 : ∀ c ∈ L.filter isCode, P c = true) : L.all P = true := by
  refine List.all_eq_true.mpr fun c hc => ?_
  have h := List.all_eq_true.mp h1 c hc
  rcases Bool.eq_false_or_eq_true (isCode c) with hi | hi
  · exact h2 c (List.mem_filter.mpr ⟨hc, hi⟩)
  · simpa [hi] using h
set_option maxRecDepth 65536 in
theorem w_c0 : (Jvm.Cond.code x code maxLocals ret).before args0 about1 = true := code_word (m := ⟨1, 1⟩) (meth := k1m1) (c := k1c1) (by decide +kernel) rfl rfl rfl (by decide +kernel)
set_option maxRecDepth 65536 in
theorem w_c1 : (Jvm.Cond.code ({ cls := "com/example/querent/querent/engine/ColumnTypes", name := "<init>", desc := "([Z)V" } : Jvm.MethodName) prog_20_method_2_code (3 : Nat) (Option.none : Option Jvm.ClassFile.FieldType)).before args0 about1 = true := code_word (m := ⟨2, 1⟩) (meth := k2m1) (c := k2c1) (by decide +kernel) rfl rfl rfl (by decide +kernel)
set_option maxRecDepth 65536 in
theorem w_c2 : (Jvm.Cond.code ({ cls := "com/example/querent/querent/engine/ColumnTypes", name := "<init>", desc := "(I[Z)V" } : Jvm.MethodName) prog_20_method_3_code (3 : Nat) (Option.none : Option Jvm.ClassFile.FieldType)).before args0 about1 = true := code_word (m := ⟨2, 2⟩) (meth := k2m2) (c := k2c2) (by decide +kernel) rfl rfl rfl (by decide +kernel)
set_option maxRecDepth 65536 in
theorem w_c3 : (Jvm.Cond.code ({ cls := "java/lang/Object", name := "<init>", desc := "()V" } : Jvm.MethodName) object_method_1_code (1 : Nat) (Option.none : Option Jvm.ClassFile.FieldType)).before args0 about1 = true := code_word (m := ⟨0, 0⟩) (meth := k0m0) (c := k0c0) (by decide +kernel) rfl rfl rfl (by decide +kernel)
set_option maxRecDepth 65536 in
theorem w_c4 : (Jvm.Cond.code ({ cls := "com/example/querent/querent/engine/ColumnTypes", name := "filled", desc := "(I)[Z" } : Jvm.MethodName) prog_20_method_10_code (2 : Nat) (Option.some (Jvm.ClassFile.FieldType.array Jvm.ClassFile.FieldType.boolean))).before args0 about1 = true := code_word (m := ⟨2, 6⟩) (meth := k2m6) (c := k2c6) (by decide +kernel) rfl rfl rfl (by decide +kernel)
set_option maxRecDepth 65536 in
theorem w_c5 : (Jvm.Cond.code ({ cls := "java/util/Arrays", name := "fill", desc := "([ZZ)V" } : Jvm.MethodName) jdk_65_method_111_code (4 : Nat) (Option.none : Option Jvm.ClassFile.FieldType)).before args0 about1 = true := code_word (m := ⟨4, 1⟩) (meth := k4m1) (c := k4c1) (by decide +kernel) rfl rfl rfl (by decide +kernel)
set_option maxRecDepth 65536 in
theorem w_c6 : (Jvm.Cond.code ({ cls := "com/example/querent/querent/engine/ColumnTypes", name := "addAll", desc := "(Lcom/example/querent/querent/engine/ColumnTypes;)V" } : Jvm.MethodName) prog_20_method_5_code (3 : Nat) (Option.none : Option Jvm.ClassFile.FieldType)).before args0 about1 = true := code_word (m := ⟨2, 3⟩) (meth := k2m3) (c := k2c3) (by decide +kernel) rfl rfl rfl (by decide +kernel)
set_option maxRecDepth 65536 in
theorem w_c7 : (Jvm.Cond.code ({ cls := "com/example/querent/querent/engine/ColumnTypes", name := "types", desc := "()[Lcom/example/querent/querent/engine/Type;" } : Jvm.MethodName) prog_20_method_9_code (4 : Nat) (Option.some (Jvm.ClassFile.FieldType.array (Jvm.ClassFile.FieldType.object "com/example/querent/querent/engine/Type")))).before args0 about1 = true := code_word (m := ⟨2, 5⟩) (meth := k2m5) (c := k2c5) (by decide +kernel) rfl rfl rfl (by decide +kernel)
set_option maxRecDepth 65536 in
theorem w_c8 : (Jvm.Cond.code ({ cls := "com/example/querent/querent/engine/ColumnTypesAddAllPinLaw", name := "col", desc := "(Lcom/example/querent/querent/engine/ColumnTypes;[Lcom/example/querent/querent/engine/Type;IZ)Z" } : Jvm.MethodName) method_3_code (4 : Nat) (Option.some Jvm.ClassFile.FieldType.boolean)).before args0 about1 = true := code_word (m := ⟨1, 2⟩) (meth := k1m2) (c := k1c2) (by decide +kernel) rfl rfl rfl (by decide +kernel)
set_option maxRecDepth 65536 in
theorem w_c9 : (Jvm.Cond.code ({ cls := "com/example/querent/querent/engine/ColumnTypes", name := "hasValue", desc := "(I)Z" } : Jvm.MethodName) prog_20_method_8_code (2 : Nat) (Option.some Jvm.ClassFile.FieldType.boolean)).before args0 about1 = true := code_word (m := ⟨2, 4⟩) (meth := k2m4) (c := k2c4) (by decide +kernel) rfl rfl rfl (by decide +kernel)
set_option maxRecDepth 65536 in
theorem w_c10 : (Jvm.Cond.code ({ cls := "com/example/querent/querent/engine/ColumnTypes", name := "<init>", desc := "(I)V" } : Jvm.MethodName) prog_20_method_1_code (2 : Nat) (Option.none : Option Jvm.ClassFile.FieldType)).before args0 about1 = true := code_word (m := ⟨2, 0⟩) (meth := k2m0) (c := k2c0) (by decide +kernel) rfl rfl rfl (by decide +kernel)
def codes1 : List Jvm.Cond := [Jvm.Cond.code x code maxLocals ret, Jvm.Cond.code ({ cls := "com/example/querent/querent/engine/ColumnTypes", name := "<init>", desc := "([Z)V" } : Jvm.MethodName) prog_20_method_2_code (3 : Nat) (Option.none : Option Jvm.ClassFile.FieldType), Jvm.Cond.code ({ cls := "com/example/querent/querent/engine/ColumnTypes", name := "<init>", desc := "(I[Z)V" } : Jvm.MethodName) prog_20_method_3_code (3 : Nat) (Option.none : Option Jvm.ClassFile.FieldType), Jvm.Cond.code ({ cls := "java/lang/Object", name := "<init>", desc := "()V" } : Jvm.MethodName) object_method_1_code (1 : Nat) (Option.none : Option Jvm.ClassFile.FieldType), Jvm.Cond.code ({ cls := "com/example/querent/querent/engine/ColumnTypes", name := "filled", desc := "(I)[Z" } : Jvm.MethodName) prog_20_method_10_code (2 : Nat) (Option.some (Jvm.ClassFile.FieldType.array Jvm.ClassFile.FieldType.boolean)), Jvm.Cond.code ({ cls := "java/util/Arrays", name := "fill", desc := "([ZZ)V" } : Jvm.MethodName) jdk_65_method_111_code (4 : Nat) (Option.none : Option Jvm.ClassFile.FieldType), Jvm.Cond.code ({ cls := "com/example/querent/querent/engine/ColumnTypes", name := "addAll", desc := "(Lcom/example/querent/querent/engine/ColumnTypes;)V" } : Jvm.MethodName) prog_20_method_5_code (3 : Nat) (Option.none : Option Jvm.ClassFile.FieldType), Jvm.Cond.code ({ cls := "com/example/querent/querent/engine/ColumnTypes", name := "types", desc := "()[Lcom/example/querent/querent/engine/Type;" } : Jvm.MethodName) prog_20_method_9_code (4 : Nat) (Option.some (Jvm.ClassFile.FieldType.array (Jvm.ClassFile.FieldType.object "com/example/querent/querent/engine/Type"))), Jvm.Cond.code ({ cls := "com/example/querent/querent/engine/ColumnTypesAddAllPinLaw", name := "col", desc := "(Lcom/example/querent/querent/engine/ColumnTypes;[Lcom/example/querent/querent/engine/Type;IZ)Z" } : Jvm.MethodName) method_3_code (4 : Nat) (Option.some Jvm.ClassFile.FieldType.boolean), Jvm.Cond.code ({ cls := "com/example/querent/querent/engine/ColumnTypes", name := "hasValue", desc := "(I)Z" } : Jvm.MethodName) prog_20_method_8_code (2 : Nat) (Option.some Jvm.ClassFile.FieldType.boolean), Jvm.Cond.code ({ cls := "com/example/querent/querent/engine/ColumnTypes", name := "<init>", desc := "(I)V" } : Jvm.MethodName) prog_20_method_1_code (2 : Nat) (Option.none : Option Jvm.ClassFile.FieldType)]
set_option maxRecDepth 65536 in
theorem codes_eq : words1.filter isCode = codes1 := rfl
theorem w_codes : ∀ c ∈ words1.filter isCode, c.before args0 about1 = true := by
  rw [codes_eq]
  intro c hc
  simp only [codes1, List.mem_cons, List.not_mem_nil, or_false] at hc
  rcases hc with rfl | rfl | rfl | rfl | rfl | rfl | rfl | rfl | rfl | rfl | rfl
  · exact w_c0
  · exact w_c1
  · exact w_c2
  · exact w_c3
  · exact w_c4
  · exact w_c5
  · exact w_c6
  · exact w_c7
  · exact w_c8
  · exact w_c9
  · exact w_c10
set_option maxRecDepth 65536 in
theorem w_t1 : (words1.take 24).all (fun c => isCode c || c.before args0 about1) = true := by decide +kernel
set_option maxRecDepth 65536 in
theorem w_t2 : ((words1.drop 24).take 24).all (fun c => isCode c || c.before args0 about1) = true := by decide +kernel
set_option maxRecDepth 65536 in
theorem w_t3 : ((words1.drop 24).drop 24).all (fun c => isCode c || c.before args0 about1) = true := by decide +kernel
theorem w_tables : (allAtoms (Jvm.Cond.code x code maxLocals ret :: tables_1)).before args0 about1 = true := by
  rw [allAtoms_all]
  show words1.all (fun c => c.before args0 about1) = true
  refine all_split ?_ w_codes
  rw [← List.take_append_drop 24 words1, List.all_append, w_t1, ← List.take_append_drop 24 (words1.drop 24), List.all_append, w_t2, w_t3]
  rfl
set_option maxRecDepth 65536 in
theorem w_case : (Jvm.Cond.and given_1 narrow_1).before args0 about1 = true := by decide +kernel
theorem w_applies : (headSpec (Jvm.Cond.code x code maxLocals ret :: tables_1) room_1).applies x e0.platform about1 = true :=
  (Spec.applies_iff w_frames).mpr ⟨w_running, w_runnable, w_alone, w_named, w_hears, w_ripe, w_room, w_tables⟩
theorem atStart : AtStart classFile x code maxLocals ret World_1 tables_1 room_1 Calls_1 rest_1 Pre_1 launch0 p0 e0 about1 theMethod args0 below0 :=
  ⟨lists_1, trivial, launch0.admits_env _ _ _, launch0.least_env, fairChoices_fair.cas, fairChoices_fair.clock, w_frames, w_args, w_heap, w_applies, trivial, trivial, w_case⟩
end start1
theorem witness_1 : WitnessClaimed_1 := ⟨start1.p0, start1.e0, start1.about1, start1.theMethod, start1.args0, start1.below0, start1.atStart⟩
end Jvm.Pilot.@@N@@
