import JvmDerived
import JvmDerived.Pilot.@@N@@Statement
import JvmDerived.Pilot.@@N@@Code
set_option linter.unusedVariables false
set_option linter.unusedSimpArgs false
namespace Jvm.Pilot.@@N@@
open Jvm Jvm.ClassFile Sem Op Lib Jvm.Free Jvm.Stand Jvm.LawKit Jvm.RoadKit Bundle Jvm.Pilot.@@N@@.Jvm.D
/-! own layer: a walk in continuation style. own_Ends: from T with the frame g on top the run comes to an end of which G holds. -/
def own_Fin (below : List Frame) (s : State) (k n : Nat) (Q : Option Value → Heap → List Loc → Prop) (t : State) : Prop :=
  t.status = .running ∧ ∃ o, Ended t below o ∧ ∃ v L, o = .returned v ∧ Q v t.heap L ∧ FrameEnd s o t L k n
def own_Ends (p : Program) (e : Env) (below : List Frame) (G : State → Prop) (T : State) (g : JFrame) : Prop := ∃ t, Steps p.tables e below (T.setTop g) t ∧ G t
theorem own_via {p : Program} {e : Env} {below : List Frame} {G : State → Prop} {T T' : State} {g g' : JFrame} (h : ∀ t, Steps p.tables e below (T'.setTop g') t → Steps p.tables e below (T.setTop g) t) (k : own_Ends p e below G T' g') : own_Ends p e below G T g := by
  obtain ⟨t, a, b⟩ := k; exact ⟨t, h t a, b⟩
abbrev own_Con (l : Launch) (Z : State) (y : MethodName) (code : ByteArray) (ml : Nat) (ret : Option FieldType) (ws : List Jvm.Cond) (rm : Room) (as : Array Value) (h0 : Heap) (Q : Option Value → Heap → List Loc → Prop) : Prop :=
  MetFree l y (head1 (Jvm.Cond.code y code ml ret :: ws) rm) (fun a U => a = as ∧ Z.Warmed39 U.vm ∧ U.heap = h0) (fun _ _ _ _ _ => True) (fun _ U o U' => ∃ v L, o = .returned v ∧ Q v U'.heap L ∧ FrameEnd U o U' L rm.cells rm.slots)
theorem own_body {l : Launch} {Z : State} {y : MethodName} {code : ByteArray} {ml : Nat} {ret : Option FieldType} {ws : List Jvm.Cond} {rm : Room} {as : Array Value} {h0 : Heap} {Q : Option Value → Heap → List Loc → Prop} (hpl : plainFor y = true)
    (H : ∀ (p : Program) (e : Env) (s : State) (m : MethodId) (below : List Frame) (meth : Method) (c : Code) (T : State), p.tables.exec = Jvm.exec → c.code = code → c.maxLocals = ml → s.vm.findClass y.cls = some m.cls → meth.name = y.name → meth.sig.returnType = ret → meth.locks = false → Z.Warmed39 s.vm → Stand p l e rm s m as below meth c T [] 0 0 → T.heap = h0 → own_Ends p e below (own_Fin below s rm.cells rm.slots Q) T (entryFrame m as ml)) : own_Con l Z y code ml ret ws rm as h0 Q := by
  refine MetFree.of_bodySF hpl hisR ?_
  intro p e s m args below meth c s₁ Bd hml0 hP hK
  obtain ⟨rfl, hZ, hh⟩ := hP
  obtain ⟨t, h1, h2, o, h3, h4⟩ := H p e s m below meth c s₁ Bd.exec Bd.bytes hml0 (findClass_of_methodNamed Bd.named) (name_of_methodNamed Bd.named Bd.method).1 Bd.returns Bd.notSynchronized hZ (Stand.of_body Bd) (by rw [← hh, Bd.state]; rfl)
  exact ⟨t, o, h1, h2, h3, h4⟩
section OwnStand
variable {p : Program} {l : Launch} {e : Env} {R : Room} {s : State} {m : MethodId} {args : Array Value} {below : List Frame} {meth : Method} {c : Code} {T : State} {locs : List Loc} {cells slots : Nat} {Z : State} {a0 : Array Value} {h : Heap}
theorem own_leaf (X : Stand p l e R s m args below meth c T locs cells slots) (hlk : meth.locks = false) {v : Option Value} (hv : meth.sig.returnType = none → v = none) {g : JFrame} {k n : Nat} {Q : Option Value → Heap → List Loc → Prop}
    (hst : ∀ fs, (∀ (f : JFrame) (acts : List Action), f.method = m → f.locked = none → f.entered = [] → (doReturn e (T.setTop f) acts v).1 = T.setFrames fs) → Steps p.tables e below (T.setTop g) (T.setFrames fs))
    (hQ : Q v T.heap locs) (hk : cells ≤ k) (hn : slots ≤ n) : own_Ends p e below (own_Fin below s k n Q) T g := by
  obtain ⟨fs, hr, hrun, hended, hW, hsame⟩ := X.leave (v := v) hv hlk
  exact ⟨_, hst fs hr, hrun, _, hended, _, _, rfl, hQ, ⟨_, rfl⟩, hW, hsame.mono hk hn⟩
theorem own_retZ (X : Stand p l e R s m args below meth c T locs cells slots) (hx : p.tables.exec = Jvm.exec) (hret : meth.sig.returnType = some .boolean) (hlk : meth.locks = false) {pc : Nat} {Ls : Array Slot} {z : Int32} {rest : List Value} (hd : decode c.code pc = .ok (.ireturn, 1)) (hz : nar .boolean z = z) {k n : Nat} {Q : Option Value → Heap → List Loc → Prop}
    (hQ : Q (some (.int z)) T.heap locs) (hk : cells ≤ k) (hn : slots ≤ n) : own_Ends p e below (own_Fin below s k n Q) T (mkF m pc Ls (.int z :: rest)) :=
  own_leaf X hlk (fun h => by rw [hret] at h; cases h) (fun fs hl => retN X hx hret (by simp) hd (by rw [hz]; exact hl)) hQ hk hn
theorem own_retI (X : Stand p l e R s m args below meth c T locs cells slots) (hx : p.tables.exec = Jvm.exec) (hret : meth.sig.returnType = some .int) (hlk : meth.locks = false) {pc : Nat} {Ls : Array Slot} {z : Int32} {rest : List Value} (hd : decode c.code pc = .ok (.ireturn, 1)) {k n : Nat} {Q : Option Value → Heap → List Loc → Prop}
    (hQ : Q (some (.int z)) T.heap locs) (hk : cells ≤ k) (hn : slots ≤ n) : own_Ends p e below (own_Fin below s k n Q) T (mkF m pc Ls (.int z :: rest)) :=
  own_leaf X hlk (fun h => by rw [hret] at h; cases h) (fun fs hl => retOut X hx hret rfl (Or.inl ⟨rfl, Or.inl rfl, z, rfl⟩) hd hl) hQ hk hn
theorem own_retJ (X : Stand p l e R s m args below meth c T locs cells slots) (hx : p.tables.exec = Jvm.exec) (hret : meth.sig.returnType = some .long) (hlk : meth.locks = false) {pc : Nat} {Ls : Array Slot} {z : Int64} {rest : List Value} (hd : decode c.code pc = .ok (.lreturn, 1)) {k n : Nat} {Q : Option Value → Heap → List Loc → Prop}
    (hQ : Q (some (.long z)) T.heap locs) (hk : cells ≤ k) (hn : slots ≤ n) : own_Ends p e below (own_Fin below s k n Q) T (mkF m pc Ls (.long z :: rest)) :=
  own_leaf X hlk (fun h => by rw [hret] at h; cases h) (fun fs hl => retOut X hx hret rfl (Or.inr (Or.inl ⟨rfl, rfl, z, rfl⟩)) hd hl) hQ hk hn
theorem own_retA (X : Stand p l e R s m args below meth c T locs cells slots) (hx : p.tables.exec = Jvm.exec) {t : FieldType} (hret : meth.sig.returnType = some t) (ht : t.isReference = true) (hlk : meth.locks = false) {pc : Nat} {Ls : Array Slot} {z : Value} (hz : z.isRef = true) (hn' : narrow t z = z) {rest : List Value} (hd : decode c.code pc = .ok (.areturn, 1)) {k n : Nat} {Q : Option Value → Heap → List Loc → Prop}
    (hQ : Q (some z) T.heap locs) (hk : cells ≤ k) (hn : slots ≤ n) : own_Ends p e below (own_Fin below s k n Q) T (mkF m pc Ls (z :: rest)) :=
  own_leaf X hlk (fun h => by rw [hret] at h; cases h) (fun fs hl => retOut X hx hret hn' (Or.inr (Or.inr (Or.inr (Or.inr ⟨rfl, ht, hz⟩)))) hd hl) hQ hk hn
theorem own_retV (X : Stand p l e R s m args below meth c T locs cells slots) (hx : p.tables.exec = Jvm.exec) (hret : meth.sig.returnType = none) (hlk : meth.locks = false) {pc : Nat} {Ls : Array Slot} (hd : decode c.code pc = .ok (.return_, 1)) {k n : Nat} {Q : Option Value → Heap → List Loc → Prop}
    (hQ : Q none T.heap locs) (hk : cells ≤ k) (hn : slots ≤ n) : own_Ends p e below (own_Fin below s k n Q) T (mkF m pc Ls []) :=
  own_leaf X hlk (fun _ => rfl) (fun fs hl => X.returnOut hx hret hd hl) hQ hk hn
theorem own_callS (X : Stand p l e R s m args below meth c T locs cells slots) (hx : p.tables.exec = Jvm.exec) (hZ : Z.Warmed39 s.vm) {own : String} {index : Nat} {y : MethodName} {bytes : ByteArray} {ml : Nat} {ret : Option FieldType} {rm : Room} {Q : Option Value → Heap → List Loc → Prop} {W : Nat} (hown : s.vm.findClass own = some m.cls)
    (w1 : (Jvm.Cond.methodLink own index y).before a0 Z = true) (w2 : (Jvm.Cond.static y).before a0 Z = true) (w3 : (Jvm.Cond.initialized y.cls).before a0 Z = true) (w4 : (Jvm.Cond.code y bytes ml ret).before a0 Z = true) (hy : y.cls ≠ "java/lang/invoke/MethodHandle" ∧ y.cls ≠ "java/lang/invoke/VarHandle") {argsL rest : List Value}
    (hM : own_Con l Z y bytes ml ret [] rm argsL.toArray h Q) (hf : rm.frames + 1 ≤ R.frames) (hl : W + (ml + 11) + rm.locals ≤ R.locals) (hc : cells + rm.cells ≤ R.cells) (hn : slots + rm.slots ≤ R.slots) (eT : T.heap = h)
    {g : JFrame} (hg : g.method = m) (hsize : g.locals.size = c.maxLocals) (hlen : ∀ sig, parseMethodDescriptor y.desc = some sig → argsL.length = sig.parameters.length) (hstack : g.stack = argsL.reverse ++ rest) (hW : 2 * g.monitorRoom + (rest.map fun v => v.category).sum ≤ W) (hd : decode c.code g.pc = .ok (.invokestatic index, 3)) :
    ∃ v T' L, Stand p l e R s m args below meth c T' (locs ++ L) (cells + rm.cells) (slots + rm.slots) ∧ Q v T'.heap L ∧ ∀ t, Steps p.tables e below (T'.setTop { g with pc := g.pc + 3, stack := v.toList ++ rest }) t → Steps p.tables e below (T.setTop g) t := by
  obtain ⟨v, vm₁, ⟨T', L', k', n'⟩, -, X', ⟨L, hQ, e1, e2, e3⟩, st⟩ := Jvm.LawKit.callS X hx (y := y) hown (mvT hZ w1) (mvT hZ w2) (mvT hZ w3) (mvT hZ w4) hy (backOf (W := W) hM hZ w4 w3 hf hl) hg hsize (argsL := argsL) (rest := rest) hlen hstack hW hd (fun _ _ => ⟨rfl, eT, hc, hn⟩)
  dsimp only [Pt.U, Pt.locs, Pt.cells, Pt.slots] at X' e1 e2 e3 st hQ
  subst e1 e2 e3
  exact ⟨v, T', L, X', hQ, st⟩
theorem own_callV (X : Stand p l e R s m args below meth c T locs cells slots) (hx : p.tables.exec = Jvm.exec) (hZ : Z.Warmed39 s.vm) {own C : String} {index : Nat} {y z : MethodName} {bytes : ByteArray} {ml : Nat} {ret : Option FieldType} {rm : Room} {Q : Option Value → Heap → List Loc → Prop} {W : Nat} (hown : s.vm.findClass own = some m.cls)
    (w1 : (Jvm.Cond.methodLink own index y).before a0 Z = true) (w2 : (Jvm.Cond.declares y).before a0 Z = true) (nf : NotFace s y) (w3 : (Jvm.Cond.selects C y z).before a0 Z = true) (w4 : (Jvm.Cond.instanceMethod z).before a0 Z = true) (wz : (Jvm.Cond.initialized z.cls).before a0 Z = true) (wc : (Jvm.Cond.code z bytes ml ret).before a0 Z = true) (hy : y.cls ≠ "java/lang/invoke/MethodHandle" ∧ y.cls ≠ "java/lang/invoke/VarHandle") {b : Addr} {argsL rest : List Value}
    (hM : own_Con l Z z bytes ml ret [] rm (.ref b :: argsL).toArray h Q) (hf : rm.frames + 1 ≤ R.frames) (hl : W + (ml + 11) + rm.locals ≤ R.locals) (hc : cells + rm.cells ≤ R.cells) (hn : slots + rm.slots ≤ R.slots) (eT : T.heap = h) (E : Exa Z h b C)
    {g : JFrame} (hg : g.method = m) (hsize : g.locals.size = c.maxLocals) (hlen : ∀ sig, parseMethodDescriptor y.desc = some sig → argsL.length = sig.parameters.length) (hstack : g.stack = argsL.reverse ++ .ref b :: rest) (hW : 2 * g.monitorRoom + (rest.map fun v => v.category).sum ≤ W) (hd : decode c.code g.pc = .ok (.invokevirtual index, 3)) :
    ∃ v T' L, Stand p l e R s m args below meth c T' (locs ++ L) (cells + rm.cells) (slots + rm.slots) ∧ Q v T'.heap L ∧ ∀ t, Steps p.tables e below (T'.setTop { g with pc := g.pc + 3, stack := v.toList ++ rest }) t → Steps p.tables e below (T.setTop g) t := by
  obtain ⟨cq, kq, q1, q2, q3⟩ := isOf hZ eT E
  obtain ⟨v, vm₁, ⟨T', L', k', n'⟩, -, X', ⟨L, hQ, e1, e2, e3⟩, st⟩ := X.virtualBack hx (y := y) (z := z) hown (mvT hZ w1) (mvT hZ w2) nf (mvT hZ w3) (mvT hZ w4) hy (backOf (W := W) hM hZ wc wz hf hl) q1 q3 hg hsize (Steps.refl _) (argsL := argsL) (rest := rest) hlen hstack hW hd (fun _ _ => ⟨rfl, eT, hc, hn⟩)
  dsimp only [Pt.U, Pt.locs, Pt.cells, Pt.slots] at X' e1 e2 e3 st hQ
  subst e1 e2 e3
  exact ⟨v, T', L, X', hQ, fun t k => st.trans k⟩
theorem own_callI (X : Stand p l e R s m args below meth c T locs cells slots) (hx : p.tables.exec = Jvm.exec) (hZ : Z.Warmed39 s.vm) {own : String} {index : Nat} {y : MethodName} (hy1 : y.name = "<init>") {bytes : ByteArray} {ml : Nat} {rm : Room} {Q : Option Value → Heap → List Loc → Prop} {W : Nat} (hown : s.vm.findClass own = some m.cls)
    (w1 : (Jvm.Cond.methodLink own index y).before a0 Z = true) (w2 : (Jvm.Cond.instanceMethod y).before a0 Z = true) (wz : (Jvm.Cond.initialized y.cls).before a0 Z = true) (wc : (Jvm.Cond.code y bytes ml none).before a0 Z = true) (hy : y.cls ≠ "java/lang/invoke/MethodHandle" ∧ y.cls ≠ "java/lang/invoke/VarHandle") {b : Addr} {argsL rest : List Value}
    (hM : own_Con l Z y bytes ml none [] rm (.ref b :: argsL).toArray h Q) (hf : rm.frames + 1 ≤ R.frames) (hl : W + (ml + 11) + rm.locals ≤ R.locals) (hc : cells + rm.cells ≤ R.cells) (hn : slots + rm.slots ≤ R.slots) (eT : T.heap = h)
    {g : JFrame} (hg : g.method = m) (hsize : g.locals.size = c.maxLocals) (hlen : ∀ sig, parseMethodDescriptor y.desc = some sig → argsL.length = sig.parameters.length) (hstack : g.stack = argsL.reverse ++ .ref b :: rest) (hW : 2 * g.monitorRoom + (rest.map fun v => v.category).sum ≤ W) (hd : decode c.code g.pc = .ok (.invokespecial index, 3)) :
    ∃ v T' L, Stand p l e R s m args below meth c T' (locs ++ L) (cells + rm.cells) (slots + rm.slots) ∧ Q v T'.heap L ∧ ∀ t, Steps p.tables e below (T'.setTop { g with pc := g.pc + 3, stack := v.toList ++ rest }) t → Steps p.tables e below (T.setTop g) t := by
  obtain ⟨v, vm₁, ⟨T', L', k', n'⟩, -, X', ⟨L, hQ, e1, e2, e3⟩, st⟩ := X.specialBack hx (y := y) hy1 hown (mvT hZ w1) (mvT hZ w2) (mvT hZ wc) hy (backOf (W := W) hM hZ wc wz hf hl) hg hsize (Steps.refl _) (a := b) (argsL := argsL) (rest := rest) hlen hstack hW hd (fun _ _ => ⟨rfl, eT, hc, hn⟩)
  dsimp only [Pt.U, Pt.locs, Pt.cells, Pt.slots] at X' e1 e2 e3 st hQ
  subst e1 e2 e3
  exact ⟨v, T', L, X', hQ, fun t k => st.trans k⟩
theorem own_callU (X : Stand p l e R s m args below meth c T locs cells slots) (hx : p.tables.exec = Jvm.exec) (hZ : Z.Warmed39 s.vm) {own C owner : String} {index : Nat} {y z : MethodName} {bytes : ByteArray} {ml : Nat} {ret : Option FieldType} {rm : Room} {Q : Option Value → Heap → List Loc → Prop} {W : Nat} (hown : s.vm.findClass own = some m.cls)
    (w1 : (Jvm.Cond.methodLink own index y).before a0 Z = true) (w2 : (Jvm.Cond.sameMethod y.cls owner y.name y.desc).before a0 Z = true) (w2' : (Jvm.Cond.declares ⟨owner, y.name, y.desc⟩).before a0 Z = true) (w3 : (Jvm.Cond.selects C y z).before a0 Z = true) (w4 : (Jvm.Cond.instanceMethod z).before a0 Z = true) (wz : (Jvm.Cond.initialized z.cls).before a0 Z = true) (wc : (Jvm.Cond.code z bytes ml ret).before a0 Z = true) (hy : owner ≠ "java/lang/invoke/MethodHandle" ∧ owner ≠ "java/lang/invoke/VarHandle") {b : Addr} {argsL rest : List Value}
    (hM : own_Con l Z z bytes ml ret [] rm (.ref b :: argsL).toArray h Q) (hf : rm.frames + 1 ≤ R.frames) (hl : W + (ml + 11) + rm.locals ≤ R.locals) (hc : cells + rm.cells ≤ R.cells) (hn : slots + rm.slots ≤ R.slots) (eT : T.heap = h) (E : Exa Z h b C)
    {g : JFrame} (hg : g.method = m) (hsize : g.locals.size = c.maxLocals) (hlen : ∀ sig, parseMethodDescriptor y.desc = some sig → argsL.length = sig.parameters.length) (hstack : g.stack = argsL.reverse ++ .ref b :: rest) (hW : 2 * g.monitorRoom + (rest.map fun v => v.category).sum ≤ W) (hd : decode c.code g.pc = .ok (.invokevirtual index, 3)) :
    ∃ v T' L, Stand p l e R s m args below meth c T' (locs ++ L) (cells + rm.cells) (slots + rm.slots) ∧ Q v T'.heap L ∧ ∀ t, Steps p.tables e below (T'.setTop { g with pc := g.pc + 3, stack := v.toList ++ rest }) t → Steps p.tables e below (T.setTop g) t := by
  obtain ⟨cq, kq, q1, q2, q3⟩ := isOf hZ eT E
  obtain ⟨v, vm₁, ⟨T', L', k', n'⟩, -, X', ⟨L, hQ, e1, e2, e3⟩, st⟩ := X.virtualBackUp hx (x := y) (y := z) hown (mvT hZ w1) (mvT hZ w2) (mvT hZ w2') hy (mvT hZ w3) (mvT hZ w4) (backOf (W := W) hM hZ wc wz hf hl) q1 q3 hg hsize (Steps.refl _) (argsL := argsL) (rest := rest) hlen hstack hW hd (fun _ _ => ⟨rfl, eT, hc, hn⟩)
  dsimp only [Pt.U, Pt.locs, Pt.cells, Pt.slots] at X' e1 e2 e3 st hQ
  subst e1 e2 e3
  exact ⟨v, T', L, X', hQ, fun t k => st.trans k⟩
/-- a callee that writes nothing and makes nothing: it returns r -/
abbrev own_Pure (l : Launch) (Z : State) (y : MethodName) (code : ByteArray) (ml : Nat) (ret : Option FieldType) (ws : List Jvm.Cond) (rm : Room) (as : Array Value) (h0 : Heap) (r : Option Value) : Prop := own_Con l Z y code ml ret ws rm as h0 (fun v h L => v = r ∧ L = [] ∧ h = h0)
theorem own_pure {c0 : Code} {T' : State} {v r : Option Value} {L : List Loc} {kc ks : Nat} (X : Stand p l e R s m args below meth c0 T' (locs ++ L) (cells + kc) (slots + ks)) (h1 : kc = 0) (h2 : ks = 0) (hL : L = []) : Stand p l e R s m args below meth c0 T' locs cells slots := by
  subst h1 h2 hL; rw [List.append_nil] at X; exact X
end OwnStand
theorem own_stat {s : State} {args : Array Value} {C C' f d : String} (hx : (Jvm.Cond.exactly (.static C f d) C').value args s none s [] = some true) (wi : (Jvm.Cond.initialized C).before args s = true) (wl : (Jvm.Cond.laysStatic C f d).before args s = true) :
    ∃ x, (Term.static C f d).eval args s none [] s = some (.ref x) ∧ Sta s s.heap C f d (.ref x) ∧ Exa s s.heap x C' := by
  obtain ⟨x, ev⟩ := exa_v hx
  exact ⟨x, ev, Sta.start ev (Or.inr ⟨wi, wl⟩), Exa.start ev hx⟩
theorem own_ord {s : State} {args : Array Value} {t : Term} {x : Addr} {C n d : String} {k : Int32} (ev : t.eval args s none [] s = some (.ref x)) (hk : (Jvm.Cond.eq (.field t C n d) (.int k)).value args s none s [] = some true) : Fld s s.heap x C n d (.int k) := by
  refine Fld.start ((fld_at ev).symm.trans ?_)
  obtain ⟨u, v, h1, h2, -, h4⟩ := cmp_v (Or.inl hk)
  obtain rfl : v = .int k := (Option.some.inj ((Term.int_eval k).symm.trans h2)).symm
  obtain ⟨z, rfl⟩ := h4
  simp [Cond.value, h1, h2] at hk
  subst hk
  exact h1
theorem own_ne {x y : Nat} (h : x < y ∨ y < x) : x ≠ y := by omega
theorem own_nat {y : Int32} {c : Nat} (h0 : 0 ≤ y.toInt) (h1 : y.toInt < c) : ∃ n : Nat, n < c ∧ y = Int32.ofNat n := by
  have := y.toInt_lt
  exact ⟨y.toInt.toNat, by omega, Int32.toInt_inj.mp (by rw [toInt_of (c := y.toInt.toNat) rfl (by omega)]; omega)⟩
theorem own_ofNat {n : Nat} (h : n < 2 ^ 31) : (Int32.ofNat n).toInt = n := toInt_of rfl h
/-! own layer: arrays by their length and a function of the place -/
def own_Ar (Z : State) (h : Heap) (a : Addr) (ty : FieldType) (n : Nat) (f : Nat → Value) : Prop := ∃ c : Cell, Arr Z h a c ty ∧ c.slots.size = n ∧ n < 2 ^ 31 ∧ ∀ i, i < n → c.slots[i]? = some (f i)
def own_up (f : Nat → Value) (i : Nat) (v : Value) : Nat → Value := fun k => if k = i then v else f k
section OwnArr
variable {p : Program} {l : Launch} {e : Env} {R : Room} {s : State} {m : MethodId} {args : Array Value} {below : List Frame} {meth : Method} {c : Code} {T : State} {locs : List Loc} {cells slots : Nat} {Z : State} {a0 : Array Value} {h h' : Heap} {a b : Addr} {ty : FieldType} {n i : Nat} {f f' : Nat → Value} {v : Value} {sl : Nat} {ws : List Addr} {j : Int32}
theorem own_Ar.lt (A : own_Ar Z h a ty n f) : a < h.size := by obtain ⟨c, A, -⟩ := A; exact A.lt
theorem own_Ar.ext (A : own_Ar Z h a ty n f) (E : Ext h h') : own_Ar Z h' a ty n f := by obtain ⟨c, A, r⟩ := A; exact ⟨c, A.ext E, r⟩
theorem own_Ar.other (A : own_Ar Z h b ty n f) (W : Wr h h' a sl v) (q : b ≠ a) : own_Ar Z h' b ty n f := by obtain ⟨c, A, r⟩ := A; exact ⟨c, A.other W q, r⟩
theorem own_Ar.keep (A : own_Ar Z h a ty n f) (K : Keep h h' ws) (q : a ∉ ws) : own_Ar Z h' a ty n f := by obtain ⟨c, A, r⟩ := A; exact ⟨c, ⟨K.2.1 a c A.1 q, A.2⟩, r⟩
theorem own_Ar.congr (A : own_Ar Z h a ty n f) (q : ∀ i, i < n → f i = f' i) : own_Ar Z h a ty n f' := by obtain ⟨c, A, r1, r2, r3⟩ := A; exact ⟨c, A, r1, r2, fun i hi => by rw [← q i hi]; exact r3 i hi⟩
theorem own_Ar.set (A : own_Ar Z h a ty n f) (W : Wr h h' a i v) : own_Ar Z h' a ty n (own_up f i v) := by
  obtain ⟨c, A, r1, r2, r3⟩ := A
  refine ⟨_, A.same W, by rw [sz_set]; exact r1, r2, fun k hk => ?_⟩
  by_cases q : k = i
  · subst q; simp [Cell.setSlot, own_up, r1, hk]
  · rw [show (c.setSlot i v).slots[k]? = c.slots[k]? from Array.getElem?_setIfInBounds_ne (Ne.symm q), r3 k hk]; simp [own_up, q]
theorem own_Ar.read (A : own_Ar Z h a ty n f) (hj : j = Int32.ofNat i) (hi : i < n) : ∃ c : Cell, Arr Z h a c ty ∧ ¬ (j < 0 ∨ c.slots.size ≤ j.toNatClampNeg) ∧ c.slots[j.toNatClampNeg]? = some (f i) ∧ j.toNatClampNeg = i := by
  obtain ⟨c, A, r1, r2, r3⟩ := A
  have q : j.toNatClampNeg = i := clamp_of hj (by omega)
  refine ⟨c, A, ?_, by rw [q]; exact r3 i hi, q⟩
  rw [r1]; exact within hj hi r2
theorem own_iaload (X : Stand p l e R s m args below meth c T locs cells slots) (hx : p.tables.exec = Jvm.exec) (hZ : Z.Warmed39 s.vm) (eT : T.heap = h) (A : own_Ar Z h a .int n f) (hj : j = Int32.ofNat i) (hi : i < n) {g : JFrame} (hg : g.method = m) {rest : List Value} (hs : g.stack = .int j :: .ref a :: rest) (hd : decode c.code g.pc = .ok (.iaload, 1)) :
    ∀ t, Steps p.tables e below (T.setTop { g with pc := g.pc + 1, stack := f i :: rest }) t → Steps p.tables e below (T.setTop g) t := fun t k => by
  obtain ⟨cl, A, hin, hat, -⟩ := A.read hj hi
  exact X.iaload hx (by rw [eT]; exact A.1) (State.isArrayOf_alike hZ.alike A.2.1) A.2.2 hin hat hg hs hd t k
theorem own_laload (X : Stand p l e R s m args below meth c T locs cells slots) (hx : p.tables.exec = Jvm.exec) (hZ : Z.Warmed39 s.vm) (eT : T.heap = h) (A : own_Ar Z h a .long n f) (hj : j = Int32.ofNat i) (hi : i < n) {g : JFrame} (hg : g.method = m) {rest : List Value} (hs : g.stack = .int j :: .ref a :: rest) (hd : decode c.code g.pc = .ok (.laload, 1)) :
    ∀ t, Steps p.tables e below (T.setTop { g with pc := g.pc + 1, stack := f i :: rest }) t → Steps p.tables e below (T.setTop g) t := fun t k => by
  obtain ⟨cl, A, hin, hat, -⟩ := A.read hj hi
  exact X.laload hx (by rw [eT]; exact A.1) (State.isArrayOf_alike hZ.alike A.2.1) A.2.2 hin hat hg hs hd t k
theorem own_baloadB (X : Stand p l e R s m args below meth c T locs cells slots) (hx : p.tables.exec = Jvm.exec) (hZ : Z.Warmed39 s.vm) (eT : T.heap = h) (A : own_Ar Z h a .byte n f) (hj : j = Int32.ofNat i) (hi : i < n) {g : JFrame} (hg : g.method = m) {rest : List Value} (hs : g.stack = .int j :: .ref a :: rest) (hd : decode c.code g.pc = .ok (.baload, 1)) :
    ∀ t, Steps p.tables e below (T.setTop { g with pc := g.pc + 1, stack := f i :: rest }) t → Steps p.tables e below (T.setTop g) t := fun t k => by
  obtain ⟨cl, A, hin, hat, -⟩ := A.read hj hi
  exact X.baloadBytes hx (by rw [eT]; exact A.1) (State.isArrayOf_alike hZ.alike A.2.1) A.2.2 hin hat hg hs hd t k
theorem own_baloadZ (X : Stand p l e R s m args below meth c T locs cells slots) (hx : p.tables.exec = Jvm.exec) (hZ : Z.Warmed39 s.vm) (eT : T.heap = h) (A : own_Ar Z h a .boolean n f) (hj : j = Int32.ofNat i) (hi : i < n) {g : JFrame} (hg : g.method = m) {rest : List Value} (hs : g.stack = .int j :: .ref a :: rest) (hd : decode c.code g.pc = .ok (.baload, 1)) :
    ∀ t, Steps p.tables e below (T.setTop { g with pc := g.pc + 1, stack := f i :: rest }) t → Steps p.tables e below (T.setTop g) t := fun t k => by
  obtain ⟨cl, A, hin, hat, -⟩ := A.read hj hi
  exact X.baloadBooleans hx (by rw [eT]; exact A.1) (State.isArrayOf_alike hZ.alike A.2.1) A.2.2 hin hat hg hs hd t k
theorem own_aaload (X : Stand p l e R s m args below meth c T locs cells slots) (hx : p.tables.exec = Jvm.exec) (hZ : Z.Warmed39 s.vm) (eT : T.heap = h) (A : own_Ar Z h a ty n f) (hty : ty.isReference = true) (hj : j = Int32.ofNat i) (hi : i < n) {g : JFrame} (hg : g.method = m) {rest : List Value} (hs : g.stack = .int j :: .ref a :: rest) (hd : decode c.code g.pc = .ok (.aaload, 1)) :
    ∀ t, Steps p.tables e below (T.setTop { g with pc := g.pc + 1, stack := f i :: rest }) t → Steps p.tables e below (T.setTop g) t := fun t k => by
  obtain ⟨cl, A, hin, hat, -⟩ := A.read hj hi
  exact X.aaload hx (by rw [eT]; exact A.1) (State.isArrayOf_alike hZ.alike A.2.1) hty A.2.2 hin hat hg hs hd t k
theorem own_alen (X : Stand p l e R s m args below meth c T locs cells slots) (hx : p.tables.exec = Jvm.exec) (hZ : Z.Warmed39 s.vm) (eT : T.heap = h) (A : own_Ar Z h a ty n f) {g : JFrame} (hg : g.method = m) {rest : List Value} (hs : g.stack = .ref a :: rest) (hd : decode c.code g.pc = .ok (.arraylength, 1)) :
    ∀ t, Steps p.tables e below (T.setTop { g with pc := g.pc + 1, stack := .int (Int32.ofNat n) :: rest }) t → Steps p.tables e below (T.setTop g) t := fun t k => by
  obtain ⟨cl, A, r1, -, -⟩ := A
  subst r1
  exact X.arraylength hx (by rw [eT]; exact A.1) (State.isArrayOf_alike hZ.alike A.2.1) hg hs hd t k
theorem own_iastore (X : Stand p l e R s m args below meth c T locs cells slots) (hx : p.tables.exec = Jvm.exec) (hZ : Z.Warmed39 s.vm) (eT : T.heap = h) (A : own_Ar Z h a .int n f) (hj : j = Int32.ofNat i) (hi : i < n) {x : Int32} {g : JFrame} (hg : g.method = m) {rest : List Value} (hs : g.stack = .int x :: .int j :: .ref a :: rest) (hd : decode c.code g.pc = .ok (.iastore, 1)) :
    ∃ T' h', Stand p l e R s m args below meth c T' (locs ++ [⟨a, i⟩]) cells slots ∧ T'.heap = h' ∧ Wr h h' a i (.int x) ∧ own_Ar Z h' a .int n (own_up f i (.int x)) ∧ ∀ t, Steps p.tables e below (T'.setTop { g with pc := g.pc + 1, stack := rest }) t → Steps p.tables e below (T.setTop g) t := by
  obtain ⟨cl, A', hin, -, q⟩ := A.read hj hi
  obtain ⟨T', h', X', e', W, st⟩ := stI X hx hZ eT A' hin hg hs hd
  rw [q] at X' W
  exact ⟨T', h', X', e', W, A.set W, st⟩
theorem own_lastore (X : Stand p l e R s m args below meth c T locs cells slots) (hx : p.tables.exec = Jvm.exec) (hZ : Z.Warmed39 s.vm) (eT : T.heap = h) (A : own_Ar Z h a .long n f) (hj : j = Int32.ofNat i) (hi : i < n) {x : Int64} {g : JFrame} (hg : g.method = m) {rest : List Value} (hs : g.stack = .long x :: .int j :: .ref a :: rest) (hd : decode c.code g.pc = .ok (.lastore, 1)) :
    ∃ T' h', Stand p l e R s m args below meth c T' (locs ++ [⟨a, i⟩]) cells slots ∧ T'.heap = h' ∧ Wr h h' a i (.long x) ∧ own_Ar Z h' a .long n (own_up f i (.long x)) ∧ ∀ t, Steps p.tables e below (T'.setTop { g with pc := g.pc + 1, stack := rest }) t → Steps p.tables e below (T.setTop g) t := by
  obtain ⟨cl, A', hin, -, q⟩ := A.read hj hi
  obtain ⟨T', h', X', e', W, st⟩ := stJ X hx hZ eT A' hin hg hs hd
  rw [q] at X' W
  exact ⟨T', h', X', e', W, A.set W, st⟩
theorem own_bastoreB (X : Stand p l e R s m args below meth c T locs cells slots) (hx : p.tables.exec = Jvm.exec) (hZ : Z.Warmed39 s.vm) (eT : T.heap = h) (A : own_Ar Z h a .byte n f) (hj : j = Int32.ofNat i) (hi : i < n) {x r : Int32} (hr : nar .byte x = r) {g : JFrame} (hg : g.method = m) {rest : List Value} (hs : g.stack = .int x :: .int j :: .ref a :: rest) (hd : decode c.code g.pc = .ok (.bastore, 1)) :
    ∃ T' h', Stand p l e R s m args below meth c T' (locs ++ [⟨a, i⟩]) cells slots ∧ T'.heap = h' ∧ Wr h h' a i (.int r) ∧ own_Ar Z h' a .byte n (own_up f i (.int r)) ∧ ∀ t, Steps p.tables e below (T'.setTop { g with pc := g.pc + 1, stack := rest }) t → Steps p.tables e below (T.setTop g) t := by
  obtain ⟨cl, A', hin, -, q⟩ := A.read hj hi
  obtain ⟨T', h', X', e', W, st⟩ := stB X hx hZ eT A' hin hg hs hd
  rw [q] at X' W; rw [hr] at W
  exact ⟨T', h', X', e', W, A.set W, st⟩
theorem own_bastoreZ (X : Stand p l e R s m args below meth c T locs cells slots) (hx : p.tables.exec = Jvm.exec) (hZ : Z.Warmed39 s.vm) (eT : T.heap = h) (A : own_Ar Z h a .boolean n f) (hj : j = Int32.ofNat i) (hi : i < n) {x r : Int32} (hr : nar .boolean x = r) {g : JFrame} (hg : g.method = m) {rest : List Value} (hs : g.stack = .int x :: .int j :: .ref a :: rest) (hd : decode c.code g.pc = .ok (.bastore, 1)) :
    ∃ T' h', Stand p l e R s m args below meth c T' (locs ++ [⟨a, i⟩]) cells slots ∧ T'.heap = h' ∧ Wr h h' a i (.int r) ∧ own_Ar Z h' a .boolean n (own_up f i (.int r)) ∧ ∀ t, Steps p.tables e below (T'.setTop { g with pc := g.pc + 1, stack := rest }) t → Steps p.tables e below (T.setTop g) t := by
  obtain ⟨cl, A', hin, -, q⟩ := A.read hj hi
  obtain ⟨T', h', X', e', W, st⟩ := stZ X hx hZ eT A' hin hg hs hd
  rw [q] at X' W; rw [hr] at W
  exact ⟨T', h', X', e', W, A.set W, st⟩
/-- a fresh array of n places -/
theorem own_newarr (X : Stand p l e R s m args below meth c T locs cells slots) (hx : p.tables.exec = Jvm.exec) (hZ : Z.Warmed39 s.vm) {aty : ArrayType} (w : (Jvm.Cond.arrayClass (newarray.typeOf aty)).before a0 Z = true) (eT : T.heap = h) {g : JFrame} (hg : g.method = m) (hd : decode c.code g.pc = .ok (.newarray aty, 2)) (hj : j = Int32.ofNat n) (hn : n * 8 ≤ 536870912) {rest : List Value} (hs : g.stack = .int j :: rest) (hc : cells + 1 ≤ R.cells) (hl : slots + n ≤ R.slots) :
    ∃ T' h' b, b = h.size ∧ Stand p l e R s m args below meth c T' locs (cells + 1) (slots + n) ∧ T'.heap = h' ∧ Ext h h' ∧ own_Ar Z h' b (newarray.typeOf aty) n (fun _ => defaultValue (newarray.typeOf aty)) ∧ ∀ t, Steps p.tables e below (T'.setTop { g with pc := g.pc + 2, stack := .ref b :: rest }) t → Steps p.tables e below (T.setTop g) t := by
  have q : j.toNatClampNeg = n := clamp_of hj (by omega)
  have q0 : ¬ j < 0 := by rw [Int32.lt_iff_toInt_lt, toInt_of hj (by omega)]; show ¬ (n : Int) < 0; omega
  obtain ⟨T', h', k, X', e', E, A, st⟩ := newP X hx hZ w eT hg hd hs q0 (cap := n) (Nat.le_of_eq q) hn hc hl
  refine ⟨T', h', _, rfl, X', e', E, ⟨_, A, by rw [sz_new]; exact q, by omega, fun i hi => ?_⟩, st⟩
  simp [newA, q, hi]
/-- an array whose components may be of the class C -/
def own_Ov (Z : State) (h : Heap) (a : Addr) (C : String) : Prop := ∃ cell : Cell, h[a]? = some cell ∧ Ovr Z cell.cls C
theorem own_Ov.ext {C : String} (O : own_Ov Z h a C) (E : Ext h h') : own_Ov Z h' a C := by obtain ⟨c, h1, h2⟩ := O; exact ⟨c, E.2 _ _ h1, h2⟩
theorem own_Ov.wr {C : String} (O : own_Ov Z h a C) (W : Wr h h' b sl v) : own_Ov Z h' a C := by
  obtain ⟨c, h1, h2⟩ := O
  obtain ⟨c', q1, q2, -⟩ := wr_at W h1
  exact ⟨c', q1, by rw [q2]; exact h2⟩
theorem own_Ov.keep {C : String} (O : own_Ov Z h a C) (K : Keep h h' ws) : own_Ov Z h' a C := by
  obtain ⟨c, h1, h2⟩ := O
  obtain ⟨c', q1, q2, -⟩ := K.2.2 a c h1
  exact ⟨c', q1, by rw [q2]; exact h2⟩
theorem own_sto {C : String} {y : Addr} (A : own_Ar Z h a ty n f) (O : own_Ov Z h a C) (I : Ins Z h y C true) : Sto Z h a (.ref y) := by
  obtain ⟨c, A, -⟩ := A
  obtain ⟨c', h1, h2⟩ := O
  cases A.1.symm.trans h1
  exact Sto.of A h2 I
theorem own_aastore (X : Stand p l e R s m args below meth c T locs cells slots) (hx : p.tables.exec = Jvm.exec) (hZ : Z.Warmed39 s.vm) (eT : T.heap = h) (A : own_Ar Z h a ty n f) (hj : j = Int32.ofNat i) (hi : i < n) (hty : ty.isReference = true) (S : Sto Z h a v) {g : JFrame} (hg : g.method = m) {rest : List Value} (hs : g.stack = v :: .int j :: .ref a :: rest) (hd : decode c.code g.pc = .ok (.aastore, 1)) :
    ∃ T' h', Stand p l e R s m args below meth c T' (locs ++ [⟨a, i⟩]) cells slots ∧ T'.heap = h' ∧ Wr h h' a i v ∧ own_Ar Z h' a ty n (own_up f i v) ∧ ∀ t, Steps p.tables e below (T'.setTop { g with pc := g.pc + 1, stack := rest }) t → Steps p.tables e below (T.setTop g) t := by
  obtain ⟨cl, A', hin, -, q⟩ := A.read hj hi
  obtain ⟨T', h', X', e', W, st⟩ := stR X hx hZ eT A' hin hty S hg hs hd
  rw [q] at X' W
  exact ⟨T', h', X', e', W, A.set W, st⟩
theorem own_newref (X : Stand p l e R s m args below meth c T locs cells slots) (hx : p.tables.exec = Jvm.exec) (hZ : Z.Warmed39 s.vm) {own C : String} {index : Nat} (hown : s.vm.findClass own = some m.cls) (w1 : (Jvm.Cond.classLink own index C).before a0 Z = true) (w2 : (Jvm.Cond.arrayOver (.object C)).before a0 Z = true) (eT : T.heap = h) {g : JFrame} (hg : g.method = m) (hd : decode c.code g.pc = .ok (.anewarray index, 3)) (hj : j = Int32.ofNat n) (hn : n * 8 ≤ 536870912) {rest : List Value} (hs : g.stack = .int j :: rest) (hc : cells + 1 ≤ R.cells) (hl : slots + n ≤ R.slots) :
    ∃ T' h' b, b = h.size ∧ Stand p l e R s m args below meth c T' locs (cells + 1) (slots + n) ∧ T'.heap = h' ∧ Ext h h' ∧ own_Ar Z h' b (.object C) n (fun _ => .null) ∧ own_Ov Z h' b C ∧ ∀ t, Steps p.tables e below (T'.setTop { g with pc := g.pc + 3, stack := .ref b :: rest }) t → Steps p.tables e below (T.setTop g) t := by
  have q : j.toNatClampNeg = n := clamp_of hj (by omega)
  have q0 : ¬ j < 0 := by rw [Int32.lt_iff_toInt_lt, toInt_of hj (by omega)]; show ¬ (n : Int) < 0; omega
  obtain ⟨T', h', k, X', e', E, A, O, st⟩ := newR X hx hZ hown w1 w2 eT hg hd hs q0 (cap := n) (Nat.le_of_eq q) hn hc hl
  refine ⟨T', h', _, rfl, X', e', E, ⟨_, A, by rw [sz_new]; exact q, by omega, fun i hi => ?_⟩, ⟨_, A.1, O⟩, st⟩
  simp [newA, q, hi, defaultValue]
end OwnArr

def own_inI (t : Int) : Prop := (97 ≤ t ∧ t ≤ 122) ∨ (65 ≤ t ∧ t ≤ 90) ∨ (95 ≤ t ∧ t ≤ 95) ∨ (192 ≤ t ∧ t ≤ 214) ∨ (216 ≤ t ∧ t ≤ 246) ∨ (248 ≤ t ∧ t ≤ 767) ∨ (880 ≤ t ∧ t ≤ 893) ∨ (895 ≤ t ∧ t ≤ 8191) ∨ (8204 ≤ t ∧ t ≤ 8205) ∨ (8304 ≤ t ∧ t ≤ 8591) ∨ (11264 ≤ t ∧ t ≤ 12271) ∨ (12289 ≤ t ∧ t ≤ 55295) ∨ (63744 ≤ t ∧ t ≤ 64975) ∨ (65008 ≤ t ∧ t ≤ 65533) ∨ (65536 ≤ t ∧ t ≤ 983039)
def own_in (x : Int32) : Prop := own_inI x.toInt
def own_nsv (x : Int32) : Int32 := if (97 ≤ x.toInt ∧ x.toInt ≤ 122) ∨ (65 ≤ x.toInt ∧ x.toInt ≤ 90) ∨ (95 ≤ x.toInt ∧ x.toInt ≤ 95) ∨ (192 ≤ x.toInt ∧ x.toInt ≤ 214) ∨ (216 ≤ x.toInt ∧ x.toInt ≤ 246) ∨ (248 ≤ x.toInt ∧ x.toInt ≤ 767) ∨ (880 ≤ x.toInt ∧ x.toInt ≤ 893) ∨ (895 ≤ x.toInt ∧ x.toInt ≤ 8191) ∨ (8204 ≤ x.toInt ∧ x.toInt ≤ 8205) ∨ (8304 ≤ x.toInt ∧ x.toInt ≤ 8591) ∨ (11264 ≤ x.toInt ∧ x.toInt ≤ 12271) ∨ (12289 ≤ x.toInt ∧ x.toInt ≤ 55295) ∨ (63744 ≤ x.toInt ∧ x.toInt ≤ 64975) ∨ (65008 ≤ x.toInt ∧ x.toInt ≤ 65533) ∨ (65536 ≤ x.toInt ∧ x.toInt ≤ 983039) then 1 else 0
theorem own_nsv1 {x : Int32} (h : own_in x) : own_nsv x = 1 := if_pos h
theorem own_ns0 {x : Int32} (h : ¬ own_in x) : own_nsv x = 0 := if_neg h
theorem own_ns1 {x : Int32} (h : own_in x) : ¬ own_nsv x = 0 := by rw [own_nsv1 h]; decide
def own_lo (n : Nat) : Int32 := ([65, 95, 97, 192, 216, 248, 880, 895, 8204, 8304, 11264, 12289, 63744, 65008, 65536] : List Int32).getD n 0
def own_hi (n : Nat) : Int32 := ([90, 95, 122, 214, 246, 767, 893, 8191, 8205, 8591, 12271, 55295, 64975, 65533, 983039] : List Int32).getD n 0
def own_gh (n : Nat) : Int := ([94, 96, 191, 215, 247, 879, 894, 8203, 8303, 11263, 12288, 63743, 65007, 65535, 2147483647] : List Int).getD n 0
theorem own_each {P : Nat → Prop} (h0 : P 0) (h1 : P 1) (h2 : P 2) (h3 : P 3) (h4 : P 4) (h5 : P 5) (h6 : P 6) (h7 : P 7) (h8 : P 8) (h9 : P 9) (h10 : P 10) (h11 : P 11) (h12 : P 12) (h13 : P 13) (h14 : P 14) : ∀ n, n < 15 → P n
  | 0, _ => h0
  | 1, _ => h1
  | 2, _ => h2
  | 3, _ => h3
  | 4, _ => h4
  | 5, _ => h5
  | 6, _ => h6
  | 7, _ => h7
  | 8, _ => h8
  | 9, _ => h9
  | 10, _ => h10
  | 11, _ => h11
  | 12, _ => h12
  | 13, _ => h13
  | 14, _ => h14
  | n + 15, h => absurd h (by omega)
theorem own_bnd : ∀ n, n < 15 → 0 < (own_lo n).toInt ∧ (own_lo n).toInt ≤ (own_hi n).toInt ∧ (own_hi n).toInt ≤ 983039 ∧ (own_hi n).toInt + 1 ≤ own_gh n ∧ own_gh n ≤ 2147483647 := own_each (by decide) (by decide) (by decide) (by decide) (by decide) (by decide) (by decide) (by decide) (by decide) (by decide) (by decide) (by decide) (by decide) (by decide) (by decide)
theorem own_gap : ∀ n, n < 14 → (own_lo (n + 1)).toInt - 1 = own_gh n := fun n hn => own_each (P := fun n => n < 14 → (own_lo (n + 1)).toInt - 1 = own_gh n) (fun _ => by decide) (fun _ => by decide) (fun _ => by decide) (fun _ => by decide) (fun _ => by decide) (fun _ => by decide) (fun _ => by decide) (fun _ => by decide) (fun _ => by decide) (fun _ => by decide) (fun _ => by decide) (fun _ => by decide) (fun _ => by decide) (fun _ => by decide) (fun h => absurd h (by omega)) n (by omega) hn
theorem own_yes : ∀ n, n < 15 → ∀ t : Int, (own_lo n).toInt ≤ t → t ≤ (own_hi n).toInt → own_inI t := own_each (fun t (h1 : (65 : Int) ≤ t) (h2 : t ≤ (90 : Int)) => by unfold own_inI; omega) (fun t (h1 : (95 : Int) ≤ t) (h2 : t ≤ (95 : Int)) => by unfold own_inI; omega) (fun t (h1 : (97 : Int) ≤ t) (h2 : t ≤ (122 : Int)) => by unfold own_inI; omega) (fun t (h1 : (192 : Int) ≤ t) (h2 : t ≤ (214 : Int)) => by unfold own_inI; omega) (fun t (h1 : (216 : Int) ≤ t) (h2 : t ≤ (246 : Int)) => by unfold own_inI; omega) (fun t (h1 : (248 : Int) ≤ t) (h2 : t ≤ (767 : Int)) => by unfold own_inI; omega) (fun t (h1 : (880 : Int) ≤ t) (h2 : t ≤ (893 : Int)) => by unfold own_inI; omega) (fun t (h1 : (895 : Int) ≤ t) (h2 : t ≤ (8191 : Int)) => by unfold own_inI; omega) (fun t (h1 : (8204 : Int) ≤ t) (h2 : t ≤ (8205 : Int)) => by unfold own_inI; omega) (fun t (h1 : (8304 : Int) ≤ t) (h2 : t ≤ (8591 : Int)) => by unfold own_inI; omega) (fun t (h1 : (11264 : Int) ≤ t) (h2 : t ≤ (12271 : Int)) => by unfold own_inI; omega) (fun t (h1 : (12289 : Int) ≤ t) (h2 : t ≤ (55295 : Int)) => by unfold own_inI; omega) (fun t (h1 : (63744 : Int) ≤ t) (h2 : t ≤ (64975 : Int)) => by unfold own_inI; omega) (fun t (h1 : (65008 : Int) ≤ t) (h2 : t ≤ (65533 : Int)) => by unfold own_inI; omega) (fun t (h1 : (65536 : Int) ≤ t) (h2 : t ≤ (983039 : Int)) => by unfold own_inI; omega)
theorem own_no : ∀ n, n < 15 → ∀ t : Int, (own_hi n).toInt + 1 ≤ t → t ≤ own_gh n → ¬ own_inI t := own_each (fun t (h1 : (90 : Int) + 1 ≤ t) (h2 : t ≤ (94 : Int)) => by unfold own_inI; omega) (fun t (h1 : (95 : Int) + 1 ≤ t) (h2 : t ≤ (96 : Int)) => by unfold own_inI; omega) (fun t (h1 : (122 : Int) + 1 ≤ t) (h2 : t ≤ (191 : Int)) => by unfold own_inI; omega) (fun t (h1 : (214 : Int) + 1 ≤ t) (h2 : t ≤ (215 : Int)) => by unfold own_inI; omega) (fun t (h1 : (246 : Int) + 1 ≤ t) (h2 : t ≤ (247 : Int)) => by unfold own_inI; omega) (fun t (h1 : (767 : Int) + 1 ≤ t) (h2 : t ≤ (879 : Int)) => by unfold own_inI; omega) (fun t (h1 : (893 : Int) + 1 ≤ t) (h2 : t ≤ (894 : Int)) => by unfold own_inI; omega) (fun t (h1 : (8191 : Int) + 1 ≤ t) (h2 : t ≤ (8203 : Int)) => by unfold own_inI; omega) (fun t (h1 : (8205 : Int) + 1 ≤ t) (h2 : t ≤ (8303 : Int)) => by unfold own_inI; omega) (fun t (h1 : (8591 : Int) + 1 ≤ t) (h2 : t ≤ (11263 : Int)) => by unfold own_inI; omega) (fun t (h1 : (12271 : Int) + 1 ≤ t) (h2 : t ≤ (12288 : Int)) => by unfold own_inI; omega) (fun t (h1 : (55295 : Int) + 1 ≤ t) (h2 : t ≤ (63743 : Int)) => by unfold own_inI; omega) (fun t (h1 : (64975 : Int) + 1 ≤ t) (h2 : t ≤ (65007 : Int)) => by unfold own_inI; omega) (fun t (h1 : (65533 : Int) + 1 ≤ t) (h2 : t ≤ (65535 : Int)) => by unfold own_inI; omega) (fun t (h1 : (983039 : Int) + 1 ≤ t) (h2 : t ≤ (2147483647 : Int)) => by unfold own_inI; omega)
theorem own_low (t : Int) (h : t < 65) : ¬ own_inI t := by unfold own_inI; omega
theorem own_high (t : Int) (h : 983039 < t) : ¬ own_inI t := by unfold own_inI; omega
theorem own_span {a b u : Int32} (h0 : 0 < a.toInt) (h1 : a.toInt ≤ b.toInt) (hu : 0 ≤ u.toInt) : b - a + 1 ≠ 0 ∧ a.toInt ≤ (a + u % (b - a + 1)).toInt ∧ (a + u % (b - a + 1)).toInt ≤ b.toInt := by
  have r1 := rng32 a; have r2 := rng32 b; have r3 := rng32 (b - a); have r4 := rng32 (b - a + 1); have r5 := rng32 (a + u % (b - a + 1))
  have s1 := c_isub b a; have s2 := c_iadd (b - a) 1; have s3 := c_iadd a (u % (b - a + 1))
  have e1 : (1 : Int32).toInt = 1 := rfl
  have q1 : (b - a).toInt = b.toInt - a.toInt := by omega
  have q2 : (b - a + 1).toInt = b.toInt - a.toInt + 1 := by omega
  have q3 := (c_iremV u (b - a + 1)).1 hu (by omega)
  refine ⟨fun z => ?_, ?_, ?_⟩
  · rw [z] at q2; have e0 : (0 : Int32).toInt = 0 := rfl; omega
  · omega
  · omega
theorem own_rem (x : Int32) : 0 ≤ ((x &&& (2147483647 : Int32)) % (15 : Int32)).toInt ∧ ((x &&& (2147483647 : Int32)) % (15 : Int32)).toInt < (15 : Nat) := by
  have h := c_and x 2147483647 (by decide)
  have q := (c_irem (x &&& 2147483647) 15 15 rfl).1 h.1
  rw [q]; omega
theorem pd_0 : parseMethodDescriptor "(I)Z" = some ⟨[.int], some .boolean⟩ := by decide +kernel
theorem d1_0 : decode prog_273_method_2_code 0 = .ok (.iload_n 0, 1) := by decide +kernel
theorem d1_1 : decode prog_273_method_2_code 1 = .ok (.bipush 97, 2) := by decide +kernel
theorem d1_3 : decode prog_273_method_2_code 3 = .ok (.if_icmp .lt 9, 3) := by decide +kernel
theorem d1_6 : decode prog_273_method_2_code 6 = .ok (.iload_n 0, 1) := by decide +kernel
theorem d1_7 : decode prog_273_method_2_code 7 = .ok (.bipush 122, 2) := by decide +kernel
theorem d1_9 : decode prog_273_method_2_code 9 = .ok (.if_icmp .le 182, 3) := by decide +kernel
theorem d1_12 : decode prog_273_method_2_code 12 = .ok (.iload_n 0, 1) := by decide +kernel
theorem d1_13 : decode prog_273_method_2_code 13 = .ok (.bipush 65, 2) := by decide +kernel
theorem d1_15 : decode prog_273_method_2_code 15 = .ok (.if_icmp .lt 9, 3) := by decide +kernel
theorem d1_18 : decode prog_273_method_2_code 18 = .ok (.iload_n 0, 1) := by decide +kernel
theorem d1_19 : decode prog_273_method_2_code 19 = .ok (.bipush 90, 2) := by decide +kernel
theorem d1_21 : decode prog_273_method_2_code 21 = .ok (.if_icmp .le 170, 3) := by decide +kernel
theorem d1_24 : decode prog_273_method_2_code 24 = .ok (.iload_n 0, 1) := by decide +kernel
theorem d1_25 : decode prog_273_method_2_code 25 = .ok (.bipush 95, 2) := by decide +kernel
theorem d1_27 : decode prog_273_method_2_code 27 = .ok (.if_icmp .eq 164, 3) := by decide +kernel
theorem d1_30 : decode prog_273_method_2_code 30 = .ok (.iload_n 0, 1) := by decide +kernel
theorem d1_31 : decode prog_273_method_2_code 31 = .ok (.sipush 192, 3) := by decide +kernel
theorem d1_34 : decode prog_273_method_2_code 34 = .ok (.if_icmp .lt 10, 3) := by decide +kernel
theorem d1_37 : decode prog_273_method_2_code 37 = .ok (.iload_n 0, 1) := by decide +kernel
theorem d1_38 : decode prog_273_method_2_code 38 = .ok (.sipush 214, 3) := by decide +kernel
theorem d1_41 : decode prog_273_method_2_code 41 = .ok (.if_icmp .le 150, 3) := by decide +kernel
theorem d1_44 : decode prog_273_method_2_code 44 = .ok (.iload_n 0, 1) := by decide +kernel
theorem d1_45 : decode prog_273_method_2_code 45 = .ok (.sipush 216, 3) := by decide +kernel
theorem d1_48 : decode prog_273_method_2_code 48 = .ok (.if_icmp .lt 10, 3) := by decide +kernel
theorem d1_51 : decode prog_273_method_2_code 51 = .ok (.iload_n 0, 1) := by decide +kernel
theorem d1_52 : decode prog_273_method_2_code 52 = .ok (.sipush 246, 3) := by decide +kernel
theorem d1_55 : decode prog_273_method_2_code 55 = .ok (.if_icmp .le 136, 3) := by decide +kernel
theorem d1_58 : decode prog_273_method_2_code 58 = .ok (.iload_n 0, 1) := by decide +kernel
theorem d1_59 : decode prog_273_method_2_code 59 = .ok (.sipush 248, 3) := by decide +kernel
theorem d1_62 : decode prog_273_method_2_code 62 = .ok (.if_icmp .lt 10, 3) := by decide +kernel
theorem d1_65 : decode prog_273_method_2_code 65 = .ok (.iload_n 0, 1) := by decide +kernel
theorem d1_66 : decode prog_273_method_2_code 66 = .ok (.sipush 767, 3) := by decide +kernel
theorem d1_69 : decode prog_273_method_2_code 69 = .ok (.if_icmp .le 122, 3) := by decide +kernel
theorem d1_72 : decode prog_273_method_2_code 72 = .ok (.iload_n 0, 1) := by decide +kernel
theorem d1_73 : decode prog_273_method_2_code 73 = .ok (.sipush 880, 3) := by decide +kernel
theorem d1_76 : decode prog_273_method_2_code 76 = .ok (.if_icmp .lt 10, 3) := by decide +kernel
theorem d1_79 : decode prog_273_method_2_code 79 = .ok (.iload_n 0, 1) := by decide +kernel
theorem d1_80 : decode prog_273_method_2_code 80 = .ok (.sipush 893, 3) := by decide +kernel
theorem d1_83 : decode prog_273_method_2_code 83 = .ok (.if_icmp .le 108, 3) := by decide +kernel
theorem d1_86 : decode prog_273_method_2_code 86 = .ok (.iload_n 0, 1) := by decide +kernel
theorem d1_87 : decode prog_273_method_2_code 87 = .ok (.sipush 895, 3) := by decide +kernel
theorem d1_90 : decode prog_273_method_2_code 90 = .ok (.if_icmp .lt 10, 3) := by decide +kernel
theorem d1_93 : decode prog_273_method_2_code 93 = .ok (.iload_n 0, 1) := by decide +kernel
theorem d1_94 : decode prog_273_method_2_code 94 = .ok (.sipush 8191, 3) := by decide +kernel
theorem d1_97 : decode prog_273_method_2_code 97 = .ok (.if_icmp .le 94, 3) := by decide +kernel
theorem d1_100 : decode prog_273_method_2_code 100 = .ok (.iload_n 0, 1) := by decide +kernel
theorem d1_101 : decode prog_273_method_2_code 101 = .ok (.sipush 8204, 3) := by decide +kernel
theorem d1_104 : decode prog_273_method_2_code 104 = .ok (.if_icmp .lt 10, 3) := by decide +kernel
theorem d1_107 : decode prog_273_method_2_code 107 = .ok (.iload_n 0, 1) := by decide +kernel
theorem d1_108 : decode prog_273_method_2_code 108 = .ok (.sipush 8205, 3) := by decide +kernel
theorem d1_111 : decode prog_273_method_2_code 111 = .ok (.if_icmp .le 80, 3) := by decide +kernel
theorem d1_114 : decode prog_273_method_2_code 114 = .ok (.iload_n 0, 1) := by decide +kernel
theorem d1_115 : decode prog_273_method_2_code 115 = .ok (.sipush 8304, 3) := by decide +kernel
theorem d1_118 : decode prog_273_method_2_code 118 = .ok (.if_icmp .lt 10, 3) := by decide +kernel
theorem d1_121 : decode prog_273_method_2_code 121 = .ok (.iload_n 0, 1) := by decide +kernel
theorem d1_122 : decode prog_273_method_2_code 122 = .ok (.sipush 8591, 3) := by decide +kernel
theorem d1_125 : decode prog_273_method_2_code 125 = .ok (.if_icmp .le 66, 3) := by decide +kernel
theorem d1_128 : decode prog_273_method_2_code 128 = .ok (.iload_n 0, 1) := by decide +kernel
theorem d1_129 : decode prog_273_method_2_code 129 = .ok (.sipush 11264, 3) := by decide +kernel
theorem d1_132 : decode prog_273_method_2_code 132 = .ok (.if_icmp .lt 10, 3) := by decide +kernel
theorem d1_135 : decode prog_273_method_2_code 135 = .ok (.iload_n 0, 1) := by decide +kernel
theorem d1_136 : decode prog_273_method_2_code 136 = .ok (.sipush 12271, 3) := by decide +kernel
theorem d1_139 : decode prog_273_method_2_code 139 = .ok (.if_icmp .le 52, 3) := by decide +kernel
theorem d1_142 : decode prog_273_method_2_code 142 = .ok (.iload_n 0, 1) := by decide +kernel
theorem d1_143 : decode prog_273_method_2_code 143 = .ok (.sipush 12289, 3) := by decide +kernel
theorem d1_146 : decode prog_273_method_2_code 146 = .ok (.if_icmp .lt 9, 3) := by decide +kernel
theorem d1_149 : decode prog_273_method_2_code 149 = .ok (.iload_n 0, 1) := by decide +kernel
theorem d1_150 : decode prog_273_method_2_code 150 = .ok (.ldc 7, 2) := by decide +kernel
theorem d1_152 : decode prog_273_method_2_code 152 = .ok (.if_icmp .le 39, 3) := by decide +kernel
theorem d1_155 : decode prog_273_method_2_code 155 = .ok (.iload_n 0, 1) := by decide +kernel
theorem d1_156 : decode prog_273_method_2_code 156 = .ok (.ldc 8, 2) := by decide +kernel
theorem d1_158 : decode prog_273_method_2_code 158 = .ok (.if_icmp .lt 9, 3) := by decide +kernel
theorem d1_161 : decode prog_273_method_2_code 161 = .ok (.iload_n 0, 1) := by decide +kernel
theorem d1_162 : decode prog_273_method_2_code 162 = .ok (.ldc 9, 2) := by decide +kernel
theorem d1_164 : decode prog_273_method_2_code 164 = .ok (.if_icmp .le 27, 3) := by decide +kernel
theorem d1_167 : decode prog_273_method_2_code 167 = .ok (.iload_n 0, 1) := by decide +kernel
theorem d1_168 : decode prog_273_method_2_code 168 = .ok (.ldc 10, 2) := by decide +kernel
theorem d1_170 : decode prog_273_method_2_code 170 = .ok (.if_icmp .lt 9, 3) := by decide +kernel
theorem d1_173 : decode prog_273_method_2_code 173 = .ok (.iload_n 0, 1) := by decide +kernel
theorem d1_174 : decode prog_273_method_2_code 174 = .ok (.ldc 11, 2) := by decide +kernel
theorem d1_176 : decode prog_273_method_2_code 176 = .ok (.if_icmp .le 15, 3) := by decide +kernel
theorem d1_179 : decode prog_273_method_2_code 179 = .ok (.iload_n 0, 1) := by decide +kernel
theorem d1_180 : decode prog_273_method_2_code 180 = .ok (.ldc 12, 2) := by decide +kernel
theorem d1_182 : decode prog_273_method_2_code 182 = .ok (.if_icmp .lt 13, 3) := by decide +kernel
theorem d1_185 : decode prog_273_method_2_code 185 = .ok (.iload_n 0, 1) := by decide +kernel
theorem d1_186 : decode prog_273_method_2_code 186 = .ok (.ldc 13, 2) := by decide +kernel
theorem d1_188 : decode prog_273_method_2_code 188 = .ok (.if_icmp .gt 7, 3) := by decide +kernel
theorem d1_191 : decode prog_273_method_2_code 191 = .ok (.iconst 1, 1) := by decide +kernel
theorem d1_192 : decode prog_273_method_2_code 192 = .ok (.goto 4, 3) := by decide +kernel
theorem d1_195 : decode prog_273_method_2_code 195 = .ok (.iconst 0, 1) := by decide +kernel
theorem d1_196 : decode prog_273_method_2_code 196 = .ok (.ireturn, 1) := by decide +kernel
theorem pn_1 : plainName "com/example/infoset/infoset/xdm/XmlNames" = true := by first | (simp [plainName, overriddenIn]; done) | decide +kernel
theorem ef_1 (m : MethodId) (x0 : Int32) : entryFrame m #[(.int x0)] 1 = mkF m 0 #[.val (.int x0)] [] := by first | (simp [entryFrame, mkF, argsToLocals, Value.category]; done) | rfl
set_option maxRecDepth 65536 in
set_option maxHeartbeats 40000000 in
theorem rm1 (l : Launch) (Z : State) (a0 : Array Value) (hw : ∀ d ∈ tables_1, d.before a0 Z = true) (ws : List Jvm.Cond) (p1 : Int32) (h0 : Heap) :
    own_Pure l Z (⟨"com/example/infoset/infoset/xdm/XmlNames", "isNameStart", "(I)Z"⟩ : MethodName) prog_273_method_2_code 1 (some .boolean) ws ({ frames := 0, cells := 0, slots := 0, locals := 0 } : Room) #[(.int p1)] h0 (some (.int (own_nsv p1))) := by
  refine own_body (plainFor_of_name pn_1) ?_
  intro p e s m below meth c T0 hx hby hml hown hnm hret hlk hZ X0 e0
  replace hown : s.vm.findClass "com/example/infoset/infoset/xdm/XmlNames" = some m.cls := hown
  replace hret : meth.sig.returnType = (some .boolean) := hret
  replace hnm : meth.name = "isNameStart" := hnm
  rw [ef_1 m p1]
  have E195 : ¬ own_in p1 → own_Ends p e below (own_Fin below s 0 0 (fun v h L => v = some (.int (own_nsv p1)) ∧ L = [] ∧ h = h0)) T0 (mkF m 195 #[.val (.int p1)] []) := fun hh => by
    refine own_via (T' := T0) (g' := (mkF m 196 #[.val (.int p1)] [(.int (0 : Int32))])) (fun _ kt => XS.iconst X0.here hx rfl (hb hby d1_195) kt) ?_
    exact own_retZ X0 hx hret hlk (hb hby d1_196) (by decide) ⟨by rw [own_ns0 hh], rfl, e0⟩ (by decide) (by decide)
  have E191 : own_in p1 → own_Ends p e below (own_Fin below s 0 0 (fun v h L => v = some (.int (own_nsv p1)) ∧ L = [] ∧ h = h0)) T0 (mkF m 191 #[.val (.int p1)] []) := fun hh => by
    refine own_via (T' := T0) (g' := (mkF m 192 #[.val (.int p1)] [(.int (1 : Int32))])) (fun _ kt => XS.iconst X0.here hx rfl (hb hby d1_191) kt) ?_
    refine own_via (T' := T0) (g' := (mkF m 196 #[.val (.int p1)] [(.int (1 : Int32))])) (fun _ kt => XS.goto X0.here hx rfl (pc0 := 192) (pc' := 196) rfl (hb hby d1_192) (by decide) (by decide) kt) ?_
    exact own_retZ X0 hx hret hlk (hb hby d1_196) (by decide) ⟨by rw [own_nsv1 hh], rfl, e0⟩ (by decide) (by decide)
  have E179 : (own_in p1 ↔ (65536 ≤ p1.toInt ∧ p1.toInt ≤ 983039)) → own_Ends p e below (own_Fin below s 0 0 (fun v h L => v = some (.int (own_nsv p1)) ∧ L = [] ∧ h = h0)) T0 (mkF m 179 #[.val (.int p1)] []) := fun hh => by
    refine own_via (T' := T0) (g' := (mkF m 180 #[.val (.int p1)] [(.int p1)])) (fun _ kt => XS.iloadN X0.here hx rfl (hb hby d1_179) rfl kt) ?_
    refine own_via (T' := T0) (g' := (mkF m 182 #[.val (.int p1)] [(.int (65536 : Int32)), (.int p1)])) (fun _ kt => X0.ldcInt hx hown (mvT hZ (hw _ (List.mem_of_getElem? (i := 15) rfl))) (g := (mkF m 180 #[.val (.int p1)] [(.int p1)])) rfl (hb hby d1_180) _ kt) ?_
    by_cases hc182_1 : p1 < (65536 : Int32)
    · refine own_via (T' := T0) (g' := (mkF m 195 #[.val (.int p1)] [])) (fun _ kt => XS.icmpYes X0.here hx rfl (pc0 := 182) (pc' := 195) rfl (hb hby d1_182) rfl (tlt hc182_1).1 (by decide) (by decide) kt) ?_
      have hc182_1' : (p1.toInt < 65536) := by simpa [Int32.lt_iff_toInt_lt, ← Int32.toInt_inj] using hc182_1
      exact E195 (fun q => absurd (hh.mp q) (by omega))
    · refine own_via (T' := T0) (g' := (mkF m 185 #[.val (.int p1)] [])) (fun _ kt => XS.icmpNo X0.here hx rfl (hb hby d1_182) rfl (flt hc182_1).1 kt) ?_
      refine own_via (T' := T0) (g' := (mkF m 186 #[.val (.int p1)] [(.int p1)])) (fun _ kt => XS.iloadN X0.here hx rfl (hb hby d1_185) rfl kt) ?_
      refine own_via (T' := T0) (g' := (mkF m 188 #[.val (.int p1)] [(.int (983039 : Int32)), (.int p1)])) (fun _ kt => X0.ldcInt hx hown (mvT hZ (hw _ (List.mem_of_getElem? (i := 19) rfl))) (g := (mkF m 186 #[.val (.int p1)] [(.int p1)])) rfl (hb hby d1_186) _ kt) ?_
      by_cases hc188_2 : (983039 : Int32) < p1
      · refine own_via (T' := T0) (g' := (mkF m 195 #[.val (.int p1)] [])) (fun _ kt => XS.icmpYes X0.here hx rfl (pc0 := 188) (pc' := 195) rfl (hb hby d1_188) rfl (tlt hc188_2).2.2.1 (by decide) (by decide) kt) ?_
        have hc182_1' : ¬ (p1.toInt < 65536) := by simpa [Int32.lt_iff_toInt_lt, ← Int32.toInt_inj] using hc182_1
        have hc188_2' : (983039 < p1.toInt) := by simpa [Int32.lt_iff_toInt_lt, ← Int32.toInt_inj] using hc188_2
        exact E195 (fun q => absurd (hh.mp q) (by omega))
      · refine own_via (T' := T0) (g' := (mkF m 191 #[.val (.int p1)] [])) (fun _ kt => XS.icmpNo X0.here hx rfl (hb hby d1_188) rfl (flt hc188_2).2.2.1 kt) ?_
        have hc182_1' : ¬ (p1.toInt < 65536) := by simpa [Int32.lt_iff_toInt_lt, ← Int32.toInt_inj] using hc182_1
        have hc188_2' : ¬ (983039 < p1.toInt) := by simpa [Int32.lt_iff_toInt_lt, ← Int32.toInt_inj] using hc188_2
        exact E191 (hh.mpr ⟨by omega, by omega⟩)
  have E167 : (own_in p1 ↔ (65008 ≤ p1.toInt ∧ p1.toInt ≤ 65533) ∨ (65536 ≤ p1.toInt ∧ p1.toInt ≤ 983039)) → own_Ends p e below (own_Fin below s 0 0 (fun v h L => v = some (.int (own_nsv p1)) ∧ L = [] ∧ h = h0)) T0 (mkF m 167 #[.val (.int p1)] []) := fun hh => by
    refine own_via (T' := T0) (g' := (mkF m 168 #[.val (.int p1)] [(.int p1)])) (fun _ kt => XS.iloadN X0.here hx rfl (hb hby d1_167) rfl kt) ?_
    refine own_via (T' := T0) (g' := (mkF m 170 #[.val (.int p1)] [(.int (65008 : Int32)), (.int p1)])) (fun _ kt => X0.ldcInt hx hown (mvT hZ (hw _ (List.mem_of_getElem? (i := 14) rfl))) (g := (mkF m 168 #[.val (.int p1)] [(.int p1)])) rfl (hb hby d1_168) _ kt) ?_
    by_cases hc170_1 : p1 < (65008 : Int32)
    · refine own_via (T' := T0) (g' := (mkF m 179 #[.val (.int p1)] [])) (fun _ kt => XS.icmpYes X0.here hx rfl (pc0 := 170) (pc' := 179) rfl (hb hby d1_170) rfl (tlt hc170_1).1 (by decide) (by decide) kt) ?_
      have hc170_1' : (p1.toInt < 65008) := by simpa [Int32.lt_iff_toInt_lt, ← Int32.toInt_inj] using hc170_1
      exact E179 (hh.trans ⟨fun q => q.elim (fun z => absurd z (by omega)) id, Or.inr⟩)
    · refine own_via (T' := T0) (g' := (mkF m 173 #[.val (.int p1)] [])) (fun _ kt => XS.icmpNo X0.here hx rfl (hb hby d1_170) rfl (flt hc170_1).1 kt) ?_
      refine own_via (T' := T0) (g' := (mkF m 174 #[.val (.int p1)] [(.int p1)])) (fun _ kt => XS.iloadN X0.here hx rfl (hb hby d1_173) rfl kt) ?_
      refine own_via (T' := T0) (g' := (mkF m 176 #[.val (.int p1)] [(.int (65533 : Int32)), (.int p1)])) (fun _ kt => X0.ldcInt hx hown (mvT hZ (hw _ (List.mem_of_getElem? (i := 18) rfl))) (g := (mkF m 174 #[.val (.int p1)] [(.int p1)])) rfl (hb hby d1_174) _ kt) ?_
      by_cases hc176_2 : (65533 : Int32) < p1
      · refine own_via (T' := T0) (g' := (mkF m 179 #[.val (.int p1)] [])) (fun _ kt => XS.icmpNo X0.here hx rfl (hb hby d1_176) rfl (tlt hc176_2).2.2.2 kt) ?_
        have hc170_1' : ¬ (p1.toInt < 65008) := by simpa [Int32.lt_iff_toInt_lt, ← Int32.toInt_inj] using hc170_1
        have hc176_2' : (65533 < p1.toInt) := by simpa [Int32.lt_iff_toInt_lt, ← Int32.toInt_inj] using hc176_2
        exact E179 (hh.trans ⟨fun q => q.elim (fun z => absurd z (by omega)) id, Or.inr⟩)
      · refine own_via (T' := T0) (g' := (mkF m 191 #[.val (.int p1)] [])) (fun _ kt => XS.icmpYes X0.here hx rfl (pc0 := 176) (pc' := 191) rfl (hb hby d1_176) rfl (flt hc176_2).2.2.2 (by decide) (by decide) kt) ?_
        have hc170_1' : ¬ (p1.toInt < 65008) := by simpa [Int32.lt_iff_toInt_lt, ← Int32.toInt_inj] using hc170_1
        have hc176_2' : ¬ (65533 < p1.toInt) := by simpa [Int32.lt_iff_toInt_lt, ← Int32.toInt_inj] using hc176_2
        exact E191 (hh.mpr (Or.inl ⟨by omega, by omega⟩))
  have E155 : (own_in p1 ↔ (63744 ≤ p1.toInt ∧ p1.toInt ≤ 64975) ∨ (65008 ≤ p1.toInt ∧ p1.toInt ≤ 65533) ∨ (65536 ≤ p1.toInt ∧ p1.toInt ≤ 983039)) → own_Ends p e below (own_Fin below s 0 0 (fun v h L => v = some (.int (own_nsv p1)) ∧ L = [] ∧ h = h0)) T0 (mkF m 155 #[.val (.int p1)] []) := fun hh => by
    refine own_via (T' := T0) (g' := (mkF m 156 #[.val (.int p1)] [(.int p1)])) (fun _ kt => XS.iloadN X0.here hx rfl (hb hby d1_155) rfl kt) ?_
    refine own_via (T' := T0) (g' := (mkF m 158 #[.val (.int p1)] [(.int (63744 : Int32)), (.int p1)])) (fun _ kt => X0.ldcInt hx hown (mvT hZ (hw _ (List.mem_of_getElem? (i := 13) rfl))) (g := (mkF m 156 #[.val (.int p1)] [(.int p1)])) rfl (hb hby d1_156) _ kt) ?_
    by_cases hc158_1 : p1 < (63744 : Int32)
    · refine own_via (T' := T0) (g' := (mkF m 167 #[.val (.int p1)] [])) (fun _ kt => XS.icmpYes X0.here hx rfl (pc0 := 158) (pc' := 167) rfl (hb hby d1_158) rfl (tlt hc158_1).1 (by decide) (by decide) kt) ?_
      have hc158_1' : (p1.toInt < 63744) := by simpa [Int32.lt_iff_toInt_lt, ← Int32.toInt_inj] using hc158_1
      exact E167 (hh.trans ⟨fun q => q.elim (fun z => absurd z (by omega)) id, Or.inr⟩)
    · refine own_via (T' := T0) (g' := (mkF m 161 #[.val (.int p1)] [])) (fun _ kt => XS.icmpNo X0.here hx rfl (hb hby d1_158) rfl (flt hc158_1).1 kt) ?_
      refine own_via (T' := T0) (g' := (mkF m 162 #[.val (.int p1)] [(.int p1)])) (fun _ kt => XS.iloadN X0.here hx rfl (hb hby d1_161) rfl kt) ?_
      refine own_via (T' := T0) (g' := (mkF m 164 #[.val (.int p1)] [(.int (64975 : Int32)), (.int p1)])) (fun _ kt => X0.ldcInt hx hown (mvT hZ (hw _ (List.mem_of_getElem? (i := 17) rfl))) (g := (mkF m 162 #[.val (.int p1)] [(.int p1)])) rfl (hb hby d1_162) _ kt) ?_
      by_cases hc164_2 : (64975 : Int32) < p1
      · refine own_via (T' := T0) (g' := (mkF m 167 #[.val (.int p1)] [])) (fun _ kt => XS.icmpNo X0.here hx rfl (hb hby d1_164) rfl (tlt hc164_2).2.2.2 kt) ?_
        have hc158_1' : ¬ (p1.toInt < 63744) := by simpa [Int32.lt_iff_toInt_lt, ← Int32.toInt_inj] using hc158_1
        have hc164_2' : (64975 < p1.toInt) := by simpa [Int32.lt_iff_toInt_lt, ← Int32.toInt_inj] using hc164_2
        exact E167 (hh.trans ⟨fun q => q.elim (fun z => absurd z (by omega)) id, Or.inr⟩)
      · refine own_via (T' := T0) (g' := (mkF m 191 #[.val (.int p1)] [])) (fun _ kt => XS.icmpYes X0.here hx rfl (pc0 := 164) (pc' := 191) rfl (hb hby d1_164) rfl (flt hc164_2).2.2.2 (by decide) (by decide) kt) ?_
        have hc158_1' : ¬ (p1.toInt < 63744) := by simpa [Int32.lt_iff_toInt_lt, ← Int32.toInt_inj] using hc158_1
        have hc164_2' : ¬ (64975 < p1.toInt) := by simpa [Int32.lt_iff_toInt_lt, ← Int32.toInt_inj] using hc164_2
        exact E191 (hh.mpr (Or.inl ⟨by omega, by omega⟩))
  have E142 : (own_in p1 ↔ (12289 ≤ p1.toInt ∧ p1.toInt ≤ 55295) ∨ (63744 ≤ p1.toInt ∧ p1.toInt ≤ 64975) ∨ (65008 ≤ p1.toInt ∧ p1.toInt ≤ 65533) ∨ (65536 ≤ p1.toInt ∧ p1.toInt ≤ 983039)) → own_Ends p e below (own_Fin below s 0 0 (fun v h L => v = some (.int (own_nsv p1)) ∧ L = [] ∧ h = h0)) T0 (mkF m 142 #[.val (.int p1)] []) := fun hh => by
    refine own_via (T' := T0) (g' := (mkF m 143 #[.val (.int p1)] [(.int p1)])) (fun _ kt => XS.iloadN X0.here hx rfl (hb hby d1_142) rfl kt) ?_
    refine own_via (T' := T0) (g' := (mkF m 146 #[.val (.int p1)] [(.int (12289 : Int32)), (.int p1)])) (fun _ kt => XS.sipush X0.here hx rfl (hb hby d1_143) kt) ?_
    by_cases hc146_1 : p1 < (12289 : Int32)
    · refine own_via (T' := T0) (g' := (mkF m 155 #[.val (.int p1)] [])) (fun _ kt => XS.icmpYes X0.here hx rfl (pc0 := 146) (pc' := 155) rfl (hb hby d1_146) rfl (tlt hc146_1).1 (by decide) (by decide) kt) ?_
      have hc146_1' : (p1.toInt < 12289) := by simpa [Int32.lt_iff_toInt_lt, ← Int32.toInt_inj] using hc146_1
      exact E155 (hh.trans ⟨fun q => q.elim (fun z => absurd z (by omega)) id, Or.inr⟩)
    · refine own_via (T' := T0) (g' := (mkF m 149 #[.val (.int p1)] [])) (fun _ kt => XS.icmpNo X0.here hx rfl (hb hby d1_146) rfl (flt hc146_1).1 kt) ?_
      refine own_via (T' := T0) (g' := (mkF m 150 #[.val (.int p1)] [(.int p1)])) (fun _ kt => XS.iloadN X0.here hx rfl (hb hby d1_149) rfl kt) ?_
      refine own_via (T' := T0) (g' := (mkF m 152 #[.val (.int p1)] [(.int (55295 : Int32)), (.int p1)])) (fun _ kt => X0.ldcInt hx hown (mvT hZ (hw _ (List.mem_of_getElem? (i := 16) rfl))) (g := (mkF m 150 #[.val (.int p1)] [(.int p1)])) rfl (hb hby d1_150) _ kt) ?_
      by_cases hc152_2 : (55295 : Int32) < p1
      · refine own_via (T' := T0) (g' := (mkF m 155 #[.val (.int p1)] [])) (fun _ kt => XS.icmpNo X0.here hx rfl (hb hby d1_152) rfl (tlt hc152_2).2.2.2 kt) ?_
        have hc146_1' : ¬ (p1.toInt < 12289) := by simpa [Int32.lt_iff_toInt_lt, ← Int32.toInt_inj] using hc146_1
        have hc152_2' : (55295 < p1.toInt) := by simpa [Int32.lt_iff_toInt_lt, ← Int32.toInt_inj] using hc152_2
        exact E155 (hh.trans ⟨fun q => q.elim (fun z => absurd z (by omega)) id, Or.inr⟩)
      · refine own_via (T' := T0) (g' := (mkF m 191 #[.val (.int p1)] [])) (fun _ kt => XS.icmpYes X0.here hx rfl (pc0 := 152) (pc' := 191) rfl (hb hby d1_152) rfl (flt hc152_2).2.2.2 (by decide) (by decide) kt) ?_
        have hc146_1' : ¬ (p1.toInt < 12289) := by simpa [Int32.lt_iff_toInt_lt, ← Int32.toInt_inj] using hc146_1
        have hc152_2' : ¬ (55295 < p1.toInt) := by simpa [Int32.lt_iff_toInt_lt, ← Int32.toInt_inj] using hc152_2
        exact E191 (hh.mpr (Or.inl ⟨by omega, by omega⟩))
  have E128 : (own_in p1 ↔ (11264 ≤ p1.toInt ∧ p1.toInt ≤ 12271) ∨ (12289 ≤ p1.toInt ∧ p1.toInt ≤ 55295) ∨ (63744 ≤ p1.toInt ∧ p1.toInt ≤ 64975) ∨ (65008 ≤ p1.toInt ∧ p1.toInt ≤ 65533) ∨ (65536 ≤ p1.toInt ∧ p1.toInt ≤ 983039)) → own_Ends p e below (own_Fin below s 0 0 (fun v h L => v = some (.int (own_nsv p1)) ∧ L = [] ∧ h = h0)) T0 (mkF m 128 #[.val (.int p1)] []) := fun hh => by
    refine own_via (T' := T0) (g' := (mkF m 129 #[.val (.int p1)] [(.int p1)])) (fun _ kt => XS.iloadN X0.here hx rfl (hb hby d1_128) rfl kt) ?_
    refine own_via (T' := T0) (g' := (mkF m 132 #[.val (.int p1)] [(.int (11264 : Int32)), (.int p1)])) (fun _ kt => XS.sipush X0.here hx rfl (hb hby d1_129) kt) ?_
    by_cases hc132_1 : p1 < (11264 : Int32)
    · refine own_via (T' := T0) (g' := (mkF m 142 #[.val (.int p1)] [])) (fun _ kt => XS.icmpYes X0.here hx rfl (pc0 := 132) (pc' := 142) rfl (hb hby d1_132) rfl (tlt hc132_1).1 (by decide) (by decide) kt) ?_
      have hc132_1' : (p1.toInt < 11264) := by simpa [Int32.lt_iff_toInt_lt, ← Int32.toInt_inj] using hc132_1
      exact E142 (hh.trans ⟨fun q => q.elim (fun z => absurd z (by omega)) id, Or.inr⟩)
    · refine own_via (T' := T0) (g' := (mkF m 135 #[.val (.int p1)] [])) (fun _ kt => XS.icmpNo X0.here hx rfl (hb hby d1_132) rfl (flt hc132_1).1 kt) ?_
      refine own_via (T' := T0) (g' := (mkF m 136 #[.val (.int p1)] [(.int p1)])) (fun _ kt => XS.iloadN X0.here hx rfl (hb hby d1_135) rfl kt) ?_
      refine own_via (T' := T0) (g' := (mkF m 139 #[.val (.int p1)] [(.int (12271 : Int32)), (.int p1)])) (fun _ kt => XS.sipush X0.here hx rfl (hb hby d1_136) kt) ?_
      by_cases hc139_2 : (12271 : Int32) < p1
      · refine own_via (T' := T0) (g' := (mkF m 142 #[.val (.int p1)] [])) (fun _ kt => XS.icmpNo X0.here hx rfl (hb hby d1_139) rfl (tlt hc139_2).2.2.2 kt) ?_
        have hc132_1' : ¬ (p1.toInt < 11264) := by simpa [Int32.lt_iff_toInt_lt, ← Int32.toInt_inj] using hc132_1
        have hc139_2' : (12271 < p1.toInt) := by simpa [Int32.lt_iff_toInt_lt, ← Int32.toInt_inj] using hc139_2
        exact E142 (hh.trans ⟨fun q => q.elim (fun z => absurd z (by omega)) id, Or.inr⟩)
      · refine own_via (T' := T0) (g' := (mkF m 191 #[.val (.int p1)] [])) (fun _ kt => XS.icmpYes X0.here hx rfl (pc0 := 139) (pc' := 191) rfl (hb hby d1_139) rfl (flt hc139_2).2.2.2 (by decide) (by decide) kt) ?_
        have hc132_1' : ¬ (p1.toInt < 11264) := by simpa [Int32.lt_iff_toInt_lt, ← Int32.toInt_inj] using hc132_1
        have hc139_2' : ¬ (12271 < p1.toInt) := by simpa [Int32.lt_iff_toInt_lt, ← Int32.toInt_inj] using hc139_2
        exact E191 (hh.mpr (Or.inl ⟨by omega, by omega⟩))
  have E114 : (own_in p1 ↔ (8304 ≤ p1.toInt ∧ p1.toInt ≤ 8591) ∨ (11264 ≤ p1.toInt ∧ p1.toInt ≤ 12271) ∨ (12289 ≤ p1.toInt ∧ p1.toInt ≤ 55295) ∨ (63744 ≤ p1.toInt ∧ p1.toInt ≤ 64975) ∨ (65008 ≤ p1.toInt ∧ p1.toInt ≤ 65533) ∨ (65536 ≤ p1.toInt ∧ p1.toInt ≤ 983039)) → own_Ends p e below (own_Fin below s 0 0 (fun v h L => v = some (.int (own_nsv p1)) ∧ L = [] ∧ h = h0)) T0 (mkF m 114 #[.val (.int p1)] []) := fun hh => by
    refine own_via (T' := T0) (g' := (mkF m 115 #[.val (.int p1)] [(.int p1)])) (fun _ kt => XS.iloadN X0.here hx rfl (hb hby d1_114) rfl kt) ?_
    refine own_via (T' := T0) (g' := (mkF m 118 #[.val (.int p1)] [(.int (8304 : Int32)), (.int p1)])) (fun _ kt => XS.sipush X0.here hx rfl (hb hby d1_115) kt) ?_
    by_cases hc118_1 : p1 < (8304 : Int32)
    · refine own_via (T' := T0) (g' := (mkF m 128 #[.val (.int p1)] [])) (fun _ kt => XS.icmpYes X0.here hx rfl (pc0 := 118) (pc' := 128) rfl (hb hby d1_118) rfl (tlt hc118_1).1 (by decide) (by decide) kt) ?_
      have hc118_1' : (p1.toInt < 8304) := by simpa [Int32.lt_iff_toInt_lt, ← Int32.toInt_inj] using hc118_1
      exact E128 (hh.trans ⟨fun q => q.elim (fun z => absurd z (by omega)) id, Or.inr⟩)
    · refine own_via (T' := T0) (g' := (mkF m 121 #[.val (.int p1)] [])) (fun _ kt => XS.icmpNo X0.here hx rfl (hb hby d1_118) rfl (flt hc118_1).1 kt) ?_
      refine own_via (T' := T0) (g' := (mkF m 122 #[.val (.int p1)] [(.int p1)])) (fun _ kt => XS.iloadN X0.here hx rfl (hb hby d1_121) rfl kt) ?_
      refine own_via (T' := T0) (g' := (mkF m 125 #[.val (.int p1)] [(.int (8591 : Int32)), (.int p1)])) (fun _ kt => XS.sipush X0.here hx rfl (hb hby d1_122) kt) ?_
      by_cases hc125_2 : (8591 : Int32) < p1
      · refine own_via (T' := T0) (g' := (mkF m 128 #[.val (.int p1)] [])) (fun _ kt => XS.icmpNo X0.here hx rfl (hb hby d1_125) rfl (tlt hc125_2).2.2.2 kt) ?_
        have hc118_1' : ¬ (p1.toInt < 8304) := by simpa [Int32.lt_iff_toInt_lt, ← Int32.toInt_inj] using hc118_1
        have hc125_2' : (8591 < p1.toInt) := by simpa [Int32.lt_iff_toInt_lt, ← Int32.toInt_inj] using hc125_2
        exact E128 (hh.trans ⟨fun q => q.elim (fun z => absurd z (by omega)) id, Or.inr⟩)
      · refine own_via (T' := T0) (g' := (mkF m 191 #[.val (.int p1)] [])) (fun _ kt => XS.icmpYes X0.here hx rfl (pc0 := 125) (pc' := 191) rfl (hb hby d1_125) rfl (flt hc125_2).2.2.2 (by decide) (by decide) kt) ?_
        have hc118_1' : ¬ (p1.toInt < 8304) := by simpa [Int32.lt_iff_toInt_lt, ← Int32.toInt_inj] using hc118_1
        have hc125_2' : ¬ (8591 < p1.toInt) := by simpa [Int32.lt_iff_toInt_lt, ← Int32.toInt_inj] using hc125_2
        exact E191 (hh.mpr (Or.inl ⟨by omega, by omega⟩))
  have E100 : (own_in p1 ↔ (8204 ≤ p1.toInt ∧ p1.toInt ≤ 8205) ∨ (8304 ≤ p1.toInt ∧ p1.toInt ≤ 8591) ∨ (11264 ≤ p1.toInt ∧ p1.toInt ≤ 12271) ∨ (12289 ≤ p1.toInt ∧ p1.toInt ≤ 55295) ∨ (63744 ≤ p1.toInt ∧ p1.toInt ≤ 64975) ∨ (65008 ≤ p1.toInt ∧ p1.toInt ≤ 65533) ∨ (65536 ≤ p1.toInt ∧ p1.toInt ≤ 983039)) → own_Ends p e below (own_Fin below s 0 0 (fun v h L => v = some (.int (own_nsv p1)) ∧ L = [] ∧ h = h0)) T0 (mkF m 100 #[.val (.int p1)] []) := fun hh => by
    refine own_via (T' := T0) (g' := (mkF m 101 #[.val (.int p1)] [(.int p1)])) (fun _ kt => XS.iloadN X0.here hx rfl (hb hby d1_100) rfl kt) ?_
    refine own_via (T' := T0) (g' := (mkF m 104 #[.val (.int p1)] [(.int (8204 : Int32)), (.int p1)])) (fun _ kt => XS.sipush X0.here hx rfl (hb hby d1_101) kt) ?_
    by_cases hc104_1 : p1 < (8204 : Int32)
    · refine own_via (T' := T0) (g' := (mkF m 114 #[.val (.int p1)] [])) (fun _ kt => XS.icmpYes X0.here hx rfl (pc0 := 104) (pc' := 114) rfl (hb hby d1_104) rfl (tlt hc104_1).1 (by decide) (by decide) kt) ?_
      have hc104_1' : (p1.toInt < 8204) := by simpa [Int32.lt_iff_toInt_lt, ← Int32.toInt_inj] using hc104_1
      exact E114 (hh.trans ⟨fun q => q.elim (fun z => absurd z (by omega)) id, Or.inr⟩)
    · refine own_via (T' := T0) (g' := (mkF m 107 #[.val (.int p1)] [])) (fun _ kt => XS.icmpNo X0.here hx rfl (hb hby d1_104) rfl (flt hc104_1).1 kt) ?_
      refine own_via (T' := T0) (g' := (mkF m 108 #[.val (.int p1)] [(.int p1)])) (fun _ kt => XS.iloadN X0.here hx rfl (hb hby d1_107) rfl kt) ?_
      refine own_via (T' := T0) (g' := (mkF m 111 #[.val (.int p1)] [(.int (8205 : Int32)), (.int p1)])) (fun _ kt => XS.sipush X0.here hx rfl (hb hby d1_108) kt) ?_
      by_cases hc111_2 : (8205 : Int32) < p1
      · refine own_via (T' := T0) (g' := (mkF m 114 #[.val (.int p1)] [])) (fun _ kt => XS.icmpNo X0.here hx rfl (hb hby d1_111) rfl (tlt hc111_2).2.2.2 kt) ?_
        have hc104_1' : ¬ (p1.toInt < 8204) := by simpa [Int32.lt_iff_toInt_lt, ← Int32.toInt_inj] using hc104_1
        have hc111_2' : (8205 < p1.toInt) := by simpa [Int32.lt_iff_toInt_lt, ← Int32.toInt_inj] using hc111_2
        exact E114 (hh.trans ⟨fun q => q.elim (fun z => absurd z (by omega)) id, Or.inr⟩)
      · refine own_via (T' := T0) (g' := (mkF m 191 #[.val (.int p1)] [])) (fun _ kt => XS.icmpYes X0.here hx rfl (pc0 := 111) (pc' := 191) rfl (hb hby d1_111) rfl (flt hc111_2).2.2.2 (by decide) (by decide) kt) ?_
        have hc104_1' : ¬ (p1.toInt < 8204) := by simpa [Int32.lt_iff_toInt_lt, ← Int32.toInt_inj] using hc104_1
        have hc111_2' : ¬ (8205 < p1.toInt) := by simpa [Int32.lt_iff_toInt_lt, ← Int32.toInt_inj] using hc111_2
        exact E191 (hh.mpr (Or.inl ⟨by omega, by omega⟩))
  have E86 : (own_in p1 ↔ (895 ≤ p1.toInt ∧ p1.toInt ≤ 8191) ∨ (8204 ≤ p1.toInt ∧ p1.toInt ≤ 8205) ∨ (8304 ≤ p1.toInt ∧ p1.toInt ≤ 8591) ∨ (11264 ≤ p1.toInt ∧ p1.toInt ≤ 12271) ∨ (12289 ≤ p1.toInt ∧ p1.toInt ≤ 55295) ∨ (63744 ≤ p1.toInt ∧ p1.toInt ≤ 64975) ∨ (65008 ≤ p1.toInt ∧ p1.toInt ≤ 65533) ∨ (65536 ≤ p1.toInt ∧ p1.toInt ≤ 983039)) → own_Ends p e below (own_Fin below s 0 0 (fun v h L => v = some (.int (own_nsv p1)) ∧ L = [] ∧ h = h0)) T0 (mkF m 86 #[.val (.int p1)] []) := fun hh => by
    refine own_via (T' := T0) (g' := (mkF m 87 #[.val (.int p1)] [(.int p1)])) (fun _ kt => XS.iloadN X0.here hx rfl (hb hby d1_86) rfl kt) ?_
    refine own_via (T' := T0) (g' := (mkF m 90 #[.val (.int p1)] [(.int (895 : Int32)), (.int p1)])) (fun _ kt => XS.sipush X0.here hx rfl (hb hby d1_87) kt) ?_
    by_cases hc90_1 : p1 < (895 : Int32)
    · refine own_via (T' := T0) (g' := (mkF m 100 #[.val (.int p1)] [])) (fun _ kt => XS.icmpYes X0.here hx rfl (pc0 := 90) (pc' := 100) rfl (hb hby d1_90) rfl (tlt hc90_1).1 (by decide) (by decide) kt) ?_
      have hc90_1' : (p1.toInt < 895) := by simpa [Int32.lt_iff_toInt_lt, ← Int32.toInt_inj] using hc90_1
      exact E100 (hh.trans ⟨fun q => q.elim (fun z => absurd z (by omega)) id, Or.inr⟩)
    · refine own_via (T' := T0) (g' := (mkF m 93 #[.val (.int p1)] [])) (fun _ kt => XS.icmpNo X0.here hx rfl (hb hby d1_90) rfl (flt hc90_1).1 kt) ?_
      refine own_via (T' := T0) (g' := (mkF m 94 #[.val (.int p1)] [(.int p1)])) (fun _ kt => XS.iloadN X0.here hx rfl (hb hby d1_93) rfl kt) ?_
      refine own_via (T' := T0) (g' := (mkF m 97 #[.val (.int p1)] [(.int (8191 : Int32)), (.int p1)])) (fun _ kt => XS.sipush X0.here hx rfl (hb hby d1_94) kt) ?_
      by_cases hc97_2 : (8191 : Int32) < p1
      · refine own_via (T' := T0) (g' := (mkF m 100 #[.val (.int p1)] [])) (fun _ kt => XS.icmpNo X0.here hx rfl (hb hby d1_97) rfl (tlt hc97_2).2.2.2 kt) ?_
        have hc90_1' : ¬ (p1.toInt < 895) := by simpa [Int32.lt_iff_toInt_lt, ← Int32.toInt_inj] using hc90_1
        have hc97_2' : (8191 < p1.toInt) := by simpa [Int32.lt_iff_toInt_lt, ← Int32.toInt_inj] using hc97_2
        exact E100 (hh.trans ⟨fun q => q.elim (fun z => absurd z (by omega)) id, Or.inr⟩)
      · refine own_via (T' := T0) (g' := (mkF m 191 #[.val (.int p1)] [])) (fun _ kt => XS.icmpYes X0.here hx rfl (pc0 := 97) (pc' := 191) rfl (hb hby d1_97) rfl (flt hc97_2).2.2.2 (by decide) (by decide) kt) ?_
        have hc90_1' : ¬ (p1.toInt < 895) := by simpa [Int32.lt_iff_toInt_lt, ← Int32.toInt_inj] using hc90_1
        have hc97_2' : ¬ (8191 < p1.toInt) := by simpa [Int32.lt_iff_toInt_lt, ← Int32.toInt_inj] using hc97_2
        exact E191 (hh.mpr (Or.inl ⟨by omega, by omega⟩))
  have E72 : (own_in p1 ↔ (880 ≤ p1.toInt ∧ p1.toInt ≤ 893) ∨ (895 ≤ p1.toInt ∧ p1.toInt ≤ 8191) ∨ (8204 ≤ p1.toInt ∧ p1.toInt ≤ 8205) ∨ (8304 ≤ p1.toInt ∧ p1.toInt ≤ 8591) ∨ (11264 ≤ p1.toInt ∧ p1.toInt ≤ 12271) ∨ (12289 ≤ p1.toInt ∧ p1.toInt ≤ 55295) ∨ (63744 ≤ p1.toInt ∧ p1.toInt ≤ 64975) ∨ (65008 ≤ p1.toInt ∧ p1.toInt ≤ 65533) ∨ (65536 ≤ p1.toInt ∧ p1.toInt ≤ 983039)) → own_Ends p e below (own_Fin below s 0 0 (fun v h L => v = some (.int (own_nsv p1)) ∧ L = [] ∧ h = h0)) T0 (mkF m 72 #[.val (.int p1)] []) := fun hh => by
    refine own_via (T' := T0) (g' := (mkF m 73 #[.val (.int p1)] [(.int p1)])) (fun _ kt => XS.iloadN X0.here hx rfl (hb hby d1_72) rfl kt) ?_
    refine own_via (T' := T0) (g' := (mkF m 76 #[.val (.int p1)] [(.int (880 : Int32)), (.int p1)])) (fun _ kt => XS.sipush X0.here hx rfl (hb hby d1_73) kt) ?_
    by_cases hc76_1 : p1 < (880 : Int32)
    · refine own_via (T' := T0) (g' := (mkF m 86 #[.val (.int p1)] [])) (fun _ kt => XS.icmpYes X0.here hx rfl (pc0 := 76) (pc' := 86) rfl (hb hby d1_76) rfl (tlt hc76_1).1 (by decide) (by decide) kt) ?_
      have hc76_1' : (p1.toInt < 880) := by simpa [Int32.lt_iff_toInt_lt, ← Int32.toInt_inj] using hc76_1
      exact E86 (hh.trans ⟨fun q => q.elim (fun z => absurd z (by omega)) id, Or.inr⟩)
    · refine own_via (T' := T0) (g' := (mkF m 79 #[.val (.int p1)] [])) (fun _ kt => XS.icmpNo X0.here hx rfl (hb hby d1_76) rfl (flt hc76_1).1 kt) ?_
      refine own_via (T' := T0) (g' := (mkF m 80 #[.val (.int p1)] [(.int p1)])) (fun _ kt => XS.iloadN X0.here hx rfl (hb hby d1_79) rfl kt) ?_
      refine own_via (T' := T0) (g' := (mkF m 83 #[.val (.int p1)] [(.int (893 : Int32)), (.int p1)])) (fun _ kt => XS.sipush X0.here hx rfl (hb hby d1_80) kt) ?_
      by_cases hc83_2 : (893 : Int32) < p1
      · refine own_via (T' := T0) (g' := (mkF m 86 #[.val (.int p1)] [])) (fun _ kt => XS.icmpNo X0.here hx rfl (hb hby d1_83) rfl (tlt hc83_2).2.2.2 kt) ?_
        have hc76_1' : ¬ (p1.toInt < 880) := by simpa [Int32.lt_iff_toInt_lt, ← Int32.toInt_inj] using hc76_1
        have hc83_2' : (893 < p1.toInt) := by simpa [Int32.lt_iff_toInt_lt, ← Int32.toInt_inj] using hc83_2
        exact E86 (hh.trans ⟨fun q => q.elim (fun z => absurd z (by omega)) id, Or.inr⟩)
      · refine own_via (T' := T0) (g' := (mkF m 191 #[.val (.int p1)] [])) (fun _ kt => XS.icmpYes X0.here hx rfl (pc0 := 83) (pc' := 191) rfl (hb hby d1_83) rfl (flt hc83_2).2.2.2 (by decide) (by decide) kt) ?_
        have hc76_1' : ¬ (p1.toInt < 880) := by simpa [Int32.lt_iff_toInt_lt, ← Int32.toInt_inj] using hc76_1
        have hc83_2' : ¬ (893 < p1.toInt) := by simpa [Int32.lt_iff_toInt_lt, ← Int32.toInt_inj] using hc83_2
        exact E191 (hh.mpr (Or.inl ⟨by omega, by omega⟩))
  have E58 : (own_in p1 ↔ (248 ≤ p1.toInt ∧ p1.toInt ≤ 767) ∨ (880 ≤ p1.toInt ∧ p1.toInt ≤ 893) ∨ (895 ≤ p1.toInt ∧ p1.toInt ≤ 8191) ∨ (8204 ≤ p1.toInt ∧ p1.toInt ≤ 8205) ∨ (8304 ≤ p1.toInt ∧ p1.toInt ≤ 8591) ∨ (11264 ≤ p1.toInt ∧ p1.toInt ≤ 12271) ∨ (12289 ≤ p1.toInt ∧ p1.toInt ≤ 55295) ∨ (63744 ≤ p1.toInt ∧ p1.toInt ≤ 64975) ∨ (65008 ≤ p1.toInt ∧ p1.toInt ≤ 65533) ∨ (65536 ≤ p1.toInt ∧ p1.toInt ≤ 983039)) → own_Ends p e below (own_Fin below s 0 0 (fun v h L => v = some (.int (own_nsv p1)) ∧ L = [] ∧ h = h0)) T0 (mkF m 58 #[.val (.int p1)] []) := fun hh => by
    refine own_via (T' := T0) (g' := (mkF m 59 #[.val (.int p1)] [(.int p1)])) (fun _ kt => XS.iloadN X0.here hx rfl (hb hby d1_58) rfl kt) ?_
    refine own_via (T' := T0) (g' := (mkF m 62 #[.val (.int p1)] [(.int (248 : Int32)), (.int p1)])) (fun _ kt => XS.sipush X0.here hx rfl (hb hby d1_59) kt) ?_
    by_cases hc62_1 : p1 < (248 : Int32)
    · refine own_via (T' := T0) (g' := (mkF m 72 #[.val (.int p1)] [])) (fun _ kt => XS.icmpYes X0.here hx rfl (pc0 := 62) (pc' := 72) rfl (hb hby d1_62) rfl (tlt hc62_1).1 (by decide) (by decide) kt) ?_
      have hc62_1' : (p1.toInt < 248) := by simpa [Int32.lt_iff_toInt_lt, ← Int32.toInt_inj] using hc62_1
      exact E72 (hh.trans ⟨fun q => q.elim (fun z => absurd z (by omega)) id, Or.inr⟩)
    · refine own_via (T' := T0) (g' := (mkF m 65 #[.val (.int p1)] [])) (fun _ kt => XS.icmpNo X0.here hx rfl (hb hby d1_62) rfl (flt hc62_1).1 kt) ?_
      refine own_via (T' := T0) (g' := (mkF m 66 #[.val (.int p1)] [(.int p1)])) (fun _ kt => XS.iloadN X0.here hx rfl (hb hby d1_65) rfl kt) ?_
      refine own_via (T' := T0) (g' := (mkF m 69 #[.val (.int p1)] [(.int (767 : Int32)), (.int p1)])) (fun _ kt => XS.sipush X0.here hx rfl (hb hby d1_66) kt) ?_
      by_cases hc69_2 : (767 : Int32) < p1
      · refine own_via (T' := T0) (g' := (mkF m 72 #[.val (.int p1)] [])) (fun _ kt => XS.icmpNo X0.here hx rfl (hb hby d1_69) rfl (tlt hc69_2).2.2.2 kt) ?_
        have hc62_1' : ¬ (p1.toInt < 248) := by simpa [Int32.lt_iff_toInt_lt, ← Int32.toInt_inj] using hc62_1
        have hc69_2' : (767 < p1.toInt) := by simpa [Int32.lt_iff_toInt_lt, ← Int32.toInt_inj] using hc69_2
        exact E72 (hh.trans ⟨fun q => q.elim (fun z => absurd z (by omega)) id, Or.inr⟩)
      · refine own_via (T' := T0) (g' := (mkF m 191 #[.val (.int p1)] [])) (fun _ kt => XS.icmpYes X0.here hx rfl (pc0 := 69) (pc' := 191) rfl (hb hby d1_69) rfl (flt hc69_2).2.2.2 (by decide) (by decide) kt) ?_
        have hc62_1' : ¬ (p1.toInt < 248) := by simpa [Int32.lt_iff_toInt_lt, ← Int32.toInt_inj] using hc62_1
        have hc69_2' : ¬ (767 < p1.toInt) := by simpa [Int32.lt_iff_toInt_lt, ← Int32.toInt_inj] using hc69_2
        exact E191 (hh.mpr (Or.inl ⟨by omega, by omega⟩))
  have E44 : (own_in p1 ↔ (216 ≤ p1.toInt ∧ p1.toInt ≤ 246) ∨ (248 ≤ p1.toInt ∧ p1.toInt ≤ 767) ∨ (880 ≤ p1.toInt ∧ p1.toInt ≤ 893) ∨ (895 ≤ p1.toInt ∧ p1.toInt ≤ 8191) ∨ (8204 ≤ p1.toInt ∧ p1.toInt ≤ 8205) ∨ (8304 ≤ p1.toInt ∧ p1.toInt ≤ 8591) ∨ (11264 ≤ p1.toInt ∧ p1.toInt ≤ 12271) ∨ (12289 ≤ p1.toInt ∧ p1.toInt ≤ 55295) ∨ (63744 ≤ p1.toInt ∧ p1.toInt ≤ 64975) ∨ (65008 ≤ p1.toInt ∧ p1.toInt ≤ 65533) ∨ (65536 ≤ p1.toInt ∧ p1.toInt ≤ 983039)) → own_Ends p e below (own_Fin below s 0 0 (fun v h L => v = some (.int (own_nsv p1)) ∧ L = [] ∧ h = h0)) T0 (mkF m 44 #[.val (.int p1)] []) := fun hh => by
    refine own_via (T' := T0) (g' := (mkF m 45 #[.val (.int p1)] [(.int p1)])) (fun _ kt => XS.iloadN X0.here hx rfl (hb hby d1_44) rfl kt) ?_
    refine own_via (T' := T0) (g' := (mkF m 48 #[.val (.int p1)] [(.int (216 : Int32)), (.int p1)])) (fun _ kt => XS.sipush X0.here hx rfl (hb hby d1_45) kt) ?_
    by_cases hc48_1 : p1 < (216 : Int32)
    · refine own_via (T' := T0) (g' := (mkF m 58 #[.val (.int p1)] [])) (fun _ kt => XS.icmpYes X0.here hx rfl (pc0 := 48) (pc' := 58) rfl (hb hby d1_48) rfl (tlt hc48_1).1 (by decide) (by decide) kt) ?_
      have hc48_1' : (p1.toInt < 216) := by simpa [Int32.lt_iff_toInt_lt, ← Int32.toInt_inj] using hc48_1
      exact E58 (hh.trans ⟨fun q => q.elim (fun z => absurd z (by omega)) id, Or.inr⟩)
    · refine own_via (T' := T0) (g' := (mkF m 51 #[.val (.int p1)] [])) (fun _ kt => XS.icmpNo X0.here hx rfl (hb hby d1_48) rfl (flt hc48_1).1 kt) ?_
      refine own_via (T' := T0) (g' := (mkF m 52 #[.val (.int p1)] [(.int p1)])) (fun _ kt => XS.iloadN X0.here hx rfl (hb hby d1_51) rfl kt) ?_
      refine own_via (T' := T0) (g' := (mkF m 55 #[.val (.int p1)] [(.int (246 : Int32)), (.int p1)])) (fun _ kt => XS.sipush X0.here hx rfl (hb hby d1_52) kt) ?_
      by_cases hc55_2 : (246 : Int32) < p1
      · refine own_via (T' := T0) (g' := (mkF m 58 #[.val (.int p1)] [])) (fun _ kt => XS.icmpNo X0.here hx rfl (hb hby d1_55) rfl (tlt hc55_2).2.2.2 kt) ?_
        have hc48_1' : ¬ (p1.toInt < 216) := by simpa [Int32.lt_iff_toInt_lt, ← Int32.toInt_inj] using hc48_1
        have hc55_2' : (246 < p1.toInt) := by simpa [Int32.lt_iff_toInt_lt, ← Int32.toInt_inj] using hc55_2
        exact E58 (hh.trans ⟨fun q => q.elim (fun z => absurd z (by omega)) id, Or.inr⟩)
      · refine own_via (T' := T0) (g' := (mkF m 191 #[.val (.int p1)] [])) (fun _ kt => XS.icmpYes X0.here hx rfl (pc0 := 55) (pc' := 191) rfl (hb hby d1_55) rfl (flt hc55_2).2.2.2 (by decide) (by decide) kt) ?_
        have hc48_1' : ¬ (p1.toInt < 216) := by simpa [Int32.lt_iff_toInt_lt, ← Int32.toInt_inj] using hc48_1
        have hc55_2' : ¬ (246 < p1.toInt) := by simpa [Int32.lt_iff_toInt_lt, ← Int32.toInt_inj] using hc55_2
        exact E191 (hh.mpr (Or.inl ⟨by omega, by omega⟩))
  have E30 : (own_in p1 ↔ (192 ≤ p1.toInt ∧ p1.toInt ≤ 214) ∨ (216 ≤ p1.toInt ∧ p1.toInt ≤ 246) ∨ (248 ≤ p1.toInt ∧ p1.toInt ≤ 767) ∨ (880 ≤ p1.toInt ∧ p1.toInt ≤ 893) ∨ (895 ≤ p1.toInt ∧ p1.toInt ≤ 8191) ∨ (8204 ≤ p1.toInt ∧ p1.toInt ≤ 8205) ∨ (8304 ≤ p1.toInt ∧ p1.toInt ≤ 8591) ∨ (11264 ≤ p1.toInt ∧ p1.toInt ≤ 12271) ∨ (12289 ≤ p1.toInt ∧ p1.toInt ≤ 55295) ∨ (63744 ≤ p1.toInt ∧ p1.toInt ≤ 64975) ∨ (65008 ≤ p1.toInt ∧ p1.toInt ≤ 65533) ∨ (65536 ≤ p1.toInt ∧ p1.toInt ≤ 983039)) → own_Ends p e below (own_Fin below s 0 0 (fun v h L => v = some (.int (own_nsv p1)) ∧ L = [] ∧ h = h0)) T0 (mkF m 30 #[.val (.int p1)] []) := fun hh => by
    refine own_via (T' := T0) (g' := (mkF m 31 #[.val (.int p1)] [(.int p1)])) (fun _ kt => XS.iloadN X0.here hx rfl (hb hby d1_30) rfl kt) ?_
    refine own_via (T' := T0) (g' := (mkF m 34 #[.val (.int p1)] [(.int (192 : Int32)), (.int p1)])) (fun _ kt => XS.sipush X0.here hx rfl (hb hby d1_31) kt) ?_
    by_cases hc34_1 : p1 < (192 : Int32)
    · refine own_via (T' := T0) (g' := (mkF m 44 #[.val (.int p1)] [])) (fun _ kt => XS.icmpYes X0.here hx rfl (pc0 := 34) (pc' := 44) rfl (hb hby d1_34) rfl (tlt hc34_1).1 (by decide) (by decide) kt) ?_
      have hc34_1' : (p1.toInt < 192) := by simpa [Int32.lt_iff_toInt_lt, ← Int32.toInt_inj] using hc34_1
      exact E44 (hh.trans ⟨fun q => q.elim (fun z => absurd z (by omega)) id, Or.inr⟩)
    · refine own_via (T' := T0) (g' := (mkF m 37 #[.val (.int p1)] [])) (fun _ kt => XS.icmpNo X0.here hx rfl (hb hby d1_34) rfl (flt hc34_1).1 kt) ?_
      refine own_via (T' := T0) (g' := (mkF m 38 #[.val (.int p1)] [(.int p1)])) (fun _ kt => XS.iloadN X0.here hx rfl (hb hby d1_37) rfl kt) ?_
      refine own_via (T' := T0) (g' := (mkF m 41 #[.val (.int p1)] [(.int (214 : Int32)), (.int p1)])) (fun _ kt => XS.sipush X0.here hx rfl (hb hby d1_38) kt) ?_
      by_cases hc41_2 : (214 : Int32) < p1
      · refine own_via (T' := T0) (g' := (mkF m 44 #[.val (.int p1)] [])) (fun _ kt => XS.icmpNo X0.here hx rfl (hb hby d1_41) rfl (tlt hc41_2).2.2.2 kt) ?_
        have hc34_1' : ¬ (p1.toInt < 192) := by simpa [Int32.lt_iff_toInt_lt, ← Int32.toInt_inj] using hc34_1
        have hc41_2' : (214 < p1.toInt) := by simpa [Int32.lt_iff_toInt_lt, ← Int32.toInt_inj] using hc41_2
        exact E44 (hh.trans ⟨fun q => q.elim (fun z => absurd z (by omega)) id, Or.inr⟩)
      · refine own_via (T' := T0) (g' := (mkF m 191 #[.val (.int p1)] [])) (fun _ kt => XS.icmpYes X0.here hx rfl (pc0 := 41) (pc' := 191) rfl (hb hby d1_41) rfl (flt hc41_2).2.2.2 (by decide) (by decide) kt) ?_
        have hc34_1' : ¬ (p1.toInt < 192) := by simpa [Int32.lt_iff_toInt_lt, ← Int32.toInt_inj] using hc34_1
        have hc41_2' : ¬ (214 < p1.toInt) := by simpa [Int32.lt_iff_toInt_lt, ← Int32.toInt_inj] using hc41_2
        exact E191 (hh.mpr (Or.inl ⟨by omega, by omega⟩))
  have E24 : (own_in p1 ↔ (95 ≤ p1.toInt ∧ p1.toInt ≤ 95) ∨ (192 ≤ p1.toInt ∧ p1.toInt ≤ 214) ∨ (216 ≤ p1.toInt ∧ p1.toInt ≤ 246) ∨ (248 ≤ p1.toInt ∧ p1.toInt ≤ 767) ∨ (880 ≤ p1.toInt ∧ p1.toInt ≤ 893) ∨ (895 ≤ p1.toInt ∧ p1.toInt ≤ 8191) ∨ (8204 ≤ p1.toInt ∧ p1.toInt ≤ 8205) ∨ (8304 ≤ p1.toInt ∧ p1.toInt ≤ 8591) ∨ (11264 ≤ p1.toInt ∧ p1.toInt ≤ 12271) ∨ (12289 ≤ p1.toInt ∧ p1.toInt ≤ 55295) ∨ (63744 ≤ p1.toInt ∧ p1.toInt ≤ 64975) ∨ (65008 ≤ p1.toInt ∧ p1.toInt ≤ 65533) ∨ (65536 ≤ p1.toInt ∧ p1.toInt ≤ 983039)) → own_Ends p e below (own_Fin below s 0 0 (fun v h L => v = some (.int (own_nsv p1)) ∧ L = [] ∧ h = h0)) T0 (mkF m 24 #[.val (.int p1)] []) := fun hh => by
    refine own_via (T' := T0) (g' := (mkF m 25 #[.val (.int p1)] [(.int p1)])) (fun _ kt => XS.iloadN X0.here hx rfl (hb hby d1_24) rfl kt) ?_
    refine own_via (T' := T0) (g' := (mkF m 27 #[.val (.int p1)] [(.int (95 : Int32)), (.int p1)])) (fun _ kt => XS.bipush X0.here hx rfl (hb hby d1_25) kt) ?_
    by_cases hc27_1 : p1 = (95 : Int32)
    · refine own_via (T' := T0) (g' := (mkF m 191 #[.val (.int p1)] [])) (fun _ kt => XS.icmpYes X0.here hx rfl (pc0 := 27) (pc' := 191) rfl (hb hby d1_27) rfl (teq hc27_1).1 (by decide) (by decide) kt) ?_
      have hc27_1' : (p1.toInt = 95) := by simpa [Int32.lt_iff_toInt_lt, ← Int32.toInt_inj] using hc27_1
      exact E191 (hh.mpr (Or.inl ⟨by omega, by omega⟩))
    · refine own_via (T' := T0) (g' := (mkF m 30 #[.val (.int p1)] [])) (fun _ kt => XS.icmpNo X0.here hx rfl (hb hby d1_27) rfl (feq hc27_1).1 kt) ?_
      have hc27_1' : ¬ (p1.toInt = 95) := by simpa [Int32.lt_iff_toInt_lt, ← Int32.toInt_inj] using hc27_1
      exact E30 (hh.trans ⟨fun q => q.elim (fun z => absurd z (by omega)) id, Or.inr⟩)
  have E12 : (own_in p1 ↔ (65 ≤ p1.toInt ∧ p1.toInt ≤ 90) ∨ (95 ≤ p1.toInt ∧ p1.toInt ≤ 95) ∨ (192 ≤ p1.toInt ∧ p1.toInt ≤ 214) ∨ (216 ≤ p1.toInt ∧ p1.toInt ≤ 246) ∨ (248 ≤ p1.toInt ∧ p1.toInt ≤ 767) ∨ (880 ≤ p1.toInt ∧ p1.toInt ≤ 893) ∨ (895 ≤ p1.toInt ∧ p1.toInt ≤ 8191) ∨ (8204 ≤ p1.toInt ∧ p1.toInt ≤ 8205) ∨ (8304 ≤ p1.toInt ∧ p1.toInt ≤ 8591) ∨ (11264 ≤ p1.toInt ∧ p1.toInt ≤ 12271) ∨ (12289 ≤ p1.toInt ∧ p1.toInt ≤ 55295) ∨ (63744 ≤ p1.toInt ∧ p1.toInt ≤ 64975) ∨ (65008 ≤ p1.toInt ∧ p1.toInt ≤ 65533) ∨ (65536 ≤ p1.toInt ∧ p1.toInt ≤ 983039)) → own_Ends p e below (own_Fin below s 0 0 (fun v h L => v = some (.int (own_nsv p1)) ∧ L = [] ∧ h = h0)) T0 (mkF m 12 #[.val (.int p1)] []) := fun hh => by
    refine own_via (T' := T0) (g' := (mkF m 13 #[.val (.int p1)] [(.int p1)])) (fun _ kt => XS.iloadN X0.here hx rfl (hb hby d1_12) rfl kt) ?_
    refine own_via (T' := T0) (g' := (mkF m 15 #[.val (.int p1)] [(.int (65 : Int32)), (.int p1)])) (fun _ kt => XS.bipush X0.here hx rfl (hb hby d1_13) kt) ?_
    by_cases hc15_1 : p1 < (65 : Int32)
    · refine own_via (T' := T0) (g' := (mkF m 24 #[.val (.int p1)] [])) (fun _ kt => XS.icmpYes X0.here hx rfl (pc0 := 15) (pc' := 24) rfl (hb hby d1_15) rfl (tlt hc15_1).1 (by decide) (by decide) kt) ?_
      have hc15_1' : (p1.toInt < 65) := by simpa [Int32.lt_iff_toInt_lt, ← Int32.toInt_inj] using hc15_1
      exact E24 (hh.trans ⟨fun q => q.elim (fun z => absurd z (by omega)) id, Or.inr⟩)
    · refine own_via (T' := T0) (g' := (mkF m 18 #[.val (.int p1)] [])) (fun _ kt => XS.icmpNo X0.here hx rfl (hb hby d1_15) rfl (flt hc15_1).1 kt) ?_
      refine own_via (T' := T0) (g' := (mkF m 19 #[.val (.int p1)] [(.int p1)])) (fun _ kt => XS.iloadN X0.here hx rfl (hb hby d1_18) rfl kt) ?_
      refine own_via (T' := T0) (g' := (mkF m 21 #[.val (.int p1)] [(.int (90 : Int32)), (.int p1)])) (fun _ kt => XS.bipush X0.here hx rfl (hb hby d1_19) kt) ?_
      by_cases hc21_2 : (90 : Int32) < p1
      · refine own_via (T' := T0) (g' := (mkF m 24 #[.val (.int p1)] [])) (fun _ kt => XS.icmpNo X0.here hx rfl (hb hby d1_21) rfl (tlt hc21_2).2.2.2 kt) ?_
        have hc15_1' : ¬ (p1.toInt < 65) := by simpa [Int32.lt_iff_toInt_lt, ← Int32.toInt_inj] using hc15_1
        have hc21_2' : (90 < p1.toInt) := by simpa [Int32.lt_iff_toInt_lt, ← Int32.toInt_inj] using hc21_2
        exact E24 (hh.trans ⟨fun q => q.elim (fun z => absurd z (by omega)) id, Or.inr⟩)
      · refine own_via (T' := T0) (g' := (mkF m 191 #[.val (.int p1)] [])) (fun _ kt => XS.icmpYes X0.here hx rfl (pc0 := 21) (pc' := 191) rfl (hb hby d1_21) rfl (flt hc21_2).2.2.2 (by decide) (by decide) kt) ?_
        have hc15_1' : ¬ (p1.toInt < 65) := by simpa [Int32.lt_iff_toInt_lt, ← Int32.toInt_inj] using hc15_1
        have hc21_2' : ¬ (90 < p1.toInt) := by simpa [Int32.lt_iff_toInt_lt, ← Int32.toInt_inj] using hc21_2
        exact E191 (hh.mpr (Or.inl ⟨by omega, by omega⟩))
  have E0 : (own_in p1 ↔ (97 ≤ p1.toInt ∧ p1.toInt ≤ 122) ∨ (65 ≤ p1.toInt ∧ p1.toInt ≤ 90) ∨ (95 ≤ p1.toInt ∧ p1.toInt ≤ 95) ∨ (192 ≤ p1.toInt ∧ p1.toInt ≤ 214) ∨ (216 ≤ p1.toInt ∧ p1.toInt ≤ 246) ∨ (248 ≤ p1.toInt ∧ p1.toInt ≤ 767) ∨ (880 ≤ p1.toInt ∧ p1.toInt ≤ 893) ∨ (895 ≤ p1.toInt ∧ p1.toInt ≤ 8191) ∨ (8204 ≤ p1.toInt ∧ p1.toInt ≤ 8205) ∨ (8304 ≤ p1.toInt ∧ p1.toInt ≤ 8591) ∨ (11264 ≤ p1.toInt ∧ p1.toInt ≤ 12271) ∨ (12289 ≤ p1.toInt ∧ p1.toInt ≤ 55295) ∨ (63744 ≤ p1.toInt ∧ p1.toInt ≤ 64975) ∨ (65008 ≤ p1.toInt ∧ p1.toInt ≤ 65533) ∨ (65536 ≤ p1.toInt ∧ p1.toInt ≤ 983039)) → own_Ends p e below (own_Fin below s 0 0 (fun v h L => v = some (.int (own_nsv p1)) ∧ L = [] ∧ h = h0)) T0 (mkF m 0 #[.val (.int p1)] []) := fun hh => by
    refine own_via (T' := T0) (g' := (mkF m 1 #[.val (.int p1)] [(.int p1)])) (fun _ kt => XS.iloadN X0.here hx rfl (hb hby d1_0) rfl kt) ?_
    refine own_via (T' := T0) (g' := (mkF m 3 #[.val (.int p1)] [(.int (97 : Int32)), (.int p1)])) (fun _ kt => XS.bipush X0.here hx rfl (hb hby d1_1) kt) ?_
    by_cases hc3_1 : p1 < (97 : Int32)
    · refine own_via (T' := T0) (g' := (mkF m 12 #[.val (.int p1)] [])) (fun _ kt => XS.icmpYes X0.here hx rfl (pc0 := 3) (pc' := 12) rfl (hb hby d1_3) rfl (tlt hc3_1).1 (by decide) (by decide) kt) ?_
      have hc3_1' : (p1.toInt < 97) := by simpa [Int32.lt_iff_toInt_lt, ← Int32.toInt_inj] using hc3_1
      exact E12 (hh.trans ⟨fun q => q.elim (fun z => absurd z (by omega)) id, Or.inr⟩)
    · refine own_via (T' := T0) (g' := (mkF m 6 #[.val (.int p1)] [])) (fun _ kt => XS.icmpNo X0.here hx rfl (hb hby d1_3) rfl (flt hc3_1).1 kt) ?_
      refine own_via (T' := T0) (g' := (mkF m 7 #[.val (.int p1)] [(.int p1)])) (fun _ kt => XS.iloadN X0.here hx rfl (hb hby d1_6) rfl kt) ?_
      refine own_via (T' := T0) (g' := (mkF m 9 #[.val (.int p1)] [(.int (122 : Int32)), (.int p1)])) (fun _ kt => XS.bipush X0.here hx rfl (hb hby d1_7) kt) ?_
      by_cases hc9_2 : (122 : Int32) < p1
      · refine own_via (T' := T0) (g' := (mkF m 12 #[.val (.int p1)] [])) (fun _ kt => XS.icmpNo X0.here hx rfl (hb hby d1_9) rfl (tlt hc9_2).2.2.2 kt) ?_
        have hc3_1' : ¬ (p1.toInt < 97) := by simpa [Int32.lt_iff_toInt_lt, ← Int32.toInt_inj] using hc3_1
        have hc9_2' : (122 < p1.toInt) := by simpa [Int32.lt_iff_toInt_lt, ← Int32.toInt_inj] using hc9_2
        exact E12 (hh.trans ⟨fun q => q.elim (fun z => absurd z (by omega)) id, Or.inr⟩)
      · refine own_via (T' := T0) (g' := (mkF m 191 #[.val (.int p1)] [])) (fun _ kt => XS.icmpYes X0.here hx rfl (pc0 := 9) (pc' := 191) rfl (hb hby d1_9) rfl (flt hc9_2).2.2.2 (by decide) (by decide) kt) ?_
        have hc3_1' : ¬ (p1.toInt < 97) := by simpa [Int32.lt_iff_toInt_lt, ← Int32.toInt_inj] using hc3_1
        have hc9_2' : ¬ (122 < p1.toInt) := by simpa [Int32.lt_iff_toInt_lt, ← Int32.toInt_inj] using hc9_2
        exact E191 (hh.mpr (Or.inl ⟨by omega, by omega⟩))
  exact E0 Iff.rfl
theorem own_lt14 {n : Nat} (hn : n < 15) : Int32.ofNat n < 14 ↔ n < 14 := by
  rw [Int32.lt_iff_toInt_lt, own_ofNat (by omega)]
  show (n : Int) < 14 ↔ _
  omega
theorem pn_0 : plainName "com/example/infoset/infoset/xdm/XmlNamesIsNameStartPinLaw" = true := by first | (simp [plainName, overriddenIn]; done) | decide +kernel
theorem ef_0 (m : MethodId) (x0 : Int32) (x1 : Int32) : entryFrame m #[(.int x0), (.int x1)] maxLocals = mkF m 0 #[.val (.int x0), .val (.int x1), .unset, .unset, .unset, .unset, .unset, .unset, .unset, .unset, .unset, .unset] [] := by first | (simp [entryFrame, mkF, argsToLocals, Value.category, maxLocals]; done) | rfl
set_option maxRecDepth 65536 in
set_option maxHeartbeats 40000000 in
theorem rm0 (l : Launch) (Z : State) (a0 : Array Value) (hw : ∀ d ∈ tables_1, d.before a0 Z = true) (ws : List Jvm.Cond) (p1 p2 : Int32) (h0 : Heap) (n0 : Nat) (Z0 : n0 ≤ h0.size) :
    own_Con l Z x code maxLocals ret ws room_1 #[(.int p1), (.int p2)] h0 (fun v h L => v = some (.int 1) ∧ Fr n0 L) := by
  refine own_body (plainFor_of_name pn_0) ?_
  intro p e s m below meth c T0 hx hby hml hown hnm hret hlk hZ X0 e0
  replace hown : s.vm.findClass "com/example/infoset/infoset/xdm/XmlNamesIsNameStartPinLaw" = some m.cls := hown
  replace hret : meth.sig.returnType = (some .boolean) := hret
  replace hnm : meth.name = "law" := hnm
  rw [ef_0 m p1 p2]
  have N0 := Fr.nil n0
  refine own_via (T' := T0) (g' := (mkF m 2 #[.val (.int p1), .val (.int p2), .unset, .unset, .unset, .unset, .unset, .unset, .unset, .unset, .unset, .unset] [(.int (15 : Int32))])) (fun _ kt => XS.bipush X0.here hx rfl (hb hby at_0) kt) ?_
  obtain ⟨T1, h1, b1, gb1, X1, e1, E1, A1, st1⟩ := own_newarr X0 hx hZ (hw _ (List.mem_of_getElem? (i := 0) rfl)) e0 (g := (mkF m 2 #[.val (.int p1), .val (.int p2), .unset, .unset, .unset, .unset, .unset, .unset, .unset, .unset, .unset, .unset] [(.int (15 : Int32))])) rfl (hb hby at_2) (j := (15 : Int32)) (n := 15) rfl (by decide) rfl (by decide) (by decide)
  have gg1 : n0 ≤ b1 := Nat.le_trans Z0 (Nat.le_of_eq gb1.symm)
  have z1 : n0 ≤ h1.size := Nat.le_trans Z0 E1.1
  replace A1 : own_Ar Z h1 b1 .int 15 (fun _ => .int 0) := A1
  refine own_via (T' := T1) (g' := (mkF m 4 #[.val (.int p1), .val (.int p2), .unset, .unset, .unset, .unset, .unset, .unset, .unset, .unset, .unset, .unset] [(.ref b1)])) (fun _ kt => st1 _ kt) ?_
  refine own_via (T' := T1) (g' := (mkF m 5 #[.val (.int p1), .val (.int p2), .unset, .unset, .unset, .unset, .unset, .unset, .unset, .unset, .unset, .unset] [(.ref b1), (.ref b1)])) (fun _ kt => XS.dup X1.here hx rfl (hb hby at_4) rfl rfl kt) ?_
  refine own_via (T' := T1) (g' := (mkF m 6 #[.val (.int p1), .val (.int p2), .unset, .unset, .unset, .unset, .unset, .unset, .unset, .unset, .unset, .unset] [(.int (0 : Int32)), (.ref b1), (.ref b1)])) (fun _ kt => XS.iconst X1.here hx rfl (hb hby at_5) kt) ?_
  refine own_via (T' := T1) (g' := (mkF m 8 #[.val (.int p1), .val (.int p2), .unset, .unset, .unset, .unset, .unset, .unset, .unset, .unset, .unset, .unset] [(.int (65 : Int32)), (.int (0 : Int32)), (.ref b1), (.ref b1)])) (fun _ kt => XS.bipush X1.here hx rfl (hb hby at_6) kt) ?_
  obtain ⟨T2, h2, X2, e2, W2, A2, st2⟩ := own_iastore X1 hx hZ e1 A1 (j := (0 : Int32)) (i := 0) rfl (by decide) (g := (mkF m 8 #[.val (.int p1), .val (.int p2), .unset, .unset, .unset, .unset, .unset, .unset, .unset, .unset, .unset, .unset] [(.int (65 : Int32)), (.int (0 : Int32)), (.ref b1), (.ref b1)])) rfl rfl (hb hby at_8)
  have z2 : n0 ≤ h2.size := Nat.le_trans z1 (Nat.le_of_eq W2.size.symm)
  have N2 := Fr.snoc X2 N0 gg1
  refine own_via (T' := T2) (g' := (mkF m 9 #[.val (.int p1), .val (.int p2), .unset, .unset, .unset, .unset, .unset, .unset, .unset, .unset, .unset, .unset] [(.ref b1)])) (fun _ kt => st2 _ kt) ?_
  refine own_via (T' := T2) (g' := (mkF m 10 #[.val (.int p1), .val (.int p2), .unset, .unset, .unset, .unset, .unset, .unset, .unset, .unset, .unset, .unset] [(.ref b1), (.ref b1)])) (fun _ kt => XS.dup X2.here hx rfl (hb hby at_9) rfl rfl kt) ?_
  refine own_via (T' := T2) (g' := (mkF m 11 #[.val (.int p1), .val (.int p2), .unset, .unset, .unset, .unset, .unset, .unset, .unset, .unset, .unset, .unset] [(.int (1 : Int32)), (.ref b1), (.ref b1)])) (fun _ kt => XS.iconst X2.here hx rfl (hb hby at_10) kt) ?_
  refine own_via (T' := T2) (g' := (mkF m 13 #[.val (.int p1), .val (.int p2), .unset, .unset, .unset, .unset, .unset, .unset, .unset, .unset, .unset, .unset] [(.int (95 : Int32)), (.int (1 : Int32)), (.ref b1), (.ref b1)])) (fun _ kt => XS.bipush X2.here hx rfl (hb hby at_11) kt) ?_
  obtain ⟨T3, h3, X3, e3, W3, A3, st3⟩ := own_iastore X2 hx hZ e2 A2 (j := (1 : Int32)) (i := 1) rfl (by decide) (g := (mkF m 13 #[.val (.int p1), .val (.int p2), .unset, .unset, .unset, .unset, .unset, .unset, .unset, .unset, .unset, .unset] [(.int (95 : Int32)), (.int (1 : Int32)), (.ref b1), (.ref b1)])) rfl rfl (hb hby at_13)
  have z3 : n0 ≤ h3.size := Nat.le_trans z2 (Nat.le_of_eq W3.size.symm)
  have N3 := Fr.snoc X3 N2 gg1
  refine own_via (T' := T3) (g' := (mkF m 14 #[.val (.int p1), .val (.int p2), .unset, .unset, .unset, .unset, .unset, .unset, .unset, .unset, .unset, .unset] [(.ref b1)])) (fun _ kt => st3 _ kt) ?_
  refine own_via (T' := T3) (g' := (mkF m 15 #[.val (.int p1), .val (.int p2), .unset, .unset, .unset, .unset, .unset, .unset, .unset, .unset, .unset, .unset] [(.ref b1), (.ref b1)])) (fun _ kt => XS.dup X3.here hx rfl (hb hby at_14) rfl rfl kt) ?_
  refine own_via (T' := T3) (g' := (mkF m 16 #[.val (.int p1), .val (.int p2), .unset, .unset, .unset, .unset, .unset, .unset, .unset, .unset, .unset, .unset] [(.int (2 : Int32)), (.ref b1), (.ref b1)])) (fun _ kt => XS.iconst X3.here hx rfl (hb hby at_15) kt) ?_
  refine own_via (T' := T3) (g' := (mkF m 18 #[.val (.int p1), .val (.int p2), .unset, .unset, .unset, .unset, .unset, .unset, .unset, .unset, .unset, .unset] [(.int (97 : Int32)), (.int (2 : Int32)), (.ref b1), (.ref b1)])) (fun _ kt => XS.bipush X3.here hx rfl (hb hby at_16) kt) ?_
  obtain ⟨T4, h4, X4, e4, W4, A4, st4⟩ := own_iastore X3 hx hZ e3 A3 (j := (2 : Int32)) (i := 2) rfl (by decide) (g := (mkF m 18 #[.val (.int p1), .val (.int p2), .unset, .unset, .unset, .unset, .unset, .unset, .unset, .unset, .unset, .unset] [(.int (97 : Int32)), (.int (2 : Int32)), (.ref b1), (.ref b1)])) rfl rfl (hb hby at_18)
  have z4 : n0 ≤ h4.size := Nat.le_trans z3 (Nat.le_of_eq W4.size.symm)
  have N4 := Fr.snoc X4 N3 gg1
  refine own_via (T' := T4) (g' := (mkF m 19 #[.val (.int p1), .val (.int p2), .unset, .unset, .unset, .unset, .unset, .unset, .unset, .unset, .unset, .unset] [(.ref b1)])) (fun _ kt => st4 _ kt) ?_
  refine own_via (T' := T4) (g' := (mkF m 20 #[.val (.int p1), .val (.int p2), .unset, .unset, .unset, .unset, .unset, .unset, .unset, .unset, .unset, .unset] [(.ref b1), (.ref b1)])) (fun _ kt => XS.dup X4.here hx rfl (hb hby at_19) rfl rfl kt) ?_
  refine own_via (T' := T4) (g' := (mkF m 21 #[.val (.int p1), .val (.int p2), .unset, .unset, .unset, .unset, .unset, .unset, .unset, .unset, .unset, .unset] [(.int (3 : Int32)), (.ref b1), (.ref b1)])) (fun _ kt => XS.iconst X4.here hx rfl (hb hby at_20) kt) ?_
  refine own_via (T' := T4) (g' := (mkF m 24 #[.val (.int p1), .val (.int p2), .unset, .unset, .unset, .unset, .unset, .unset, .unset, .unset, .unset, .unset] [(.int (192 : Int32)), (.int (3 : Int32)), (.ref b1), (.ref b1)])) (fun _ kt => XS.sipush X4.here hx rfl (hb hby at_21) kt) ?_
  obtain ⟨T5, h5, X5, e5, W5, A5, st5⟩ := own_iastore X4 hx hZ e4 A4 (j := (3 : Int32)) (i := 3) rfl (by decide) (g := (mkF m 24 #[.val (.int p1), .val (.int p2), .unset, .unset, .unset, .unset, .unset, .unset, .unset, .unset, .unset, .unset] [(.int (192 : Int32)), (.int (3 : Int32)), (.ref b1), (.ref b1)])) rfl rfl (hb hby at_24)
  have z5 : n0 ≤ h5.size := Nat.le_trans z4 (Nat.le_of_eq W5.size.symm)
  have N5 := Fr.snoc X5 N4 gg1
  refine own_via (T' := T5) (g' := (mkF m 25 #[.val (.int p1), .val (.int p2), .unset, .unset, .unset, .unset, .unset, .unset, .unset, .unset, .unset, .unset] [(.ref b1)])) (fun _ kt => st5 _ kt) ?_
  refine own_via (T' := T5) (g' := (mkF m 26 #[.val (.int p1), .val (.int p2), .unset, .unset, .unset, .unset, .unset, .unset, .unset, .unset, .unset, .unset] [(.ref b1), (.ref b1)])) (fun _ kt => XS.dup X5.here hx rfl (hb hby at_25) rfl rfl kt) ?_
  refine own_via (T' := T5) (g' := (mkF m 27 #[.val (.int p1), .val (.int p2), .unset, .unset, .unset, .unset, .unset, .unset, .unset, .unset, .unset, .unset] [(.int (4 : Int32)), (.ref b1), (.ref b1)])) (fun _ kt => XS.iconst X5.here hx rfl (hb hby at_26) kt) ?_
  refine own_via (T' := T5) (g' := (mkF m 30 #[.val (.int p1), .val (.int p2), .unset, .unset, .unset, .unset, .unset, .unset, .unset, .unset, .unset, .unset] [(.int (216 : Int32)), (.int (4 : Int32)), (.ref b1), (.ref b1)])) (fun _ kt => XS.sipush X5.here hx rfl (hb hby at_27) kt) ?_
  obtain ⟨T6, h6, X6, e6, W6, A6, st6⟩ := own_iastore X5 hx hZ e5 A5 (j := (4 : Int32)) (i := 4) rfl (by decide) (g := (mkF m 30 #[.val (.int p1), .val (.int p2), .unset, .unset, .unset, .unset, .unset, .unset, .unset, .unset, .unset, .unset] [(.int (216 : Int32)), (.int (4 : Int32)), (.ref b1), (.ref b1)])) rfl rfl (hb hby at_30)
  have z6 : n0 ≤ h6.size := Nat.le_trans z5 (Nat.le_of_eq W6.size.symm)
  have N6 := Fr.snoc X6 N5 gg1
  refine own_via (T' := T6) (g' := (mkF m 31 #[.val (.int p1), .val (.int p2), .unset, .unset, .unset, .unset, .unset, .unset, .unset, .unset, .unset, .unset] [(.ref b1)])) (fun _ kt => st6 _ kt) ?_
  refine own_via (T' := T6) (g' := (mkF m 32 #[.val (.int p1), .val (.int p2), .unset, .unset, .unset, .unset, .unset, .unset, .unset, .unset, .unset, .unset] [(.ref b1), (.ref b1)])) (fun _ kt => XS.dup X6.here hx rfl (hb hby at_31) rfl rfl kt) ?_
  refine own_via (T' := T6) (g' := (mkF m 33 #[.val (.int p1), .val (.int p2), .unset, .unset, .unset, .unset, .unset, .unset, .unset, .unset, .unset, .unset] [(.int (5 : Int32)), (.ref b1), (.ref b1)])) (fun _ kt => XS.iconst X6.here hx rfl (hb hby at_32) kt) ?_
  refine own_via (T' := T6) (g' := (mkF m 36 #[.val (.int p1), .val (.int p2), .unset, .unset, .unset, .unset, .unset, .unset, .unset, .unset, .unset, .unset] [(.int (248 : Int32)), (.int (5 : Int32)), (.ref b1), (.ref b1)])) (fun _ kt => XS.sipush X6.here hx rfl (hb hby at_33) kt) ?_
  obtain ⟨T7, h7, X7, e7, W7, A7, st7⟩ := own_iastore X6 hx hZ e6 A6 (j := (5 : Int32)) (i := 5) rfl (by decide) (g := (mkF m 36 #[.val (.int p1), .val (.int p2), .unset, .unset, .unset, .unset, .unset, .unset, .unset, .unset, .unset, .unset] [(.int (248 : Int32)), (.int (5 : Int32)), (.ref b1), (.ref b1)])) rfl rfl (hb hby at_36)
  have z7 : n0 ≤ h7.size := Nat.le_trans z6 (Nat.le_of_eq W7.size.symm)
  have N7 := Fr.snoc X7 N6 gg1
  refine own_via (T' := T7) (g' := (mkF m 37 #[.val (.int p1), .val (.int p2), .unset, .unset, .unset, .unset, .unset, .unset, .unset, .unset, .unset, .unset] [(.ref b1)])) (fun _ kt => st7 _ kt) ?_
  refine own_via (T' := T7) (g' := (mkF m 38 #[.val (.int p1), .val (.int p2), .unset, .unset, .unset, .unset, .unset, .unset, .unset, .unset, .unset, .unset] [(.ref b1), (.ref b1)])) (fun _ kt => XS.dup X7.here hx rfl (hb hby at_37) rfl rfl kt) ?_
  refine own_via (T' := T7) (g' := (mkF m 40 #[.val (.int p1), .val (.int p2), .unset, .unset, .unset, .unset, .unset, .unset, .unset, .unset, .unset, .unset] [(.int (6 : Int32)), (.ref b1), (.ref b1)])) (fun _ kt => XS.bipush X7.here hx rfl (hb hby at_38) kt) ?_
  refine own_via (T' := T7) (g' := (mkF m 43 #[.val (.int p1), .val (.int p2), .unset, .unset, .unset, .unset, .unset, .unset, .unset, .unset, .unset, .unset] [(.int (880 : Int32)), (.int (6 : Int32)), (.ref b1), (.ref b1)])) (fun _ kt => XS.sipush X7.here hx rfl (hb hby at_40) kt) ?_
  obtain ⟨T8, h8, X8, e8, W8, A8, st8⟩ := own_iastore X7 hx hZ e7 A7 (j := (6 : Int32)) (i := 6) rfl (by decide) (g := (mkF m 43 #[.val (.int p1), .val (.int p2), .unset, .unset, .unset, .unset, .unset, .unset, .unset, .unset, .unset, .unset] [(.int (880 : Int32)), (.int (6 : Int32)), (.ref b1), (.ref b1)])) rfl rfl (hb hby at_43)
  have z8 : n0 ≤ h8.size := Nat.le_trans z7 (Nat.le_of_eq W8.size.symm)
  have N8 := Fr.snoc X8 N7 gg1
  refine own_via (T' := T8) (g' := (mkF m 44 #[.val (.int p1), .val (.int p2), .unset, .unset, .unset, .unset, .unset, .unset, .unset, .unset, .unset, .unset] [(.ref b1)])) (fun _ kt => st8 _ kt) ?_
  refine own_via (T' := T8) (g' := (mkF m 45 #[.val (.int p1), .val (.int p2), .unset, .unset, .unset, .unset, .unset, .unset, .unset, .unset, .unset, .unset] [(.ref b1), (.ref b1)])) (fun _ kt => XS.dup X8.here hx rfl (hb hby at_44) rfl rfl kt) ?_
  refine own_via (T' := T8) (g' := (mkF m 47 #[.val (.int p1), .val (.int p2), .unset, .unset, .unset, .unset, .unset, .unset, .unset, .unset, .unset, .unset] [(.int (7 : Int32)), (.ref b1), (.ref b1)])) (fun _ kt => XS.bipush X8.here hx rfl (hb hby at_45) kt) ?_
  refine own_via (T' := T8) (g' := (mkF m 50 #[.val (.int p1), .val (.int p2), .unset, .unset, .unset, .unset, .unset, .unset, .unset, .unset, .unset, .unset] [(.int (895 : Int32)), (.int (7 : Int32)), (.ref b1), (.ref b1)])) (fun _ kt => XS.sipush X8.here hx rfl (hb hby at_47) kt) ?_
  obtain ⟨T9, h9, X9, e9, W9, A9, st9⟩ := own_iastore X8 hx hZ e8 A8 (j := (7 : Int32)) (i := 7) rfl (by decide) (g := (mkF m 50 #[.val (.int p1), .val (.int p2), .unset, .unset, .unset, .unset, .unset, .unset, .unset, .unset, .unset, .unset] [(.int (895 : Int32)), (.int (7 : Int32)), (.ref b1), (.ref b1)])) rfl rfl (hb hby at_50)
  have z9 : n0 ≤ h9.size := Nat.le_trans z8 (Nat.le_of_eq W9.size.symm)
  have N9 := Fr.snoc X9 N8 gg1
  refine own_via (T' := T9) (g' := (mkF m 51 #[.val (.int p1), .val (.int p2), .unset, .unset, .unset, .unset, .unset, .unset, .unset, .unset, .unset, .unset] [(.ref b1)])) (fun _ kt => st9 _ kt) ?_
  refine own_via (T' := T9) (g' := (mkF m 52 #[.val (.int p1), .val (.int p2), .unset, .unset, .unset, .unset, .unset, .unset, .unset, .unset, .unset, .unset] [(.ref b1), (.ref b1)])) (fun _ kt => XS.dup X9.here hx rfl (hb hby at_51) rfl rfl kt) ?_
  refine own_via (T' := T9) (g' := (mkF m 54 #[.val (.int p1), .val (.int p2), .unset, .unset, .unset, .unset, .unset, .unset, .unset, .unset, .unset, .unset] [(.int (8 : Int32)), (.ref b1), (.ref b1)])) (fun _ kt => XS.bipush X9.here hx rfl (hb hby at_52) kt) ?_
  refine own_via (T' := T9) (g' := (mkF m 57 #[.val (.int p1), .val (.int p2), .unset, .unset, .unset, .unset, .unset, .unset, .unset, .unset, .unset, .unset] [(.int (8204 : Int32)), (.int (8 : Int32)), (.ref b1), (.ref b1)])) (fun _ kt => XS.sipush X9.here hx rfl (hb hby at_54) kt) ?_
  obtain ⟨T10, h10, X10, e10, W10, A10, st10⟩ := own_iastore X9 hx hZ e9 A9 (j := (8 : Int32)) (i := 8) rfl (by decide) (g := (mkF m 57 #[.val (.int p1), .val (.int p2), .unset, .unset, .unset, .unset, .unset, .unset, .unset, .unset, .unset, .unset] [(.int (8204 : Int32)), (.int (8 : Int32)), (.ref b1), (.ref b1)])) rfl rfl (hb hby at_57)
  have z10 : n0 ≤ h10.size := Nat.le_trans z9 (Nat.le_of_eq W10.size.symm)
  have N10 := Fr.snoc X10 N9 gg1
  refine own_via (T' := T10) (g' := (mkF m 58 #[.val (.int p1), .val (.int p2), .unset, .unset, .unset, .unset, .unset, .unset, .unset, .unset, .unset, .unset] [(.ref b1)])) (fun _ kt => st10 _ kt) ?_
  refine own_via (T' := T10) (g' := (mkF m 59 #[.val (.int p1), .val (.int p2), .unset, .unset, .unset, .unset, .unset, .unset, .unset, .unset, .unset, .unset] [(.ref b1), (.ref b1)])) (fun _ kt => XS.dup X10.here hx rfl (hb hby at_58) rfl rfl kt) ?_
  refine own_via (T' := T10) (g' := (mkF m 61 #[.val (.int p1), .val (.int p2), .unset, .unset, .unset, .unset, .unset, .unset, .unset, .unset, .unset, .unset] [(.int (9 : Int32)), (.ref b1), (.ref b1)])) (fun _ kt => XS.bipush X10.here hx rfl (hb hby at_59) kt) ?_
  refine own_via (T' := T10) (g' := (mkF m 64 #[.val (.int p1), .val (.int p2), .unset, .unset, .unset, .unset, .unset, .unset, .unset, .unset, .unset, .unset] [(.int (8304 : Int32)), (.int (9 : Int32)), (.ref b1), (.ref b1)])) (fun _ kt => XS.sipush X10.here hx rfl (hb hby at_61) kt) ?_
  obtain ⟨T11, h11, X11, e11, W11, A11, st11⟩ := own_iastore X10 hx hZ e10 A10 (j := (9 : Int32)) (i := 9) rfl (by decide) (g := (mkF m 64 #[.val (.int p1), .val (.int p2), .unset, .unset, .unset, .unset, .unset, .unset, .unset, .unset, .unset, .unset] [(.int (8304 : Int32)), (.int (9 : Int32)), (.ref b1), (.ref b1)])) rfl rfl (hb hby at_64)
  have z11 : n0 ≤ h11.size := Nat.le_trans z10 (Nat.le_of_eq W11.size.symm)
  have N11 := Fr.snoc X11 N10 gg1
  refine own_via (T' := T11) (g' := (mkF m 65 #[.val (.int p1), .val (.int p2), .unset, .unset, .unset, .unset, .unset, .unset, .unset, .unset, .unset, .unset] [(.ref b1)])) (fun _ kt => st11 _ kt) ?_
  refine own_via (T' := T11) (g' := (mkF m 66 #[.val (.int p1), .val (.int p2), .unset, .unset, .unset, .unset, .unset, .unset, .unset, .unset, .unset, .unset] [(.ref b1), (.ref b1)])) (fun _ kt => XS.dup X11.here hx rfl (hb hby at_65) rfl rfl kt) ?_
  refine own_via (T' := T11) (g' := (mkF m 68 #[.val (.int p1), .val (.int p2), .unset, .unset, .unset, .unset, .unset, .unset, .unset, .unset, .unset, .unset] [(.int (10 : Int32)), (.ref b1), (.ref b1)])) (fun _ kt => XS.bipush X11.here hx rfl (hb hby at_66) kt) ?_
  refine own_via (T' := T11) (g' := (mkF m 71 #[.val (.int p1), .val (.int p2), .unset, .unset, .unset, .unset, .unset, .unset, .unset, .unset, .unset, .unset] [(.int (11264 : Int32)), (.int (10 : Int32)), (.ref b1), (.ref b1)])) (fun _ kt => XS.sipush X11.here hx rfl (hb hby at_68) kt) ?_
  obtain ⟨T12, h12, X12, e12, W12, A12, st12⟩ := own_iastore X11 hx hZ e11 A11 (j := (10 : Int32)) (i := 10) rfl (by decide) (g := (mkF m 71 #[.val (.int p1), .val (.int p2), .unset, .unset, .unset, .unset, .unset, .unset, .unset, .unset, .unset, .unset] [(.int (11264 : Int32)), (.int (10 : Int32)), (.ref b1), (.ref b1)])) rfl rfl (hb hby at_71)
  have z12 : n0 ≤ h12.size := Nat.le_trans z11 (Nat.le_of_eq W12.size.symm)
  have N12 := Fr.snoc X12 N11 gg1
  refine own_via (T' := T12) (g' := (mkF m 72 #[.val (.int p1), .val (.int p2), .unset, .unset, .unset, .unset, .unset, .unset, .unset, .unset, .unset, .unset] [(.ref b1)])) (fun _ kt => st12 _ kt) ?_
  refine own_via (T' := T12) (g' := (mkF m 73 #[.val (.int p1), .val (.int p2), .unset, .unset, .unset, .unset, .unset, .unset, .unset, .unset, .unset, .unset] [(.ref b1), (.ref b1)])) (fun _ kt => XS.dup X12.here hx rfl (hb hby at_72) rfl rfl kt) ?_
  refine own_via (T' := T12) (g' := (mkF m 75 #[.val (.int p1), .val (.int p2), .unset, .unset, .unset, .unset, .unset, .unset, .unset, .unset, .unset, .unset] [(.int (11 : Int32)), (.ref b1), (.ref b1)])) (fun _ kt => XS.bipush X12.here hx rfl (hb hby at_73) kt) ?_
  refine own_via (T' := T12) (g' := (mkF m 78 #[.val (.int p1), .val (.int p2), .unset, .unset, .unset, .unset, .unset, .unset, .unset, .unset, .unset, .unset] [(.int (12289 : Int32)), (.int (11 : Int32)), (.ref b1), (.ref b1)])) (fun _ kt => XS.sipush X12.here hx rfl (hb hby at_75) kt) ?_
  obtain ⟨T13, h13, X13, e13, W13, A13, st13⟩ := own_iastore X12 hx hZ e12 A12 (j := (11 : Int32)) (i := 11) rfl (by decide) (g := (mkF m 78 #[.val (.int p1), .val (.int p2), .unset, .unset, .unset, .unset, .unset, .unset, .unset, .unset, .unset, .unset] [(.int (12289 : Int32)), (.int (11 : Int32)), (.ref b1), (.ref b1)])) rfl rfl (hb hby at_78)
  have z13 : n0 ≤ h13.size := Nat.le_trans z12 (Nat.le_of_eq W13.size.symm)
  have N13 := Fr.snoc X13 N12 gg1
  refine own_via (T' := T13) (g' := (mkF m 79 #[.val (.int p1), .val (.int p2), .unset, .unset, .unset, .unset, .unset, .unset, .unset, .unset, .unset, .unset] [(.ref b1)])) (fun _ kt => st13 _ kt) ?_
  refine own_via (T' := T13) (g' := (mkF m 80 #[.val (.int p1), .val (.int p2), .unset, .unset, .unset, .unset, .unset, .unset, .unset, .unset, .unset, .unset] [(.ref b1), (.ref b1)])) (fun _ kt => XS.dup X13.here hx rfl (hb hby at_79) rfl rfl kt) ?_
  refine own_via (T' := T13) (g' := (mkF m 82 #[.val (.int p1), .val (.int p2), .unset, .unset, .unset, .unset, .unset, .unset, .unset, .unset, .unset, .unset] [(.int (12 : Int32)), (.ref b1), (.ref b1)])) (fun _ kt => XS.bipush X13.here hx rfl (hb hby at_80) kt) ?_
  refine own_via (T' := T13) (g' := (mkF m 84 #[.val (.int p1), .val (.int p2), .unset, .unset, .unset, .unset, .unset, .unset, .unset, .unset, .unset, .unset] [(.int (63744 : Int32)), (.int (12 : Int32)), (.ref b1), (.ref b1)])) (fun _ kt => X13.ldcInt hx hown (mvT hZ (hw _ (List.mem_of_getElem? (i := 1) rfl))) (g := (mkF m 82 #[.val (.int p1), .val (.int p2), .unset, .unset, .unset, .unset, .unset, .unset, .unset, .unset, .unset, .unset] [(.int (12 : Int32)), (.ref b1), (.ref b1)])) rfl (hb hby at_82) _ kt) ?_
  obtain ⟨T14, h14, X14, e14, W14, A14, st14⟩ := own_iastore X13 hx hZ e13 A13 (j := (12 : Int32)) (i := 12) rfl (by decide) (g := (mkF m 84 #[.val (.int p1), .val (.int p2), .unset, .unset, .unset, .unset, .unset, .unset, .unset, .unset, .unset, .unset] [(.int (63744 : Int32)), (.int (12 : Int32)), (.ref b1), (.ref b1)])) rfl rfl (hb hby at_84)
  have z14 : n0 ≤ h14.size := Nat.le_trans z13 (Nat.le_of_eq W14.size.symm)
  have N14 := Fr.snoc X14 N13 gg1
  refine own_via (T' := T14) (g' := (mkF m 85 #[.val (.int p1), .val (.int p2), .unset, .unset, .unset, .unset, .unset, .unset, .unset, .unset, .unset, .unset] [(.ref b1)])) (fun _ kt => st14 _ kt) ?_
  refine own_via (T' := T14) (g' := (mkF m 86 #[.val (.int p1), .val (.int p2), .unset, .unset, .unset, .unset, .unset, .unset, .unset, .unset, .unset, .unset] [(.ref b1), (.ref b1)])) (fun _ kt => XS.dup X14.here hx rfl (hb hby at_85) rfl rfl kt) ?_
  refine own_via (T' := T14) (g' := (mkF m 88 #[.val (.int p1), .val (.int p2), .unset, .unset, .unset, .unset, .unset, .unset, .unset, .unset, .unset, .unset] [(.int (13 : Int32)), (.ref b1), (.ref b1)])) (fun _ kt => XS.bipush X14.here hx rfl (hb hby at_86) kt) ?_
  refine own_via (T' := T14) (g' := (mkF m 90 #[.val (.int p1), .val (.int p2), .unset, .unset, .unset, .unset, .unset, .unset, .unset, .unset, .unset, .unset] [(.int (65008 : Int32)), (.int (13 : Int32)), (.ref b1), (.ref b1)])) (fun _ kt => X14.ldcInt hx hown (mvT hZ (hw _ (List.mem_of_getElem? (i := 2) rfl))) (g := (mkF m 88 #[.val (.int p1), .val (.int p2), .unset, .unset, .unset, .unset, .unset, .unset, .unset, .unset, .unset, .unset] [(.int (13 : Int32)), (.ref b1), (.ref b1)])) rfl (hb hby at_88) _ kt) ?_
  obtain ⟨T15, h15, X15, e15, W15, A15, st15⟩ := own_iastore X14 hx hZ e14 A14 (j := (13 : Int32)) (i := 13) rfl (by decide) (g := (mkF m 90 #[.val (.int p1), .val (.int p2), .unset, .unset, .unset, .unset, .unset, .unset, .unset, .unset, .unset, .unset] [(.int (65008 : Int32)), (.int (13 : Int32)), (.ref b1), (.ref b1)])) rfl rfl (hb hby at_90)
  have z15 : n0 ≤ h15.size := Nat.le_trans z14 (Nat.le_of_eq W15.size.symm)
  have N15 := Fr.snoc X15 N14 gg1
  refine own_via (T' := T15) (g' := (mkF m 91 #[.val (.int p1), .val (.int p2), .unset, .unset, .unset, .unset, .unset, .unset, .unset, .unset, .unset, .unset] [(.ref b1)])) (fun _ kt => st15 _ kt) ?_
  refine own_via (T' := T15) (g' := (mkF m 92 #[.val (.int p1), .val (.int p2), .unset, .unset, .unset, .unset, .unset, .unset, .unset, .unset, .unset, .unset] [(.ref b1), (.ref b1)])) (fun _ kt => XS.dup X15.here hx rfl (hb hby at_91) rfl rfl kt) ?_
  refine own_via (T' := T15) (g' := (mkF m 94 #[.val (.int p1), .val (.int p2), .unset, .unset, .unset, .unset, .unset, .unset, .unset, .unset, .unset, .unset] [(.int (14 : Int32)), (.ref b1), (.ref b1)])) (fun _ kt => XS.bipush X15.here hx rfl (hb hby at_92) kt) ?_
  refine own_via (T' := T15) (g' := (mkF m 96 #[.val (.int p1), .val (.int p2), .unset, .unset, .unset, .unset, .unset, .unset, .unset, .unset, .unset, .unset] [(.int (65536 : Int32)), (.int (14 : Int32)), (.ref b1), (.ref b1)])) (fun _ kt => X15.ldcInt hx hown (mvT hZ (hw _ (List.mem_of_getElem? (i := 3) rfl))) (g := (mkF m 94 #[.val (.int p1), .val (.int p2), .unset, .unset, .unset, .unset, .unset, .unset, .unset, .unset, .unset, .unset] [(.int (14 : Int32)), (.ref b1), (.ref b1)])) rfl (hb hby at_94) _ kt) ?_
  obtain ⟨T16, h16, X16, e16, W16, A16, st16⟩ := own_iastore X15 hx hZ e15 A15 (j := (14 : Int32)) (i := 14) rfl (by decide) (g := (mkF m 96 #[.val (.int p1), .val (.int p2), .unset, .unset, .unset, .unset, .unset, .unset, .unset, .unset, .unset, .unset] [(.int (65536 : Int32)), (.int (14 : Int32)), (.ref b1), (.ref b1)])) rfl rfl (hb hby at_96)
  have z16 : n0 ≤ h16.size := Nat.le_trans z15 (Nat.le_of_eq W16.size.symm)
  have N16 := Fr.snoc X16 N15 gg1
  refine own_via (T' := T16) (g' := (mkF m 97 #[.val (.int p1), .val (.int p2), .unset, .unset, .unset, .unset, .unset, .unset, .unset, .unset, .unset, .unset] [(.ref b1)])) (fun _ kt => st16 _ kt) ?_
  have A17 : own_Ar Z h16 b1 .int 15 (fun i => .int (own_lo i)) := A16.congr (own_each (P := fun i => (own_up (own_up (own_up (own_up (own_up (own_up (own_up (own_up (own_up (own_up (own_up (own_up (own_up (own_up (own_up (fun _ => .int 0) 0 (.int (65 : Int32))) 1 (.int (95 : Int32))) 2 (.int (97 : Int32))) 3 (.int (192 : Int32))) 4 (.int (216 : Int32))) 5 (.int (248 : Int32))) 6 (.int (880 : Int32))) 7 (.int (895 : Int32))) 8 (.int (8204 : Int32))) 9 (.int (8304 : Int32))) 10 (.int (11264 : Int32))) 11 (.int (12289 : Int32))) 12 (.int (63744 : Int32))) 13 (.int (65008 : Int32))) 14 (.int (65536 : Int32))) i = .int (own_lo i)) rfl rfl rfl rfl rfl rfl rfl rfl rfl rfl rfl rfl rfl rfl rfl)
  refine own_via (T' := T16) (g' := (mkF m 98 #[.val (.int p1), .val (.int p2), .val (.ref b1), .unset, .unset, .unset, .unset, .unset, .unset, .unset, .unset, .unset] [])) (fun _ kt => XS.astoreN X16.here hx rfl (hb hby at_97) rfl rfl (l' := #[.val (.int p1), .val (.int p2), .val (.ref b1), .unset, .unset, .unset, .unset, .unset, .unset, .unset, .unset, .unset]) rfl kt) ?_
  refine own_via (T' := T16) (g' := (mkF m 100 #[.val (.int p1), .val (.int p2), .val (.ref b1), .unset, .unset, .unset, .unset, .unset, .unset, .unset, .unset, .unset] [(.int (15 : Int32))])) (fun _ kt => XS.bipush X16.here hx rfl (hb hby at_98) kt) ?_
  obtain ⟨T18, h18, b18, gb18, X18, e18, E18, A18, st18⟩ := own_newarr X16 hx hZ (hw _ (List.mem_of_getElem? (i := 0) rfl)) e16 (g := (mkF m 100 #[.val (.int p1), .val (.int p2), .val (.ref b1), .unset, .unset, .unset, .unset, .unset, .unset, .unset, .unset, .unset] [(.int (15 : Int32))])) rfl (hb hby at_100) (j := (15 : Int32)) (n := 15) rfl (by decide) rfl (by decide) (by decide)
  have ne_b1_b18 : b1 ≠ b18 := Nat.ne_of_lt (Nat.lt_of_lt_of_le A17.lt (Nat.le_of_eq gb18.symm))
  have gg18 : n0 ≤ b18 := Nat.le_trans z16 (Nat.le_of_eq gb18.symm)
  have f19 := A17.ext E18
  have z18 : n0 ≤ h18.size := Nat.le_trans z16 E18.1
  replace A18 : own_Ar Z h18 b18 .int 15 (fun _ => .int 0) := A18
  refine own_via (T' := T18) (g' := (mkF m 102 #[.val (.int p1), .val (.int p2), .val (.ref b1), .unset, .unset, .unset, .unset, .unset, .unset, .unset, .unset, .unset] [(.ref b18)])) (fun _ kt => st18 _ kt) ?_
  refine own_via (T' := T18) (g' := (mkF m 103 #[.val (.int p1), .val (.int p2), .val (.ref b1), .unset, .unset, .unset, .unset, .unset, .unset, .unset, .unset, .unset] [(.ref b18), (.ref b18)])) (fun _ kt => XS.dup X18.here hx rfl (hb hby at_102) rfl rfl kt) ?_
  refine own_via (T' := T18) (g' := (mkF m 104 #[.val (.int p1), .val (.int p2), .val (.ref b1), .unset, .unset, .unset, .unset, .unset, .unset, .unset, .unset, .unset] [(.int (0 : Int32)), (.ref b18), (.ref b18)])) (fun _ kt => XS.iconst X18.here hx rfl (hb hby at_103) kt) ?_
  refine own_via (T' := T18) (g' := (mkF m 106 #[.val (.int p1), .val (.int p2), .val (.ref b1), .unset, .unset, .unset, .unset, .unset, .unset, .unset, .unset, .unset] [(.int (90 : Int32)), (.int (0 : Int32)), (.ref b18), (.ref b18)])) (fun _ kt => XS.bipush X18.here hx rfl (hb hby at_104) kt) ?_
  obtain ⟨T20, h20, X20, e20, W20, A20, st20⟩ := own_iastore X18 hx hZ e18 A18 (j := (0 : Int32)) (i := 0) rfl (by decide) (g := (mkF m 106 #[.val (.int p1), .val (.int p2), .val (.ref b1), .unset, .unset, .unset, .unset, .unset, .unset, .unset, .unset, .unset] [(.int (90 : Int32)), (.int (0 : Int32)), (.ref b18), (.ref b18)])) rfl rfl (hb hby at_106)
  have f21 := f19.other W20 ne_b1_b18
  have z20 : n0 ≤ h20.size := Nat.le_trans z18 (Nat.le_of_eq W20.size.symm)
  have N20 := Fr.snoc X20 N16 gg18
  refine own_via (T' := T20) (g' := (mkF m 107 #[.val (.int p1), .val (.int p2), .val (.ref b1), .unset, .unset, .unset, .unset, .unset, .unset, .unset, .unset, .unset] [(.ref b18)])) (fun _ kt => st20 _ kt) ?_
  refine own_via (T' := T20) (g' := (mkF m 108 #[.val (.int p1), .val (.int p2), .val (.ref b1), .unset, .unset, .unset, .unset, .unset, .unset, .unset, .unset, .unset] [(.ref b18), (.ref b18)])) (fun _ kt => XS.dup X20.here hx rfl (hb hby at_107) rfl rfl kt) ?_
  refine own_via (T' := T20) (g' := (mkF m 109 #[.val (.int p1), .val (.int p2), .val (.ref b1), .unset, .unset, .unset, .unset, .unset, .unset, .unset, .unset, .unset] [(.int (1 : Int32)), (.ref b18), (.ref b18)])) (fun _ kt => XS.iconst X20.here hx rfl (hb hby at_108) kt) ?_
  refine own_via (T' := T20) (g' := (mkF m 111 #[.val (.int p1), .val (.int p2), .val (.ref b1), .unset, .unset, .unset, .unset, .unset, .unset, .unset, .unset, .unset] [(.int (95 : Int32)), (.int (1 : Int32)), (.ref b18), (.ref b18)])) (fun _ kt => XS.bipush X20.here hx rfl (hb hby at_109) kt) ?_
  obtain ⟨T22, h22, X22, e22, W22, A22, st22⟩ := own_iastore X20 hx hZ e20 A20 (j := (1 : Int32)) (i := 1) rfl (by decide) (g := (mkF m 111 #[.val (.int p1), .val (.int p2), .val (.ref b1), .unset, .unset, .unset, .unset, .unset, .unset, .unset, .unset, .unset] [(.int (95 : Int32)), (.int (1 : Int32)), (.ref b18), (.ref b18)])) rfl rfl (hb hby at_111)
  have f23 := f21.other W22 ne_b1_b18
  have z22 : n0 ≤ h22.size := Nat.le_trans z20 (Nat.le_of_eq W22.size.symm)
  have N22 := Fr.snoc X22 N20 gg18
  refine own_via (T' := T22) (g' := (mkF m 112 #[.val (.int p1), .val (.int p2), .val (.ref b1), .unset, .unset, .unset, .unset, .unset, .unset, .unset, .unset, .unset] [(.ref b18)])) (fun _ kt => st22 _ kt) ?_
  refine own_via (T' := T22) (g' := (mkF m 113 #[.val (.int p1), .val (.int p2), .val (.ref b1), .unset, .unset, .unset, .unset, .unset, .unset, .unset, .unset, .unset] [(.ref b18), (.ref b18)])) (fun _ kt => XS.dup X22.here hx rfl (hb hby at_112) rfl rfl kt) ?_
  refine own_via (T' := T22) (g' := (mkF m 114 #[.val (.int p1), .val (.int p2), .val (.ref b1), .unset, .unset, .unset, .unset, .unset, .unset, .unset, .unset, .unset] [(.int (2 : Int32)), (.ref b18), (.ref b18)])) (fun _ kt => XS.iconst X22.here hx rfl (hb hby at_113) kt) ?_
  refine own_via (T' := T22) (g' := (mkF m 116 #[.val (.int p1), .val (.int p2), .val (.ref b1), .unset, .unset, .unset, .unset, .unset, .unset, .unset, .unset, .unset] [(.int (122 : Int32)), (.int (2 : Int32)), (.ref b18), (.ref b18)])) (fun _ kt => XS.bipush X22.here hx rfl (hb hby at_114) kt) ?_
  obtain ⟨T24, h24, X24, e24, W24, A24, st24⟩ := own_iastore X22 hx hZ e22 A22 (j := (2 : Int32)) (i := 2) rfl (by decide) (g := (mkF m 116 #[.val (.int p1), .val (.int p2), .val (.ref b1), .unset, .unset, .unset, .unset, .unset, .unset, .unset, .unset, .unset] [(.int (122 : Int32)), (.int (2 : Int32)), (.ref b18), (.ref b18)])) rfl rfl (hb hby at_116)
  have f25 := f23.other W24 ne_b1_b18
  have z24 : n0 ≤ h24.size := Nat.le_trans z22 (Nat.le_of_eq W24.size.symm)
  have N24 := Fr.snoc X24 N22 gg18
  refine own_via (T' := T24) (g' := (mkF m 117 #[.val (.int p1), .val (.int p2), .val (.ref b1), .unset, .unset, .unset, .unset, .unset, .unset, .unset, .unset, .unset] [(.ref b18)])) (fun _ kt => st24 _ kt) ?_
  refine own_via (T' := T24) (g' := (mkF m 118 #[.val (.int p1), .val (.int p2), .val (.ref b1), .unset, .unset, .unset, .unset, .unset, .unset, .unset, .unset, .unset] [(.ref b18), (.ref b18)])) (fun _ kt => XS.dup X24.here hx rfl (hb hby at_117) rfl rfl kt) ?_
  refine own_via (T' := T24) (g' := (mkF m 119 #[.val (.int p1), .val (.int p2), .val (.ref b1), .unset, .unset, .unset, .unset, .unset, .unset, .unset, .unset, .unset] [(.int (3 : Int32)), (.ref b18), (.ref b18)])) (fun _ kt => XS.iconst X24.here hx rfl (hb hby at_118) kt) ?_
  refine own_via (T' := T24) (g' := (mkF m 122 #[.val (.int p1), .val (.int p2), .val (.ref b1), .unset, .unset, .unset, .unset, .unset, .unset, .unset, .unset, .unset] [(.int (214 : Int32)), (.int (3 : Int32)), (.ref b18), (.ref b18)])) (fun _ kt => XS.sipush X24.here hx rfl (hb hby at_119) kt) ?_
  obtain ⟨T26, h26, X26, e26, W26, A26, st26⟩ := own_iastore X24 hx hZ e24 A24 (j := (3 : Int32)) (i := 3) rfl (by decide) (g := (mkF m 122 #[.val (.int p1), .val (.int p2), .val (.ref b1), .unset, .unset, .unset, .unset, .unset, .unset, .unset, .unset, .unset] [(.int (214 : Int32)), (.int (3 : Int32)), (.ref b18), (.ref b18)])) rfl rfl (hb hby at_122)
  have f27 := f25.other W26 ne_b1_b18
  have z26 : n0 ≤ h26.size := Nat.le_trans z24 (Nat.le_of_eq W26.size.symm)
  have N26 := Fr.snoc X26 N24 gg18
  refine own_via (T' := T26) (g' := (mkF m 123 #[.val (.int p1), .val (.int p2), .val (.ref b1), .unset, .unset, .unset, .unset, .unset, .unset, .unset, .unset, .unset] [(.ref b18)])) (fun _ kt => st26 _ kt) ?_
  refine own_via (T' := T26) (g' := (mkF m 124 #[.val (.int p1), .val (.int p2), .val (.ref b1), .unset, .unset, .unset, .unset, .unset, .unset, .unset, .unset, .unset] [(.ref b18), (.ref b18)])) (fun _ kt => XS.dup X26.here hx rfl (hb hby at_123) rfl rfl kt) ?_
  refine own_via (T' := T26) (g' := (mkF m 125 #[.val (.int p1), .val (.int p2), .val (.ref b1), .unset, .unset, .unset, .unset, .unset, .unset, .unset, .unset, .unset] [(.int (4 : Int32)), (.ref b18), (.ref b18)])) (fun _ kt => XS.iconst X26.here hx rfl (hb hby at_124) kt) ?_
  refine own_via (T' := T26) (g' := (mkF m 128 #[.val (.int p1), .val (.int p2), .val (.ref b1), .unset, .unset, .unset, .unset, .unset, .unset, .unset, .unset, .unset] [(.int (246 : Int32)), (.int (4 : Int32)), (.ref b18), (.ref b18)])) (fun _ kt => XS.sipush X26.here hx rfl (hb hby at_125) kt) ?_
  obtain ⟨T28, h28, X28, e28, W28, A28, st28⟩ := own_iastore X26 hx hZ e26 A26 (j := (4 : Int32)) (i := 4) rfl (by decide) (g := (mkF m 128 #[.val (.int p1), .val (.int p2), .val (.ref b1), .unset, .unset, .unset, .unset, .unset, .unset, .unset, .unset, .unset] [(.int (246 : Int32)), (.int (4 : Int32)), (.ref b18), (.ref b18)])) rfl rfl (hb hby at_128)
  have f29 := f27.other W28 ne_b1_b18
  have z28 : n0 ≤ h28.size := Nat.le_trans z26 (Nat.le_of_eq W28.size.symm)
  have N28 := Fr.snoc X28 N26 gg18
  refine own_via (T' := T28) (g' := (mkF m 129 #[.val (.int p1), .val (.int p2), .val (.ref b1), .unset, .unset, .unset, .unset, .unset, .unset, .unset, .unset, .unset] [(.ref b18)])) (fun _ kt => st28 _ kt) ?_
  refine own_via (T' := T28) (g' := (mkF m 130 #[.val (.int p1), .val (.int p2), .val (.ref b1), .unset, .unset, .unset, .unset, .unset, .unset, .unset, .unset, .unset] [(.ref b18), (.ref b18)])) (fun _ kt => XS.dup X28.here hx rfl (hb hby at_129) rfl rfl kt) ?_
  refine own_via (T' := T28) (g' := (mkF m 131 #[.val (.int p1), .val (.int p2), .val (.ref b1), .unset, .unset, .unset, .unset, .unset, .unset, .unset, .unset, .unset] [(.int (5 : Int32)), (.ref b18), (.ref b18)])) (fun _ kt => XS.iconst X28.here hx rfl (hb hby at_130) kt) ?_
  refine own_via (T' := T28) (g' := (mkF m 134 #[.val (.int p1), .val (.int p2), .val (.ref b1), .unset, .unset, .unset, .unset, .unset, .unset, .unset, .unset, .unset] [(.int (767 : Int32)), (.int (5 : Int32)), (.ref b18), (.ref b18)])) (fun _ kt => XS.sipush X28.here hx rfl (hb hby at_131) kt) ?_
  obtain ⟨T30, h30, X30, e30, W30, A30, st30⟩ := own_iastore X28 hx hZ e28 A28 (j := (5 : Int32)) (i := 5) rfl (by decide) (g := (mkF m 134 #[.val (.int p1), .val (.int p2), .val (.ref b1), .unset, .unset, .unset, .unset, .unset, .unset, .unset, .unset, .unset] [(.int (767 : Int32)), (.int (5 : Int32)), (.ref b18), (.ref b18)])) rfl rfl (hb hby at_134)
  have f31 := f29.other W30 ne_b1_b18
  have z30 : n0 ≤ h30.size := Nat.le_trans z28 (Nat.le_of_eq W30.size.symm)
  have N30 := Fr.snoc X30 N28 gg18
  refine own_via (T' := T30) (g' := (mkF m 135 #[.val (.int p1), .val (.int p2), .val (.ref b1), .unset, .unset, .unset, .unset, .unset, .unset, .unset, .unset, .unset] [(.ref b18)])) (fun _ kt => st30 _ kt) ?_
  refine own_via (T' := T30) (g' := (mkF m 136 #[.val (.int p1), .val (.int p2), .val (.ref b1), .unset, .unset, .unset, .unset, .unset, .unset, .unset, .unset, .unset] [(.ref b18), (.ref b18)])) (fun _ kt => XS.dup X30.here hx rfl (hb hby at_135) rfl rfl kt) ?_
  refine own_via (T' := T30) (g' := (mkF m 138 #[.val (.int p1), .val (.int p2), .val (.ref b1), .unset, .unset, .unset, .unset, .unset, .unset, .unset, .unset, .unset] [(.int (6 : Int32)), (.ref b18), (.ref b18)])) (fun _ kt => XS.bipush X30.here hx rfl (hb hby at_136) kt) ?_
  refine own_via (T' := T30) (g' := (mkF m 141 #[.val (.int p1), .val (.int p2), .val (.ref b1), .unset, .unset, .unset, .unset, .unset, .unset, .unset, .unset, .unset] [(.int (893 : Int32)), (.int (6 : Int32)), (.ref b18), (.ref b18)])) (fun _ kt => XS.sipush X30.here hx rfl (hb hby at_138) kt) ?_
  obtain ⟨T32, h32, X32, e32, W32, A32, st32⟩ := own_iastore X30 hx hZ e30 A30 (j := (6 : Int32)) (i := 6) rfl (by decide) (g := (mkF m 141 #[.val (.int p1), .val (.int p2), .val (.ref b1), .unset, .unset, .unset, .unset, .unset, .unset, .unset, .unset, .unset] [(.int (893 : Int32)), (.int (6 : Int32)), (.ref b18), (.ref b18)])) rfl rfl (hb hby at_141)
  have f33 := f31.other W32 ne_b1_b18
  have z32 : n0 ≤ h32.size := Nat.le_trans z30 (Nat.le_of_eq W32.size.symm)
  have N32 := Fr.snoc X32 N30 gg18
  refine own_via (T' := T32) (g' := (mkF m 142 #[.val (.int p1), .val (.int p2), .val (.ref b1), .unset, .unset, .unset, .unset, .unset, .unset, .unset, .unset, .unset] [(.ref b18)])) (fun _ kt => st32 _ kt) ?_
  refine own_via (T' := T32) (g' := (mkF m 143 #[.val (.int p1), .val (.int p2), .val (.ref b1), .unset, .unset, .unset, .unset, .unset, .unset, .unset, .unset, .unset] [(.ref b18), (.ref b18)])) (fun _ kt => XS.dup X32.here hx rfl (hb hby at_142) rfl rfl kt) ?_
  refine own_via (T' := T32) (g' := (mkF m 145 #[.val (.int p1), .val (.int p2), .val (.ref b1), .unset, .unset, .unset, .unset, .unset, .unset, .unset, .unset, .unset] [(.int (7 : Int32)), (.ref b18), (.ref b18)])) (fun _ kt => XS.bipush X32.here hx rfl (hb hby at_143) kt) ?_
  refine own_via (T' := T32) (g' := (mkF m 148 #[.val (.int p1), .val (.int p2), .val (.ref b1), .unset, .unset, .unset, .unset, .unset, .unset, .unset, .unset, .unset] [(.int (8191 : Int32)), (.int (7 : Int32)), (.ref b18), (.ref b18)])) (fun _ kt => XS.sipush X32.here hx rfl (hb hby at_145) kt) ?_
  obtain ⟨T34, h34, X34, e34, W34, A34, st34⟩ := own_iastore X32 hx hZ e32 A32 (j := (7 : Int32)) (i := 7) rfl (by decide) (g := (mkF m 148 #[.val (.int p1), .val (.int p2), .val (.ref b1), .unset, .unset, .unset, .unset, .unset, .unset, .unset, .unset, .unset] [(.int (8191 : Int32)), (.int (7 : Int32)), (.ref b18), (.ref b18)])) rfl rfl (hb hby at_148)
  have f35 := f33.other W34 ne_b1_b18
  have z34 : n0 ≤ h34.size := Nat.le_trans z32 (Nat.le_of_eq W34.size.symm)
  have N34 := Fr.snoc X34 N32 gg18
  refine own_via (T' := T34) (g' := (mkF m 149 #[.val (.int p1), .val (.int p2), .val (.ref b1), .unset, .unset, .unset, .unset, .unset, .unset, .unset, .unset, .unset] [(.ref b18)])) (fun _ kt => st34 _ kt) ?_
  refine own_via (T' := T34) (g' := (mkF m 150 #[.val (.int p1), .val (.int p2), .val (.ref b1), .unset, .unset, .unset, .unset, .unset, .unset, .unset, .unset, .unset] [(.ref b18), (.ref b18)])) (fun _ kt => XS.dup X34.here hx rfl (hb hby at_149) rfl rfl kt) ?_
  refine own_via (T' := T34) (g' := (mkF m 152 #[.val (.int p1), .val (.int p2), .val (.ref b1), .unset, .unset, .unset, .unset, .unset, .unset, .unset, .unset, .unset] [(.int (8 : Int32)), (.ref b18), (.ref b18)])) (fun _ kt => XS.bipush X34.here hx rfl (hb hby at_150) kt) ?_
  refine own_via (T' := T34) (g' := (mkF m 155 #[.val (.int p1), .val (.int p2), .val (.ref b1), .unset, .unset, .unset, .unset, .unset, .unset, .unset, .unset, .unset] [(.int (8205 : Int32)), (.int (8 : Int32)), (.ref b18), (.ref b18)])) (fun _ kt => XS.sipush X34.here hx rfl (hb hby at_152) kt) ?_
  obtain ⟨T36, h36, X36, e36, W36, A36, st36⟩ := own_iastore X34 hx hZ e34 A34 (j := (8 : Int32)) (i := 8) rfl (by decide) (g := (mkF m 155 #[.val (.int p1), .val (.int p2), .val (.ref b1), .unset, .unset, .unset, .unset, .unset, .unset, .unset, .unset, .unset] [(.int (8205 : Int32)), (.int (8 : Int32)), (.ref b18), (.ref b18)])) rfl rfl (hb hby at_155)
  have f37 := f35.other W36 ne_b1_b18
  have z36 : n0 ≤ h36.size := Nat.le_trans z34 (Nat.le_of_eq W36.size.symm)
  have N36 := Fr.snoc X36 N34 gg18
  refine own_via (T' := T36) (g' := (mkF m 156 #[.val (.int p1), .val (.int p2), .val (.ref b1), .unset, .unset, .unset, .unset, .unset, .unset, .unset, .unset, .unset] [(.ref b18)])) (fun _ kt => st36 _ kt) ?_
  refine own_via (T' := T36) (g' := (mkF m 157 #[.val (.int p1), .val (.int p2), .val (.ref b1), .unset, .unset, .unset, .unset, .unset, .unset, .unset, .unset, .unset] [(.ref b18), (.ref b18)])) (fun _ kt => XS.dup X36.here hx rfl (hb hby at_156) rfl rfl kt) ?_
  refine own_via (T' := T36) (g' := (mkF m 159 #[.val (.int p1), .val (.int p2), .val (.ref b1), .unset, .unset, .unset, .unset, .unset, .unset, .unset, .unset, .unset] [(.int (9 : Int32)), (.ref b18), (.ref b18)])) (fun _ kt => XS.bipush X36.here hx rfl (hb hby at_157) kt) ?_
  refine own_via (T' := T36) (g' := (mkF m 162 #[.val (.int p1), .val (.int p2), .val (.ref b1), .unset, .unset, .unset, .unset, .unset, .unset, .unset, .unset, .unset] [(.int (8591 : Int32)), (.int (9 : Int32)), (.ref b18), (.ref b18)])) (fun _ kt => XS.sipush X36.here hx rfl (hb hby at_159) kt) ?_
  obtain ⟨T38, h38, X38, e38, W38, A38, st38⟩ := own_iastore X36 hx hZ e36 A36 (j := (9 : Int32)) (i := 9) rfl (by decide) (g := (mkF m 162 #[.val (.int p1), .val (.int p2), .val (.ref b1), .unset, .unset, .unset, .unset, .unset, .unset, .unset, .unset, .unset] [(.int (8591 : Int32)), (.int (9 : Int32)), (.ref b18), (.ref b18)])) rfl rfl (hb hby at_162)
  have f39 := f37.other W38 ne_b1_b18
  have z38 : n0 ≤ h38.size := Nat.le_trans z36 (Nat.le_of_eq W38.size.symm)
  have N38 := Fr.snoc X38 N36 gg18
  refine own_via (T' := T38) (g' := (mkF m 163 #[.val (.int p1), .val (.int p2), .val (.ref b1), .unset, .unset, .unset, .unset, .unset, .unset, .unset, .unset, .unset] [(.ref b18)])) (fun _ kt => st38 _ kt) ?_
  refine own_via (T' := T38) (g' := (mkF m 164 #[.val (.int p1), .val (.int p2), .val (.ref b1), .unset, .unset, .unset, .unset, .unset, .unset, .unset, .unset, .unset] [(.ref b18), (.ref b18)])) (fun _ kt => XS.dup X38.here hx rfl (hb hby at_163) rfl rfl kt) ?_
  refine own_via (T' := T38) (g' := (mkF m 166 #[.val (.int p1), .val (.int p2), .val (.ref b1), .unset, .unset, .unset, .unset, .unset, .unset, .unset, .unset, .unset] [(.int (10 : Int32)), (.ref b18), (.ref b18)])) (fun _ kt => XS.bipush X38.here hx rfl (hb hby at_164) kt) ?_
  refine own_via (T' := T38) (g' := (mkF m 169 #[.val (.int p1), .val (.int p2), .val (.ref b1), .unset, .unset, .unset, .unset, .unset, .unset, .unset, .unset, .unset] [(.int (12271 : Int32)), (.int (10 : Int32)), (.ref b18), (.ref b18)])) (fun _ kt => XS.sipush X38.here hx rfl (hb hby at_166) kt) ?_
  obtain ⟨T40, h40, X40, e40, W40, A40, st40⟩ := own_iastore X38 hx hZ e38 A38 (j := (10 : Int32)) (i := 10) rfl (by decide) (g := (mkF m 169 #[.val (.int p1), .val (.int p2), .val (.ref b1), .unset, .unset, .unset, .unset, .unset, .unset, .unset, .unset, .unset] [(.int (12271 : Int32)), (.int (10 : Int32)), (.ref b18), (.ref b18)])) rfl rfl (hb hby at_169)
  have f41 := f39.other W40 ne_b1_b18
  have z40 : n0 ≤ h40.size := Nat.le_trans z38 (Nat.le_of_eq W40.size.symm)
  have N40 := Fr.snoc X40 N38 gg18
  refine own_via (T' := T40) (g' := (mkF m 170 #[.val (.int p1), .val (.int p2), .val (.ref b1), .unset, .unset, .unset, .unset, .unset, .unset, .unset, .unset, .unset] [(.ref b18)])) (fun _ kt => st40 _ kt) ?_
  refine own_via (T' := T40) (g' := (mkF m 171 #[.val (.int p1), .val (.int p2), .val (.ref b1), .unset, .unset, .unset, .unset, .unset, .unset, .unset, .unset, .unset] [(.ref b18), (.ref b18)])) (fun _ kt => XS.dup X40.here hx rfl (hb hby at_170) rfl rfl kt) ?_
  refine own_via (T' := T40) (g' := (mkF m 173 #[.val (.int p1), .val (.int p2), .val (.ref b1), .unset, .unset, .unset, .unset, .unset, .unset, .unset, .unset, .unset] [(.int (11 : Int32)), (.ref b18), (.ref b18)])) (fun _ kt => XS.bipush X40.here hx rfl (hb hby at_171) kt) ?_
  refine own_via (T' := T40) (g' := (mkF m 175 #[.val (.int p1), .val (.int p2), .val (.ref b1), .unset, .unset, .unset, .unset, .unset, .unset, .unset, .unset, .unset] [(.int (55295 : Int32)), (.int (11 : Int32)), (.ref b18), (.ref b18)])) (fun _ kt => X40.ldcInt hx hown (mvT hZ (hw _ (List.mem_of_getElem? (i := 4) rfl))) (g := (mkF m 173 #[.val (.int p1), .val (.int p2), .val (.ref b1), .unset, .unset, .unset, .unset, .unset, .unset, .unset, .unset, .unset] [(.int (11 : Int32)), (.ref b18), (.ref b18)])) rfl (hb hby at_173) _ kt) ?_
  obtain ⟨T42, h42, X42, e42, W42, A42, st42⟩ := own_iastore X40 hx hZ e40 A40 (j := (11 : Int32)) (i := 11) rfl (by decide) (g := (mkF m 175 #[.val (.int p1), .val (.int p2), .val (.ref b1), .unset, .unset, .unset, .unset, .unset, .unset, .unset, .unset, .unset] [(.int (55295 : Int32)), (.int (11 : Int32)), (.ref b18), (.ref b18)])) rfl rfl (hb hby at_175)
  have f43 := f41.other W42 ne_b1_b18
  have z42 : n0 ≤ h42.size := Nat.le_trans z40 (Nat.le_of_eq W42.size.symm)
  have N42 := Fr.snoc X42 N40 gg18
  refine own_via (T' := T42) (g' := (mkF m 176 #[.val (.int p1), .val (.int p2), .val (.ref b1), .unset, .unset, .unset, .unset, .unset, .unset, .unset, .unset, .unset] [(.ref b18)])) (fun _ kt => st42 _ kt) ?_
  refine own_via (T' := T42) (g' := (mkF m 177 #[.val (.int p1), .val (.int p2), .val (.ref b1), .unset, .unset, .unset, .unset, .unset, .unset, .unset, .unset, .unset] [(.ref b18), (.ref b18)])) (fun _ kt => XS.dup X42.here hx rfl (hb hby at_176) rfl rfl kt) ?_
  refine own_via (T' := T42) (g' := (mkF m 179 #[.val (.int p1), .val (.int p2), .val (.ref b1), .unset, .unset, .unset, .unset, .unset, .unset, .unset, .unset, .unset] [(.int (12 : Int32)), (.ref b18), (.ref b18)])) (fun _ kt => XS.bipush X42.here hx rfl (hb hby at_177) kt) ?_
  refine own_via (T' := T42) (g' := (mkF m 181 #[.val (.int p1), .val (.int p2), .val (.ref b1), .unset, .unset, .unset, .unset, .unset, .unset, .unset, .unset, .unset] [(.int (64975 : Int32)), (.int (12 : Int32)), (.ref b18), (.ref b18)])) (fun _ kt => X42.ldcInt hx hown (mvT hZ (hw _ (List.mem_of_getElem? (i := 5) rfl))) (g := (mkF m 179 #[.val (.int p1), .val (.int p2), .val (.ref b1), .unset, .unset, .unset, .unset, .unset, .unset, .unset, .unset, .unset] [(.int (12 : Int32)), (.ref b18), (.ref b18)])) rfl (hb hby at_179) _ kt) ?_
  obtain ⟨T44, h44, X44, e44, W44, A44, st44⟩ := own_iastore X42 hx hZ e42 A42 (j := (12 : Int32)) (i := 12) rfl (by decide) (g := (mkF m 181 #[.val (.int p1), .val (.int p2), .val (.ref b1), .unset, .unset, .unset, .unset, .unset, .unset, .unset, .unset, .unset] [(.int (64975 : Int32)), (.int (12 : Int32)), (.ref b18), (.ref b18)])) rfl rfl (hb hby at_181)
  have f45 := f43.other W44 ne_b1_b18
  have z44 : n0 ≤ h44.size := Nat.le_trans z42 (Nat.le_of_eq W44.size.symm)
  have N44 := Fr.snoc X44 N42 gg18
  refine own_via (T' := T44) (g' := (mkF m 182 #[.val (.int p1), .val (.int p2), .val (.ref b1), .unset, .unset, .unset, .unset, .unset, .unset, .unset, .unset, .unset] [(.ref b18)])) (fun _ kt => st44 _ kt) ?_
  refine own_via (T' := T44) (g' := (mkF m 183 #[.val (.int p1), .val (.int p2), .val (.ref b1), .unset, .unset, .unset, .unset, .unset, .unset, .unset, .unset, .unset] [(.ref b18), (.ref b18)])) (fun _ kt => XS.dup X44.here hx rfl (hb hby at_182) rfl rfl kt) ?_
  refine own_via (T' := T44) (g' := (mkF m 185 #[.val (.int p1), .val (.int p2), .val (.ref b1), .unset, .unset, .unset, .unset, .unset, .unset, .unset, .unset, .unset] [(.int (13 : Int32)), (.ref b18), (.ref b18)])) (fun _ kt => XS.bipush X44.here hx rfl (hb hby at_183) kt) ?_
  refine own_via (T' := T44) (g' := (mkF m 187 #[.val (.int p1), .val (.int p2), .val (.ref b1), .unset, .unset, .unset, .unset, .unset, .unset, .unset, .unset, .unset] [(.int (65533 : Int32)), (.int (13 : Int32)), (.ref b18), (.ref b18)])) (fun _ kt => X44.ldcInt hx hown (mvT hZ (hw _ (List.mem_of_getElem? (i := 6) rfl))) (g := (mkF m 185 #[.val (.int p1), .val (.int p2), .val (.ref b1), .unset, .unset, .unset, .unset, .unset, .unset, .unset, .unset, .unset] [(.int (13 : Int32)), (.ref b18), (.ref b18)])) rfl (hb hby at_185) _ kt) ?_
  obtain ⟨T46, h46, X46, e46, W46, A46, st46⟩ := own_iastore X44 hx hZ e44 A44 (j := (13 : Int32)) (i := 13) rfl (by decide) (g := (mkF m 187 #[.val (.int p1), .val (.int p2), .val (.ref b1), .unset, .unset, .unset, .unset, .unset, .unset, .unset, .unset, .unset] [(.int (65533 : Int32)), (.int (13 : Int32)), (.ref b18), (.ref b18)])) rfl rfl (hb hby at_187)
  have f47 := f45.other W46 ne_b1_b18
  have z46 : n0 ≤ h46.size := Nat.le_trans z44 (Nat.le_of_eq W46.size.symm)
  have N46 := Fr.snoc X46 N44 gg18
  refine own_via (T' := T46) (g' := (mkF m 188 #[.val (.int p1), .val (.int p2), .val (.ref b1), .unset, .unset, .unset, .unset, .unset, .unset, .unset, .unset, .unset] [(.ref b18)])) (fun _ kt => st46 _ kt) ?_
  refine own_via (T' := T46) (g' := (mkF m 189 #[.val (.int p1), .val (.int p2), .val (.ref b1), .unset, .unset, .unset, .unset, .unset, .unset, .unset, .unset, .unset] [(.ref b18), (.ref b18)])) (fun _ kt => XS.dup X46.here hx rfl (hb hby at_188) rfl rfl kt) ?_
  refine own_via (T' := T46) (g' := (mkF m 191 #[.val (.int p1), .val (.int p2), .val (.ref b1), .unset, .unset, .unset, .unset, .unset, .unset, .unset, .unset, .unset] [(.int (14 : Int32)), (.ref b18), (.ref b18)])) (fun _ kt => XS.bipush X46.here hx rfl (hb hby at_189) kt) ?_
  refine own_via (T' := T46) (g' := (mkF m 193 #[.val (.int p1), .val (.int p2), .val (.ref b1), .unset, .unset, .unset, .unset, .unset, .unset, .unset, .unset, .unset] [(.int (983039 : Int32)), (.int (14 : Int32)), (.ref b18), (.ref b18)])) (fun _ kt => X46.ldcInt hx hown (mvT hZ (hw _ (List.mem_of_getElem? (i := 7) rfl))) (g := (mkF m 191 #[.val (.int p1), .val (.int p2), .val (.ref b1), .unset, .unset, .unset, .unset, .unset, .unset, .unset, .unset, .unset] [(.int (14 : Int32)), (.ref b18), (.ref b18)])) rfl (hb hby at_191) _ kt) ?_
  obtain ⟨T48, h48, X48, e48, W48, A48, st48⟩ := own_iastore X46 hx hZ e46 A46 (j := (14 : Int32)) (i := 14) rfl (by decide) (g := (mkF m 193 #[.val (.int p1), .val (.int p2), .val (.ref b1), .unset, .unset, .unset, .unset, .unset, .unset, .unset, .unset, .unset] [(.int (983039 : Int32)), (.int (14 : Int32)), (.ref b18), (.ref b18)])) rfl rfl (hb hby at_193)
  have f49 := f47.other W48 ne_b1_b18
  have z48 : n0 ≤ h48.size := Nat.le_trans z46 (Nat.le_of_eq W48.size.symm)
  have N48 := Fr.snoc X48 N46 gg18
  refine own_via (T' := T48) (g' := (mkF m 194 #[.val (.int p1), .val (.int p2), .val (.ref b1), .unset, .unset, .unset, .unset, .unset, .unset, .unset, .unset, .unset] [(.ref b18)])) (fun _ kt => st48 _ kt) ?_
  have A50 : own_Ar Z h48 b18 .int 15 (fun i => .int (own_hi i)) := A48.congr (own_each (P := fun i => (own_up (own_up (own_up (own_up (own_up (own_up (own_up (own_up (own_up (own_up (own_up (own_up (own_up (own_up (own_up (fun _ => .int 0) 0 (.int (90 : Int32))) 1 (.int (95 : Int32))) 2 (.int (122 : Int32))) 3 (.int (214 : Int32))) 4 (.int (246 : Int32))) 5 (.int (767 : Int32))) 6 (.int (893 : Int32))) 7 (.int (8191 : Int32))) 8 (.int (8205 : Int32))) 9 (.int (8591 : Int32))) 10 (.int (12271 : Int32))) 11 (.int (55295 : Int32))) 12 (.int (64975 : Int32))) 13 (.int (65533 : Int32))) 14 (.int (983039 : Int32))) i = .int (own_hi i)) rfl rfl rfl rfl rfl rfl rfl rfl rfl rfl rfl rfl rfl rfl rfl)
  refine own_via (T' := T48) (g' := (mkF m 195 #[.val (.int p1), .val (.int p2), .val (.ref b1), .val (.ref b18), .unset, .unset, .unset, .unset, .unset, .unset, .unset, .unset] [])) (fun _ kt => XS.astoreN X48.here hx rfl (hb hby at_194) rfl rfl (l' := #[.val (.int p1), .val (.int p2), .val (.ref b1), .val (.ref b18), .unset, .unset, .unset, .unset, .unset, .unset, .unset, .unset]) rfl kt) ?_
  refine own_via (T' := T48) (g' := (mkF m 196 #[.val (.int p1), .val (.int p2), .val (.ref b1), .val (.ref b18), .unset, .unset, .unset, .unset, .unset, .unset, .unset, .unset] [(.int p1)])) (fun _ kt => XS.iloadN X48.here hx rfl (hb hby at_195) rfl kt) ?_
  refine own_via (T' := T48) (g' := (mkF m 198 #[.val (.int p1), .val (.int p2), .val (.ref b1), .val (.ref b18), .unset, .unset, .unset, .unset, .unset, .unset, .unset, .unset] [(.int (2147483647 : Int32)), (.int p1)])) (fun _ kt => X48.ldcInt hx hown (mvT hZ (hw _ (List.mem_of_getElem? (i := 8) rfl))) (g := (mkF m 196 #[.val (.int p1), .val (.int p2), .val (.ref b1), .val (.ref b18), .unset, .unset, .unset, .unset, .unset, .unset, .unset, .unset] [(.int p1)])) rfl (hb hby at_196) _ kt) ?_
  refine own_via (T' := T48) (g' := (mkF m 199 #[.val (.int p1), .val (.int p2), .val (.ref b1), .val (.ref b18), .unset, .unset, .unset, .unset, .unset, .unset, .unset, .unset] [(.int (p1 &&& (2147483647 : Int32)))])) (fun _ kt => XS.iand X48.here hx rfl (hb hby at_198) rfl kt) ?_
  refine own_via (T' := T48) (g' := (mkF m 201 #[.val (.int p1), .val (.int p2), .val (.ref b1), .val (.ref b18), .unset, .unset, .unset, .unset, .unset, .unset, .unset, .unset] [(.int (15 : Int32)), (.int (p1 &&& (2147483647 : Int32)))])) (fun _ kt => XS.bipush X48.here hx rfl (hb hby at_199) kt) ?_
  refine own_via (T' := T48) (g' := (mkF m 202 #[.val (.int p1), .val (.int p2), .val (.ref b1), .val (.ref b18), .unset, .unset, .unset, .unset, .unset, .unset, .unset, .unset] [(.int ((p1 &&& (2147483647 : Int32)) % (15 : Int32)))])) (fun _ kt => Jvm.RoadKit.iremM X48 hx rfl (hb hby at_201) rfl (by decide) kt) ?_
  obtain ⟨n, hn, hz⟩ : ∃ n : Nat, n < 15 ∧ ((p1 &&& (2147483647 : Int32)) % (15 : Int32)) = Int32.ofNat n := own_nat (c := 15) (own_rem p1).1 (own_rem p1).2
  rw [hz]
  have bnd := own_bnd n hn
  refine own_via (T' := T48) (g' := (mkF m 204 #[.val (.int p1), .val (.int p2), .val (.ref b1), .val (.ref b18), .val (.int (Int32.ofNat n)), .unset, .unset, .unset, .unset, .unset, .unset, .unset] [])) (fun _ kt => XS.istore X48.here hx rfl (hb hby at_202) rfl (l' := #[.val (.int p1), .val (.int p2), .val (.ref b1), .val (.ref b18), .val (.int (Int32.ofNat n)), .unset, .unset, .unset, .unset, .unset, .unset, .unset]) rfl kt) ?_
  refine own_via (T' := T48) (g' := (mkF m 205 #[.val (.int p1), .val (.int p2), .val (.ref b1), .val (.ref b18), .val (.int (Int32.ofNat n)), .unset, .unset, .unset, .unset, .unset, .unset, .unset] [(.int p2)])) (fun _ kt => XS.iloadN X48.here hx rfl (hb hby at_204) rfl kt) ?_
  refine own_via (T' := T48) (g' := (mkF m 207 #[.val (.int p1), .val (.int p2), .val (.ref b1), .val (.ref b18), .val (.int (Int32.ofNat n)), .unset, .unset, .unset, .unset, .unset, .unset, .unset] [(.int (2147483647 : Int32)), (.int p2)])) (fun _ kt => X48.ldcInt hx hown (mvT hZ (hw _ (List.mem_of_getElem? (i := 8) rfl))) (g := (mkF m 205 #[.val (.int p1), .val (.int p2), .val (.ref b1), .val (.ref b18), .val (.int (Int32.ofNat n)), .unset, .unset, .unset, .unset, .unset, .unset, .unset] [(.int p2)])) rfl (hb hby at_205) _ kt) ?_
  refine own_via (T' := T48) (g' := (mkF m 208 #[.val (.int p1), .val (.int p2), .val (.ref b1), .val (.ref b18), .val (.int (Int32.ofNat n)), .unset, .unset, .unset, .unset, .unset, .unset, .unset] [(.int (p2 &&& (2147483647 : Int32)))])) (fun _ kt => XS.iand X48.here hx rfl (hb hby at_207) rfl kt) ?_
  obtain ⟨u, hu⟩ : ∃ u, u = (p2 &&& (2147483647 : Int32)) := ⟨_, rfl⟩
  rw [← hu]
  have hu0 : 0 ≤ u.toInt := by rw [hu]; exact (c_and p2 2147483647 (by decide)).1
  refine own_via (T' := T48) (g' := (mkF m 210 #[.val (.int p1), .val (.int p2), .val (.ref b1), .val (.ref b18), .val (.int (Int32.ofNat n)), .val (.int u), .unset, .unset, .unset, .unset, .unset, .unset] [])) (fun _ kt => XS.istore X48.here hx rfl (hb hby at_208) rfl (l' := #[.val (.int p1), .val (.int p2), .val (.ref b1), .val (.ref b18), .val (.int (Int32.ofNat n)), .val (.int u), .unset, .unset, .unset, .unset, .unset, .unset]) rfl kt) ?_
  refine own_via (T' := T48) (g' := (mkF m 211 #[.val (.int p1), .val (.int p2), .val (.ref b1), .val (.ref b18), .val (.int (Int32.ofNat n)), .val (.int u), .unset, .unset, .unset, .unset, .unset, .unset] [(.ref b1)])) (fun _ kt => XS.aloadN X48.here hx rfl (hb hby at_210) rfl rfl kt) ?_
  refine own_via (T' := T48) (g' := (mkF m 213 #[.val (.int p1), .val (.int p2), .val (.ref b1), .val (.ref b18), .val (.int (Int32.ofNat n)), .val (.int u), .unset, .unset, .unset, .unset, .unset, .unset] [(.int (Int32.ofNat n)), (.ref b1)])) (fun _ kt => XS.iload X48.here hx rfl (hb hby at_211) rfl kt) ?_
  refine own_via (T' := T48) (g' := (mkF m 214 #[.val (.int p1), .val (.int p2), .val (.ref b1), .val (.ref b18), .val (.int (Int32.ofNat n)), .val (.int u), .unset, .unset, .unset, .unset, .unset, .unset] [(.int (own_lo n))])) (fun _ kt => own_iaload X48 hx hZ e48 f49 (j := (Int32.ofNat n)) (i := n) rfl hn (g := (mkF m 213 #[.val (.int p1), .val (.int p2), .val (.ref b1), .val (.ref b18), .val (.int (Int32.ofNat n)), .val (.int u), .unset, .unset, .unset, .unset, .unset, .unset] [(.int (Int32.ofNat n)), (.ref b1)])) rfl rfl (hb hby at_213) _ kt) ?_
  refine own_via (T' := T48) (g' := (mkF m 216 #[.val (.int p1), .val (.int p2), .val (.ref b1), .val (.ref b18), .val (.int (Int32.ofNat n)), .val (.int u), .unset, .unset, .unset, .unset, .unset, .unset] [(.int u), (.int (own_lo n))])) (fun _ kt => XS.iload X48.here hx rfl (hb hby at_214) rfl kt) ?_
  refine own_via (T' := T48) (g' := (mkF m 217 #[.val (.int p1), .val (.int p2), .val (.ref b1), .val (.ref b18), .val (.int (Int32.ofNat n)), .val (.int u), .unset, .unset, .unset, .unset, .unset, .unset] [(.ref b18), (.int u), (.int (own_lo n))])) (fun _ kt => XS.aloadN X48.here hx rfl (hb hby at_216) rfl rfl kt) ?_
  refine own_via (T' := T48) (g' := (mkF m 219 #[.val (.int p1), .val (.int p2), .val (.ref b1), .val (.ref b18), .val (.int (Int32.ofNat n)), .val (.int u), .unset, .unset, .unset, .unset, .unset, .unset] [(.int (Int32.ofNat n)), (.ref b18), (.int u), (.int (own_lo n))])) (fun _ kt => XS.iload X48.here hx rfl (hb hby at_217) rfl kt) ?_
  refine own_via (T' := T48) (g' := (mkF m 220 #[.val (.int p1), .val (.int p2), .val (.ref b1), .val (.ref b18), .val (.int (Int32.ofNat n)), .val (.int u), .unset, .unset, .unset, .unset, .unset, .unset] [(.int (own_hi n)), (.int u), (.int (own_lo n))])) (fun _ kt => own_iaload X48 hx hZ e48 A50 (j := (Int32.ofNat n)) (i := n) rfl hn (g := (mkF m 219 #[.val (.int p1), .val (.int p2), .val (.ref b1), .val (.ref b18), .val (.int (Int32.ofNat n)), .val (.int u), .unset, .unset, .unset, .unset, .unset, .unset] [(.int (Int32.ofNat n)), (.ref b18), (.int u), (.int (own_lo n))])) rfl rfl (hb hby at_219) _ kt) ?_
  refine own_via (T' := T48) (g' := (mkF m 221 #[.val (.int p1), .val (.int p2), .val (.ref b1), .val (.ref b18), .val (.int (Int32.ofNat n)), .val (.int u), .unset, .unset, .unset, .unset, .unset, .unset] [(.ref b1), (.int (own_hi n)), (.int u), (.int (own_lo n))])) (fun _ kt => XS.aloadN X48.here hx rfl (hb hby at_220) rfl rfl kt) ?_
  refine own_via (T' := T48) (g' := (mkF m 223 #[.val (.int p1), .val (.int p2), .val (.ref b1), .val (.ref b18), .val (.int (Int32.ofNat n)), .val (.int u), .unset, .unset, .unset, .unset, .unset, .unset] [(.int (Int32.ofNat n)), (.ref b1), (.int (own_hi n)), (.int u), (.int (own_lo n))])) (fun _ kt => XS.iload X48.here hx rfl (hb hby at_221) rfl kt) ?_
  refine own_via (T' := T48) (g' := (mkF m 224 #[.val (.int p1), .val (.int p2), .val (.ref b1), .val (.ref b18), .val (.int (Int32.ofNat n)), .val (.int u), .unset, .unset, .unset, .unset, .unset, .unset] [(.int (own_lo n)), (.int (own_hi n)), (.int u), (.int (own_lo n))])) (fun _ kt => own_iaload X48 hx hZ e48 f49 (j := (Int32.ofNat n)) (i := n) rfl hn (g := (mkF m 223 #[.val (.int p1), .val (.int p2), .val (.ref b1), .val (.ref b18), .val (.int (Int32.ofNat n)), .val (.int u), .unset, .unset, .unset, .unset, .unset, .unset] [(.int (Int32.ofNat n)), (.ref b1), (.int (own_hi n)), (.int u), (.int (own_lo n))])) rfl rfl (hb hby at_223) _ kt) ?_
  refine own_via (T' := T48) (g' := (mkF m 225 #[.val (.int p1), .val (.int p2), .val (.ref b1), .val (.ref b18), .val (.int (Int32.ofNat n)), .val (.int u), .unset, .unset, .unset, .unset, .unset, .unset] [(.int ((own_hi n) - (own_lo n))), (.int u), (.int (own_lo n))])) (fun _ kt => XS.isub X48.here hx rfl (hb hby at_224) rfl kt) ?_
  refine own_via (T' := T48) (g' := (mkF m 226 #[.val (.int p1), .val (.int p2), .val (.ref b1), .val (.ref b18), .val (.int (Int32.ofNat n)), .val (.int u), .unset, .unset, .unset, .unset, .unset, .unset] [(.int (1 : Int32)), (.int ((own_hi n) - (own_lo n))), (.int u), (.int (own_lo n))])) (fun _ kt => XS.iconst X48.here hx rfl (hb hby at_225) kt) ?_
  refine own_via (T' := T48) (g' := (mkF m 227 #[.val (.int p1), .val (.int p2), .val (.ref b1), .val (.ref b18), .val (.int (Int32.ofNat n)), .val (.int u), .unset, .unset, .unset, .unset, .unset, .unset] [(.int (((own_hi n) - (own_lo n)) + (1 : Int32))), (.int u), (.int (own_lo n))])) (fun _ kt => XS.iadd X48.here hx rfl (hb hby at_226) rfl kt) ?_
  refine own_via (T' := T48) (g' := (mkF m 228 #[.val (.int p1), .val (.int p2), .val (.ref b1), .val (.ref b18), .val (.int (Int32.ofNat n)), .val (.int u), .unset, .unset, .unset, .unset, .unset, .unset] [(.int (u % (((own_hi n) - (own_lo n)) + (1 : Int32)))), (.int (own_lo n))])) (fun _ kt => Jvm.RoadKit.iremM X48 hx rfl (hb hby at_227) rfl (own_span bnd.1 bnd.2.1 hu0).1 kt) ?_
  refine own_via (T' := T48) (g' := (mkF m 229 #[.val (.int p1), .val (.int p2), .val (.ref b1), .val (.ref b18), .val (.int (Int32.ofNat n)), .val (.int u), .unset, .unset, .unset, .unset, .unset, .unset] [(.int ((own_lo n) + (u % (((own_hi n) - (own_lo n)) + (1 : Int32)))))])) (fun _ kt => XS.iadd X48.here hx rfl (hb hby at_228) rfl kt) ?_
  obtain ⟨zi, hzi⟩ : ∃ z, z = ((own_lo n) + (u % (((own_hi n) - (own_lo n)) + (1 : Int32)))) := ⟨_, rfl⟩
  rw [← hzi]
  have I3 : own_in zi := by rw [hzi]; exact own_yes n hn _ (own_span bnd.1 bnd.2.1 hu0).2.1 (own_span bnd.1 bnd.2.1 hu0).2.2
  refine own_via (T' := T48) (g' := (mkF m 231 #[.val (.int p1), .val (.int p2), .val (.ref b1), .val (.ref b18), .val (.int (Int32.ofNat n)), .val (.int u), .val (.int zi), .unset, .unset, .unset, .unset, .unset] [])) (fun _ kt => XS.istore X48.here hx rfl (hb hby at_229) rfl (l' := #[.val (.int p1), .val (.int p2), .val (.ref b1), .val (.ref b18), .val (.int (Int32.ofNat n)), .val (.int u), .val (.int zi), .unset, .unset, .unset, .unset, .unset]) rfl kt) ?_
  refine own_via (T' := T48) (g' := (mkF m 232 #[.val (.int p1), .val (.int p2), .val (.ref b1), .val (.ref b18), .val (.int (Int32.ofNat n)), .val (.int u), .val (.int zi), .unset, .unset, .unset, .unset, .unset] [(.ref b18)])) (fun _ kt => XS.aloadN X48.here hx rfl (hb hby at_231) rfl rfl kt) ?_
  refine own_via (T' := T48) (g' := (mkF m 234 #[.val (.int p1), .val (.int p2), .val (.ref b1), .val (.ref b18), .val (.int (Int32.ofNat n)), .val (.int u), .val (.int zi), .unset, .unset, .unset, .unset, .unset] [(.int (Int32.ofNat n)), (.ref b18)])) (fun _ kt => XS.iload X48.here hx rfl (hb hby at_232) rfl kt) ?_
  refine own_via (T' := T48) (g' := (mkF m 235 #[.val (.int p1), .val (.int p2), .val (.ref b1), .val (.ref b18), .val (.int (Int32.ofNat n)), .val (.int u), .val (.int zi), .unset, .unset, .unset, .unset, .unset] [(.int (own_hi n))])) (fun _ kt => own_iaload X48 hx hZ e48 A50 (j := (Int32.ofNat n)) (i := n) rfl hn (g := (mkF m 234 #[.val (.int p1), .val (.int p2), .val (.ref b1), .val (.ref b18), .val (.int (Int32.ofNat n)), .val (.int u), .val (.int zi), .unset, .unset, .unset, .unset, .unset] [(.int (Int32.ofNat n)), (.ref b18)])) rfl rfl (hb hby at_234) _ kt) ?_
  refine own_via (T' := T48) (g' := (mkF m 236 #[.val (.int p1), .val (.int p2), .val (.ref b1), .val (.ref b18), .val (.int (Int32.ofNat n)), .val (.int u), .val (.int zi), .unset, .unset, .unset, .unset, .unset] [(.int (1 : Int32)), (.int (own_hi n))])) (fun _ kt => XS.iconst X48.here hx rfl (hb hby at_235) kt) ?_
  refine own_via (T' := T48) (g' := (mkF m 237 #[.val (.int p1), .val (.int p2), .val (.ref b1), .val (.ref b18), .val (.int (Int32.ofNat n)), .val (.int u), .val (.int zi), .unset, .unset, .unset, .unset, .unset] [(.int ((own_hi n) + (1 : Int32)))])) (fun _ kt => XS.iadd X48.here hx rfl (hb hby at_236) rfl kt) ?_
  obtain ⟨gl, hgl⟩ : ∃ z, z = ((own_hi n) + (1 : Int32)) := ⟨_, rfl⟩
  rw [← hgl]
  have glv : gl.toInt = (own_hi n).toInt + 1 := by
    have q := c_iadd (own_hi n) 1; have r := rng32 (own_hi n + 1); have e1 : (1 : Int32).toInt = 1 := rfl
    rw [hgl]; omega
  have gl0 : 0 < gl.toInt := by omega
  have I4 : ¬ own_in gl := own_no n hn _ (by omega) (by omega)
  refine own_via (T' := T48) (g' := (mkF m 239 #[.val (.int p1), .val (.int p2), .val (.ref b1), .val (.ref b18), .val (.int (Int32.ofNat n)), .val (.int u), .val (.int zi), .val (.int gl), .unset, .unset, .unset, .unset] [])) (fun _ kt => XS.istore X48.here hx rfl (hb hby at_237) rfl (l' := #[.val (.int p1), .val (.int p2), .val (.ref b1), .val (.ref b18), .val (.int (Int32.ofNat n)), .val (.int u), .val (.int zi), .val (.int gl), .unset, .unset, .unset, .unset]) rfl kt) ?_
  refine own_via (T' := T48) (g' := (mkF m 241 #[.val (.int p1), .val (.int p2), .val (.ref b1), .val (.ref b18), .val (.int (Int32.ofNat n)), .val (.int u), .val (.int zi), .val (.int gl), .unset, .unset, .unset, .unset] [(.int (Int32.ofNat n))])) (fun _ kt => XS.iload X48.here hx rfl (hb hby at_239) rfl kt) ?_
  refine own_via (T' := T48) (g' := (mkF m 243 #[.val (.int p1), .val (.int p2), .val (.ref b1), .val (.ref b18), .val (.int (Int32.ofNat n)), .val (.int u), .val (.int zi), .val (.int gl), .unset, .unset, .unset, .unset] [(.int (14 : Int32)), (.int (Int32.ofNat n))])) (fun _ kt => XS.bipush X48.here hx rfl (hb hby at_241) kt) ?_
  by_cases hc243_51 : (Int32.ofNat n) < (14 : Int32)
  · refine own_via (T' := T48) (g' := (mkF m 246 #[.val (.int p1), .val (.int p2), .val (.ref b1), .val (.ref b18), .val (.int (Int32.ofNat n)), .val (.int u), .val (.int zi), .val (.int gl), .unset, .unset, .unset, .unset] [])) (fun _ kt => XS.icmpNo X48.here hx rfl (hb hby at_243) rfl (tlt hc243_51).2.1 kt) ?_
    have n14 : n < 14 := (own_lt14 hn).mp hc243_51
    have hn14 : n + 1 < 15 := by omega
    refine own_via (T' := T48) (g' := (mkF m 247 #[.val (.int p1), .val (.int p2), .val (.ref b1), .val (.ref b18), .val (.int (Int32.ofNat n)), .val (.int u), .val (.int zi), .val (.int gl), .unset, .unset, .unset, .unset] [(.ref b1)])) (fun _ kt => XS.aloadN X48.here hx rfl (hb hby at_246) rfl rfl kt) ?_
    refine own_via (T' := T48) (g' := (mkF m 249 #[.val (.int p1), .val (.int p2), .val (.ref b1), .val (.ref b18), .val (.int (Int32.ofNat n)), .val (.int u), .val (.int zi), .val (.int gl), .unset, .unset, .unset, .unset] [(.int (Int32.ofNat n)), (.ref b1)])) (fun _ kt => XS.iload X48.here hx rfl (hb hby at_247) rfl kt) ?_
    refine own_via (T' := T48) (g' := (mkF m 250 #[.val (.int p1), .val (.int p2), .val (.ref b1), .val (.ref b18), .val (.int (Int32.ofNat n)), .val (.int u), .val (.int zi), .val (.int gl), .unset, .unset, .unset, .unset] [(.int (1 : Int32)), (.int (Int32.ofNat n)), (.ref b1)])) (fun _ kt => XS.iconst X48.here hx rfl (hb hby at_249) kt) ?_
    refine own_via (T' := T48) (g' := (mkF m 251 #[.val (.int p1), .val (.int p2), .val (.ref b1), .val (.ref b18), .val (.int (Int32.ofNat n)), .val (.int u), .val (.int zi), .val (.int gl), .unset, .unset, .unset, .unset] [(.int ((Int32.ofNat n) + (1 : Int32))), (.ref b1)])) (fun _ kt => XS.iadd X48.here hx rfl (hb hby at_250) rfl kt) ?_
    refine own_via (T' := T48) (g' := (mkF m 252 #[.val (.int p1), .val (.int p2), .val (.ref b1), .val (.ref b18), .val (.int (Int32.ofNat n)), .val (.int u), .val (.int zi), .val (.int gl), .unset, .unset, .unset, .unset] [(.int (own_lo (n + 1)))])) (fun _ kt => own_iaload X48 hx hZ e48 f49 (j := ((Int32.ofNat n) + (1 : Int32))) (i := (n + 1)) (inc_ofNat n).symm hn14 (g := (mkF m 251 #[.val (.int p1), .val (.int p2), .val (.ref b1), .val (.ref b18), .val (.int (Int32.ofNat n)), .val (.int u), .val (.int zi), .val (.int gl), .unset, .unset, .unset, .unset] [(.int ((Int32.ofNat n) + (1 : Int32))), (.ref b1)])) rfl rfl (hb hby at_251) _ kt) ?_
    refine own_via (T' := T48) (g' := (mkF m 253 #[.val (.int p1), .val (.int p2), .val (.ref b1), .val (.ref b18), .val (.int (Int32.ofNat n)), .val (.int u), .val (.int zi), .val (.int gl), .unset, .unset, .unset, .unset] [(.int (1 : Int32)), (.int (own_lo (n + 1)))])) (fun _ kt => XS.iconst X48.here hx rfl (hb hby at_252) kt) ?_
    refine own_via (T' := T48) (g' := (mkF m 254 #[.val (.int p1), .val (.int p2), .val (.ref b1), .val (.ref b18), .val (.int (Int32.ofNat n)), .val (.int u), .val (.int zi), .val (.int gl), .unset, .unset, .unset, .unset] [(.int ((own_lo (n + 1)) - (1 : Int32)))])) (fun _ kt => XS.isub X48.here hx rfl (hb hby at_253) rfl kt) ?_
    refine own_via (T' := T48) (g' := (mkF m 259 #[.val (.int p1), .val (.int p2), .val (.ref b1), .val (.ref b18), .val (.int (Int32.ofNat n)), .val (.int u), .val (.int zi), .val (.int gl), .unset, .unset, .unset, .unset] [(.int ((own_lo (n + 1)) - (1 : Int32)))])) (fun _ kt => XS.goto X48.here hx rfl (pc0 := 254) (pc' := 259) rfl (hb hby at_254) (by decide) (by decide) kt) ?_
    obtain ⟨gh, hgh⟩ : ∃ z, z = ((own_lo (n + 1)) - (1 : Int32)) := ⟨_, rfl⟩
    rw [← hgh]
    have ghv : gh.toInt = own_gh n := by
      have q := c_isub (own_lo (n + 1)) 1; have r := rng32 (own_lo (n + 1) - 1); have e1 : (1 : Int32).toInt = 1 := rfl; have z := own_gap n n14
      rw [hgh]; omega
    have gl1 : gl.toInt ≤ gh.toInt := by omega
    have I5 : ¬ own_in gh := own_no n hn _ (by omega) (by omega)
    refine own_via (T' := T48) (g' := (mkF m 261 #[.val (.int p1), .val (.int p2), .val (.ref b1), .val (.ref b18), .val (.int (Int32.ofNat n)), .val (.int u), .val (.int zi), .val (.int gl), .val (.int gh), .unset, .unset, .unset] [])) (fun _ kt => XS.istore X48.here hx rfl (hb hby at_259) rfl (l' := #[.val (.int p1), .val (.int p2), .val (.ref b1), .val (.ref b18), .val (.int (Int32.ofNat n)), .val (.int u), .val (.int zi), .val (.int gl), .val (.int gh), .unset, .unset, .unset]) rfl kt) ?_
    refine own_via (T' := T48) (g' := (mkF m 263 #[.val (.int p1), .val (.int p2), .val (.ref b1), .val (.ref b18), .val (.int (Int32.ofNat n)), .val (.int u), .val (.int zi), .val (.int gl), .val (.int gh), .unset, .unset, .unset] [(.int gl)])) (fun _ kt => XS.iload X48.here hx rfl (hb hby at_261) rfl kt) ?_
    refine own_via (T' := T48) (g' := (mkF m 265 #[.val (.int p1), .val (.int p2), .val (.ref b1), .val (.ref b18), .val (.int (Int32.ofNat n)), .val (.int u), .val (.int zi), .val (.int gl), .val (.int gh), .unset, .unset, .unset] [(.int u), (.int gl)])) (fun _ kt => XS.iload X48.here hx rfl (hb hby at_263) rfl kt) ?_
    refine own_via (T' := T48) (g' := (mkF m 267 #[.val (.int p1), .val (.int p2), .val (.ref b1), .val (.ref b18), .val (.int (Int32.ofNat n)), .val (.int u), .val (.int zi), .val (.int gl), .val (.int gh), .unset, .unset, .unset] [(.int gh), (.int u), (.int gl)])) (fun _ kt => XS.iload X48.here hx rfl (hb hby at_265) rfl kt) ?_
    refine own_via (T' := T48) (g' := (mkF m 269 #[.val (.int p1), .val (.int p2), .val (.ref b1), .val (.ref b18), .val (.int (Int32.ofNat n)), .val (.int u), .val (.int zi), .val (.int gl), .val (.int gh), .unset, .unset, .unset] [(.int gl), (.int gh), (.int u), (.int gl)])) (fun _ kt => XS.iload X48.here hx rfl (hb hby at_267) rfl kt) ?_
    refine own_via (T' := T48) (g' := (mkF m 270 #[.val (.int p1), .val (.int p2), .val (.ref b1), .val (.ref b18), .val (.int (Int32.ofNat n)), .val (.int u), .val (.int zi), .val (.int gl), .val (.int gh), .unset, .unset, .unset] [(.int (gh - gl)), (.int u), (.int gl)])) (fun _ kt => XS.isub X48.here hx rfl (hb hby at_269) rfl kt) ?_
    refine own_via (T' := T48) (g' := (mkF m 271 #[.val (.int p1), .val (.int p2), .val (.ref b1), .val (.ref b18), .val (.int (Int32.ofNat n)), .val (.int u), .val (.int zi), .val (.int gl), .val (.int gh), .unset, .unset, .unset] [(.int (1 : Int32)), (.int (gh - gl)), (.int u), (.int gl)])) (fun _ kt => XS.iconst X48.here hx rfl (hb hby at_270) kt) ?_
    refine own_via (T' := T48) (g' := (mkF m 272 #[.val (.int p1), .val (.int p2), .val (.ref b1), .val (.ref b18), .val (.int (Int32.ofNat n)), .val (.int u), .val (.int zi), .val (.int gl), .val (.int gh), .unset, .unset, .unset] [(.int ((gh - gl) + (1 : Int32))), (.int u), (.int gl)])) (fun _ kt => XS.iadd X48.here hx rfl (hb hby at_271) rfl kt) ?_
    refine own_via (T' := T48) (g' := (mkF m 273 #[.val (.int p1), .val (.int p2), .val (.ref b1), .val (.ref b18), .val (.int (Int32.ofNat n)), .val (.int u), .val (.int zi), .val (.int gl), .val (.int gh), .unset, .unset, .unset] [(.int (u % ((gh - gl) + (1 : Int32)))), (.int gl)])) (fun _ kt => Jvm.RoadKit.iremM X48 hx rfl (hb hby at_272) rfl (own_span gl0 gl1 hu0).1 kt) ?_
    refine own_via (T' := T48) (g' := (mkF m 274 #[.val (.int p1), .val (.int p2), .val (.ref b1), .val (.ref b18), .val (.int (Int32.ofNat n)), .val (.int u), .val (.int zi), .val (.int gl), .val (.int gh), .unset, .unset, .unset] [(.int (gl + (u % ((gh - gl) + (1 : Int32)))))])) (fun _ kt => XS.iadd X48.here hx rfl (hb hby at_273) rfl kt) ?_
    obtain ⟨gp, hgp⟩ : ∃ z, z = (gl + (u % ((gh - gl) + (1 : Int32)))) := ⟨_, rfl⟩
    rw [← hgp]
    have I6 : ¬ own_in gp := by
      have q := own_span gl0 gl1 hu0
      rw [← hgp] at q
      exact own_no n hn _ (by omega) (by omega)
    refine own_via (T' := T48) (g' := (mkF m 276 #[.val (.int p1), .val (.int p2), .val (.ref b1), .val (.ref b18), .val (.int (Int32.ofNat n)), .val (.int u), .val (.int zi), .val (.int gl), .val (.int gh), .val (.int gp), .unset, .unset] [])) (fun _ kt => XS.istore X48.here hx rfl (hb hby at_274) rfl (l' := #[.val (.int p1), .val (.int p2), .val (.ref b1), .val (.ref b18), .val (.int (Int32.ofNat n)), .val (.int u), .val (.int zi), .val (.int gl), .val (.int gh), .val (.int gp), .unset, .unset]) rfl kt) ?_
    refine own_via (T' := T48) (g' := (mkF m 278 #[.val (.int p1), .val (.int p2), .val (.ref b1), .val (.ref b18), .val (.int (Int32.ofNat n)), .val (.int u), .val (.int zi), .val (.int gl), .val (.int gh), .val (.int gp), .unset, .unset] [(.int u)])) (fun _ kt => XS.iload X48.here hx rfl (hb hby at_276) rfl kt) ?_
    refine own_via (T' := T48) (g' := (mkF m 280 #[.val (.int p1), .val (.int p2), .val (.ref b1), .val (.ref b18), .val (.int (Int32.ofNat n)), .val (.int u), .val (.int zi), .val (.int gl), .val (.int gh), .val (.int gp), .unset, .unset] [(.int (65 : Int32)), (.int u)])) (fun _ kt => XS.bipush X48.here hx rfl (hb hby at_278) kt) ?_
    refine own_via (T' := T48) (g' := (mkF m 281 #[.val (.int p1), .val (.int p2), .val (.ref b1), .val (.ref b18), .val (.int (Int32.ofNat n)), .val (.int u), .val (.int zi), .val (.int gl), .val (.int gh), .val (.int gp), .unset, .unset] [(.int (u % (65 : Int32)))])) (fun _ kt => Jvm.RoadKit.iremM X48 hx rfl (hb hby at_280) rfl (by decide) kt) ?_
    obtain ⟨lp, hlp⟩ : ∃ z, z = (u % (65 : Int32)) := ⟨_, rfl⟩
    rw [← hlp]
    have I7 : ¬ own_in lp := by
      have q := (c_iremV u 65).1 hu0 (by decide)
      rw [← hlp] at q
      have e65 : (65 : Int32).toInt = 65 := rfl
      exact own_low _ (by omega)
    refine own_via (T' := T48) (g' := (mkF m 283 #[.val (.int p1), .val (.int p2), .val (.ref b1), .val (.ref b18), .val (.int (Int32.ofNat n)), .val (.int u), .val (.int zi), .val (.int gl), .val (.int gh), .val (.int gp), .val (.int lp), .unset] [])) (fun _ kt => XS.istore X48.here hx rfl (hb hby at_281) rfl (l' := #[.val (.int p1), .val (.int p2), .val (.ref b1), .val (.ref b18), .val (.int (Int32.ofNat n)), .val (.int u), .val (.int zi), .val (.int gl), .val (.int gh), .val (.int gp), .val (.int lp), .unset]) rfl kt) ?_
    refine own_via (T' := T48) (g' := (mkF m 284 #[.val (.int p1), .val (.int p2), .val (.ref b1), .val (.ref b18), .val (.int (Int32.ofNat n)), .val (.int u), .val (.int zi), .val (.int gl), .val (.int gh), .val (.int gp), .val (.int lp), .unset] [(.ref b1)])) (fun _ kt => XS.aloadN X48.here hx rfl (hb hby at_283) rfl rfl kt) ?_
    refine own_via (T' := T48) (g' := (mkF m 286 #[.val (.int p1), .val (.int p2), .val (.ref b1), .val (.ref b18), .val (.int (Int32.ofNat n)), .val (.int u), .val (.int zi), .val (.int gl), .val (.int gh), .val (.int gp), .val (.int lp), .unset] [(.int (Int32.ofNat n)), (.ref b1)])) (fun _ kt => XS.iload X48.here hx rfl (hb hby at_284) rfl kt) ?_
    refine own_via (T' := T48) (g' := (mkF m 287 #[.val (.int p1), .val (.int p2), .val (.ref b1), .val (.ref b18), .val (.int (Int32.ofNat n)), .val (.int u), .val (.int zi), .val (.int gl), .val (.int gh), .val (.int gp), .val (.int lp), .unset] [(.int (own_lo n))])) (fun _ kt => own_iaload X48 hx hZ e48 f49 (j := (Int32.ofNat n)) (i := n) rfl hn (g := (mkF m 286 #[.val (.int p1), .val (.int p2), .val (.ref b1), .val (.ref b18), .val (.int (Int32.ofNat n)), .val (.int u), .val (.int zi), .val (.int gl), .val (.int gh), .val (.int gp), .val (.int lp), .unset] [(.int (Int32.ofNat n)), (.ref b1)])) rfl rfl (hb hby at_286) _ kt) ?_
    obtain ⟨v52, T52, L52, X52, hQ52, st52⟩ := own_callS X48 hx hZ (y := (⟨"com/example/infoset/infoset/xdm/XmlNames", "isNameStart", "(I)Z"⟩ : MethodName)) hown (hw _ (List.mem_of_getElem? (i := 9) rfl)) (hw _ (List.mem_of_getElem? (i := 10) rfl)) (hw _ (List.mem_of_getElem? (i := 11) rfl)) (hw _ (List.mem_of_getElem? (i := 12) rfl)) (by decide) (W := 0) (argsL := [(.int (own_lo n))]) (rest := []) (rm1 l Z a0 hw [] (own_lo n) h48) (by decide) (by decide) (by decide) (by decide) e48 (g := (mkF m 287 #[.val (.int p1), .val (.int p2), .val (.ref b1), .val (.ref b18), .val (.int (Int32.ofNat n)), .val (.int u), .val (.int zi), .val (.int gl), .val (.int gh), .val (.int gp), .val (.int lp), .unset] [(.int (own_lo n))])) rfl (by rw [hml]; rfl) (lenOf pd_0 rfl) rfl (by show 2 * 0 + _ ≤ _; exact Nat.le_of_eq rfl) (hb hby at_287)
    obtain ⟨rfl, hL52, e52⟩ := hQ52
    replace X52 := own_pure (v := none) (r := none) X52 rfl rfl hL52
    refine own_via (T' := T52) (g' := (mkF m 290 #[.val (.int p1), .val (.int p2), .val (.ref b1), .val (.ref b18), .val (.int (Int32.ofNat n)), .val (.int u), .val (.int zi), .val (.int gl), .val (.int gh), .val (.int gp), .val (.int lp), .unset] [(.int (own_nsv (own_lo n)))])) (fun _ kt => st52 _ kt) ?_
    refine own_via (T' := T52) (g' := (mkF m 293 #[.val (.int p1), .val (.int p2), .val (.ref b1), .val (.ref b18), .val (.int (Int32.ofNat n)), .val (.int u), .val (.int zi), .val (.int gl), .val (.int gh), .val (.int gp), .val (.int lp), .unset] [])) (fun _ kt => XS.ifNo X52.here hx rfl (hb hby at_290) rfl ((if0 _ _).trans (feq (own_ns1 (own_yes n hn _ (Int.le_refl _) bnd.2.1))).1) kt) ?_
    refine own_via (T' := T52) (g' := (mkF m 294 #[.val (.int p1), .val (.int p2), .val (.ref b1), .val (.ref b18), .val (.int (Int32.ofNat n)), .val (.int u), .val (.int zi), .val (.int gl), .val (.int gh), .val (.int gp), .val (.int lp), .unset] [(.ref b18)])) (fun _ kt => XS.aloadN X52.here hx rfl (hb hby at_293) rfl rfl kt) ?_
    refine own_via (T' := T52) (g' := (mkF m 296 #[.val (.int p1), .val (.int p2), .val (.ref b1), .val (.ref b18), .val (.int (Int32.ofNat n)), .val (.int u), .val (.int zi), .val (.int gl), .val (.int gh), .val (.int gp), .val (.int lp), .unset] [(.int (Int32.ofNat n)), (.ref b18)])) (fun _ kt => XS.iload X52.here hx rfl (hb hby at_294) rfl kt) ?_
    refine own_via (T' := T52) (g' := (mkF m 297 #[.val (.int p1), .val (.int p2), .val (.ref b1), .val (.ref b18), .val (.int (Int32.ofNat n)), .val (.int u), .val (.int zi), .val (.int gl), .val (.int gh), .val (.int gp), .val (.int lp), .unset] [(.int (own_hi n))])) (fun _ kt => own_iaload X52 hx hZ e52 A50 (j := (Int32.ofNat n)) (i := n) rfl hn (g := (mkF m 296 #[.val (.int p1), .val (.int p2), .val (.ref b1), .val (.ref b18), .val (.int (Int32.ofNat n)), .val (.int u), .val (.int zi), .val (.int gl), .val (.int gh), .val (.int gp), .val (.int lp), .unset] [(.int (Int32.ofNat n)), (.ref b18)])) rfl rfl (hb hby at_296) _ kt) ?_
    obtain ⟨v53, T53, L53, X53, hQ53, st53⟩ := own_callS X52 hx hZ (y := (⟨"com/example/infoset/infoset/xdm/XmlNames", "isNameStart", "(I)Z"⟩ : MethodName)) hown (hw _ (List.mem_of_getElem? (i := 9) rfl)) (hw _ (List.mem_of_getElem? (i := 10) rfl)) (hw _ (List.mem_of_getElem? (i := 11) rfl)) (hw _ (List.mem_of_getElem? (i := 12) rfl)) (by decide) (W := 0) (argsL := [(.int (own_hi n))]) (rest := []) (rm1 l Z a0 hw [] (own_hi n) h48) (by decide) (by decide) (by decide) (by decide) e52 (g := (mkF m 297 #[.val (.int p1), .val (.int p2), .val (.ref b1), .val (.ref b18), .val (.int (Int32.ofNat n)), .val (.int u), .val (.int zi), .val (.int gl), .val (.int gh), .val (.int gp), .val (.int lp), .unset] [(.int (own_hi n))])) rfl (by rw [hml]; rfl) (lenOf pd_0 rfl) rfl (by show 2 * 0 + _ ≤ _; exact Nat.le_of_eq rfl) (hb hby at_297)
    obtain ⟨rfl, hL53, e53⟩ := hQ53
    replace X53 := own_pure (v := none) (r := none) X53 rfl rfl hL53
    refine own_via (T' := T53) (g' := (mkF m 300 #[.val (.int p1), .val (.int p2), .val (.ref b1), .val (.ref b18), .val (.int (Int32.ofNat n)), .val (.int u), .val (.int zi), .val (.int gl), .val (.int gh), .val (.int gp), .val (.int lp), .unset] [(.int (own_nsv (own_hi n)))])) (fun _ kt => st53 _ kt) ?_
    refine own_via (T' := T53) (g' := (mkF m 303 #[.val (.int p1), .val (.int p2), .val (.ref b1), .val (.ref b18), .val (.int (Int32.ofNat n)), .val (.int u), .val (.int zi), .val (.int gl), .val (.int gh), .val (.int gp), .val (.int lp), .unset] [])) (fun _ kt => XS.ifNo X53.here hx rfl (hb hby at_300) rfl ((if0 _ _).trans (feq (own_ns1 (own_yes n hn _ bnd.2.1 (Int.le_refl _)))).1) kt) ?_
    refine own_via (T' := T53) (g' := (mkF m 305 #[.val (.int p1), .val (.int p2), .val (.ref b1), .val (.ref b18), .val (.int (Int32.ofNat n)), .val (.int u), .val (.int zi), .val (.int gl), .val (.int gh), .val (.int gp), .val (.int lp), .unset] [(.int zi)])) (fun _ kt => XS.iload X53.here hx rfl (hb hby at_303) rfl kt) ?_
    obtain ⟨v54, T54, L54, X54, hQ54, st54⟩ := own_callS X53 hx hZ (y := (⟨"com/example/infoset/infoset/xdm/XmlNames", "isNameStart", "(I)Z"⟩ : MethodName)) hown (hw _ (List.mem_of_getElem? (i := 9) rfl)) (hw _ (List.mem_of_getElem? (i := 10) rfl)) (hw _ (List.mem_of_getElem? (i := 11) rfl)) (hw _ (List.mem_of_getElem? (i := 12) rfl)) (by decide) (W := 0) (argsL := [(.int zi)]) (rest := []) (rm1 l Z a0 hw [] zi h48) (by decide) (by decide) (by decide) (by decide) e53 (g := (mkF m 305 #[.val (.int p1), .val (.int p2), .val (.ref b1), .val (.ref b18), .val (.int (Int32.ofNat n)), .val (.int u), .val (.int zi), .val (.int gl), .val (.int gh), .val (.int gp), .val (.int lp), .unset] [(.int zi)])) rfl (by rw [hml]; rfl) (lenOf pd_0 rfl) rfl (by show 2 * 0 + _ ≤ _; exact Nat.le_of_eq rfl) (hb hby at_305)
    obtain ⟨rfl, hL54, e54⟩ := hQ54
    replace X54 := own_pure (v := none) (r := none) X54 rfl rfl hL54
    refine own_via (T' := T54) (g' := (mkF m 308 #[.val (.int p1), .val (.int p2), .val (.ref b1), .val (.ref b18), .val (.int (Int32.ofNat n)), .val (.int u), .val (.int zi), .val (.int gl), .val (.int gh), .val (.int gp), .val (.int lp), .unset] [(.int (own_nsv zi))])) (fun _ kt => st54 _ kt) ?_
    refine own_via (T' := T54) (g' := (mkF m 311 #[.val (.int p1), .val (.int p2), .val (.ref b1), .val (.ref b18), .val (.int (Int32.ofNat n)), .val (.int u), .val (.int zi), .val (.int gl), .val (.int gh), .val (.int gp), .val (.int lp), .unset] [])) (fun _ kt => XS.ifNo X54.here hx rfl (hb hby at_308) rfl ((if0 _ _).trans (feq (own_ns1 I3)).1) kt) ?_
    refine own_via (T' := T54) (g' := (mkF m 313 #[.val (.int p1), .val (.int p2), .val (.ref b1), .val (.ref b18), .val (.int (Int32.ofNat n)), .val (.int u), .val (.int zi), .val (.int gl), .val (.int gh), .val (.int gp), .val (.int lp), .unset] [(.int gl)])) (fun _ kt => XS.iload X54.here hx rfl (hb hby at_311) rfl kt) ?_
    obtain ⟨v55, T55, L55, X55, hQ55, st55⟩ := own_callS X54 hx hZ (y := (⟨"com/example/infoset/infoset/xdm/XmlNames", "isNameStart", "(I)Z"⟩ : MethodName)) hown (hw _ (List.mem_of_getElem? (i := 9) rfl)) (hw _ (List.mem_of_getElem? (i := 10) rfl)) (hw _ (List.mem_of_getElem? (i := 11) rfl)) (hw _ (List.mem_of_getElem? (i := 12) rfl)) (by decide) (W := 0) (argsL := [(.int gl)]) (rest := []) (rm1 l Z a0 hw [] gl h48) (by decide) (by decide) (by decide) (by decide) e54 (g := (mkF m 313 #[.val (.int p1), .val (.int p2), .val (.ref b1), .val (.ref b18), .val (.int (Int32.ofNat n)), .val (.int u), .val (.int zi), .val (.int gl), .val (.int gh), .val (.int gp), .val (.int lp), .unset] [(.int gl)])) rfl (by rw [hml]; rfl) (lenOf pd_0 rfl) rfl (by show 2 * 0 + _ ≤ _; exact Nat.le_of_eq rfl) (hb hby at_313)
    obtain ⟨rfl, hL55, e55⟩ := hQ55
    replace X55 := own_pure (v := none) (r := none) X55 rfl rfl hL55
    refine own_via (T' := T55) (g' := (mkF m 316 #[.val (.int p1), .val (.int p2), .val (.ref b1), .val (.ref b18), .val (.int (Int32.ofNat n)), .val (.int u), .val (.int zi), .val (.int gl), .val (.int gh), .val (.int gp), .val (.int lp), .unset] [(.int (own_nsv gl))])) (fun _ kt => st55 _ kt) ?_
    refine own_via (T' := T55) (g' := (mkF m 319 #[.val (.int p1), .val (.int p2), .val (.ref b1), .val (.ref b18), .val (.int (Int32.ofNat n)), .val (.int u), .val (.int zi), .val (.int gl), .val (.int gh), .val (.int gp), .val (.int lp), .unset] [])) (fun _ kt => XS.ifNo X55.here hx rfl (hb hby at_316) rfl ((if0 _ _).trans (teq (own_ns0 I4)).2) kt) ?_
    refine own_via (T' := T55) (g' := (mkF m 321 #[.val (.int p1), .val (.int p2), .val (.ref b1), .val (.ref b18), .val (.int (Int32.ofNat n)), .val (.int u), .val (.int zi), .val (.int gl), .val (.int gh), .val (.int gp), .val (.int lp), .unset] [(.int gh)])) (fun _ kt => XS.iload X55.here hx rfl (hb hby at_319) rfl kt) ?_
    obtain ⟨v56, T56, L56, X56, hQ56, st56⟩ := own_callS X55 hx hZ (y := (⟨"com/example/infoset/infoset/xdm/XmlNames", "isNameStart", "(I)Z"⟩ : MethodName)) hown (hw _ (List.mem_of_getElem? (i := 9) rfl)) (hw _ (List.mem_of_getElem? (i := 10) rfl)) (hw _ (List.mem_of_getElem? (i := 11) rfl)) (hw _ (List.mem_of_getElem? (i := 12) rfl)) (by decide) (W := 0) (argsL := [(.int gh)]) (rest := []) (rm1 l Z a0 hw [] gh h48) (by decide) (by decide) (by decide) (by decide) e55 (g := (mkF m 321 #[.val (.int p1), .val (.int p2), .val (.ref b1), .val (.ref b18), .val (.int (Int32.ofNat n)), .val (.int u), .val (.int zi), .val (.int gl), .val (.int gh), .val (.int gp), .val (.int lp), .unset] [(.int gh)])) rfl (by rw [hml]; rfl) (lenOf pd_0 rfl) rfl (by show 2 * 0 + _ ≤ _; exact Nat.le_of_eq rfl) (hb hby at_321)
    obtain ⟨rfl, hL56, e56⟩ := hQ56
    replace X56 := own_pure (v := none) (r := none) X56 rfl rfl hL56
    refine own_via (T' := T56) (g' := (mkF m 324 #[.val (.int p1), .val (.int p2), .val (.ref b1), .val (.ref b18), .val (.int (Int32.ofNat n)), .val (.int u), .val (.int zi), .val (.int gl), .val (.int gh), .val (.int gp), .val (.int lp), .unset] [(.int (own_nsv gh))])) (fun _ kt => st56 _ kt) ?_
    refine own_via (T' := T56) (g' := (mkF m 327 #[.val (.int p1), .val (.int p2), .val (.ref b1), .val (.ref b18), .val (.int (Int32.ofNat n)), .val (.int u), .val (.int zi), .val (.int gl), .val (.int gh), .val (.int gp), .val (.int lp), .unset] [])) (fun _ kt => XS.ifNo X56.here hx rfl (hb hby at_324) rfl ((if0 _ _).trans (teq (own_ns0 I5)).2) kt) ?_
    refine own_via (T' := T56) (g' := (mkF m 329 #[.val (.int p1), .val (.int p2), .val (.ref b1), .val (.ref b18), .val (.int (Int32.ofNat n)), .val (.int u), .val (.int zi), .val (.int gl), .val (.int gh), .val (.int gp), .val (.int lp), .unset] [(.int gp)])) (fun _ kt => XS.iload X56.here hx rfl (hb hby at_327) rfl kt) ?_
    obtain ⟨v57, T57, L57, X57, hQ57, st57⟩ := own_callS X56 hx hZ (y := (⟨"com/example/infoset/infoset/xdm/XmlNames", "isNameStart", "(I)Z"⟩ : MethodName)) hown (hw _ (List.mem_of_getElem? (i := 9) rfl)) (hw _ (List.mem_of_getElem? (i := 10) rfl)) (hw _ (List.mem_of_getElem? (i := 11) rfl)) (hw _ (List.mem_of_getElem? (i := 12) rfl)) (by decide) (W := 0) (argsL := [(.int gp)]) (rest := []) (rm1 l Z a0 hw [] gp h48) (by decide) (by decide) (by decide) (by decide) e56 (g := (mkF m 329 #[.val (.int p1), .val (.int p2), .val (.ref b1), .val (.ref b18), .val (.int (Int32.ofNat n)), .val (.int u), .val (.int zi), .val (.int gl), .val (.int gh), .val (.int gp), .val (.int lp), .unset] [(.int gp)])) rfl (by rw [hml]; rfl) (lenOf pd_0 rfl) rfl (by show 2 * 0 + _ ≤ _; exact Nat.le_of_eq rfl) (hb hby at_329)
    obtain ⟨rfl, hL57, e57⟩ := hQ57
    replace X57 := own_pure (v := none) (r := none) X57 rfl rfl hL57
    refine own_via (T' := T57) (g' := (mkF m 332 #[.val (.int p1), .val (.int p2), .val (.ref b1), .val (.ref b18), .val (.int (Int32.ofNat n)), .val (.int u), .val (.int zi), .val (.int gl), .val (.int gh), .val (.int gp), .val (.int lp), .unset] [(.int (own_nsv gp))])) (fun _ kt => st57 _ kt) ?_
    refine own_via (T' := T57) (g' := (mkF m 335 #[.val (.int p1), .val (.int p2), .val (.ref b1), .val (.ref b18), .val (.int (Int32.ofNat n)), .val (.int u), .val (.int zi), .val (.int gl), .val (.int gh), .val (.int gp), .val (.int lp), .unset] [])) (fun _ kt => XS.ifNo X57.here hx rfl (hb hby at_332) rfl ((if0 _ _).trans (teq (own_ns0 I6)).2) kt) ?_
    refine own_via (T' := T57) (g' := (mkF m 337 #[.val (.int p1), .val (.int p2), .val (.ref b1), .val (.ref b18), .val (.int (Int32.ofNat n)), .val (.int u), .val (.int zi), .val (.int gl), .val (.int gh), .val (.int gp), .val (.int lp), .unset] [(.int lp)])) (fun _ kt => XS.iload X57.here hx rfl (hb hby at_335) rfl kt) ?_
    obtain ⟨v58, T58, L58, X58, hQ58, st58⟩ := own_callS X57 hx hZ (y := (⟨"com/example/infoset/infoset/xdm/XmlNames", "isNameStart", "(I)Z"⟩ : MethodName)) hown (hw _ (List.mem_of_getElem? (i := 9) rfl)) (hw _ (List.mem_of_getElem? (i := 10) rfl)) (hw _ (List.mem_of_getElem? (i := 11) rfl)) (hw _ (List.mem_of_getElem? (i := 12) rfl)) (by decide) (W := 0) (argsL := [(.int lp)]) (rest := []) (rm1 l Z a0 hw [] lp h48) (by decide) (by decide) (by decide) (by decide) e57 (g := (mkF m 337 #[.val (.int p1), .val (.int p2), .val (.ref b1), .val (.ref b18), .val (.int (Int32.ofNat n)), .val (.int u), .val (.int zi), .val (.int gl), .val (.int gh), .val (.int gp), .val (.int lp), .unset] [(.int lp)])) rfl (by rw [hml]; rfl) (lenOf pd_0 rfl) rfl (by show 2 * 0 + _ ≤ _; exact Nat.le_of_eq rfl) (hb hby at_337)
    obtain ⟨rfl, hL58, e58⟩ := hQ58
    replace X58 := own_pure (v := none) (r := none) X58 rfl rfl hL58
    refine own_via (T' := T58) (g' := (mkF m 340 #[.val (.int p1), .val (.int p2), .val (.ref b1), .val (.ref b18), .val (.int (Int32.ofNat n)), .val (.int u), .val (.int zi), .val (.int gl), .val (.int gh), .val (.int gp), .val (.int lp), .unset] [(.int (own_nsv lp))])) (fun _ kt => st58 _ kt) ?_
    refine own_via (T' := T58) (g' := (mkF m 343 #[.val (.int p1), .val (.int p2), .val (.ref b1), .val (.ref b18), .val (.int (Int32.ofNat n)), .val (.int u), .val (.int zi), .val (.int gl), .val (.int gh), .val (.int gp), .val (.int lp), .unset] [])) (fun _ kt => XS.ifNo X58.here hx rfl (hb hby at_340) rfl ((if0 _ _).trans (teq (own_ns0 I7)).2) kt) ?_
    refine own_via (T' := T58) (g' := (mkF m 344 #[.val (.int p1), .val (.int p2), .val (.ref b1), .val (.ref b18), .val (.int (Int32.ofNat n)), .val (.int u), .val (.int zi), .val (.int gl), .val (.int gh), .val (.int gp), .val (.int lp), .unset] [(.int (1 : Int32))])) (fun _ kt => XS.iconst X58.here hx rfl (hb hby at_343) kt) ?_
    refine own_via (T' := T58) (g' := (mkF m 348 #[.val (.int p1), .val (.int p2), .val (.ref b1), .val (.ref b18), .val (.int (Int32.ofNat n)), .val (.int u), .val (.int zi), .val (.int gl), .val (.int gh), .val (.int gp), .val (.int lp), .unset] [(.int (1 : Int32))])) (fun _ kt => XS.goto X58.here hx rfl (pc0 := 344) (pc' := 348) rfl (hb hby at_344) (by decide) (by decide) kt) ?_
    refine own_via (T' := T58) (g' := (mkF m 350 #[.val (.int p1), .val (.int p2), .val (.ref b1), .val (.ref b18), .val (.int (Int32.ofNat n)), .val (.int u), .val (.int zi), .val (.int gl), .val (.int gh), .val (.int gp), .val (.int lp), .val (.int (1 : Int32))] [])) (fun _ kt => XS.istore X58.here hx rfl (hb hby at_348) rfl (l' := #[.val (.int p1), .val (.int p2), .val (.ref b1), .val (.ref b18), .val (.int (Int32.ofNat n)), .val (.int u), .val (.int zi), .val (.int gl), .val (.int gh), .val (.int gp), .val (.int lp), .val (.int (1 : Int32))]) rfl kt) ?_
    refine own_via (T' := T58) (g' := (mkF m 351 #[.val (.int p1), .val (.int p2), .val (.ref b1), .val (.ref b18), .val (.int (Int32.ofNat n)), .val (.int u), .val (.int zi), .val (.int gl), .val (.int gh), .val (.int gp), .val (.int lp), .val (.int (1 : Int32))] [(.int p2)])) (fun _ kt => XS.iloadN X58.here hx rfl (hb hby at_350) rfl kt) ?_
    refine own_via (T' := T58) (g' := (mkF m 353 #[.val (.int p1), .val (.int p2), .val (.ref b1), .val (.ref b18), .val (.int (Int32.ofNat n)), .val (.int u), .val (.int zi), .val (.int gl), .val (.int gh), .val (.int gp), .val (.int lp), .val (.int (1 : Int32))] [(.int (65 : Int32)), (.int p2)])) (fun _ kt => XS.bipush X58.here hx rfl (hb hby at_351) kt) ?_
    by_cases hc353_59 : p2 < (65 : Int32)
    · refine own_via (T' := T58) (g' := (mkF m 362 #[.val (.int p1), .val (.int p2), .val (.ref b1), .val (.ref b18), .val (.int (Int32.ofNat n)), .val (.int u), .val (.int zi), .val (.int gl), .val (.int gh), .val (.int gp), .val (.int lp), .val (.int (1 : Int32))] [])) (fun _ kt => XS.icmpYes X58.here hx rfl (pc0 := 353) (pc' := 362) rfl (hb hby at_353) rfl (tlt hc353_59).1 (by decide) (by decide) kt) ?_
      refine own_via (T' := T58) (g' := (mkF m 364 #[.val (.int p1), .val (.int p2), .val (.ref b1), .val (.ref b18), .val (.int (Int32.ofNat n)), .val (.int u), .val (.int zi), .val (.int gl), .val (.int gh), .val (.int gp), .val (.int lp), .val (.int (1 : Int32))] [(.int (1 : Int32))])) (fun _ kt => XS.iload X58.here hx rfl (hb hby at_362) rfl kt) ?_
      refine own_via (T' := T58) (g' := (mkF m 367 #[.val (.int p1), .val (.int p2), .val (.ref b1), .val (.ref b18), .val (.int (Int32.ofNat n)), .val (.int u), .val (.int zi), .val (.int gl), .val (.int gh), .val (.int gp), .val (.int lp), .val (.int (1 : Int32))] [])) (fun _ kt => XS.ifNo X58.here hx rfl (hb hby at_364) rfl ((if0 _ _).trans (feq (by decide : ¬ ((1 : Int32) = (0 : Int32)))).1) kt) ?_
      refine own_via (T' := T58) (g' := (mkF m 368 #[.val (.int p1), .val (.int p2), .val (.ref b1), .val (.ref b18), .val (.int (Int32.ofNat n)), .val (.int u), .val (.int zi), .val (.int gl), .val (.int gh), .val (.int gp), .val (.int lp), .val (.int (1 : Int32))] [(.int p2)])) (fun _ kt => XS.iloadN X58.here hx rfl (hb hby at_367) rfl kt) ?_
      obtain ⟨v60, T60, L60, X60, hQ60, st60⟩ := own_callS X58 hx hZ (y := (⟨"com/example/infoset/infoset/xdm/XmlNames", "isNameStart", "(I)Z"⟩ : MethodName)) hown (hw _ (List.mem_of_getElem? (i := 9) rfl)) (hw _ (List.mem_of_getElem? (i := 10) rfl)) (hw _ (List.mem_of_getElem? (i := 11) rfl)) (hw _ (List.mem_of_getElem? (i := 12) rfl)) (by decide) (W := 0) (argsL := [(.int p2)]) (rest := []) (rm1 l Z a0 hw [] p2 h48) (by decide) (by decide) (by decide) (by decide) e58 (g := (mkF m 368 #[.val (.int p1), .val (.int p2), .val (.ref b1), .val (.ref b18), .val (.int (Int32.ofNat n)), .val (.int u), .val (.int zi), .val (.int gl), .val (.int gh), .val (.int gp), .val (.int lp), .val (.int (1 : Int32))] [(.int p2)])) rfl (by rw [hml]; rfl) (lenOf pd_0 rfl) rfl (by show 2 * 0 + _ ≤ _; exact Nat.le_of_eq rfl) (hb hby at_368)
      obtain ⟨rfl, hL60, e60⟩ := hQ60
      replace X60 := own_pure (v := none) (r := none) X60 rfl rfl hL60
      refine own_via (T' := T60) (g' := (mkF m 371 #[.val (.int p1), .val (.int p2), .val (.ref b1), .val (.ref b18), .val (.int (Int32.ofNat n)), .val (.int u), .val (.int zi), .val (.int gl), .val (.int gh), .val (.int gp), .val (.int lp), .val (.int (1 : Int32))] [(.int (own_nsv p2))])) (fun _ kt => st60 _ kt) ?_
      refine own_via (T' := T60) (g' := (mkF m 374 #[.val (.int p1), .val (.int p2), .val (.ref b1), .val (.ref b18), .val (.int (Int32.ofNat n)), .val (.int u), .val (.int zi), .val (.int gl), .val (.int gh), .val (.int gp), .val (.int lp), .val (.int (1 : Int32))] [])) (fun _ kt => XS.ifNo X60.here hx rfl (hb hby at_371) rfl ((if0 _ _).trans (teq (own_ns0 (own_low _ (Int32.lt_iff_toInt_lt.mp hc353_59)))).2) kt) ?_
      refine own_via (T' := T60) (g' := (mkF m 375 #[.val (.int p1), .val (.int p2), .val (.ref b1), .val (.ref b18), .val (.int (Int32.ofNat n)), .val (.int u), .val (.int zi), .val (.int gl), .val (.int gh), .val (.int gp), .val (.int lp), .val (.int (1 : Int32))] [(.int (1 : Int32))])) (fun _ kt => XS.iconst X60.here hx rfl (hb hby at_374) kt) ?_
      refine own_via (T' := T60) (g' := (mkF m 379 #[.val (.int p1), .val (.int p2), .val (.ref b1), .val (.ref b18), .val (.int (Int32.ofNat n)), .val (.int u), .val (.int zi), .val (.int gl), .val (.int gh), .val (.int gp), .val (.int lp), .val (.int (1 : Int32))] [(.int (1 : Int32))])) (fun _ kt => XS.goto X60.here hx rfl (pc0 := 375) (pc' := 379) rfl (hb hby at_375) (by decide) (by decide) kt) ?_
      refine own_via (T' := T60) (g' := (mkF m 381 #[.val (.int p1), .val (.int p2), .val (.ref b1), .val (.ref b18), .val (.int (Int32.ofNat n)), .val (.int u), .val (.int zi), .val (.int gl), .val (.int gh), .val (.int gp), .val (.int lp), .val (.int (1 : Int32))] [])) (fun _ kt => XS.istore X60.here hx rfl (hb hby at_379) rfl (l' := #[.val (.int p1), .val (.int p2), .val (.ref b1), .val (.ref b18), .val (.int (Int32.ofNat n)), .val (.int u), .val (.int zi), .val (.int gl), .val (.int gh), .val (.int gp), .val (.int lp), .val (.int (1 : Int32))]) rfl kt) ?_
      refine own_via (T' := T60) (g' := (mkF m 383 #[.val (.int p1), .val (.int p2), .val (.ref b1), .val (.ref b18), .val (.int (Int32.ofNat n)), .val (.int u), .val (.int zi), .val (.int gl), .val (.int gh), .val (.int gp), .val (.int lp), .val (.int (1 : Int32))] [(.int (1 : Int32))])) (fun _ kt => XS.iload X60.here hx rfl (hb hby at_381) rfl kt) ?_
      exact own_retZ X60 hx hret hlk (hb hby at_383) (by decide) ⟨rfl, N48⟩ (by decide) (by decide)
    · refine own_via (T' := T58) (g' := (mkF m 356 #[.val (.int p1), .val (.int p2), .val (.ref b1), .val (.ref b18), .val (.int (Int32.ofNat n)), .val (.int u), .val (.int zi), .val (.int gl), .val (.int gh), .val (.int gp), .val (.int lp), .val (.int (1 : Int32))] [])) (fun _ kt => XS.icmpNo X58.here hx rfl (hb hby at_353) rfl (flt hc353_59).1 kt) ?_
      refine own_via (T' := T58) (g' := (mkF m 357 #[.val (.int p1), .val (.int p2), .val (.ref b1), .val (.ref b18), .val (.int (Int32.ofNat n)), .val (.int u), .val (.int zi), .val (.int gl), .val (.int gh), .val (.int gp), .val (.int lp), .val (.int (1 : Int32))] [(.int p2)])) (fun _ kt => XS.iloadN X58.here hx rfl (hb hby at_356) rfl kt) ?_
      refine own_via (T' := T58) (g' := (mkF m 359 #[.val (.int p1), .val (.int p2), .val (.ref b1), .val (.ref b18), .val (.int (Int32.ofNat n)), .val (.int u), .val (.int zi), .val (.int gl), .val (.int gh), .val (.int gp), .val (.int lp), .val (.int (1 : Int32))] [(.int (983039 : Int32)), (.int p2)])) (fun _ kt => X58.ldcInt hx hown (mvT hZ (hw _ (List.mem_of_getElem? (i := 7) rfl))) (g := (mkF m 357 #[.val (.int p1), .val (.int p2), .val (.ref b1), .val (.ref b18), .val (.int (Int32.ofNat n)), .val (.int u), .val (.int zi), .val (.int gl), .val (.int gh), .val (.int gp), .val (.int lp), .val (.int (1 : Int32))] [(.int p2)])) rfl (hb hby at_357) _ kt) ?_
      by_cases hc359_61 : (983039 : Int32) < p2
      · refine own_via (T' := T58) (g' := (mkF m 362 #[.val (.int p1), .val (.int p2), .val (.ref b1), .val (.ref b18), .val (.int (Int32.ofNat n)), .val (.int u), .val (.int zi), .val (.int gl), .val (.int gh), .val (.int gp), .val (.int lp), .val (.int (1 : Int32))] [])) (fun _ kt => XS.icmpNo X58.here hx rfl (hb hby at_359) rfl (tlt hc359_61).2.2.2 kt) ?_
        refine own_via (T' := T58) (g' := (mkF m 364 #[.val (.int p1), .val (.int p2), .val (.ref b1), .val (.ref b18), .val (.int (Int32.ofNat n)), .val (.int u), .val (.int zi), .val (.int gl), .val (.int gh), .val (.int gp), .val (.int lp), .val (.int (1 : Int32))] [(.int (1 : Int32))])) (fun _ kt => XS.iload X58.here hx rfl (hb hby at_362) rfl kt) ?_
        refine own_via (T' := T58) (g' := (mkF m 367 #[.val (.int p1), .val (.int p2), .val (.ref b1), .val (.ref b18), .val (.int (Int32.ofNat n)), .val (.int u), .val (.int zi), .val (.int gl), .val (.int gh), .val (.int gp), .val (.int lp), .val (.int (1 : Int32))] [])) (fun _ kt => XS.ifNo X58.here hx rfl (hb hby at_364) rfl ((if0 _ _).trans (feq (by decide : ¬ ((1 : Int32) = (0 : Int32)))).1) kt) ?_
        refine own_via (T' := T58) (g' := (mkF m 368 #[.val (.int p1), .val (.int p2), .val (.ref b1), .val (.ref b18), .val (.int (Int32.ofNat n)), .val (.int u), .val (.int zi), .val (.int gl), .val (.int gh), .val (.int gp), .val (.int lp), .val (.int (1 : Int32))] [(.int p2)])) (fun _ kt => XS.iloadN X58.here hx rfl (hb hby at_367) rfl kt) ?_
        obtain ⟨v62, T62, L62, X62, hQ62, st62⟩ := own_callS X58 hx hZ (y := (⟨"com/example/infoset/infoset/xdm/XmlNames", "isNameStart", "(I)Z"⟩ : MethodName)) hown (hw _ (List.mem_of_getElem? (i := 9) rfl)) (hw _ (List.mem_of_getElem? (i := 10) rfl)) (hw _ (List.mem_of_getElem? (i := 11) rfl)) (hw _ (List.mem_of_getElem? (i := 12) rfl)) (by decide) (W := 0) (argsL := [(.int p2)]) (rest := []) (rm1 l Z a0 hw [] p2 h48) (by decide) (by decide) (by decide) (by decide) e58 (g := (mkF m 368 #[.val (.int p1), .val (.int p2), .val (.ref b1), .val (.ref b18), .val (.int (Int32.ofNat n)), .val (.int u), .val (.int zi), .val (.int gl), .val (.int gh), .val (.int gp), .val (.int lp), .val (.int (1 : Int32))] [(.int p2)])) rfl (by rw [hml]; rfl) (lenOf pd_0 rfl) rfl (by show 2 * 0 + _ ≤ _; exact Nat.le_of_eq rfl) (hb hby at_368)
        obtain ⟨rfl, hL62, e62⟩ := hQ62
        replace X62 := own_pure (v := none) (r := none) X62 rfl rfl hL62
        refine own_via (T' := T62) (g' := (mkF m 371 #[.val (.int p1), .val (.int p2), .val (.ref b1), .val (.ref b18), .val (.int (Int32.ofNat n)), .val (.int u), .val (.int zi), .val (.int gl), .val (.int gh), .val (.int gp), .val (.int lp), .val (.int (1 : Int32))] [(.int (own_nsv p2))])) (fun _ kt => st62 _ kt) ?_
        refine own_via (T' := T62) (g' := (mkF m 374 #[.val (.int p1), .val (.int p2), .val (.ref b1), .val (.ref b18), .val (.int (Int32.ofNat n)), .val (.int u), .val (.int zi), .val (.int gl), .val (.int gh), .val (.int gp), .val (.int lp), .val (.int (1 : Int32))] [])) (fun _ kt => XS.ifNo X62.here hx rfl (hb hby at_371) rfl ((if0 _ _).trans (teq (own_ns0 (own_high _ (Int32.lt_iff_toInt_lt.mp hc359_61)))).2) kt) ?_
        refine own_via (T' := T62) (g' := (mkF m 375 #[.val (.int p1), .val (.int p2), .val (.ref b1), .val (.ref b18), .val (.int (Int32.ofNat n)), .val (.int u), .val (.int zi), .val (.int gl), .val (.int gh), .val (.int gp), .val (.int lp), .val (.int (1 : Int32))] [(.int (1 : Int32))])) (fun _ kt => XS.iconst X62.here hx rfl (hb hby at_374) kt) ?_
        refine own_via (T' := T62) (g' := (mkF m 379 #[.val (.int p1), .val (.int p2), .val (.ref b1), .val (.ref b18), .val (.int (Int32.ofNat n)), .val (.int u), .val (.int zi), .val (.int gl), .val (.int gh), .val (.int gp), .val (.int lp), .val (.int (1 : Int32))] [(.int (1 : Int32))])) (fun _ kt => XS.goto X62.here hx rfl (pc0 := 375) (pc' := 379) rfl (hb hby at_375) (by decide) (by decide) kt) ?_
        refine own_via (T' := T62) (g' := (mkF m 381 #[.val (.int p1), .val (.int p2), .val (.ref b1), .val (.ref b18), .val (.int (Int32.ofNat n)), .val (.int u), .val (.int zi), .val (.int gl), .val (.int gh), .val (.int gp), .val (.int lp), .val (.int (1 : Int32))] [])) (fun _ kt => XS.istore X62.here hx rfl (hb hby at_379) rfl (l' := #[.val (.int p1), .val (.int p2), .val (.ref b1), .val (.ref b18), .val (.int (Int32.ofNat n)), .val (.int u), .val (.int zi), .val (.int gl), .val (.int gh), .val (.int gp), .val (.int lp), .val (.int (1 : Int32))]) rfl kt) ?_
        refine own_via (T' := T62) (g' := (mkF m 383 #[.val (.int p1), .val (.int p2), .val (.ref b1), .val (.ref b18), .val (.int (Int32.ofNat n)), .val (.int u), .val (.int zi), .val (.int gl), .val (.int gh), .val (.int gp), .val (.int lp), .val (.int (1 : Int32))] [(.int (1 : Int32))])) (fun _ kt => XS.iload X62.here hx rfl (hb hby at_381) rfl kt) ?_
        exact own_retZ X62 hx hret hlk (hb hby at_383) (by decide) ⟨rfl, N48⟩ (by decide) (by decide)
      · refine own_via (T' := T58) (g' := (mkF m 381 #[.val (.int p1), .val (.int p2), .val (.ref b1), .val (.ref b18), .val (.int (Int32.ofNat n)), .val (.int u), .val (.int zi), .val (.int gl), .val (.int gh), .val (.int gp), .val (.int lp), .val (.int (1 : Int32))] [])) (fun _ kt => XS.icmpYes X58.here hx rfl (pc0 := 359) (pc' := 381) rfl (hb hby at_359) rfl (flt hc359_61).2.2.2 (by decide) (by decide) kt) ?_
        refine own_via (T' := T58) (g' := (mkF m 383 #[.val (.int p1), .val (.int p2), .val (.ref b1), .val (.ref b18), .val (.int (Int32.ofNat n)), .val (.int u), .val (.int zi), .val (.int gl), .val (.int gh), .val (.int gp), .val (.int lp), .val (.int (1 : Int32))] [(.int (1 : Int32))])) (fun _ kt => XS.iload X58.here hx rfl (hb hby at_381) rfl kt) ?_
        exact own_retZ X58 hx hret hlk (hb hby at_383) (by decide) ⟨rfl, N48⟩ (by decide) (by decide)
  · refine own_via (T' := T48) (g' := (mkF m 257 #[.val (.int p1), .val (.int p2), .val (.ref b1), .val (.ref b18), .val (.int (Int32.ofNat n)), .val (.int u), .val (.int zi), .val (.int gl), .unset, .unset, .unset, .unset] [])) (fun _ kt => XS.icmpYes X48.here hx rfl (pc0 := 243) (pc' := 257) rfl (hb hby at_243) rfl (flt hc243_51).2.1 (by decide) (by decide) kt) ?_
    refine own_via (T' := T48) (g' := (mkF m 259 #[.val (.int p1), .val (.int p2), .val (.ref b1), .val (.ref b18), .val (.int (Int32.ofNat n)), .val (.int u), .val (.int zi), .val (.int gl), .unset, .unset, .unset, .unset] [(.int (2147483647 : Int32))])) (fun _ kt => X48.ldcInt hx hown (mvT hZ (hw _ (List.mem_of_getElem? (i := 8) rfl))) (g := (mkF m 257 #[.val (.int p1), .val (.int p2), .val (.ref b1), .val (.ref b18), .val (.int (Int32.ofNat n)), .val (.int u), .val (.int zi), .val (.int gl), .unset, .unset, .unset, .unset] [])) rfl (hb hby at_257) _ kt) ?_
    obtain ⟨gh, hgh⟩ : ∃ z, z = (2147483647 : Int32) := ⟨_, rfl⟩
    rw [← hgh]
    have ghv : gh.toInt = own_gh n := by
      have n14 : n = 14 := by have q := (not_congr (own_lt14 hn)).mp hc243_51; omega
      subst n14; rw [hgh]; rfl
    have gl1 : gl.toInt ≤ gh.toInt := by omega
    have I5 : ¬ own_in gh := own_no n hn _ (by omega) (by omega)
    refine own_via (T' := T48) (g' := (mkF m 261 #[.val (.int p1), .val (.int p2), .val (.ref b1), .val (.ref b18), .val (.int (Int32.ofNat n)), .val (.int u), .val (.int zi), .val (.int gl), .val (.int gh), .unset, .unset, .unset] [])) (fun _ kt => XS.istore X48.here hx rfl (hb hby at_259) rfl (l' := #[.val (.int p1), .val (.int p2), .val (.ref b1), .val (.ref b18), .val (.int (Int32.ofNat n)), .val (.int u), .val (.int zi), .val (.int gl), .val (.int gh), .unset, .unset, .unset]) rfl kt) ?_
    refine own_via (T' := T48) (g' := (mkF m 263 #[.val (.int p1), .val (.int p2), .val (.ref b1), .val (.ref b18), .val (.int (Int32.ofNat n)), .val (.int u), .val (.int zi), .val (.int gl), .val (.int gh), .unset, .unset, .unset] [(.int gl)])) (fun _ kt => XS.iload X48.here hx rfl (hb hby at_261) rfl kt) ?_
    refine own_via (T' := T48) (g' := (mkF m 265 #[.val (.int p1), .val (.int p2), .val (.ref b1), .val (.ref b18), .val (.int (Int32.ofNat n)), .val (.int u), .val (.int zi), .val (.int gl), .val (.int gh), .unset, .unset, .unset] [(.int u), (.int gl)])) (fun _ kt => XS.iload X48.here hx rfl (hb hby at_263) rfl kt) ?_
    refine own_via (T' := T48) (g' := (mkF m 267 #[.val (.int p1), .val (.int p2), .val (.ref b1), .val (.ref b18), .val (.int (Int32.ofNat n)), .val (.int u), .val (.int zi), .val (.int gl), .val (.int gh), .unset, .unset, .unset] [(.int gh), (.int u), (.int gl)])) (fun _ kt => XS.iload X48.here hx rfl (hb hby at_265) rfl kt) ?_
    refine own_via (T' := T48) (g' := (mkF m 269 #[.val (.int p1), .val (.int p2), .val (.ref b1), .val (.ref b18), .val (.int (Int32.ofNat n)), .val (.int u), .val (.int zi), .val (.int gl), .val (.int gh), .unset, .unset, .unset] [(.int gl), (.int gh), (.int u), (.int gl)])) (fun _ kt => XS.iload X48.here hx rfl (hb hby at_267) rfl kt) ?_
    refine own_via (T' := T48) (g' := (mkF m 270 #[.val (.int p1), .val (.int p2), .val (.ref b1), .val (.ref b18), .val (.int (Int32.ofNat n)), .val (.int u), .val (.int zi), .val (.int gl), .val (.int gh), .unset, .unset, .unset] [(.int (gh - gl)), (.int u), (.int gl)])) (fun _ kt => XS.isub X48.here hx rfl (hb hby at_269) rfl kt) ?_
    refine own_via (T' := T48) (g' := (mkF m 271 #[.val (.int p1), .val (.int p2), .val (.ref b1), .val (.ref b18), .val (.int (Int32.ofNat n)), .val (.int u), .val (.int zi), .val (.int gl), .val (.int gh), .unset, .unset, .unset] [(.int (1 : Int32)), (.int (gh - gl)), (.int u), (.int gl)])) (fun _ kt => XS.iconst X48.here hx rfl (hb hby at_270) kt) ?_
    refine own_via (T' := T48) (g' := (mkF m 272 #[.val (.int p1), .val (.int p2), .val (.ref b1), .val (.ref b18), .val (.int (Int32.ofNat n)), .val (.int u), .val (.int zi), .val (.int gl), .val (.int gh), .unset, .unset, .unset] [(.int ((gh - gl) + (1 : Int32))), (.int u), (.int gl)])) (fun _ kt => XS.iadd X48.here hx rfl (hb hby at_271) rfl kt) ?_
    refine own_via (T' := T48) (g' := (mkF m 273 #[.val (.int p1), .val (.int p2), .val (.ref b1), .val (.ref b18), .val (.int (Int32.ofNat n)), .val (.int u), .val (.int zi), .val (.int gl), .val (.int gh), .unset, .unset, .unset] [(.int (u % ((gh - gl) + (1 : Int32)))), (.int gl)])) (fun _ kt => Jvm.RoadKit.iremM X48 hx rfl (hb hby at_272) rfl (own_span gl0 gl1 hu0).1 kt) ?_
    refine own_via (T' := T48) (g' := (mkF m 274 #[.val (.int p1), .val (.int p2), .val (.ref b1), .val (.ref b18), .val (.int (Int32.ofNat n)), .val (.int u), .val (.int zi), .val (.int gl), .val (.int gh), .unset, .unset, .unset] [(.int (gl + (u % ((gh - gl) + (1 : Int32)))))])) (fun _ kt => XS.iadd X48.here hx rfl (hb hby at_273) rfl kt) ?_
    obtain ⟨gp, hgp⟩ : ∃ z, z = (gl + (u % ((gh - gl) + (1 : Int32)))) := ⟨_, rfl⟩
    rw [← hgp]
    have I6 : ¬ own_in gp := by
      have q := own_span gl0 gl1 hu0
      rw [← hgp] at q
      exact own_no n hn _ (by omega) (by omega)
    refine own_via (T' := T48) (g' := (mkF m 276 #[.val (.int p1), .val (.int p2), .val (.ref b1), .val (.ref b18), .val (.int (Int32.ofNat n)), .val (.int u), .val (.int zi), .val (.int gl), .val (.int gh), .val (.int gp), .unset, .unset] [])) (fun _ kt => XS.istore X48.here hx rfl (hb hby at_274) rfl (l' := #[.val (.int p1), .val (.int p2), .val (.ref b1), .val (.ref b18), .val (.int (Int32.ofNat n)), .val (.int u), .val (.int zi), .val (.int gl), .val (.int gh), .val (.int gp), .unset, .unset]) rfl kt) ?_
    refine own_via (T' := T48) (g' := (mkF m 278 #[.val (.int p1), .val (.int p2), .val (.ref b1), .val (.ref b18), .val (.int (Int32.ofNat n)), .val (.int u), .val (.int zi), .val (.int gl), .val (.int gh), .val (.int gp), .unset, .unset] [(.int u)])) (fun _ kt => XS.iload X48.here hx rfl (hb hby at_276) rfl kt) ?_
    refine own_via (T' := T48) (g' := (mkF m 280 #[.val (.int p1), .val (.int p2), .val (.ref b1), .val (.ref b18), .val (.int (Int32.ofNat n)), .val (.int u), .val (.int zi), .val (.int gl), .val (.int gh), .val (.int gp), .unset, .unset] [(.int (65 : Int32)), (.int u)])) (fun _ kt => XS.bipush X48.here hx rfl (hb hby at_278) kt) ?_
    refine own_via (T' := T48) (g' := (mkF m 281 #[.val (.int p1), .val (.int p2), .val (.ref b1), .val (.ref b18), .val (.int (Int32.ofNat n)), .val (.int u), .val (.int zi), .val (.int gl), .val (.int gh), .val (.int gp), .unset, .unset] [(.int (u % (65 : Int32)))])) (fun _ kt => Jvm.RoadKit.iremM X48 hx rfl (hb hby at_280) rfl (by decide) kt) ?_
    obtain ⟨lp, hlp⟩ : ∃ z, z = (u % (65 : Int32)) := ⟨_, rfl⟩
    rw [← hlp]
    have I7 : ¬ own_in lp := by
      have q := (c_iremV u 65).1 hu0 (by decide)
      rw [← hlp] at q
      have e65 : (65 : Int32).toInt = 65 := rfl
      exact own_low _ (by omega)
    refine own_via (T' := T48) (g' := (mkF m 283 #[.val (.int p1), .val (.int p2), .val (.ref b1), .val (.ref b18), .val (.int (Int32.ofNat n)), .val (.int u), .val (.int zi), .val (.int gl), .val (.int gh), .val (.int gp), .val (.int lp), .unset] [])) (fun _ kt => XS.istore X48.here hx rfl (hb hby at_281) rfl (l' := #[.val (.int p1), .val (.int p2), .val (.ref b1), .val (.ref b18), .val (.int (Int32.ofNat n)), .val (.int u), .val (.int zi), .val (.int gl), .val (.int gh), .val (.int gp), .val (.int lp), .unset]) rfl kt) ?_
    refine own_via (T' := T48) (g' := (mkF m 284 #[.val (.int p1), .val (.int p2), .val (.ref b1), .val (.ref b18), .val (.int (Int32.ofNat n)), .val (.int u), .val (.int zi), .val (.int gl), .val (.int gh), .val (.int gp), .val (.int lp), .unset] [(.ref b1)])) (fun _ kt => XS.aloadN X48.here hx rfl (hb hby at_283) rfl rfl kt) ?_
    refine own_via (T' := T48) (g' := (mkF m 286 #[.val (.int p1), .val (.int p2), .val (.ref b1), .val (.ref b18), .val (.int (Int32.ofNat n)), .val (.int u), .val (.int zi), .val (.int gl), .val (.int gh), .val (.int gp), .val (.int lp), .unset] [(.int (Int32.ofNat n)), (.ref b1)])) (fun _ kt => XS.iload X48.here hx rfl (hb hby at_284) rfl kt) ?_
    refine own_via (T' := T48) (g' := (mkF m 287 #[.val (.int p1), .val (.int p2), .val (.ref b1), .val (.ref b18), .val (.int (Int32.ofNat n)), .val (.int u), .val (.int zi), .val (.int gl), .val (.int gh), .val (.int gp), .val (.int lp), .unset] [(.int (own_lo n))])) (fun _ kt => own_iaload X48 hx hZ e48 f49 (j := (Int32.ofNat n)) (i := n) rfl hn (g := (mkF m 286 #[.val (.int p1), .val (.int p2), .val (.ref b1), .val (.ref b18), .val (.int (Int32.ofNat n)), .val (.int u), .val (.int zi), .val (.int gl), .val (.int gh), .val (.int gp), .val (.int lp), .unset] [(.int (Int32.ofNat n)), (.ref b1)])) rfl rfl (hb hby at_286) _ kt) ?_
    obtain ⟨v63, T63, L63, X63, hQ63, st63⟩ := own_callS X48 hx hZ (y := (⟨"com/example/infoset/infoset/xdm/XmlNames", "isNameStart", "(I)Z"⟩ : MethodName)) hown (hw _ (List.mem_of_getElem? (i := 9) rfl)) (hw _ (List.mem_of_getElem? (i := 10) rfl)) (hw _ (List.mem_of_getElem? (i := 11) rfl)) (hw _ (List.mem_of_getElem? (i := 12) rfl)) (by decide) (W := 0) (argsL := [(.int (own_lo n))]) (rest := []) (rm1 l Z a0 hw [] (own_lo n) h48) (by decide) (by decide) (by decide) (by decide) e48 (g := (mkF m 287 #[.val (.int p1), .val (.int p2), .val (.ref b1), .val (.ref b18), .val (.int (Int32.ofNat n)), .val (.int u), .val (.int zi), .val (.int gl), .val (.int gh), .val (.int gp), .val (.int lp), .unset] [(.int (own_lo n))])) rfl (by rw [hml]; rfl) (lenOf pd_0 rfl) rfl (by show 2 * 0 + _ ≤ _; exact Nat.le_of_eq rfl) (hb hby at_287)
    obtain ⟨rfl, hL63, e63⟩ := hQ63
    replace X63 := own_pure (v := none) (r := none) X63 rfl rfl hL63
    refine own_via (T' := T63) (g' := (mkF m 290 #[.val (.int p1), .val (.int p2), .val (.ref b1), .val (.ref b18), .val (.int (Int32.ofNat n)), .val (.int u), .val (.int zi), .val (.int gl), .val (.int gh), .val (.int gp), .val (.int lp), .unset] [(.int (own_nsv (own_lo n)))])) (fun _ kt => st63 _ kt) ?_
    refine own_via (T' := T63) (g' := (mkF m 293 #[.val (.int p1), .val (.int p2), .val (.ref b1), .val (.ref b18), .val (.int (Int32.ofNat n)), .val (.int u), .val (.int zi), .val (.int gl), .val (.int gh), .val (.int gp), .val (.int lp), .unset] [])) (fun _ kt => XS.ifNo X63.here hx rfl (hb hby at_290) rfl ((if0 _ _).trans (feq (own_ns1 (own_yes n hn _ (Int.le_refl _) bnd.2.1))).1) kt) ?_
    refine own_via (T' := T63) (g' := (mkF m 294 #[.val (.int p1), .val (.int p2), .val (.ref b1), .val (.ref b18), .val (.int (Int32.ofNat n)), .val (.int u), .val (.int zi), .val (.int gl), .val (.int gh), .val (.int gp), .val (.int lp), .unset] [(.ref b18)])) (fun _ kt => XS.aloadN X63.here hx rfl (hb hby at_293) rfl rfl kt) ?_
    refine own_via (T' := T63) (g' := (mkF m 296 #[.val (.int p1), .val (.int p2), .val (.ref b1), .val (.ref b18), .val (.int (Int32.ofNat n)), .val (.int u), .val (.int zi), .val (.int gl), .val (.int gh), .val (.int gp), .val (.int lp), .unset] [(.int (Int32.ofNat n)), (.ref b18)])) (fun _ kt => XS.iload X63.here hx rfl (hb hby at_294) rfl kt) ?_
    refine own_via (T' := T63) (g' := (mkF m 297 #[.val (.int p1), .val (.int p2), .val (.ref b1), .val (.ref b18), .val (.int (Int32.ofNat n)), .val (.int u), .val (.int zi), .val (.int gl), .val (.int gh), .val (.int gp), .val (.int lp), .unset] [(.int (own_hi n))])) (fun _ kt => own_iaload X63 hx hZ e63 A50 (j := (Int32.ofNat n)) (i := n) rfl hn (g := (mkF m 296 #[.val (.int p1), .val (.int p2), .val (.ref b1), .val (.ref b18), .val (.int (Int32.ofNat n)), .val (.int u), .val (.int zi), .val (.int gl), .val (.int gh), .val (.int gp), .val (.int lp), .unset] [(.int (Int32.ofNat n)), (.ref b18)])) rfl rfl (hb hby at_296) _ kt) ?_
    obtain ⟨v64, T64, L64, X64, hQ64, st64⟩ := own_callS X63 hx hZ (y := (⟨"com/example/infoset/infoset/xdm/XmlNames", "isNameStart", "(I)Z"⟩ : MethodName)) hown (hw _ (List.mem_of_getElem? (i := 9) rfl)) (hw _ (List.mem_of_getElem? (i := 10) rfl)) (hw _ (List.mem_of_getElem? (i := 11) rfl)) (hw _ (List.mem_of_getElem? (i := 12) rfl)) (by decide) (W := 0) (argsL := [(.int (own_hi n))]) (rest := []) (rm1 l Z a0 hw [] (own_hi n) h48) (by decide) (by decide) (by decide) (by decide) e63 (g := (mkF m 297 #[.val (.int p1), .val (.int p2), .val (.ref b1), .val (.ref b18), .val (.int (Int32.ofNat n)), .val (.int u), .val (.int zi), .val (.int gl), .val (.int gh), .val (.int gp), .val (.int lp), .unset] [(.int (own_hi n))])) rfl (by rw [hml]; rfl) (lenOf pd_0 rfl) rfl (by show 2 * 0 + _ ≤ _; exact Nat.le_of_eq rfl) (hb hby at_297)
    obtain ⟨rfl, hL64, e64⟩ := hQ64
    replace X64 := own_pure (v := none) (r := none) X64 rfl rfl hL64
    refine own_via (T' := T64) (g' := (mkF m 300 #[.val (.int p1), .val (.int p2), .val (.ref b1), .val (.ref b18), .val (.int (Int32.ofNat n)), .val (.int u), .val (.int zi), .val (.int gl), .val (.int gh), .val (.int gp), .val (.int lp), .unset] [(.int (own_nsv (own_hi n)))])) (fun _ kt => st64 _ kt) ?_
    refine own_via (T' := T64) (g' := (mkF m 303 #[.val (.int p1), .val (.int p2), .val (.ref b1), .val (.ref b18), .val (.int (Int32.ofNat n)), .val (.int u), .val (.int zi), .val (.int gl), .val (.int gh), .val (.int gp), .val (.int lp), .unset] [])) (fun _ kt => XS.ifNo X64.here hx rfl (hb hby at_300) rfl ((if0 _ _).trans (feq (own_ns1 (own_yes n hn _ bnd.2.1 (Int.le_refl _)))).1) kt) ?_
    refine own_via (T' := T64) (g' := (mkF m 305 #[.val (.int p1), .val (.int p2), .val (.ref b1), .val (.ref b18), .val (.int (Int32.ofNat n)), .val (.int u), .val (.int zi), .val (.int gl), .val (.int gh), .val (.int gp), .val (.int lp), .unset] [(.int zi)])) (fun _ kt => XS.iload X64.here hx rfl (hb hby at_303) rfl kt) ?_
    obtain ⟨v65, T65, L65, X65, hQ65, st65⟩ := own_callS X64 hx hZ (y := (⟨"com/example/infoset/infoset/xdm/XmlNames", "isNameStart", "(I)Z"⟩ : MethodName)) hown (hw _ (List.mem_of_getElem? (i := 9) rfl)) (hw _ (List.mem_of_getElem? (i := 10) rfl)) (hw _ (List.mem_of_getElem? (i := 11) rfl)) (hw _ (List.mem_of_getElem? (i := 12) rfl)) (by decide) (W := 0) (argsL := [(.int zi)]) (rest := []) (rm1 l Z a0 hw [] zi h48) (by decide) (by decide) (by decide) (by decide) e64 (g := (mkF m 305 #[.val (.int p1), .val (.int p2), .val (.ref b1), .val (.ref b18), .val (.int (Int32.ofNat n)), .val (.int u), .val (.int zi), .val (.int gl), .val (.int gh), .val (.int gp), .val (.int lp), .unset] [(.int zi)])) rfl (by rw [hml]; rfl) (lenOf pd_0 rfl) rfl (by show 2 * 0 + _ ≤ _; exact Nat.le_of_eq rfl) (hb hby at_305)
    obtain ⟨rfl, hL65, e65⟩ := hQ65
    replace X65 := own_pure (v := none) (r := none) X65 rfl rfl hL65
    refine own_via (T' := T65) (g' := (mkF m 308 #[.val (.int p1), .val (.int p2), .val (.ref b1), .val (.ref b18), .val (.int (Int32.ofNat n)), .val (.int u), .val (.int zi), .val (.int gl), .val (.int gh), .val (.int gp), .val (.int lp), .unset] [(.int (own_nsv zi))])) (fun _ kt => st65 _ kt) ?_
    refine own_via (T' := T65) (g' := (mkF m 311 #[.val (.int p1), .val (.int p2), .val (.ref b1), .val (.ref b18), .val (.int (Int32.ofNat n)), .val (.int u), .val (.int zi), .val (.int gl), .val (.int gh), .val (.int gp), .val (.int lp), .unset] [])) (fun _ kt => XS.ifNo X65.here hx rfl (hb hby at_308) rfl ((if0 _ _).trans (feq (own_ns1 I3)).1) kt) ?_
    refine own_via (T' := T65) (g' := (mkF m 313 #[.val (.int p1), .val (.int p2), .val (.ref b1), .val (.ref b18), .val (.int (Int32.ofNat n)), .val (.int u), .val (.int zi), .val (.int gl), .val (.int gh), .val (.int gp), .val (.int lp), .unset] [(.int gl)])) (fun _ kt => XS.iload X65.here hx rfl (hb hby at_311) rfl kt) ?_
    obtain ⟨v66, T66, L66, X66, hQ66, st66⟩ := own_callS X65 hx hZ (y := (⟨"com/example/infoset/infoset/xdm/XmlNames", "isNameStart", "(I)Z"⟩ : MethodName)) hown (hw _ (List.mem_of_getElem? (i := 9) rfl)) (hw _ (List.mem_of_getElem? (i := 10) rfl)) (hw _ (List.mem_of_getElem? (i := 11) rfl)) (hw _ (List.mem_of_getElem? (i := 12) rfl)) (by decide) (W := 0) (argsL := [(.int gl)]) (rest := []) (rm1 l Z a0 hw [] gl h48) (by decide) (by decide) (by decide) (by decide) e65 (g := (mkF m 313 #[.val (.int p1), .val (.int p2), .val (.ref b1), .val (.ref b18), .val (.int (Int32.ofNat n)), .val (.int u), .val (.int zi), .val (.int gl), .val (.int gh), .val (.int gp), .val (.int lp), .unset] [(.int gl)])) rfl (by rw [hml]; rfl) (lenOf pd_0 rfl) rfl (by show 2 * 0 + _ ≤ _; exact Nat.le_of_eq rfl) (hb hby at_313)
    obtain ⟨rfl, hL66, e66⟩ := hQ66
    replace X66 := own_pure (v := none) (r := none) X66 rfl rfl hL66
    refine own_via (T' := T66) (g' := (mkF m 316 #[.val (.int p1), .val (.int p2), .val (.ref b1), .val (.ref b18), .val (.int (Int32.ofNat n)), .val (.int u), .val (.int zi), .val (.int gl), .val (.int gh), .val (.int gp), .val (.int lp), .unset] [(.int (own_nsv gl))])) (fun _ kt => st66 _ kt) ?_
    refine own_via (T' := T66) (g' := (mkF m 319 #[.val (.int p1), .val (.int p2), .val (.ref b1), .val (.ref b18), .val (.int (Int32.ofNat n)), .val (.int u), .val (.int zi), .val (.int gl), .val (.int gh), .val (.int gp), .val (.int lp), .unset] [])) (fun _ kt => XS.ifNo X66.here hx rfl (hb hby at_316) rfl ((if0 _ _).trans (teq (own_ns0 I4)).2) kt) ?_
    refine own_via (T' := T66) (g' := (mkF m 321 #[.val (.int p1), .val (.int p2), .val (.ref b1), .val (.ref b18), .val (.int (Int32.ofNat n)), .val (.int u), .val (.int zi), .val (.int gl), .val (.int gh), .val (.int gp), .val (.int lp), .unset] [(.int gh)])) (fun _ kt => XS.iload X66.here hx rfl (hb hby at_319) rfl kt) ?_
    obtain ⟨v67, T67, L67, X67, hQ67, st67⟩ := own_callS X66 hx hZ (y := (⟨"com/example/infoset/infoset/xdm/XmlNames", "isNameStart", "(I)Z"⟩ : MethodName)) hown (hw _ (List.mem_of_getElem? (i := 9) rfl)) (hw _ (List.mem_of_getElem? (i := 10) rfl)) (hw _ (List.mem_of_getElem? (i := 11) rfl)) (hw _ (List.mem_of_getElem? (i := 12) rfl)) (by decide) (W := 0) (argsL := [(.int gh)]) (rest := []) (rm1 l Z a0 hw [] gh h48) (by decide) (by decide) (by decide) (by decide) e66 (g := (mkF m 321 #[.val (.int p1), .val (.int p2), .val (.ref b1), .val (.ref b18), .val (.int (Int32.ofNat n)), .val (.int u), .val (.int zi), .val (.int gl), .val (.int gh), .val (.int gp), .val (.int lp), .unset] [(.int gh)])) rfl (by rw [hml]; rfl) (lenOf pd_0 rfl) rfl (by show 2 * 0 + _ ≤ _; exact Nat.le_of_eq rfl) (hb hby at_321)
    obtain ⟨rfl, hL67, e67⟩ := hQ67
    replace X67 := own_pure (v := none) (r := none) X67 rfl rfl hL67
    refine own_via (T' := T67) (g' := (mkF m 324 #[.val (.int p1), .val (.int p2), .val (.ref b1), .val (.ref b18), .val (.int (Int32.ofNat n)), .val (.int u), .val (.int zi), .val (.int gl), .val (.int gh), .val (.int gp), .val (.int lp), .unset] [(.int (own_nsv gh))])) (fun _ kt => st67 _ kt) ?_
    refine own_via (T' := T67) (g' := (mkF m 327 #[.val (.int p1), .val (.int p2), .val (.ref b1), .val (.ref b18), .val (.int (Int32.ofNat n)), .val (.int u), .val (.int zi), .val (.int gl), .val (.int gh), .val (.int gp), .val (.int lp), .unset] [])) (fun _ kt => XS.ifNo X67.here hx rfl (hb hby at_324) rfl ((if0 _ _).trans (teq (own_ns0 I5)).2) kt) ?_
    refine own_via (T' := T67) (g' := (mkF m 329 #[.val (.int p1), .val (.int p2), .val (.ref b1), .val (.ref b18), .val (.int (Int32.ofNat n)), .val (.int u), .val (.int zi), .val (.int gl), .val (.int gh), .val (.int gp), .val (.int lp), .unset] [(.int gp)])) (fun _ kt => XS.iload X67.here hx rfl (hb hby at_327) rfl kt) ?_
    obtain ⟨v68, T68, L68, X68, hQ68, st68⟩ := own_callS X67 hx hZ (y := (⟨"com/example/infoset/infoset/xdm/XmlNames", "isNameStart", "(I)Z"⟩ : MethodName)) hown (hw _ (List.mem_of_getElem? (i := 9) rfl)) (hw _ (List.mem_of_getElem? (i := 10) rfl)) (hw _ (List.mem_of_getElem? (i := 11) rfl)) (hw _ (List.mem_of_getElem? (i := 12) rfl)) (by decide) (W := 0) (argsL := [(.int gp)]) (rest := []) (rm1 l Z a0 hw [] gp h48) (by decide) (by decide) (by decide) (by decide) e67 (g := (mkF m 329 #[.val (.int p1), .val (.int p2), .val (.ref b1), .val (.ref b18), .val (.int (Int32.ofNat n)), .val (.int u), .val (.int zi), .val (.int gl), .val (.int gh), .val (.int gp), .val (.int lp), .unset] [(.int gp)])) rfl (by rw [hml]; rfl) (lenOf pd_0 rfl) rfl (by show 2 * 0 + _ ≤ _; exact Nat.le_of_eq rfl) (hb hby at_329)
    obtain ⟨rfl, hL68, e68⟩ := hQ68
    replace X68 := own_pure (v := none) (r := none) X68 rfl rfl hL68
    refine own_via (T' := T68) (g' := (mkF m 332 #[.val (.int p1), .val (.int p2), .val (.ref b1), .val (.ref b18), .val (.int (Int32.ofNat n)), .val (.int u), .val (.int zi), .val (.int gl), .val (.int gh), .val (.int gp), .val (.int lp), .unset] [(.int (own_nsv gp))])) (fun _ kt => st68 _ kt) ?_
    refine own_via (T' := T68) (g' := (mkF m 335 #[.val (.int p1), .val (.int p2), .val (.ref b1), .val (.ref b18), .val (.int (Int32.ofNat n)), .val (.int u), .val (.int zi), .val (.int gl), .val (.int gh), .val (.int gp), .val (.int lp), .unset] [])) (fun _ kt => XS.ifNo X68.here hx rfl (hb hby at_332) rfl ((if0 _ _).trans (teq (own_ns0 I6)).2) kt) ?_
    refine own_via (T' := T68) (g' := (mkF m 337 #[.val (.int p1), .val (.int p2), .val (.ref b1), .val (.ref b18), .val (.int (Int32.ofNat n)), .val (.int u), .val (.int zi), .val (.int gl), .val (.int gh), .val (.int gp), .val (.int lp), .unset] [(.int lp)])) (fun _ kt => XS.iload X68.here hx rfl (hb hby at_335) rfl kt) ?_
    obtain ⟨v69, T69, L69, X69, hQ69, st69⟩ := own_callS X68 hx hZ (y := (⟨"com/example/infoset/infoset/xdm/XmlNames", "isNameStart", "(I)Z"⟩ : MethodName)) hown (hw _ (List.mem_of_getElem? (i := 9) rfl)) (hw _ (List.mem_of_getElem? (i := 10) rfl)) (hw _ (List.mem_of_getElem? (i := 11) rfl)) (hw _ (List.mem_of_getElem? (i := 12) rfl)) (by decide) (W := 0) (argsL := [(.int lp)]) (rest := []) (rm1 l Z a0 hw [] lp h48) (by decide) (by decide) (by decide) (by decide) e68 (g := (mkF m 337 #[.val (.int p1), .val (.int p2), .val (.ref b1), .val (.ref b18), .val (.int (Int32.ofNat n)), .val (.int u), .val (.int zi), .val (.int gl), .val (.int gh), .val (.int gp), .val (.int lp), .unset] [(.int lp)])) rfl (by rw [hml]; rfl) (lenOf pd_0 rfl) rfl (by show 2 * 0 + _ ≤ _; exact Nat.le_of_eq rfl) (hb hby at_337)
    obtain ⟨rfl, hL69, e69⟩ := hQ69
    replace X69 := own_pure (v := none) (r := none) X69 rfl rfl hL69
    refine own_via (T' := T69) (g' := (mkF m 340 #[.val (.int p1), .val (.int p2), .val (.ref b1), .val (.ref b18), .val (.int (Int32.ofNat n)), .val (.int u), .val (.int zi), .val (.int gl), .val (.int gh), .val (.int gp), .val (.int lp), .unset] [(.int (own_nsv lp))])) (fun _ kt => st69 _ kt) ?_
    refine own_via (T' := T69) (g' := (mkF m 343 #[.val (.int p1), .val (.int p2), .val (.ref b1), .val (.ref b18), .val (.int (Int32.ofNat n)), .val (.int u), .val (.int zi), .val (.int gl), .val (.int gh), .val (.int gp), .val (.int lp), .unset] [])) (fun _ kt => XS.ifNo X69.here hx rfl (hb hby at_340) rfl ((if0 _ _).trans (teq (own_ns0 I7)).2) kt) ?_
    refine own_via (T' := T69) (g' := (mkF m 344 #[.val (.int p1), .val (.int p2), .val (.ref b1), .val (.ref b18), .val (.int (Int32.ofNat n)), .val (.int u), .val (.int zi), .val (.int gl), .val (.int gh), .val (.int gp), .val (.int lp), .unset] [(.int (1 : Int32))])) (fun _ kt => XS.iconst X69.here hx rfl (hb hby at_343) kt) ?_
    refine own_via (T' := T69) (g' := (mkF m 348 #[.val (.int p1), .val (.int p2), .val (.ref b1), .val (.ref b18), .val (.int (Int32.ofNat n)), .val (.int u), .val (.int zi), .val (.int gl), .val (.int gh), .val (.int gp), .val (.int lp), .unset] [(.int (1 : Int32))])) (fun _ kt => XS.goto X69.here hx rfl (pc0 := 344) (pc' := 348) rfl (hb hby at_344) (by decide) (by decide) kt) ?_
    refine own_via (T' := T69) (g' := (mkF m 350 #[.val (.int p1), .val (.int p2), .val (.ref b1), .val (.ref b18), .val (.int (Int32.ofNat n)), .val (.int u), .val (.int zi), .val (.int gl), .val (.int gh), .val (.int gp), .val (.int lp), .val (.int (1 : Int32))] [])) (fun _ kt => XS.istore X69.here hx rfl (hb hby at_348) rfl (l' := #[.val (.int p1), .val (.int p2), .val (.ref b1), .val (.ref b18), .val (.int (Int32.ofNat n)), .val (.int u), .val (.int zi), .val (.int gl), .val (.int gh), .val (.int gp), .val (.int lp), .val (.int (1 : Int32))]) rfl kt) ?_
    refine own_via (T' := T69) (g' := (mkF m 351 #[.val (.int p1), .val (.int p2), .val (.ref b1), .val (.ref b18), .val (.int (Int32.ofNat n)), .val (.int u), .val (.int zi), .val (.int gl), .val (.int gh), .val (.int gp), .val (.int lp), .val (.int (1 : Int32))] [(.int p2)])) (fun _ kt => XS.iloadN X69.here hx rfl (hb hby at_350) rfl kt) ?_
    refine own_via (T' := T69) (g' := (mkF m 353 #[.val (.int p1), .val (.int p2), .val (.ref b1), .val (.ref b18), .val (.int (Int32.ofNat n)), .val (.int u), .val (.int zi), .val (.int gl), .val (.int gh), .val (.int gp), .val (.int lp), .val (.int (1 : Int32))] [(.int (65 : Int32)), (.int p2)])) (fun _ kt => XS.bipush X69.here hx rfl (hb hby at_351) kt) ?_
    by_cases hc353_70 : p2 < (65 : Int32)
    · refine own_via (T' := T69) (g' := (mkF m 362 #[.val (.int p1), .val (.int p2), .val (.ref b1), .val (.ref b18), .val (.int (Int32.ofNat n)), .val (.int u), .val (.int zi), .val (.int gl), .val (.int gh), .val (.int gp), .val (.int lp), .val (.int (1 : Int32))] [])) (fun _ kt => XS.icmpYes X69.here hx rfl (pc0 := 353) (pc' := 362) rfl (hb hby at_353) rfl (tlt hc353_70).1 (by decide) (by decide) kt) ?_
      refine own_via (T' := T69) (g' := (mkF m 364 #[.val (.int p1), .val (.int p2), .val (.ref b1), .val (.ref b18), .val (.int (Int32.ofNat n)), .val (.int u), .val (.int zi), .val (.int gl), .val (.int gh), .val (.int gp), .val (.int lp), .val (.int (1 : Int32))] [(.int (1 : Int32))])) (fun _ kt => XS.iload X69.here hx rfl (hb hby at_362) rfl kt) ?_
      refine own_via (T' := T69) (g' := (mkF m 367 #[.val (.int p1), .val (.int p2), .val (.ref b1), .val (.ref b18), .val (.int (Int32.ofNat n)), .val (.int u), .val (.int zi), .val (.int gl), .val (.int gh), .val (.int gp), .val (.int lp), .val (.int (1 : Int32))] [])) (fun _ kt => XS.ifNo X69.here hx rfl (hb hby at_364) rfl ((if0 _ _).trans (feq (by decide : ¬ ((1 : Int32) = (0 : Int32)))).1) kt) ?_
      refine own_via (T' := T69) (g' := (mkF m 368 #[.val (.int p1), .val (.int p2), .val (.ref b1), .val (.ref b18), .val (.int (Int32.ofNat n)), .val (.int u), .val (.int zi), .val (.int gl), .val (.int gh), .val (.int gp), .val (.int lp), .val (.int (1 : Int32))] [(.int p2)])) (fun _ kt => XS.iloadN X69.here hx rfl (hb hby at_367) rfl kt) ?_
      obtain ⟨v71, T71, L71, X71, hQ71, st71⟩ := own_callS X69 hx hZ (y := (⟨"com/example/infoset/infoset/xdm/XmlNames", "isNameStart", "(I)Z"⟩ : MethodName)) hown (hw _ (List.mem_of_getElem? (i := 9) rfl)) (hw _ (List.mem_of_getElem? (i := 10) rfl)) (hw _ (List.mem_of_getElem? (i := 11) rfl)) (hw _ (List.mem_of_getElem? (i := 12) rfl)) (by decide) (W := 0) (argsL := [(.int p2)]) (rest := []) (rm1 l Z a0 hw [] p2 h48) (by decide) (by decide) (by decide) (by decide) e69 (g := (mkF m 368 #[.val (.int p1), .val (.int p2), .val (.ref b1), .val (.ref b18), .val (.int (Int32.ofNat n)), .val (.int u), .val (.int zi), .val (.int gl), .val (.int gh), .val (.int gp), .val (.int lp), .val (.int (1 : Int32))] [(.int p2)])) rfl (by rw [hml]; rfl) (lenOf pd_0 rfl) rfl (by show 2 * 0 + _ ≤ _; exact Nat.le_of_eq rfl) (hb hby at_368)
      obtain ⟨rfl, hL71, e71⟩ := hQ71
      replace X71 := own_pure (v := none) (r := none) X71 rfl rfl hL71
      refine own_via (T' := T71) (g' := (mkF m 371 #[.val (.int p1), .val (.int p2), .val (.ref b1), .val (.ref b18), .val (.int (Int32.ofNat n)), .val (.int u), .val (.int zi), .val (.int gl), .val (.int gh), .val (.int gp), .val (.int lp), .val (.int (1 : Int32))] [(.int (own_nsv p2))])) (fun _ kt => st71 _ kt) ?_
      refine own_via (T' := T71) (g' := (mkF m 374 #[.val (.int p1), .val (.int p2), .val (.ref b1), .val (.ref b18), .val (.int (Int32.ofNat n)), .val (.int u), .val (.int zi), .val (.int gl), .val (.int gh), .val (.int gp), .val (.int lp), .val (.int (1 : Int32))] [])) (fun _ kt => XS.ifNo X71.here hx rfl (hb hby at_371) rfl ((if0 _ _).trans (teq (own_ns0 (own_low _ (Int32.lt_iff_toInt_lt.mp hc353_70)))).2) kt) ?_
      refine own_via (T' := T71) (g' := (mkF m 375 #[.val (.int p1), .val (.int p2), .val (.ref b1), .val (.ref b18), .val (.int (Int32.ofNat n)), .val (.int u), .val (.int zi), .val (.int gl), .val (.int gh), .val (.int gp), .val (.int lp), .val (.int (1 : Int32))] [(.int (1 : Int32))])) (fun _ kt => XS.iconst X71.here hx rfl (hb hby at_374) kt) ?_
      refine own_via (T' := T71) (g' := (mkF m 379 #[.val (.int p1), .val (.int p2), .val (.ref b1), .val (.ref b18), .val (.int (Int32.ofNat n)), .val (.int u), .val (.int zi), .val (.int gl), .val (.int gh), .val (.int gp), .val (.int lp), .val (.int (1 : Int32))] [(.int (1 : Int32))])) (fun _ kt => XS.goto X71.here hx rfl (pc0 := 375) (pc' := 379) rfl (hb hby at_375) (by decide) (by decide) kt) ?_
      refine own_via (T' := T71) (g' := (mkF m 381 #[.val (.int p1), .val (.int p2), .val (.ref b1), .val (.ref b18), .val (.int (Int32.ofNat n)), .val (.int u), .val (.int zi), .val (.int gl), .val (.int gh), .val (.int gp), .val (.int lp), .val (.int (1 : Int32))] [])) (fun _ kt => XS.istore X71.here hx rfl (hb hby at_379) rfl (l' := #[.val (.int p1), .val (.int p2), .val (.ref b1), .val (.ref b18), .val (.int (Int32.ofNat n)), .val (.int u), .val (.int zi), .val (.int gl), .val (.int gh), .val (.int gp), .val (.int lp), .val (.int (1 : Int32))]) rfl kt) ?_
      refine own_via (T' := T71) (g' := (mkF m 383 #[.val (.int p1), .val (.int p2), .val (.ref b1), .val (.ref b18), .val (.int (Int32.ofNat n)), .val (.int u), .val (.int zi), .val (.int gl), .val (.int gh), .val (.int gp), .val (.int lp), .val (.int (1 : Int32))] [(.int (1 : Int32))])) (fun _ kt => XS.iload X71.here hx rfl (hb hby at_381) rfl kt) ?_
      exact own_retZ X71 hx hret hlk (hb hby at_383) (by decide) ⟨rfl, N48⟩ (by decide) (by decide)
    · refine own_via (T' := T69) (g' := (mkF m 356 #[.val (.int p1), .val (.int p2), .val (.ref b1), .val (.ref b18), .val (.int (Int32.ofNat n)), .val (.int u), .val (.int zi), .val (.int gl), .val (.int gh), .val (.int gp), .val (.int lp), .val (.int (1 : Int32))] [])) (fun _ kt => XS.icmpNo X69.here hx rfl (hb hby at_353) rfl (flt hc353_70).1 kt) ?_
      refine own_via (T' := T69) (g' := (mkF m 357 #[.val (.int p1), .val (.int p2), .val (.ref b1), .val (.ref b18), .val (.int (Int32.ofNat n)), .val (.int u), .val (.int zi), .val (.int gl), .val (.int gh), .val (.int gp), .val (.int lp), .val (.int (1 : Int32))] [(.int p2)])) (fun _ kt => XS.iloadN X69.here hx rfl (hb hby at_356) rfl kt) ?_
      refine own_via (T' := T69) (g' := (mkF m 359 #[.val (.int p1), .val (.int p2), .val (.ref b1), .val (.ref b18), .val (.int (Int32.ofNat n)), .val (.int u), .val (.int zi), .val (.int gl), .val (.int gh), .val (.int gp), .val (.int lp), .val (.int (1 : Int32))] [(.int (983039 : Int32)), (.int p2)])) (fun _ kt => X69.ldcInt hx hown (mvT hZ (hw _ (List.mem_of_getElem? (i := 7) rfl))) (g := (mkF m 357 #[.val (.int p1), .val (.int p2), .val (.ref b1), .val (.ref b18), .val (.int (Int32.ofNat n)), .val (.int u), .val (.int zi), .val (.int gl), .val (.int gh), .val (.int gp), .val (.int lp), .val (.int (1 : Int32))] [(.int p2)])) rfl (hb hby at_357) _ kt) ?_
      by_cases hc359_72 : (983039 : Int32) < p2
      · refine own_via (T' := T69) (g' := (mkF m 362 #[.val (.int p1), .val (.int p2), .val (.ref b1), .val (.ref b18), .val (.int (Int32.ofNat n)), .val (.int u), .val (.int zi), .val (.int gl), .val (.int gh), .val (.int gp), .val (.int lp), .val (.int (1 : Int32))] [])) (fun _ kt => XS.icmpNo X69.here hx rfl (hb hby at_359) rfl (tlt hc359_72).2.2.2 kt) ?_
        refine own_via (T' := T69) (g' := (mkF m 364 #[.val (.int p1), .val (.int p2), .val (.ref b1), .val (.ref b18), .val (.int (Int32.ofNat n)), .val (.int u), .val (.int zi), .val (.int gl), .val (.int gh), .val (.int gp), .val (.int lp), .val (.int (1 : Int32))] [(.int (1 : Int32))])) (fun _ kt => XS.iload X69.here hx rfl (hb hby at_362) rfl kt) ?_
        refine own_via (T' := T69) (g' := (mkF m 367 #[.val (.int p1), .val (.int p2), .val (.ref b1), .val (.ref b18), .val (.int (Int32.ofNat n)), .val (.int u), .val (.int zi), .val (.int gl), .val (.int gh), .val (.int gp), .val (.int lp), .val (.int (1 : Int32))] [])) (fun _ kt => XS.ifNo X69.here hx rfl (hb hby at_364) rfl ((if0 _ _).trans (feq (by decide : ¬ ((1 : Int32) = (0 : Int32)))).1) kt) ?_
        refine own_via (T' := T69) (g' := (mkF m 368 #[.val (.int p1), .val (.int p2), .val (.ref b1), .val (.ref b18), .val (.int (Int32.ofNat n)), .val (.int u), .val (.int zi), .val (.int gl), .val (.int gh), .val (.int gp), .val (.int lp), .val (.int (1 : Int32))] [(.int p2)])) (fun _ kt => XS.iloadN X69.here hx rfl (hb hby at_367) rfl kt) ?_
        obtain ⟨v73, T73, L73, X73, hQ73, st73⟩ := own_callS X69 hx hZ (y := (⟨"com/example/infoset/infoset/xdm/XmlNames", "isNameStart", "(I)Z"⟩ : MethodName)) hown (hw _ (List.mem_of_getElem? (i := 9) rfl)) (hw _ (List.mem_of_getElem? (i := 10) rfl)) (hw _ (List.mem_of_getElem? (i := 11) rfl)) (hw _ (List.mem_of_getElem? (i := 12) rfl)) (by decide) (W := 0) (argsL := [(.int p2)]) (rest := []) (rm1 l Z a0 hw [] p2 h48) (by decide) (by decide) (by decide) (by decide) e69 (g := (mkF m 368 #[.val (.int p1), .val (.int p2), .val (.ref b1), .val (.ref b18), .val (.int (Int32.ofNat n)), .val (.int u), .val (.int zi), .val (.int gl), .val (.int gh), .val (.int gp), .val (.int lp), .val (.int (1 : Int32))] [(.int p2)])) rfl (by rw [hml]; rfl) (lenOf pd_0 rfl) rfl (by show 2 * 0 + _ ≤ _; exact Nat.le_of_eq rfl) (hb hby at_368)
        obtain ⟨rfl, hL73, e73⟩ := hQ73
        replace X73 := own_pure (v := none) (r := none) X73 rfl rfl hL73
        refine own_via (T' := T73) (g' := (mkF m 371 #[.val (.int p1), .val (.int p2), .val (.ref b1), .val (.ref b18), .val (.int (Int32.ofNat n)), .val (.int u), .val (.int zi), .val (.int gl), .val (.int gh), .val (.int gp), .val (.int lp), .val (.int (1 : Int32))] [(.int (own_nsv p2))])) (fun _ kt => st73 _ kt) ?_
        refine own_via (T' := T73) (g' := (mkF m 374 #[.val (.int p1), .val (.int p2), .val (.ref b1), .val (.ref b18), .val (.int (Int32.ofNat n)), .val (.int u), .val (.int zi), .val (.int gl), .val (.int gh), .val (.int gp), .val (.int lp), .val (.int (1 : Int32))] [])) (fun _ kt => XS.ifNo X73.here hx rfl (hb hby at_371) rfl ((if0 _ _).trans (teq (own_ns0 (own_high _ (Int32.lt_iff_toInt_lt.mp hc359_72)))).2) kt) ?_
        refine own_via (T' := T73) (g' := (mkF m 375 #[.val (.int p1), .val (.int p2), .val (.ref b1), .val (.ref b18), .val (.int (Int32.ofNat n)), .val (.int u), .val (.int zi), .val (.int gl), .val (.int gh), .val (.int gp), .val (.int lp), .val (.int (1 : Int32))] [(.int (1 : Int32))])) (fun _ kt => XS.iconst X73.here hx rfl (hb hby at_374) kt) ?_
        refine own_via (T' := T73) (g' := (mkF m 379 #[.val (.int p1), .val (.int p2), .val (.ref b1), .val (.ref b18), .val (.int (Int32.ofNat n)), .val (.int u), .val (.int zi), .val (.int gl), .val (.int gh), .val (.int gp), .val (.int lp), .val (.int (1 : Int32))] [(.int (1 : Int32))])) (fun _ kt => XS.goto X73.here hx rfl (pc0 := 375) (pc' := 379) rfl (hb hby at_375) (by decide) (by decide) kt) ?_
        refine own_via (T' := T73) (g' := (mkF m 381 #[.val (.int p1), .val (.int p2), .val (.ref b1), .val (.ref b18), .val (.int (Int32.ofNat n)), .val (.int u), .val (.int zi), .val (.int gl), .val (.int gh), .val (.int gp), .val (.int lp), .val (.int (1 : Int32))] [])) (fun _ kt => XS.istore X73.here hx rfl (hb hby at_379) rfl (l' := #[.val (.int p1), .val (.int p2), .val (.ref b1), .val (.ref b18), .val (.int (Int32.ofNat n)), .val (.int u), .val (.int zi), .val (.int gl), .val (.int gh), .val (.int gp), .val (.int lp), .val (.int (1 : Int32))]) rfl kt) ?_
        refine own_via (T' := T73) (g' := (mkF m 383 #[.val (.int p1), .val (.int p2), .val (.ref b1), .val (.ref b18), .val (.int (Int32.ofNat n)), .val (.int u), .val (.int zi), .val (.int gl), .val (.int gh), .val (.int gp), .val (.int lp), .val (.int (1 : Int32))] [(.int (1 : Int32))])) (fun _ kt => XS.iload X73.here hx rfl (hb hby at_381) rfl kt) ?_
        exact own_retZ X73 hx hret hlk (hb hby at_383) (by decide) ⟨rfl, N48⟩ (by decide) (by decide)
      · refine own_via (T' := T69) (g' := (mkF m 381 #[.val (.int p1), .val (.int p2), .val (.ref b1), .val (.ref b18), .val (.int (Int32.ofNat n)), .val (.int u), .val (.int zi), .val (.int gl), .val (.int gh), .val (.int gp), .val (.int lp), .val (.int (1 : Int32))] [])) (fun _ kt => XS.icmpYes X69.here hx rfl (pc0 := 359) (pc' := 381) rfl (hb hby at_359) rfl (flt hc359_72).2.2.2 (by decide) (by decide) kt) ?_
        refine own_via (T' := T69) (g' := (mkF m 383 #[.val (.int p1), .val (.int p2), .val (.ref b1), .val (.ref b18), .val (.int (Int32.ofNat n)), .val (.int u), .val (.int zi), .val (.int gl), .val (.int gh), .val (.int gp), .val (.int lp), .val (.int (1 : Int32))] [(.int (1 : Int32))])) (fun _ kt => XS.iload X69.here hx rfl (hb hby at_381) rfl kt) ?_
        exact own_retZ X69 hx hret hlk (hb hby at_383) (by decide) ⟨rfl, N48⟩ (by decide) (by decide)
set_option maxRecDepth 65536 in
set_option maxHeartbeats 40000000 in
theorem comes_1 {Post : Tables → Env → Array Value → State → Outcome → State → Prop} (hpost : ∀ tb e args s v u, (limb_1_1.after args s (.returned v) u = true ∧ limb_1_2.after args s (.returned v) u = true ∧ True) → FrameEnd s (.returned v) u (Jvm.fieldLocs frame_1_writes args s ++ Jvm.arrayLocs frame_1_arrays args s ++ Jvm.staticLocs frame_1_statics s) 16 128 → Post tb e args s (.returned v) u) :
    ArmFor flags0 classFile x code maxLocals ret World_1 tables_1 room_1 Calls_1 rest_1 Pre_1 Post := by
  intro l hfl _ _ p e ha hc hk s m args below hf hA hF happ hP
  obtain ⟨hcalls, hrest, hpre⟩ := hP
  obtain ⟨-, -, -, hnamed, -, -, -, hat⟩ := (Spec.applies_iff hf).mp happ
  obtain ⟨hg, hn⟩ := and_e (Cond.before_iff.mp (show (Jvm.Cond.and given_1 narrow_1).before args s = true from hpre))
  obtain ⟨gc, g0⟩ := and_e hg
  obtain ⟨v0, g1⟩ := and_e g0
  obtain ⟨w0, w1, rfl⟩ : ∃ w0 w1 : Value, args = #[w0, w1] := by
    have hs : args.size = 2 := by simpa [Cond.value, given_1] using gc
    obtain ⟨L⟩ := args
    match L, hs with
    | [w0, w1], _ => exact ⟨w0, w1, rfl⟩
  have hw := fun d (hd : d ∈ tables_1) => atoms_spec (ws := Jvm.Cond.code x code maxLocals ret :: tables_1) hat d (List.mem_cons_of_mem _ hd)
  have hfit : Fit s := fun {y c} hc i hi => by
    obtain ⟨ha, rfl⟩ := Array.getElem?_eq_some_iff.mp hc
    have q := List.all_eq_true.mp ((Array.all_eq_true_iff_forall_mem.mp hF) _ (Array.getElem_mem ha)) i (List.mem_range.mpr hi)
    simpa [Array.getElem?_eq_getElem hi] using q
  obtain ⟨i0, ei0⟩ := is_v v0
  obtain rfl : w0 = (.int i0) := Option.some.inj ei0
  obtain ⟨i1, ei1⟩ := is_v g1
  obtain rfl : w1 = (.int i1) := Option.some.inj ei1
  obtain ⟨n, o, h1, h2, h3, _, L, rfl, ⟨rfl, N⟩, hq⟩ := rm0 l s _ hw tables_1 i0 i1 s.heap s.heap.size (Nat.le_refl _) p e ha hc hk s m _ below hf ((Spec.applies_iff_loose hf).mp happ).1 ⟨rfl, State.Warmed39.refl s, rfl⟩ trivial
  refine ⟨n, _, h1, h2, h3, hpost _ _ _ _ _ _ ⟨Cond.after_iff.mpr rfl, Cond.after_iff.mpr (eq_i res_at (Term.int_eval (1)) rfl), trivial⟩ ⟨hq.1, hq.2.1, (hq.2.2.sift fun y hy => Or.inr (N y hy)).mono (by decide) (by decide)⟩⟩
theorem main_1_1 : Claimed_1_1 := comes_1 fun _ _ _ _ _ _ h hF => ⟨h.1, hF⟩
theorem main_1_2 : Claimed_1_2 := comes_1 fun _ _ _ _ _ _ h hF => ⟨h.2.1, hF⟩
end Jvm.Pilot.@@N@@
namespace Jvm.Pilot.@@N@@
open Jvm Jvm.ClassFile Sem Op Lib Jvm.Free Jvm.Stand Jvm.Pilot.@@N@@.Jvm.D
/-! MADE BY PROGRAM (witnessworld.py) out of the Statement's table words and the real class files: 9 classes; the members and pool entries that the words name. The judged class is class 1, her method 1. -/
namespace start1
open Jvm.ClassFile
def u (s : String) : CpInfo := .utf8 (stringToUtf16 s)
/-- a pool by its gaps: so many unusable entries, then the entry; so many at the end -/
def gap : Nat → List CpInfo → List CpInfo
  | 0, r => r
  | n + 1, r => .unusable :: gap n r
def poolList (es : List (Nat × CpInfo)) (last : Nat) : List CpInfo := es.foldr (fun e r => gap e.1 (e.2 :: r)) (gap last [])
def pool (es : List (Nat × CpInfo)) (last : Nat) : Array CpInfo := ⟨poolList es last⟩
def fileOf (pool : Array CpInfo) (this : Nat) (attrs : Array Attribute := #[]) (ms : Array MethodInfo := #[]) (fl : Nat := 33) (sup : Nat := 0) (ifs : Array Nat := #[]) (fds : Array FieldInfo := #[]) : ClassFile where
  minorVersion := 0
  majorVersion := 65
  constantPool := pool
  accessFlags := fl
  thisClass := this
  superClass := sup
  interfaces := ifs
  fields := fds
  methods := ms
  attributes := attrs
def plain (name : String) (sup : Option ClassId) : Class where
  name := name
  kind := .ordinary
  loader := none
  accessFlags := 33
  super := sup
  interfaces := #[]
  cf := none
  fields := #[]
  methods := #[]
  instanceTypes := #[]
  staticTypes := #[]
  resolved := #[]
  callSites := []
  init := .initialized
  statics := none
  mirror := none

def pool0 : Array CpInfo := pool [(5, u "<init>"), (0, u "()V"), (1, .class_ 10), (1, u "java/lang/Object")] 113

def k0m0 : Method := { name := "<init>", desc := "()V", sig := { parameters := [], returnType := none }, accessFlags := 1, code := none }
/-- java/lang/Object -/
def k0 : Class := { plain "java/lang/Object" none with
  accessFlags := 33
  interfaces := #[]
  cf := some (fileOf pool0 8 #[] #[{ accessFlags := 1, nameIndex := 5, descriptorIndex := 6, attributes := #[] }] 33 0 #[] #[])
  fields := #[]
  methods := #[k0m0]
  instanceTypes := #[]
  staticTypes := #[]
  resolved := Array.replicate 124 none
  statics := none }

def pool1 : Array CpInfo := pool [(2, .class_ 4), (1, u "java/lang/Object"), (0, u "<init>"), (0, u "()V"), (0, .integer 63744), (0, .integer 65008), (0, .integer 65536), (0, .integer 55295), (0, .integer 64975), (0, .integer 65533), (0, .integer 983039), (0, .integer 2147483647), (2, .methodref 18 19), (0, .class_ 20), (0, .nameAndType 21 22), (0, u "com/example/infoset/infoset/xdm/XmlNames"), (0, u "isNameStart"), (0, u "(I)Z"), (0, .class_ 24), (0, u "com/example/infoset/infoset/xdm/XmlNamesIsNameStartPinLaw"), (2, u "law"), (0, u "(II)Z")] 5

def k1m0 : Method := { name := "<init>", desc := "()V", sig := { parameters := [], returnType := none }, accessFlags := 1, code := none }
def k1c1 : Code := { maxStack := 5, maxLocals := 12, code := code, exceptionTable := #[], attributes := #[] }
def k1m1 : Method := { name := "law", desc := "(II)Z", sig := { parameters := [.int, .int], returnType := some .boolean }, accessFlags := 9, code := some k1c1 }
/-- com/example/infoset/infoset/xdm/XmlNamesIsNameStartPinLaw -/
def k1 : Class := { plain "com/example/infoset/infoset/xdm/XmlNamesIsNameStartPinLaw" (some 0) with
  accessFlags := 49
  interfaces := #[]
  cf := some (fileOf pool1 23 #[] #[{ accessFlags := 1, nameIndex := 5, descriptorIndex := 6, attributes := #[] }, { accessFlags := 9, nameIndex := 27, descriptorIndex := 28, attributes := #[] }] 49 2 #[] #[])
  fields := #[]
  methods := #[k1m0, k1m1]
  instanceTypes := #[]
  staticTypes := #[]
  resolved := Array.replicate 34 none
  statics := none }

def pool2 : Array CpInfo := pool [(2, .class_ 4), (1, u "java/lang/Object"), (0, u "<init>"), (0, u "()V"), (0, .integer 55295), (0, .integer 63744), (0, .integer 64975), (0, .integer 65008), (0, .integer 65533), (0, .integer 65536), (0, .integer 983039), (1, .class_ 17), (1, u "com/example/infoset/infoset/xdm/XmlNames"), (0, u "isNameStart"), (0, u "(I)Z")] 50

def k2m0 : Method := { name := "<init>", desc := "()V", sig := { parameters := [], returnType := none }, accessFlags := 2, code := none }
def k2c1 : Code := { maxStack := 2, maxLocals := 1, code := prog_273_method_2_code, exceptionTable := #[], attributes := #[] }
def k2m1 : Method := { name := "isNameStart", desc := "(I)Z", sig := { parameters := [.int], returnType := some .boolean }, accessFlags := 9, code := some k2c1 }
/-- com/example/infoset/infoset/xdm/XmlNames -/
def k2 : Class := { plain "com/example/infoset/infoset/xdm/XmlNames" (some 0) with
  accessFlags := 33
  interfaces := #[]
  cf := some (fileOf pool2 15 #[] #[{ accessFlags := 2, nameIndex := 5, descriptorIndex := 6, attributes := #[] }, { accessFlags := 9, nameIndex := 18, descriptorIndex := 19, attributes := #[] }] 33 2 #[] #[])
  fields := #[]
  methods := #[k2m0, k2m1]
  instanceTypes := #[]
  staticTypes := #[]
  resolved := Array.replicate 70 none
  statics := none }

def pool3 : Array CpInfo := pool [(1, u "java/lang/Cloneable"), (0, .class_ 1), (0, u "java/lang/Object"), (0, .class_ 3)] 3

/-- java/lang/Cloneable -/
def k3 : Class := { plain "java/lang/Cloneable" (some 0) with
  accessFlags := 1537
  interfaces := #[]
  cf := some (fileOf pool3 2 #[] #[] 1537 4 #[] #[])
  fields := #[]
  methods := #[]
  instanceTypes := #[]
  staticTypes := #[]
  resolved := Array.replicate 8 none
  statics := none }

def pool4 : Array CpInfo := pool [(1, u "java/io/Serializable"), (0, .class_ 1), (0, u "java/lang/Object"), (0, .class_ 3)] 3

/-- java/io/Serializable -/
def k4 : Class := { plain "java/io/Serializable" (some 0) with
  accessFlags := 1537
  interfaces := #[]
  cf := some (fileOf pool4 2 #[] #[] 1537 4 #[] #[])
  fields := #[]
  methods := #[]
  instanceTypes := #[]
  staticTypes := #[]
  resolved := Array.replicate 8 none
  statics := none }

/-- the primitive byte -/
def k5 : Class := { plain "byte" none with kind := .primitive 'B', accessFlags := 0x411 }
/-- [B -/
def k6 : Class := { plain "[B" (some 0) with kind := .array 5 .byte, interfaces := #[3, 4], accessFlags := 1041 }

/-- the primitive int -/
def k7 : Class := { plain "int" none with kind := .primitive 'I', accessFlags := 0x411 }
/-- [I -/
def k8 : Class := { plain "[I" (some 0) with kind := .array 7 .int, interfaces := #[3, 4], accessFlags := 1041 }

def heap : Heap := #[]
def classes : Array Class := #[k0, k1, k2, k3, k4, k5, k6, k7, k8]
def interned : List (Array UInt16 × Addr) := []
def slotsUsed : Nat := 0
def theMethod : MethodId := ⟨1, 1⟩
def args0 : Array Value := #[.int 5, .int 300]
def aboutOver (below : List Frame) : State where
  vm := { classes := classes, interned := interned.toArray }
  heap := heap
  slotsUsed := slotsUsed
  threads := #[{ frames := .invoking theMethod args0 :: below }]
def below0 : List Frame := [.native { method := ⟨0, 0⟩, args := #[] }]
def about1 : State := aboutOver below0
def p0 : Program := .bare "" "" ""
def e0 : Env := launch0.env 0 0 0
theorem w_frames : about1.frames = Frame.invoking theMethod args0 :: below0 := rfl
set_option maxRecDepth 65536 in
theorem w_args : argsFit about1.vm theMethod args0 = true := by decide +kernel
set_option maxRecDepth 65536 in
theorem w_heap : heapFits about1 = true := by decide +kernel
set_option maxRecDepth 65536 in
theorem w_runnable : about1.curStatus? = some .runnable := by decide +kernel
set_option maxRecDepth 65536 in
theorem w_alone : about1.alone = true := by decide +kernel
set_option maxRecDepth 65536 in
theorem w_named : about1.methodNamed? x = some theMethod := by decide +kernel
set_option maxRecDepth 65536 in
theorem w_hears : about1.hears theMethod below0 = true := by decide +kernel
set_option maxRecDepth 65536 in
theorem w_ripe : about1.ripe theMethod args0 below0 = true := by decide +kernel
theorem w_running : about1.status = .running := rfl
set_option maxRecDepth 65536 in
theorem w_room : about1.hasRoom e0.platform room_1 = true :=
  launch0.hasRoom_least _ room_1 (by decide +kernel) (by decide +kernel) (by decide +kernel) (by decide +kernel) (by decide +kernel) (by decide +kernel)
theorem allAtoms_all (ts : List Jvm.Cond) (a : Array Jvm.Value) (st : Jvm.State) : (allAtoms ts).before a st = ts.all (fun c => c.before a st) := by
  induction ts with
  | nil => rfl
  | cons c t ih =>
    show (Jvm.Cond.and c (allAtoms t)).before a st = _
    rw [Jvm.Cond.before_and, ih, List.all_cons]
def words1 : List Jvm.Cond := Jvm.Cond.code x code maxLocals ret :: tables_1
/-- a 'code' word, met by the world's own term for the bytes: nothing is compared byte by byte -/
theorem code_word {y : MethodName} {bytes : ByteArray} {mx : Nat} {rt : Option FieldType} {a : Array Value} {s : State} {m : MethodId} {meth : Method} {c : Code} (h1 : s.methodNamed? y = some m) (h2 : s.vm.method? m = some meth) (h3 : meth.code = some c) (h4 : c.code = bytes)
    (h5 : (c.maxLocals == mx && c.exceptionTable.isEmpty && decide (c.maxStack ≤ mostOperands) && decide (meth.sig.returnType = rt) && !meth.locks && decide (parseMethodDescriptor y.desc = some meth.sig)) = true) : (Jvm.Cond.code y bytes mx rt).before a s = true := by
  simp only [Bool.and_eq_true, beq_iff_eq, Bool.not_eq_true', decide_eq_true_eq] at h5
  obtain ⟨⟨⟨⟨⟨g1, g2⟩, g3⟩, g4⟩, g5⟩, g6⟩ := h5
  simp [Cond.before, Cond.holds, Cond.value, h1, h2, h3, h4, g1, g2, g3, g4, g5, g6]
def isCode : Jvm.Cond → Bool
  | .code _ _ _ _ => true
  | _ => false
theorem all_split {L : List Jvm.Cond} {P : Jvm.Cond → Bool} (h1 : L.all (fun c => isCode c || P c) = true) (h2 : ∀ c ∈ L.filter isCode, P c = true) : L.all P = true := by
  refine List.all_eq_true.mpr fun c hc => ?_
  have h := List.all_eq_true.mp h1 c hc
  rcases Bool.eq_false_or_eq_true (isCode c) with hi | hi
  · exact h2 c (List.mem_filter.mpr ⟨hc, hi⟩)
  · simpa [hi] using h
set_option maxRecDepth 65536 in
theorem w_c0 : (Jvm.Cond.code x code maxLocals ret).before args0 about1 = true := code_word (m := ⟨1, 1⟩) (meth := k1m1) (c := k1c1) (by decide +kernel) rfl rfl rfl (by decide +kernel)
set_option maxRecDepth 65536 in
theorem w_c1 : (Jvm.Cond.code ({ cls := "com/example/infoset/infoset/xdm/XmlNames", name := "isNameStart", desc := "(I)Z" } : Jvm.MethodName) prog_273_method_2_code (1 : Nat) (Option.some Jvm.ClassFile.FieldType.boolean)).before args0 about1 = true := code_word (m := ⟨2, 1⟩) (meth := k2m1) (c := k2c1) (by decide +kernel) rfl rfl rfl (by decide +kernel)
def codes1 : List Jvm.Cond := [Jvm.Cond.code x code maxLocals ret, Jvm.Cond.code ({ cls := "com/example/infoset/infoset/xdm/XmlNames", name := "isNameStart", desc := "(I)Z" } : Jvm.MethodName) prog_273_method_2_code (1 : Nat) (Option.some Jvm.ClassFile.FieldType.boolean)]
set_option maxRecDepth 65536 in
theorem codes_eq : words1.filter isCode = codes1 := rfl
theorem w_codes : ∀ c ∈ words1.filter isCode, c.before args0 about1 = true := by
  rw [codes_eq]
  intro c hc
  simp only [codes1, List.mem_cons, List.not_mem_nil, or_false] at hc
  rcases hc with rfl | rfl
  · exact w_c0
  · exact w_c1
set_option maxRecDepth 65536 in
theorem w_t1 : words1.all (fun c => isCode c || c.before args0 about1) = true := by decide +kernel
theorem w_tables : (allAtoms (Jvm.Cond.code x code maxLocals ret :: tables_1)).before args0 about1 = true := by
  rw [allAtoms_all]
  show words1.all (fun c => c.before args0 about1) = true
  refine all_split ?_ w_codes
  rw [w_t1]
set_option maxRecDepth 65536 in
theorem w_case : (Jvm.Cond.and given_1 narrow_1).before args0 about1 = true := by decide +kernel
theorem w_applies : (headSpec (Jvm.Cond.code x code maxLocals ret :: tables_1) room_1).applies x e0.platform about1 = true :=
  (Spec.applies_iff w_frames).mpr ⟨w_running, w_runnable, w_alone, w_named, w_hears, w_ripe, w_room, w_tables⟩
theorem atStart : AtStart classFile x code maxLocals ret World_1 tables_1 room_1 Calls_1 rest_1 Pre_1 launch0 p0 e0 about1 theMethod args0 below0 :=
  ⟨lists_1, trivial, launch0.admits_env _ _ _, launch0.least_env, fairChoices_fair.cas, fairChoices_fair.clock, w_frames, w_args, w_heap, w_applies, trivial, trivial, w_case⟩
end start1
theorem witness_1 : WitnessClaimed_1 := ⟨start1.p0, start1.e0, start1.about1, start1.theMethod, start1.args0, start1.below0, start1.atStart⟩
end Jvm.Pilot.@@N@@
