import JvmDerived
import JvmDerived.Pilot.@@N@@Statement
import JvmDerived.Pilot.@@N@@Code
set_option linter.unusedVariables false
set_option linter.unusedSimpArgs false
namespace Jvm.Pilot.@@N@@
open Jvm Jvm.ClassFile Sem Op Lib Jvm.Free Jvm.Stand Jvm.LawKit Jvm.RoadKit Bundle Jvm.Pilot.@@N@@.Jvm.D
/-! own layer: a walk in continuation style. own_Ends: from T with the frame g on top the run comes to an end of which G holds. -/
def own_Fin (below : List Frame) (s : State) (k n : Nat) (Q : Option Value → Heap → List Loc → Prop) (t : State) : Prop :=
  t.status = .running ∧ ∃ o, Ended t below o ∧ ∃ v L, o = .returned v ∧ Q v t.heap L ∧ FrameEnd s o t L k n
def own_Ends (p : Program) (e : Env) (below : List Frame) (G : State → Prop) (T : State) (g : JFrame) : Prop := ∃ t, Steps p.tables e below (T.setTop g) t ∧ G t
theorem own_via {p : Program} {e : Env} {below : List Frame} {G : State → Prop} {T T' : State} {g g' : JFrame} (h : ∀ t, Steps p.tables e below (T'.setTop g') t → Steps p.tables e below (T.setTop g) t) (k : own_Ends p e below G T' g') : own_Ends p e below G T g := by
  obtain ⟨t, a, b⟩ := k; exact ⟨t, h t a, b⟩
abbrev own_Con (l : Launch) (Z : State) (y : MethodName) (code : ByteArray) (ml : Nat) (ret : Option FieldType) (ws : List Jvm.Cond) (rm : Room) (as : Array Value) (h0 : Heap) (Q : Option Value → Heap → List Loc → Prop) : Prop :=
  MetFree l y (head1 (Jvm.Cond.code y code ml ret :: ws) rm) (fun a U => a = as ∧ Z.Warmed39 U.vm ∧ U.heap = h0) (fun _ _ _ _ _ => True) (fun _ U o U' => ∃ v L, o = .returned v ∧ Q v U'.heap L ∧ FrameEnd U o U' L rm.cells rm.slots)
theorem own_body {l : Launch} {Z : State} {y : MethodName} {code : ByteArray} {ml : Nat} {ret : Option FieldType} {ws : List Jvm.Cond} {rm : Room} {as : Array Value} {h0 : Heap} {Q : Option Value → Heap → List Loc → Prop} (hpl : plainFor y = true)
    (H : ∀ (p : Program) (e : Env) (s : State) (m : MethodId) (below : List Frame) (meth : Method) (c : Code) (T : State), p.tables.exec = Jvm.exec → c.code = code → c.maxLocals = ml → s.vm.findClass y.cls = some m.cls → meth.name = y.name → meth.sig.returnType = ret → meth.locks = false → Z.Warmed39 s.vm → Stand p l e rm s m as below meth c T [] 0 0 → T.heap = h0 → own_Ends p e below (own_Fin below s rm.cells rm.slots Q) T (entryFrame m as ml)) : own_Con l Z y code ml ret ws rm as h0 Q := by
  refine MetFree.of_bodySF hpl hisR ?_
  intro p e s m args below meth c s₁ Bd hml0 hP hK
  obtain ⟨rfl, hZ, hh⟩ := hP
  obtain ⟨t, h1, h2, o, h3, h4⟩ := H p e s m below meth c s₁ Bd.exec Bd.bytes hml0 (findClass_of_methodNamed Bd.named) (name_of_methodNamed Bd.named Bd.method).1 Bd.returns Bd.notSynchronized hZ (Stand.of_body Bd) (by rw [← hh, Bd.state]; rfl)
  exact ⟨t, o, h1, h2, h3, h4⟩
section OwnStand
variable {p : Program} {l : Launch} {e : Env} {R : Room} {s : State} {m : MethodId} {args : Array Value} {below : List Frame} {meth : Method} {c : Code} {T : State} {locs : List Loc} {cells slots : Nat} {Z : State} {a0 : Array Value} {h : Heap}
theorem own_leaf (X : Stand p l e R s m args below meth c T locs cells slots) (hlk : meth.locks = false) {v : Option Value} (hv : meth.sig.returnType = none → v = none) {g : JFrame} {k n : Nat} {Q : Option Value → Heap → List Loc → Prop}
    (hst : ∀ fs, (∀ (f : JFrame) (acts : List Action), f.method = m → f.locked = none → f.entered = [] → (doReturn e (T.setTop f) acts v).1 = T.setFrames fs) → Steps p.tables e below (T.setTop g) (T.setFrames fs))
    (hQ : Q v T.heap locs) (hk : cells ≤ k) (hn : slots ≤ n) : own_Ends p e below (own_Fin below s k n Q) T g := by
  obtain ⟨fs, hr, hrun, hended, hW, hsame⟩ := X.leave (v := v) hv hlk
  exact ⟨_, hst fs hr, hrun, _, hended, _, _, rfl, hQ, ⟨_, rfl⟩, hW, hsame.mono hk hn⟩
theorem own_retZ (X : Stand p l e R s m args below meth c T locs cells slots) (hx : p.tables.exec = Jvm.exec) (hret : meth.sig.returnType = some .boolean) (hlk : meth.locks = false) {pc : Nat} {Ls : Array Slot} {z : Int32} {rest : List Value} (hd : decode c.code pc = .ok (.ireturn, 1)) (hz : nar .boolean z = z) {k n : Nat} {Q : Option Value → Heap → List Loc → Prop}
    (hQ : Q (some (.int z)) T.heap locs) (hk : cells ≤ k) (hn : slots ≤ n) : own_Ends p e below (own_Fin below s k n Q) T (mkF m pc Ls (.int z :: rest)) :=
  own_leaf X hlk (fun h => by rw [hret] at h; cases h) (fun fs hl => retN X hx hret (by simp) hd (by rw [hz]; exact hl)) hQ hk hn
theorem own_retI (X : Stand p l e R s m args below meth c T locs cells slots) (hx : p.tables.exec = Jvm.exec) (hret : meth.sig.returnType = some .int) (hlk : meth.locks = false) {pc : Nat} {Ls : Array Slot} {z : Int32} {rest : List Value} (hd : decode c.code pc = .ok (.ireturn, 1)) {k n : Nat} {Q : Option Value → Heap → List Loc → Prop}
    (hQ : Q (some (.int z)) T.heap locs) (hk : cells ≤ k) (hn : slots ≤ n) : own_Ends p e below (own_Fin below s k n Q) T (mkF m pc Ls (.int z :: rest)) :=
  own_leaf X hlk (fun h => by rw [hret] at h; cases h) (fun fs hl => retOut X hx hret rfl (Or.inl ⟨rfl, Or.inl rfl, z, rfl⟩) hd hl) hQ hk hn
theorem own_retJ (X : Stand p l e R s m args below meth c T locs cells slots) (hx : p.tables.exec = Jvm.exec) (hret : meth.sig.returnType = some .long) (hlk : meth.locks = false) {pc : Nat} {Ls : Array Slot} {z : Int64} {rest : List Value} (hd : decode c.code pc = .ok (.lreturn, 1)) {k n : Nat} {Q : Option Value → Heap → List Loc → Prop}
    (hQ : Q (some (.long z)) T.heap locs) (hk : cells ≤ k) (hn : slots ≤ n) : own_Ends p e below (own_Fin below s k n Q) T (mkF m pc Ls (.long z :: rest)) :=
  own_leaf X hlk (fun h => by rw [hret] at h; cases h) (fun fs hl => retOut X hx hret rfl (Or.inr (Or.inl ⟨rfl, rfl, z, rfl⟩)) hd hl) hQ hk hn
theorem own_retA (X : Stand p l e R s m args below meth c T locs cells slots) (hx : p.tables.exec = Jvm.exec) {t : FieldType} (hret : meth.sig.returnType = some t) (ht : t.isReference = true) (hlk : meth.locks = false) {pc : Nat} {Ls : Array Slot} {z : Value} (hz : z.isRef = true) (hn' : narrow t z = z) {rest : List Value} (hd : decode c.code pc = .ok (.areturn, 1)) {k n : Nat} {Q : Option Value → Heap → List Loc → Prop}
    (hQ : Q (some z) T.heap locs) (hk : cells ≤ k) (hn : slots ≤ n) : own_Ends p e below (own_Fin below s k n Q) T (mkF m pc Ls (z :: rest)) :=
  own_leaf X hlk (fun h => by rw [hret] at h; cases h) (fun fs hl => retOut X hx hret hn' (Or.inr (Or.inr (Or.inr (Or.inr ⟨rfl, ht, hz⟩)))) hd hl) hQ hk hn
theorem own_retV (X : Stand p l e R s m args below meth c T locs cells slots) (hx : p.tables.exec = Jvm.exec) (hret : meth.sig.returnType = none) (hlk : meth.locks = false) {pc : Nat} {Ls : Array Slot} (hd : decode c.code pc = .ok (.return_, 1)) {k n : Nat} {Q : Option Value → Heap → List Loc → Prop}
    (hQ : Q none T.heap locs) (hk : cells ≤ k) (hn : slots ≤ n) : own_Ends p e below (own_Fin below s k n Q) T (mkF m pc Ls []) :=
  own_leaf X hlk (fun _ => rfl) (fun fs hl => X.returnOut hx hret hd hl) hQ hk hn
theorem own_callS (X : Stand p l e R s m args below meth c T locs cells slots) (hx : p.tables.exec = Jvm.exec) (hZ : Z.Warmed39 s.vm) {own : String} {index : Nat} {y : MethodName} {bytes : ByteArray} {ml : Nat} {ret : Option FieldType} {rm : Room} {Q : Option Value → Heap → List Loc → Prop} {W : Nat} (hown : s.vm.findClass own = some m.cls)
    (w1 : (Jvm.Cond.methodLink own index y).before a0 Z = true) (w2 : (Jvm.Cond.static y).before a0 Z = true) (w3 : (Jvm.Cond.initialized y.cls).before a0 Z = true) (w4 : (Jvm.Cond.code y bytes ml ret).before a0 Z = true) (hy : y.cls ≠ "java/lang/invoke/MethodHandle" ∧ y.cls ≠ "java/lang/invoke/VarHandle") {argsL rest : List Value}
    (hM : own_Con l Z y bytes ml ret [] rm argsL.toArray h Q) (hf : rm.frames + 1 ≤ R.frames) (hl : W + (ml + 11) + rm.locals ≤ R.locals) (hc : cells + rm.cells ≤ R.cells) (hn : slots + rm.slots ≤ R.slots) (eT : T.heap = h)
    {g : JFrame} (hg : g.method = m) (hsize : g.locals.size = c.maxLocals) (hlen : ∀ sig, parseMethodDescriptor y.desc = some sig → argsL.length = sig.parameters.length) (hstack : g.stack = argsL.reverse ++ rest) (hW : 2 * g.monitorRoom + (rest.map fun v => v.category).sum ≤ W) (hd : decode c.code g.pc = .ok (.invokestatic index, 3)) :
    ∃ v T' L, Stand p l e R s m args below meth c T' (locs ++ L) (cells + rm.cells) (slots + rm.slots) ∧ Q v T'.heap L ∧ ∀ t, Steps p.tables e below (T'.setTop { g with pc := g.pc + 3, stack := v.toList ++ rest }) t → Steps p.tables e below (T.setTop g) t := by
  obtain ⟨v, vm₁, ⟨T', L', k', n'⟩, -, X', ⟨L, hQ, e1, e2, e3⟩, st⟩ := Jvm.LawKit.callS X hx (y := y) hown (mvT hZ w1) (mvT hZ w2) (mvT hZ w3) (mvT hZ w4) hy (backOf (W := W) hM hZ w4 w3 hf hl) hg hsize (argsL := argsL) (rest := rest) hlen hstack hW hd (fun _ _ => ⟨rfl, eT, hc, hn⟩)
  dsimp only [Pt.U, Pt.locs, Pt.cells, Pt.slots] at X' e1 e2 e3 st hQ
  subst e1 e2 e3
  exact ⟨v, T', L, X', hQ, st⟩
theorem own_callV (X : Stand p l e R s m args below meth c T locs cells slots) (hx : p.tables.exec = Jvm.exec) (hZ : Z.Warmed39 s.vm) {own C : String} {index : Nat} {y z : MethodName} {bytes : ByteArray} {ml : Nat} {ret : Option FieldType} {rm : Room} {Q : Option Value → Heap → List Loc → Prop} {W : Nat} (hown : s.vm.findClass own = some m.cls)
    (w1 : (Jvm.Cond.methodLink own index y).before a0 Z = true) (w2 : (Jvm.Cond.declares y).before a0 Z = true) (nf : NotFace s y) (w3 : (Jvm.Cond.selects C y z).before a0 Z = true) (w4 : (Jvm.Cond.instanceMethod z).before a0 Z = true) (wz : (Jvm.Cond.initialized z.cls).before a0 Z = true) (wc : (Jvm.Cond.code z bytes ml ret).before a0 Z = true) (hy : y.cls ≠ "java/lang/invoke/MethodHandle" ∧ y.cls ≠ "java/lang/invoke/VarHandle") {b : Addr} {argsL rest : List Value}
    (hM : own_Con l Z z bytes ml ret [] rm (.ref b :: argsL).toArray h Q) (hf : rm.frames + 1 ≤ R.frames) (hl : W + (ml + 11) + rm.locals ≤ R.locals) (hc : cells + rm.cells ≤ R.cells) (hn : slots + rm.slots ≤ R.slots) (eT : T.heap = h) (E : Exa Z h b C)
    {g : JFrame} (hg : g.method = m) (hsize : g.locals.size = c.maxLocals) (hlen : ∀ sig, parseMethodDescriptor y.desc = some sig → argsL.length = sig.parameters.length) (hstack : g.stack = argsL.reverse ++ .ref b :: rest) (hW : 2 * g.monitorRoom + (rest.map fun v => v.category).sum ≤ W) (hd : decode c.code g.pc = .ok (.invokevirtual index, 3)) :
    ∃ v T' L, Stand p l e R s m args below meth c T' (locs ++ L) (cells + rm.cells) (slots + rm.slots) ∧ Q v T'.heap L ∧ ∀ t, Steps p.tables e below (T'.setTop { g with pc := g.pc + 3, stack := v.toList ++ rest }) t → Steps p.tables e below (T.setTop g) t := by
  obtain ⟨cq, kq, q1, q2, q3⟩ := isOf hZ eT E
  obtain ⟨v, vm₁, ⟨T', L', k', n'⟩, -, X', ⟨L, hQ, e1, e2, e3⟩, st⟩ := X.virtualBack hx (y := y) (z := z) hown (mvT hZ w1) (mvT hZ w2) nf (mvT hZ w3) (mvT hZ w4) hy (backOf (W := W) hM hZ wc wz hf hl) q1 q3 hg hsize (Steps.refl _) (argsL := argsL) (rest := rest) hlen hstack hW hd (fun _ _ => ⟨rfl, eT, hc, hn⟩)
  dsimp only [Pt.U, Pt.locs, Pt.cells, Pt.slots] at X' e1 e2 e3 st hQ
  subst e1 e2 e3
  exact ⟨v, T', L, X', hQ, fun t k => st.trans k⟩
theorem own_callI (X : Stand p l e R s m args below meth c T locs cells slots) (hx : p.tables.exec = Jvm.exec) (hZ : Z.Warmed39 s.vm) {own : String} {index : Nat} {y : MethodName} (hy1 : y.name = "<init>") {bytes : ByteArray} {ml : Nat} {rm : Room} {Q : Option Value → Heap → List Loc → Prop} {W : Nat} (hown : s.vm.findClass own = some m.cls)
    (w1 : (Jvm.Cond.methodLink own index y).before a0 Z = true) (w2 : (Jvm.Cond.instanceMethod y).before a0 Z = true) (wz : (Jvm.Cond.initialized y.cls).before a0 Z = true) (wc : (Jvm.Cond.code y bytes ml none).before a0 Z = true) (hy : y.cls ≠ "java/lang/invoke/MethodHandle" ∧ y.cls ≠ "java/lang/invoke/VarHandle") {b : Addr} {argsL rest : List Value}
    (hM : own_Con l Z y bytes ml none [] rm (.ref b :: argsL).toArray h Q) (hf : rm.frames + 1 ≤ R.frames) (hl : W + (ml + 11) + rm.locals ≤ R.locals) (hc : cells + rm.cells ≤ R.cells) (hn : slots + rm.slots ≤ R.slots) (eT : T.heap = h)
    {g : JFrame} (hg : g.method = m) (hsize : g.locals.size = c.maxLocals) (hlen : ∀ sig, parseMethodDescriptor y.desc = some sig → argsL.length = sig.parameters.length) (hstack : g.stack = argsL.reverse ++ .ref b :: rest) (hW : 2 * g.monitorRoom + (rest.map fun v => v.category).sum ≤ W) (hd : decode c.code g.pc = .ok (.invokespecial index, 3)) :
    ∃ v T' L, Stand p l e R s m args below meth c T' (locs ++ L) (cells + rm.cells) (slots + rm.slots) ∧ Q v T'.heap L ∧ ∀ t, Steps p.tables e below (T'.setTop { g with pc := g.pc + 3, stack := v.toList ++ rest }) t → Steps p.tables e below (T.setTop g) t := by
  obtain ⟨v, vm₁, ⟨T', L', k', n'⟩, -, X', ⟨L, hQ, e1, e2, e3⟩, st⟩ := X.specialBack hx (y := y) hy1 hown (mvT hZ w1) (mvT hZ w2) (mvT hZ wc) hy (backOf (W := W) hM hZ wc wz hf hl) hg hsize (Steps.refl _) (a := b) (argsL := argsL) (rest := rest) hlen hstack hW hd (fun _ _ => ⟨rfl, eT, hc, hn⟩)
  dsimp only [Pt.U, Pt.locs, Pt.cells, Pt.slots] at X' e1 e2 e3 st hQ
  subst e1 e2 e3
  exact ⟨v, T', L, X', hQ, fun t k => st.trans k⟩
theorem own_callU (X : Stand p l e R s m args below meth c T locs cells slots) (hx : p.tables.exec = Jvm.exec) (hZ : Z.Warmed39 s.vm) {own C owner : String} {index : Nat} {y z : MethodName} {bytes : ByteArray} {ml : Nat} {ret : Option FieldType} {rm : Room} {Q : Option Value → Heap → List Loc → Prop} {W : Nat} (hown : s.vm.findClass own = some m.cls)
    (w1 : (Jvm.Cond.methodLink own index y).before a0 Z = true) (w2 : (Jvm.Cond.sameMethod y.cls owner y.name y.desc).before a0 Z = true) (w2' : (Jvm.Cond.declares ⟨owner, y.name, y.desc⟩).before a0 Z = true) (w3 : (Jvm.Cond.selects C y z).before a0 Z = true) (w4 : (Jvm.Cond.instanceMethod z).before a0 Z = true) (wz : (Jvm.Cond.initialized z.cls).before a0 Z = true) (wc : (Jvm.Cond.code z bytes ml ret).before a0 Z = true) (hy : owner ≠ "java/lang/invoke/MethodHandle" ∧ owner ≠ "java/lang/invoke/VarHandle") {b : Addr} {argsL rest : List Value}
    (hM : own_Con l Z z bytes ml ret [] rm (.ref b :: argsL).toArray h Q) (hf : rm.frames + 1 ≤ R.frames) (hl : W + (ml + 11) + rm.locals ≤ R.locals) (hc : cells + rm.cells ≤ R.cells) (hn : slots + rm.slots ≤ R.slots) (eT : T.heap = h) (E : Exa Z h b C)
    {g : JFrame} (hg : g.method = m) (hsize : g.locals.size = c.maxLocals) (hlen : ∀ sig, parseMethodDescriptor y.desc = some sig → argsL.length = sig.parameters.length) (hstack : g.stack = argsL.reverse ++ .ref b :: rest) (hW : 2 * g.monitorRoom + (rest.map fun v => v.category).sum ≤ W) (hd : decode c.code g.pc = .ok (.invokevirtual index, 3)) :
    ∃ v T' L, Stand p l e R s m args below meth c T' (locs ++ L) (cells + rm.cells) (slots + rm.slots) ∧ Q v T'.heap L ∧ ∀ t, Steps p.tables e below (T'.setTop { g with pc := g.pc + 3, stack := v.toList ++ rest }) t → Steps p.tables e below (T.setTop g) t := by
  obtain ⟨cq, kq, q1, q2, q3⟩ := isOf hZ eT E
  obtain ⟨v, vm₁, ⟨T', L', k', n'⟩, -, X', ⟨L, hQ, e1, e2, e3⟩, st⟩ := X.virtualBackUp hx (x := y) (y := z) hown (mvT hZ w1) (mvT hZ w2) (mvT hZ w2') hy (mvT hZ w3) (mvT hZ w4) (backOf (W := W) hM hZ wc wz hf hl) q1 q3 hg hsize (Steps.refl _) (argsL := argsL) (rest := rest) hlen hstack hW hd (fun _ _ => ⟨rfl, eT, hc, hn⟩)
  dsimp only [Pt.U, Pt.locs, Pt.cells, Pt.slots] at X' e1 e2 e3 st hQ
  subst e1 e2 e3
  exact ⟨v, T', L, X', hQ, fun t k => st.trans k⟩
/-- a callee that writes nothing and makes nothing: it returns r -/
abbrev own_Pure (l : Launch) (Z : State) (y : MethodName) (code : ByteArray) (ml : Nat) (ret : Option FieldType) (ws : List Jvm.Cond) (rm : Room) (as : Array Value) (h0 : Heap) (r : Option Value) : Prop := own_Con l Z y code ml ret ws rm as h0 (fun v h L => v = r ∧ L = [] ∧ h = h0)
theorem own_pure {c0 : Code} {T' : State} {v r : Option Value} {L : List Loc} {kc ks : Nat} (X : Stand p l e R s m args below meth c0 T' (locs ++ L) (cells + kc) (slots + ks)) (h1 : kc = 0) (h2 : ks = 0) (hL : L = []) : Stand p l e R s m args below meth c0 T' locs cells slots := by
  subst h1 h2 hL; rw [List.append_nil] at X; exact X
end OwnStand
theorem own_stat {s : State} {args : Array Value} {C C' f d : String} (hx : (Jvm.Cond.exactly (.static C f d) C').value args s none s [] = some true) (wi : (Jvm.Cond.initialized C).before args s = true) (wl : (Jvm.Cond.laysStatic C f d).before args s = true) :
    ∃ x, (Term.static C f d).eval args s none [] s = some (.ref x) ∧ Sta s s.heap C f d (.ref x) ∧ Exa s s.heap x C' := by
  obtain ⟨x, ev⟩ := exa_v hx
  exact ⟨x, ev, Sta.start ev (Or.inr ⟨wi, wl⟩), Exa.start ev hx⟩
theorem own_ord {s : State} {args : Array Value} {t : Term} {x : Addr} {C n d : String} {k : Int32} (ev : t.eval args s none [] s = some (.ref x)) (hk : (Jvm.Cond.eq (.field t C n d) (.int k)).value args s none s [] = some true) : Fld s s.heap x C n d (.int k) := by
  refine Fld.start ((fld_at ev).symm.trans ?_)
  obtain ⟨u, v, h1, h2, -, h4⟩ := cmp_v (Or.inl hk)
  obtain rfl : v = .int k := (Option.some.inj ((Term.int_eval k).symm.trans h2)).symm
  obtain ⟨z, rfl⟩ := h4
  simp [Cond.value, h1, h2] at hk
  subst hk
  exact h1
theorem own_ne {x y : Nat} (h : x < y ∨ y < x) : x ≠ y := by omega
theorem own_nat {y : Int32} {c : Nat} (h0 : 0 ≤ y.toInt) (h1 : y.toInt < c) : ∃ n : Nat, n < c ∧ y = Int32.ofNat n := by
  have := y.toInt_lt
  exact ⟨y.toInt.toNat, by omega, Int32.toInt_inj.mp (by rw [toInt_of (c := y.toInt.toNat) rfl (by omega)]; omega)⟩
theorem own_ofNat {n : Nat} (h : n < 2 ^ 31) : (Int32.ofNat n).toInt = n := toInt_of rfl h
/-! own layer: arrays by their length and a function of the place -/
def own_Ar (Z : State) (h : Heap) (a : Addr) (ty : FieldType) (n : Nat) (f : Nat → Value) : Prop := ∃ c : Cell, Arr Z h a c ty ∧ c.slots.size = n ∧ n < 2 ^ 31 ∧ ∀ i, i < n → c.slots[i]? = some (f i)
def own_up (f : Nat → Value) (i : Nat) (v : Value) : Nat → Value := fun k => if k = i then v else f k
section OwnArr
variable {p : Program} {l : Launch} {e : Env} {R : Room} {s : State} {m : MethodId} {args : Array Value} {below : List Frame} {meth : Method} {c : Code} {T : State} {locs : List Loc} {cells slots : Nat} {Z : State} {a0 : Array Value} {h h' : Heap} {a b : Addr} {ty : FieldType} {n i : Nat} {f f' : Nat → Value} {v : Value} {sl : Nat} {ws : List Addr} {j : Int32}
theorem own_Ar.lt (A : own_Ar Z h a ty n f) : a < h.size := by obtain ⟨c, A, -⟩ := A; exact A.lt
theorem own_Ar.ext (A : own_Ar Z h a ty n f) (E : Ext h h') : own_Ar Z h' a ty n f := by obtain ⟨c, A, r⟩ := A; exact ⟨c, A.ext E, r⟩
theorem own_Ar.other (A : own_Ar Z h b ty n f) (W : Wr h h' a sl v) (q : b ≠ a) : own_Ar Z h' b ty n f := by obtain ⟨c, A, r⟩ := A; exact ⟨c, A.other W q, r⟩
theorem own_Ar.keep (A : own_Ar Z h a ty n f) (K : Keep h h' ws) (q : a ∉ ws) : own_Ar Z h' a ty n f := by obtain ⟨c, A, r⟩ := A; exact ⟨c, ⟨K.2.1 a c A.1 q, A.2⟩, r⟩
theorem own_Ar.congr (A : own_Ar Z h a ty n f) (q : ∀ i, i < n → f i = f' i) : own_Ar Z h a ty n f' := by obtain ⟨c, A, r1, r2, r3⟩ := A; exact ⟨c, A, r1, r2, fun i hi => by rw [← q i hi]; exact r3 i hi⟩
theorem own_Ar.set (A : own_Ar Z h a ty n f) (W : Wr h h' a i v) : own_Ar Z h' a ty n (own_up f i v) := by
  obtain ⟨c, A, r1, r2, r3⟩ := A
  refine ⟨_, A.same W, by rw [sz_set]; exact r1, r2, fun k hk => ?_⟩
  by_cases q : k = i
  · subst q; simp [Cell.setSlot, own_up, r1, hk]
  · rw [show (c.setSlot i v).slots[k]? = c.slots[k]? from Array.getElem?_setIfInBounds_ne (Ne.symm q), r3 k hk]; simp [own_up, q]
theorem own_Ar.read (A : own_Ar Z h a ty n f) (hj : j = Int32.ofNat i) (hi : i < n) : ∃ c : Cell, Arr Z h a c ty ∧ ¬ (j < 0 ∨ c.slots.size ≤ j.toNatClampNeg) ∧ c.slots[j.toNatClampNeg]? = some (f i) ∧ j.toNatClampNeg = i := by
  obtain ⟨c, A, r1, r2, r3⟩ := A
  have q : j.toNatClampNeg = i := clamp_of hj (by omega)
  refine ⟨c, A, ?_, by rw [q]; exact r3 i hi, q⟩
  rw [r1]; exact within hj hi r2
theorem own_iaload (X : Stand p l e R s m args below meth c T locs cells slots) (hx : p.tables.exec = Jvm.exec) (hZ : Z.Warmed39 s.vm) (eT : T.heap = h) (A : own_Ar Z h a .int n f) (hj : j = Int32.ofNat i) (hi : i < n) {g : JFrame} (hg : g.method = m) {rest : List Value} (hs : g.stack = .int j :: .ref a :: rest) (hd : decode c.code g.pc = .ok (.iaload, 1)) :
    ∀ t, Steps p.tables e below (T.setTop { g with pc := g.pc + 1, stack := f i :: rest }) t → Steps p.tables e below (T.setTop g) t := fun t k => by
  obtain ⟨cl, A, hin, hat, -⟩ := A.read hj hi
  exact X.iaload hx (by rw [eT]; exact A.1) (State.isArrayOf_alike hZ.alike A.2.1) A.2.2 hin hat hg hs hd t k
theorem own_laload (X : Stand p l e R s m args below meth c T locs cells slots) (hx : p.tables.exec = Jvm.exec) (hZ : Z.Warmed39 s.vm) (eT : T.heap = h) (A : own_Ar Z h a .long n f) (hj : j = Int32.ofNat i) (hi : i < n) {g : JFrame} (hg : g.method = m) {rest : List Value} (hs : g.stack = .int j :: .ref a :: rest) (hd : decode c.code g.pc = .ok (.laload, 1)) :
    ∀ t, Steps p.tables e below (T.setTop { g with pc := g.pc + 1, stack := f i :: rest }) t → Steps p.tables e below (T.setTop g) t := fun t k => by
  obtain ⟨cl, A, hin, hat, -⟩ := A.read hj hi
  exact X.laload hx (by rw [eT]; exact A.1) (State.isArrayOf_alike hZ.alike A.2.1) A.2.2 hin hat hg hs hd t k
theorem own_baloadB (X : Stand p l e R s m args below meth c T locs cells slots) (hx : p.tables.exec = Jvm.exec) (hZ : Z.Warmed39 s.vm) (eT : T.heap = h) (A : own_Ar Z h a .byte n f) (hj : j = Int32.ofNat i) (hi : i < n) {g : JFrame} (hg : g.method = m) {rest : List Value} (hs : g.stack = .int j :: .ref a :: rest) (hd : decode c.code g.pc = .ok (.baload, 1)) :
    ∀ t, Steps p.tables e below (T.setTop { g with pc := g.pc + 1, stack := f i :: rest }) t → Steps p.tables e below (T.setTop g) t := fun t k => by
  obtain ⟨cl, A, hin, hat, -⟩ := A.read hj hi
  exact X.baloadBytes hx (by rw [eT]; exact A.1) (State.isArrayOf_alike hZ.alike A.2.1) A.2.2 hin hat hg hs hd t k
theorem own_baloadZ (X : Stand p l e R s m args below meth c T locs cells slots) (hx : p.tables.exec = Jvm.exec) (hZ : Z.Warmed39 s.vm) (eT : T.heap = h) (A : own_Ar Z h a .boolean n f) (hj : j = Int32.ofNat i) (hi : i < n) {g : JFrame} (hg : g.method = m) {rest : List Value} (hs : g.stack = .int j :: .ref a :: rest) (hd : decode c.code g.pc = .ok (.baload, 1)) :
    ∀ t, Steps p.tables e below (T.setTop { g with pc := g.pc + 1, stack := f i :: rest }) t → Steps p.tables e below (T.setTop g) t := fun t k => by
  obtain ⟨cl, A, hin, hat, -⟩ := A.read hj hi
  exact X.baloadBooleans hx (by rw [eT]; exact A.1) (State.isArrayOf_alike hZ.alike A.2.1) A.2.2 hin hat hg hs hd t k
theorem own_aaload (X : Stand p l e R s m args below meth c T locs cells slots) (hx : p.tables.exec = Jvm.exec) (hZ : Z.Warmed39 s.vm) (eT : T.heap = h) (A : own_Ar Z h a ty n f) (hty : ty.isReference = true) (hj : j = Int32.ofNat i) (hi : i < n) {g : JFrame} (hg : g.method = m) {rest : List Value} (hs : g.stack = .int j :: .ref a :: rest) (hd : decode c.code g.pc = .ok (.aaload, 1)) :
    ∀ t, Steps p.tables e below (T.setTop { g with pc := g.pc + 1, stack := f i :: rest }) t → Steps p.tables e below (T.setTop g) t := fun t k => by
  obtain ⟨cl, A, hin, hat, -⟩ := A.read hj hi
  exact X.aaload hx (by rw [eT]; exact A.1) (State.isArrayOf_alike hZ.alike A.2.1) hty A.2.2 hin hat hg hs hd t k
theorem own_alen (X : Stand p l e R s m args below meth c T locs cells slots) (hx : p.tables.exec = Jvm.exec) (hZ : Z.Warmed39 s.vm) (eT : T.heap = h) (A : own_Ar Z h a ty n f) {g : JFrame} (hg : g.method = m) {rest : List Value} (hs : g.stack = .ref a :: rest) (hd : decode c.code g.pc = .ok (.arraylength, 1)) :
    ∀ t, Steps p.tables e below (T.setTop { g with pc := g.pc + 1, stack := .int (Int32.ofNat n) :: rest }) t → Steps p.tables e below (T.setTop g) t := fun t k => by
  obtain ⟨cl, A, r1, -, -⟩ := A
  subst r1
  exact X.arraylength hx (by rw [eT]; exact A.1) (State.isArrayOf_alike hZ.alike A.2.1) hg hs hd t k
theorem own_iastore (X : Stand p l e R s m args below meth c T locs cells slots) (hx : p.tables.exec = Jvm.exec) (hZ : Z.Warmed39 s.vm) (eT : T.heap = h) (A : own_Ar Z h a .int n f) (hj : j = Int32.ofNat i) (hi : i < n) {x : Int32} {g : JFrame} (hg : g.method = m) {rest : List Value} (hs : g.stack = .int x :: .int j :: .ref a :: rest) (hd : decode c.code g.pc = .ok (.iastore, 1)) :
    ∃ T' h', Stand p l e R s m args below meth c T' (locs ++ [⟨a, i⟩]) cells slots ∧ T'.heap = h' ∧ Wr h h' a i (.int x) ∧ own_Ar Z h' a .int n (own_up f i (.int x)) ∧ ∀ t, Steps p.tables e below (T'.setTop { g with pc := g.pc + 1, stack := rest }) t → Steps p.tables e below (T.setTop g) t := by
  obtain ⟨cl, A', hin, -, q⟩ := A.read hj hi
  obtain ⟨T', h', X', e', W, st⟩ := stI X hx hZ eT A' hin hg hs hd
  rw [q] at X' W
  exact ⟨T', h', X', e', W, A.set W, st⟩
theorem own_lastore (X : Stand p l e R s m args below meth c T locs cells slots) (hx : p.tables.exec = Jvm.exec) (hZ : Z.Warmed39 s.vm) (eT : T.heap = h) (A : own_Ar Z h a .long n f) (hj : j = Int32.ofNat i) (hi : i < n) {x : Int64} {g : JFrame} (hg : g.method = m) {rest : List Value} (hs : g.stack = .long x :: .int j :: .ref a :: rest) (hd : decode c.code g.pc = .ok (.lastore, 1)) :
    ∃ T' h', Stand p l e R s m args below meth c T' (locs ++ [⟨a, i⟩]) cells slots ∧ T'.heap = h' ∧ Wr h h' a i (.long x) ∧ own_Ar Z h' a .long n (own_up f i (.long x)) ∧ ∀ t, Steps p.tables e below (T'.setTop { g with pc := g.pc + 1, stack := rest }) t → Steps p.tables e below (T.setTop g) t := by
  obtain ⟨cl, A', hin, -, q⟩ := A.read hj hi
  obtain ⟨T', h', X', e', W, st⟩ := stJ X hx hZ eT A' hin hg hs hd
  rw [q] at X' W
  exact ⟨T', h', X', e', W, A.set W, st⟩
theorem own_bastoreB (X : Stand p l e R s m args below meth c T locs cells slots) (hx : p.tables.exec = Jvm.exec) (hZ : Z.Warmed39 s.vm) (eT : T.heap = h) (A : own_Ar Z h a .byte n f) (hj : j = Int32.ofNat i) (hi : i < n) {x r : Int32} (hr : nar .byte x = r) {g : JFrame} (hg : g.method = m) {rest : List Value} (hs : g.stack = .int x :: .int j :: .ref a :: rest) (hd : decode c.code g.pc = .ok (.bastore, 1)) :
    ∃ T' h', Stand p l e R s m args below meth c T' (locs ++ [⟨a, i⟩]) cells slots ∧ T'.heap = h' ∧ Wr h h' a i (.int r) ∧ own_Ar Z h' a .byte n (own_up f i (.int r)) ∧ ∀ t, Steps p.tables e below (T'.setTop { g with pc := g.pc + 1, stack := rest }) t → Steps p.tables e below (T.setTop g) t := by
  obtain ⟨cl, A', hin, -, q⟩ := A.read hj hi
  obtain ⟨T', h', X', e', W, st⟩ := stB X hx hZ eT A' hin hg hs hd
  rw [q] at X' W; rw [hr] at W
  exact ⟨T', h', X', e', W, A.set W, st⟩
theorem own_bastoreZ (X : Stand p l e R s m args below meth c T locs cells slots) (hx : p.tables.exec = Jvm.exec) (hZ : Z.Warmed39 s.vm) (eT : T.heap = h) (A : own_Ar Z h a .boolean n f) (hj : j = Int32.ofNat i) (hi : i < n) {x r : Int32} (hr : nar .boolean x = r) {g : JFrame} (hg : g.method = m) {rest : List Value} (hs : g.stack = .int x :: .int j :: .ref a :: rest) (hd : decode c.code g.pc = .ok (.bastore, 1)) :
    ∃ T' h', Stand p l e R s m args below meth c T' (locs ++ [⟨a, i⟩]) cells slots ∧ T'.heap = h' ∧ Wr h h' a i (.int r) ∧ own_Ar Z h' a .boolean n (own_up f i (.int r)) ∧ ∀ t, Steps p.tables e below (T'.setTop { g with pc := g.pc + 1, stack := rest }) t → Steps p.tables e below (T.setTop g) t := by
  obtain ⟨cl, A', hin, -, q⟩ := A.read hj hi
  obtain ⟨T', h', X', e', W, st⟩ := stZ X hx hZ eT A' hin hg hs hd
  rw [q] at X' W; rw [hr] at W
  exact ⟨T', h', X', e', W, A.set W, st⟩
/-- a fresh array of n places -/
theorem own_newarr (X : Stand p l e R s m args below meth c T locs cells slots) (hx : p.tables.exec = Jvm.exec) (hZ : Z.Warmed39 s.vm) {aty : ArrayType} (w : (Jvm.Cond.arrayClass (newarray.typeOf aty)).before a0 Z = true) (eT : T.heap = h) {g : JFrame} (hg : g.method = m) (hd : decode c.code g.pc = .ok (.newarray aty, 2)) (hj : j = Int32.ofNat n) (hn : n * 8 ≤ 536870912) {rest : List Value} (hs : g.stack = .int j :: rest) (hc : cells + 1 ≤ R.cells) (hl : slots + n ≤ R.slots) :
    ∃ T' h' b, b = h.size ∧ Stand p l e R s m args below meth c T' locs (cells + 1) (slots + n) ∧ T'.heap = h' ∧ Ext h h' ∧ own_Ar Z h' b (newarray.typeOf aty) n (fun _ => defaultValue (newarray.typeOf aty)) ∧ ∀ t, Steps p.tables e below (T'.setTop { g with pc := g.pc + 2, stack := .ref b :: rest }) t → Steps p.tables e below (T.setTop g) t := by
  have q : j.toNatClampNeg = n := clamp_of hj (by omega)
  have q0 : ¬ j < 0 := by rw [Int32.lt_iff_toInt_lt, toInt_of hj (by omega)]; show ¬ (n : Int) < 0; omega
  obtain ⟨T', h', k, X', e', E, A, st⟩ := newP X hx hZ w eT hg hd hs q0 (cap := n) (Nat.le_of_eq q) hn hc hl
  refine ⟨T', h', _, rfl, X', e', E, ⟨_, A, by rw [sz_new]; exact q, by omega, fun i hi => ?_⟩, st⟩
  simp [newA, q, hi]
/-- an array whose components may be of the class C -/
def own_Ov (Z : State) (h : Heap) (a : Addr) (C : String) : Prop := ∃ cell : Cell, h[a]? = some cell ∧ Ovr Z cell.cls C
theorem own_Ov.ext {C : String} (O : own_Ov Z h a C) (E : Ext h h') : own_Ov Z h' a C := by obtain ⟨c, h1, h2⟩ := O; exact ⟨c, E.2 _ _ h1, h2⟩
theorem own_Ov.wr {C : String} (O : own_Ov Z h a C) (W : Wr h h' b sl v) : own_Ov Z h' a C := by
  obtain ⟨c, h1, h2⟩ := O
  obtain ⟨c', q1, q2, -⟩ := wr_at W h1
  exact ⟨c', q1, by rw [q2]; exact h2⟩
theorem own_Ov.keep {C : String} (O : own_Ov Z h a C) (K : Keep h h' ws) : own_Ov Z h' a C := by
  obtain ⟨c, h1, h2⟩ := O
  obtain ⟨c', q1, q2, -⟩ := K.2.2 a c h1
  exact ⟨c', q1, by rw [q2]; exact h2⟩
theorem own_sto {C : String} {y : Addr} (A : own_Ar Z h a ty n f) (O : own_Ov Z h a C) (I : Ins Z h y C true) : Sto Z h a (.ref y) := by
  obtain ⟨c, A, -⟩ := A
  obtain ⟨c', h1, h2⟩ := O
  cases A.1.symm.trans h1
  exact Sto.of A h2 I
theorem own_aastore (X : Stand p l e R s m args below meth c T locs cells slots) (hx : p.tables.exec = Jvm.exec) (hZ : Z.Warmed39 s.vm) (eT : T.heap = h) (A : own_Ar Z h a ty n f) (hj : j = Int32.ofNat i) (hi : i < n) (hty : ty.isReference = true) (S : Sto Z h a v) {g : JFrame} (hg : g.method = m) {rest : List Value} (hs : g.stack = v :: .int j :: .ref a :: rest) (hd : decode c.code g.pc = .ok (.aastore, 1)) :
    ∃ T' h', Stand p l e R s m args below meth c T' (locs ++ [⟨a, i⟩]) cells slots ∧ T'.heap = h' ∧ Wr h h' a i v ∧ own_Ar Z h' a ty n (own_up f i v) ∧ ∀ t, Steps p.tables e below (T'.setTop { g with pc := g.pc + 1, stack := rest }) t → Steps p.tables e below (T.setTop g) t := by
  obtain ⟨cl, A', hin, -, q⟩ := A.read hj hi
  obtain ⟨T', h', X', e', W, st⟩ := stR X hx hZ eT A' hin hty S hg hs hd
  rw [q] at X' W
  exact ⟨T', h', X', e', W, A.set W, st⟩
theorem own_newref (X : Stand p l e R s m args below meth c T locs cells slots) (hx : p.tables.exec = Jvm.exec) (hZ : Z.Warmed39 s.vm) {own C : String} {index : Nat} (hown : s.vm.findClass own = some m.cls) (w1 : (Jvm.Cond.classLink own index C).before a0 Z = true) (w2 : (Jvm.Cond.arrayOver (.object C)).before a0 Z = true) (eT : T.heap = h) {g : JFrame} (hg : g.method = m) (hd : decode c.code g.pc = .ok (.anewarray index, 3)) (hj : j = Int32.ofNat n) (hn : n * 8 ≤ 536870912) {rest : List Value} (hs : g.stack = .int j :: rest) (hc : cells + 1 ≤ R.cells) (hl : slots + n ≤ R.slots) :
    ∃ T' h' b, b = h.size ∧ Stand p l e R s m args below meth c T' locs (cells + 1) (slots + n) ∧ T'.heap = h' ∧ Ext h h' ∧ own_Ar Z h' b (.object C) n (fun _ => .null) ∧ own_Ov Z h' b C ∧ ∀ t, Steps p.tables e below (T'.setTop { g with pc := g.pc + 3, stack := .ref b :: rest }) t → Steps p.tables e below (T.setTop g) t := by
  have q : j.toNatClampNeg = n := clamp_of hj (by omega)
  have q0 : ¬ j < 0 := by rw [Int32.lt_iff_toInt_lt, toInt_of hj (by omega)]; show ¬ (n : Int) < 0; omega
  obtain ⟨T', h', k, X', e', E, A, O, st⟩ := newR X hx hZ hown w1 w2 eT hg hd hs q0 (cap := n) (Nat.le_of_eq q) hn hc hl
  refine ⟨T', h', _, rfl, X', e', E, ⟨_, A, by rw [sz_new]; exact q, by omega, fun i hi => ?_⟩, ⟨_, A.1, O⟩, st⟩
  simp [newA, q, hi, defaultValue]
end OwnArr
/-! own layer: an object of a class, all of whose laid fields can be read and written; a private method's call -/
def own_Ob (Z : State) (h : Heap) (a : Addr) (C : String) : Prop := ∃ (cell : Cell) (k : Class), h[a]? = some cell ∧ Z.vm.findClass C = some cell.cls ∧ Z.vm.classes[cell.cls]? = some k ∧ cell.vm = .none ∧ (k.kind = .ordinary → cell.slots.size = k.instanceTypes.size)
section OwnOb
variable {p : Program} {l : Launch} {e : Env} {R : Room} {s : State} {m : MethodId} {args : Array Value} {below : List Frame} {meth : Method} {c : Code} {T : State} {locs : List Loc} {cells slots : Nat} {Z : State} {a0 : Array Value} {h h' : Heap} {a b : Addr} {C : String} {v : Value} {sl : Nat} {ws : List Addr}
theorem own_Ob.exa (O : own_Ob Z h a C) : Exa Z h a C := by obtain ⟨c, k, h1, h2, h3, h4, h5⟩ := O; exact ⟨c, k, h1, h2, h3, by rw [h4]; rfl, h5⟩
theorem own_Ob.lt (O : own_Ob Z h a C) : a < h.size := O.exa.lt
theorem own_Ob.ext (O : own_Ob Z h a C) (E : Ext h h') : own_Ob Z h' a C := by obtain ⟨c, k, h1, r⟩ := O; exact ⟨c, k, E.2 _ _ h1, r⟩
theorem own_Ob.wr (O : own_Ob Z h a C) (W : Wr h h' b sl v) : own_Ob Z h' a C := by
  obtain ⟨c, k, h1, h2, h3, h4, h5⟩ := O
  obtain ⟨c', q1, q2, q3, q4, -⟩ := wr_at W h1
  exact ⟨c', k, q1, by rw [q2]; exact h2, by rw [q2]; exact h3, by rw [q3]; exact h4, fun z => by rw [q4]; exact h5 z⟩
theorem own_Ob.keep (O : own_Ob Z h a C) (K : Keep h h' ws) : own_Ob Z h' a C := by
  obtain ⟨c, k, h1, h2, h3, h4, h5⟩ := O
  obtain ⟨c', q1, q2, q3, q4⟩ := K.2.2 a c h1
  exact ⟨c', k, q1, by rw [q2]; exact h2, by rw [q2]; exact h3, by rw [q3]; exact h4, fun z => by rw [q4]; exact h5 z⟩
theorem own_Ob.of (E : Exa Z h a C) (q : ∃ cell : Cell, h[a]? = some cell ∧ cell.vm = .none ∧ cell.monitor = {}) : own_Ob Z h a C := by
  obtain ⟨c, k, h1, h2, h3, -, h5⟩ := E
  obtain ⟨c', q1, q2, -⟩ := q
  cases h1.symm.trans q1
  exact ⟨c, k, h1, h2, h3, q2, h5⟩
theorem own_Ob.fld (B : own_Ob Z h a C) {kk : Nat} (wi : (Jvm.Cond.instantiable C kk).before a0 Z = true) {O n d : String} (L : Laid Z a0 C O n d) : ∃ v, Fld Z h a O n d v := by
  obtain ⟨cell, k, h1, h2, h3, h4, h5⟩ := B
  obtain ⟨c1, k1, cf, kf, i, f, b1, b2, b3, b4, b5, b6, -⟩ := L.spec
  cases h2.symm.trans b1
  cases h3.symm.trans b2
  obtain ⟨c2, k2, i1, i2, i3, -⟩ := Cond.instantiable_spec wi
  cases h2.symm.trans i1
  cases h3.symm.trans i2
  have hlt : f.slot < cell.slots.size := by rw [h5 i3]; exact (Array.getElem?_eq_some_iff.mp b6).1
  exact ⟨cell.slots[f.slot], cell, cf, kf, i, f, h1, b3, b4, by rw [h4]; exact nofun, by rw [h4]; rfl, b5, Array.getElem?_eq_getElem hlt⟩
theorem own_callP (X : Stand p l e R s m args below meth c T locs cells slots) (hx : p.tables.exec = Jvm.exec) (hZ : Z.Warmed39 s.vm) {own : String} {index : Nat} {y y2 : MethodName} {bytes : ByteArray} {ml : Nat} {ret : Option FieldType} {rm : Room} {Q : Option Value → Heap → List Loc → Prop} {W : Nat} (hown : s.vm.findClass own = some m.cls)
    (w1 : (Jvm.Cond.methodLink own index y).before a0 Z = true) (w2 : (Jvm.Cond.instanceMethod y).before a0 Z = true) (wp : (Jvm.Cond.privateMethod y).before a0 Z = true) (wz : (Jvm.Cond.initialized y.cls).before a0 Z = true) (wc : (Jvm.Cond.code y bytes ml ret).before a0 Z = true) (s1 : (Jvm.Cond.selects C y2 y2).before a0 Z = true) (s2 : (Jvm.Cond.instanceMethod y2).before a0 Z = true) (hcl : y2.cls = y.cls) (hy : y.cls ≠ "java/lang/invoke/MethodHandle" ∧ y.cls ≠ "java/lang/invoke/VarHandle") {argsL rest : List Value}
    (hM : own_Con l Z y bytes ml ret [] rm (.ref b :: argsL).toArray h Q) (hf : rm.frames + 1 ≤ R.frames) (hl : W + (ml + 11) + rm.locals ≤ R.locals) (hc : cells + rm.cells ≤ R.cells) (hn : slots + rm.slots ≤ R.slots) (eT : T.heap = h) (E : Exa Z h b C)
    {g : JFrame} (hg : g.method = m) (hsize : g.locals.size = c.maxLocals) (hlen : ∀ sig, parseMethodDescriptor y.desc = some sig → argsL.length = sig.parameters.length) (hstack : g.stack = argsL.reverse ++ .ref b :: rest) (hW : 2 * g.monitorRoom + (rest.map fun v => v.category).sum ≤ W) (hd : decode c.code g.pc = .ok (.invokevirtual index, 3)) :
    ∃ v T' L, Stand p l e R s m args below meth c T' (locs ++ L) (cells + rm.cells) (slots + rm.slots) ∧ Q v T'.heap L ∧ ∀ t, Steps p.tables e below (T'.setTop { g with pc := g.pc + 3, stack := v.toList ++ rest }) t → Steps p.tables e below (T.setTop g) t := by
  obtain ⟨mk, mt, hn2, -⟩ := Cond.instanceMethod_spec (mvT (args := args) hZ s2)
  obtain ⟨kr, hk, hi⟩ := notFace_of_selects (mvT (args := args) hZ s1) mk hn2
  have hc0 := findClass_of_methodNamed hn2
  rw [hcl] at hc0
  have hp := Cond.privateMethod_at (mvP hZ wp (args := args))
  have hsel : (Jvm.Cond.selects y.cls y y).before args s = true := Jvm.Stand.selects_self_of_private hc0 hk hi hp (mvT hZ w2) hy
  obtain ⟨cell, q1, q2⟩ := E.cell
  obtain ⟨v, vm₁, ⟨T', L', k', n'⟩, -, X', ⟨L, hQ, e1, e2, e3⟩, st⟩ := X.privateBack hx (y := y) hown (mvT hZ w1) (mvT hZ w2) hsel hp (mvT hZ wc) hy (backOf (W := W) hM hZ wc wz hf hl) hg hsize (Steps.refl _) (a := b) (by rw [eT]; exact q1) q2 (argsL := argsL) (rest := rest) hlen hstack hW hd (fun _ _ => ⟨rfl, eT, hc, hn⟩)
  dsimp only [Pt.U, Pt.locs, Pt.cells, Pt.slots] at X' e1 e2 e3 st hQ
  subst e1 e2 e3
  exact ⟨v, T', L, X', hQ, fun t k => st.trans k⟩
end OwnOb

/-- one TreeBuffers object: n nodes, depth d; its arrays, the ones that matter by what they hold -/
def own_TB (Z : State) (h : Heap) (a kd pa en nm vl ns fa op og pr : Addr) (n d : Nat) (fe fo fg : Nat → Value) : Prop := own_Ob Z h a "com/example/infoset/infoset/xdm/TreeBuffers" ∧ Fld Z h a "com/example/infoset/infoset/xdm/TreeBuffers" "size" "I" (.int (Int32.ofNat n)) ∧ Fld Z h a "com/example/infoset/infoset/xdm/TreeBuffers" "depth" "I" (.int (Int32.ofNat d)) ∧ Fld Z h a "com/example/infoset/infoset/xdm/TreeBuffers" "attributeCount" "I" (.int 0) ∧ Fld Z h a "com/example/infoset/infoset/xdm/TreeBuffers" "kinds" "[B" (.ref kd) ∧ Fld Z h a "com/example/infoset/infoset/xdm/TreeBuffers" "parents" "[I" (.ref pa) ∧ Fld Z h a "com/example/infoset/infoset/xdm/TreeBuffers" "ends" "[I" (.ref en) ∧ Fld Z h a "com/example/infoset/infoset/xdm/TreeBuffers" "names" "[Lcom/example/infoset/infoset/xdm/QName;" (.ref nm) ∧ Fld Z h a "com/example/infoset/infoset/xdm/TreeBuffers" "values" "[Ljava/lang/String;" (.ref vl) ∧ Fld Z h a "com/example/infoset/infoset/xdm/TreeBuffers" "namespaces" "[Lcom/example/infoset/infoset/xdm/NamespaceBindings;" (.ref ns) ∧ Fld Z h a "com/example/infoset/infoset/xdm/TreeBuffers" "firstAttributes" "[I" (.ref fa) ∧ Fld Z h a "com/example/infoset/infoset/xdm/TreeBuffers" "open" "[I" (.ref op) ∧ Fld Z h a "com/example/infoset/infoset/xdm/TreeBuffers" "originals" "[Lcom/example/infoset/infoset/xdm/NamespaceBindings;" (.ref og) ∧ Fld Z h a "com/example/infoset/infoset/xdm/TreeBuffers" "preserving" "[Z" (.ref pr) ∧ (∃ f, own_Ar Z h kd .byte 16 f) ∧ (∃ f, own_Ar Z h pa .int 16 f) ∧ own_Ar Z h en .int 16 fe ∧ (∃ f, own_Ar Z h nm (.object "com/example/infoset/infoset/xdm/QName") 16 f) ∧ (∃ f, own_Ar Z h vl (.object "java/lang/String") 16 f) ∧ (∃ f, own_Ar Z h ns (.object "com/example/infoset/infoset/xdm/NamespaceBindings") 16 f) ∧ (∃ f, own_Ar Z h fa .int 16 f) ∧ own_Ar Z h op .int 16 fo ∧ own_Ar Z h og (.object "com/example/infoset/infoset/xdm/NamespaceBindings") 16 fg ∧ (∃ f, own_Ar Z h pr .boolean 16 f) ∧ own_Ov Z h og "com/example/infoset/infoset/xdm/NamespaceBindings" ∧ @LT.lt Nat _ a kd ∧ @LT.lt Nat _ kd pa ∧ @LT.lt Nat _ pa en ∧ @LT.lt Nat _ en nm ∧ @LT.lt Nat _ nm vl ∧ @LT.lt Nat _ vl ns ∧ @LT.lt Nat _ ns fa ∧ @LT.lt Nat _ fa op ∧ @LT.lt Nat _ op og ∧ @LT.lt Nat _ og pr
section OwnTB
variable {Z : State} {h h' : Heap} {a kd pa en nm vl ns fa op og pr : Addr} {n d : Nat} {fe fo fg : Nat → Value} {ws : List Addr}
theorem own_TB.keep (T : own_TB Z h a kd pa en nm vl ns fa op og pr n d fe fo fg) (K : Keep h h' ws) (q : a ∉ ws ∧ kd ∉ ws ∧ pa ∉ ws ∧ en ∉ ws ∧ nm ∉ ws ∧ vl ∉ ws ∧ ns ∉ ws ∧ fa ∉ ws ∧ op ∉ ws ∧ og ∉ ws ∧ pr ∉ ws) : own_TB Z h' a kd pa en nm vl ns fa op og pr n d fe fo fg := by
  obtain ⟨k0, k1, k2, k3, k4, k5, k6, k7, k8, k9, k10, k11, k12, k13, k14, k15, k16, k17, k18, k19, k20, k21, k22, k23, k24, k25, k26, k27, k28, k29, k30, k31, k32, k33, k34⟩ := T
  obtain ⟨qa, qkd, qpa, qen, qnm, qvl, qns, qfa, qop, qog, qpr⟩ := q
  exact ⟨k0.keep K, k1.keep K qa, k2.keep K qa, k3.keep K qa, k4.keep K qa, k5.keep K qa, k6.keep K qa, k7.keep K qa, k8.keep K qa, k9.keep K qa, k10.keep K qa, k11.keep K qa, k12.keep K qa, k13.keep K qa, (by obtain ⟨f, q⟩ := k14; exact ⟨f, q.keep K qkd⟩), (by obtain ⟨f, q⟩ := k15; exact ⟨f, q.keep K qpa⟩), k16.keep K qen, (by obtain ⟨f, q⟩ := k17; exact ⟨f, q.keep K qnm⟩), (by obtain ⟨f, q⟩ := k18; exact ⟨f, q.keep K qvl⟩), (by obtain ⟨f, q⟩ := k19; exact ⟨f, q.keep K qns⟩), (by obtain ⟨f, q⟩ := k20; exact ⟨f, q.keep K qfa⟩), k21.keep K qop, k22.keep K qog, (by obtain ⟨f, q⟩ := k23; exact ⟨f, q.keep K qpr⟩), k24.keep K, k25, k26, k27, k28, k29, k30, k31, k32, k33, k34⟩
theorem own_TB.ext (T : own_TB Z h a kd pa en nm vl ns fa op og pr n d fe fo fg) (E : Ext h h') : own_TB Z h' a kd pa en nm vl ns fa op og pr n d fe fo fg := by
  obtain ⟨k0, k1, k2, k3, k4, k5, k6, k7, k8, k9, k10, k11, k12, k13, k14, k15, k16, k17, k18, k19, k20, k21, k22, k23, k24, k25, k26, k27, k28, k29, k30, k31, k32, k33, k34⟩ := T
  exact ⟨k0.ext E, k1.ext E, k2.ext E, k3.ext E, k4.ext E, k5.ext E, k6.ext E, k7.ext E, k8.ext E, k9.ext E, k10.ext E, k11.ext E, k12.ext E, k13.ext E, (by obtain ⟨f, q⟩ := k14; exact ⟨f, q.ext E⟩), (by obtain ⟨f, q⟩ := k15; exact ⟨f, q.ext E⟩), k16.ext E, (by obtain ⟨f, q⟩ := k17; exact ⟨f, q.ext E⟩), (by obtain ⟨f, q⟩ := k18; exact ⟨f, q.ext E⟩), (by obtain ⟨f, q⟩ := k19; exact ⟨f, q.ext E⟩), (by obtain ⟨f, q⟩ := k20; exact ⟨f, q.ext E⟩), k21.ext E, k22.ext E, (by obtain ⟨f, q⟩ := k23; exact ⟨f, q.ext E⟩), k24.ext E, k25, k26, k27, k28, k29, k30, k31, k32, k33, k34⟩
theorem own_TB.f_size (T : own_TB Z h a kd pa en nm vl ns fa op og pr n d fe fo fg) : Fld Z h a "com/example/infoset/infoset/xdm/TreeBuffers" "size" "I" (.int (Int32.ofNat n)) := by obtain ⟨k0, k1, k2, k3, k4, k5, k6, k7, k8, k9, k10, k11, k12, k13, k14, k15, k16, k17, k18, k19, k20, k21, k22, k23, k24, k25, k26, k27, k28, k29, k30, k31, k32, k33, k34⟩ := T; exact k1
theorem own_TB.f_depth (T : own_TB Z h a kd pa en nm vl ns fa op og pr n d fe fo fg) : Fld Z h a "com/example/infoset/infoset/xdm/TreeBuffers" "depth" "I" (.int (Int32.ofNat d)) := by obtain ⟨k0, k1, k2, k3, k4, k5, k6, k7, k8, k9, k10, k11, k12, k13, k14, k15, k16, k17, k18, k19, k20, k21, k22, k23, k24, k25, k26, k27, k28, k29, k30, k31, k32, k33, k34⟩ := T; exact k2
theorem own_TB.f_attributeCount (T : own_TB Z h a kd pa en nm vl ns fa op og pr n d fe fo fg) : Fld Z h a "com/example/infoset/infoset/xdm/TreeBuffers" "attributeCount" "I" (.int 0) := by obtain ⟨k0, k1, k2, k3, k4, k5, k6, k7, k8, k9, k10, k11, k12, k13, k14, k15, k16, k17, k18, k19, k20, k21, k22, k23, k24, k25, k26, k27, k28, k29, k30, k31, k32, k33, k34⟩ := T; exact k3
theorem own_TB.f_kinds (T : own_TB Z h a kd pa en nm vl ns fa op og pr n d fe fo fg) : Fld Z h a "com/example/infoset/infoset/xdm/TreeBuffers" "kinds" "[B" (.ref kd) := by obtain ⟨k0, k1, k2, k3, k4, k5, k6, k7, k8, k9, k10, k11, k12, k13, k14, k15, k16, k17, k18, k19, k20, k21, k22, k23, k24, k25, k26, k27, k28, k29, k30, k31, k32, k33, k34⟩ := T; exact k4
theorem own_TB.f_parents (T : own_TB Z h a kd pa en nm vl ns fa op og pr n d fe fo fg) : Fld Z h a "com/example/infoset/infoset/xdm/TreeBuffers" "parents" "[I" (.ref pa) := by obtain ⟨k0, k1, k2, k3, k4, k5, k6, k7, k8, k9, k10, k11, k12, k13, k14, k15, k16, k17, k18, k19, k20, k21, k22, k23, k24, k25, k26, k27, k28, k29, k30, k31, k32, k33, k34⟩ := T; exact k5
theorem own_TB.f_ends (T : own_TB Z h a kd pa en nm vl ns fa op og pr n d fe fo fg) : Fld Z h a "com/example/infoset/infoset/xdm/TreeBuffers" "ends" "[I" (.ref en) := by obtain ⟨k0, k1, k2, k3, k4, k5, k6, k7, k8, k9, k10, k11, k12, k13, k14, k15, k16, k17, k18, k19, k20, k21, k22, k23, k24, k25, k26, k27, k28, k29, k30, k31, k32, k33, k34⟩ := T; exact k6
theorem own_TB.f_names (T : own_TB Z h a kd pa en nm vl ns fa op og pr n d fe fo fg) : Fld Z h a "com/example/infoset/infoset/xdm/TreeBuffers" "names" "[Lcom/example/infoset/infoset/xdm/QName;" (.ref nm) := by obtain ⟨k0, k1, k2, k3, k4, k5, k6, k7, k8, k9, k10, k11, k12, k13, k14, k15, k16, k17, k18, k19, k20, k21, k22, k23, k24, k25, k26, k27, k28, k29, k30, k31, k32, k33, k34⟩ := T; exact k7
theorem own_TB.f_values (T : own_TB Z h a kd pa en nm vl ns fa op og pr n d fe fo fg) : Fld Z h a "com/example/infoset/infoset/xdm/TreeBuffers" "values" "[Ljava/lang/String;" (.ref vl) := by obtain ⟨k0, k1, k2, k3, k4, k5, k6, k7, k8, k9, k10, k11, k12, k13, k14, k15, k16, k17, k18, k19, k20, k21, k22, k23, k24, k25, k26, k27, k28, k29, k30, k31, k32, k33, k34⟩ := T; exact k8
theorem own_TB.f_namespaces (T : own_TB Z h a kd pa en nm vl ns fa op og pr n d fe fo fg) : Fld Z h a "com/example/infoset/infoset/xdm/TreeBuffers" "namespaces" "[Lcom/example/infoset/infoset/xdm/NamespaceBindings;" (.ref ns) := by obtain ⟨k0, k1, k2, k3, k4, k5, k6, k7, k8, k9, k10, k11, k12, k13, k14, k15, k16, k17, k18, k19, k20, k21, k22, k23, k24, k25, k26, k27, k28, k29, k30, k31, k32, k33, k34⟩ := T; exact k9
theorem own_TB.f_firstAttributes (T : own_TB Z h a kd pa en nm vl ns fa op og pr n d fe fo fg) : Fld Z h a "com/example/infoset/infoset/xdm/TreeBuffers" "firstAttributes" "[I" (.ref fa) := by obtain ⟨k0, k1, k2, k3, k4, k5, k6, k7, k8, k9, k10, k11, k12, k13, k14, k15, k16, k17, k18, k19, k20, k21, k22, k23, k24, k25, k26, k27, k28, k29, k30, k31, k32, k33, k34⟩ := T; exact k10
theorem own_TB.f_open (T : own_TB Z h a kd pa en nm vl ns fa op og pr n d fe fo fg) : Fld Z h a "com/example/infoset/infoset/xdm/TreeBuffers" "open" "[I" (.ref op) := by obtain ⟨k0, k1, k2, k3, k4, k5, k6, k7, k8, k9, k10, k11, k12, k13, k14, k15, k16, k17, k18, k19, k20, k21, k22, k23, k24, k25, k26, k27, k28, k29, k30, k31, k32, k33, k34⟩ := T; exact k11
theorem own_TB.f_originals (T : own_TB Z h a kd pa en nm vl ns fa op og pr n d fe fo fg) : Fld Z h a "com/example/infoset/infoset/xdm/TreeBuffers" "originals" "[Lcom/example/infoset/infoset/xdm/NamespaceBindings;" (.ref og) := by obtain ⟨k0, k1, k2, k3, k4, k5, k6, k7, k8, k9, k10, k11, k12, k13, k14, k15, k16, k17, k18, k19, k20, k21, k22, k23, k24, k25, k26, k27, k28, k29, k30, k31, k32, k33, k34⟩ := T; exact k12
theorem own_TB.f_preserving (T : own_TB Z h a kd pa en nm vl ns fa op og pr n d fe fo fg) : Fld Z h a "com/example/infoset/infoset/xdm/TreeBuffers" "preserving" "[Z" (.ref pr) := by obtain ⟨k0, k1, k2, k3, k4, k5, k6, k7, k8, k9, k10, k11, k12, k13, k14, k15, k16, k17, k18, k19, k20, k21, k22, k23, k24, k25, k26, k27, k28, k29, k30, k31, k32, k33, k34⟩ := T; exact k13
theorem own_TB.a_kd (T : own_TB Z h a kd pa en nm vl ns fa op og pr n d fe fo fg) : (∃ f, own_Ar Z h kd .byte 16 f) := by obtain ⟨k0, k1, k2, k3, k4, k5, k6, k7, k8, k9, k10, k11, k12, k13, k14, k15, k16, k17, k18, k19, k20, k21, k22, k23, k24, k25, k26, k27, k28, k29, k30, k31, k32, k33, k34⟩ := T; exact k14
theorem own_TB.a_pa (T : own_TB Z h a kd pa en nm vl ns fa op og pr n d fe fo fg) : (∃ f, own_Ar Z h pa .int 16 f) := by obtain ⟨k0, k1, k2, k3, k4, k5, k6, k7, k8, k9, k10, k11, k12, k13, k14, k15, k16, k17, k18, k19, k20, k21, k22, k23, k24, k25, k26, k27, k28, k29, k30, k31, k32, k33, k34⟩ := T; exact k15
theorem own_TB.a_en (T : own_TB Z h a kd pa en nm vl ns fa op og pr n d fe fo fg) : own_Ar Z h en .int 16 fe := by obtain ⟨k0, k1, k2, k3, k4, k5, k6, k7, k8, k9, k10, k11, k12, k13, k14, k15, k16, k17, k18, k19, k20, k21, k22, k23, k24, k25, k26, k27, k28, k29, k30, k31, k32, k33, k34⟩ := T; exact k16
theorem own_TB.a_nm (T : own_TB Z h a kd pa en nm vl ns fa op og pr n d fe fo fg) : (∃ f, own_Ar Z h nm (.object "com/example/infoset/infoset/xdm/QName") 16 f) := by obtain ⟨k0, k1, k2, k3, k4, k5, k6, k7, k8, k9, k10, k11, k12, k13, k14, k15, k16, k17, k18, k19, k20, k21, k22, k23, k24, k25, k26, k27, k28, k29, k30, k31, k32, k33, k34⟩ := T; exact k17
theorem own_TB.a_vl (T : own_TB Z h a kd pa en nm vl ns fa op og pr n d fe fo fg) : (∃ f, own_Ar Z h vl (.object "java/lang/String") 16 f) := by obtain ⟨k0, k1, k2, k3, k4, k5, k6, k7, k8, k9, k10, k11, k12, k13, k14, k15, k16, k17, k18, k19, k20, k21, k22, k23, k24, k25, k26, k27, k28, k29, k30, k31, k32, k33, k34⟩ := T; exact k18
theorem own_TB.a_ns (T : own_TB Z h a kd pa en nm vl ns fa op og pr n d fe fo fg) : (∃ f, own_Ar Z h ns (.object "com/example/infoset/infoset/xdm/NamespaceBindings") 16 f) := by obtain ⟨k0, k1, k2, k3, k4, k5, k6, k7, k8, k9, k10, k11, k12, k13, k14, k15, k16, k17, k18, k19, k20, k21, k22, k23, k24, k25, k26, k27, k28, k29, k30, k31, k32, k33, k34⟩ := T; exact k19
theorem own_TB.a_fa (T : own_TB Z h a kd pa en nm vl ns fa op og pr n d fe fo fg) : (∃ f, own_Ar Z h fa .int 16 f) := by obtain ⟨k0, k1, k2, k3, k4, k5, k6, k7, k8, k9, k10, k11, k12, k13, k14, k15, k16, k17, k18, k19, k20, k21, k22, k23, k24, k25, k26, k27, k28, k29, k30, k31, k32, k33, k34⟩ := T; exact k20
theorem own_TB.a_op (T : own_TB Z h a kd pa en nm vl ns fa op og pr n d fe fo fg) : own_Ar Z h op .int 16 fo := by obtain ⟨k0, k1, k2, k3, k4, k5, k6, k7, k8, k9, k10, k11, k12, k13, k14, k15, k16, k17, k18, k19, k20, k21, k22, k23, k24, k25, k26, k27, k28, k29, k30, k31, k32, k33, k34⟩ := T; exact k21
theorem own_TB.a_og (T : own_TB Z h a kd pa en nm vl ns fa op og pr n d fe fo fg) : own_Ar Z h og (.object "com/example/infoset/infoset/xdm/NamespaceBindings") 16 fg := by obtain ⟨k0, k1, k2, k3, k4, k5, k6, k7, k8, k9, k10, k11, k12, k13, k14, k15, k16, k17, k18, k19, k20, k21, k22, k23, k24, k25, k26, k27, k28, k29, k30, k31, k32, k33, k34⟩ := T; exact k22
theorem own_TB.a_pr (T : own_TB Z h a kd pa en nm vl ns fa op og pr n d fe fo fg) : (∃ f, own_Ar Z h pr .boolean 16 f) := by obtain ⟨k0, k1, k2, k3, k4, k5, k6, k7, k8, k9, k10, k11, k12, k13, k14, k15, k16, k17, k18, k19, k20, k21, k22, k23, k24, k25, k26, k27, k28, k29, k30, k31, k32, k33, k34⟩ := T; exact k23
theorem own_TB.ob (T : own_TB Z h a kd pa en nm vl ns fa op og pr n d fe fo fg) : own_Ob Z h a "com/example/infoset/infoset/xdm/TreeBuffers" := T.1
theorem own_TB.ord (T : own_TB Z h a kd pa en nm vl ns fa op og pr n d fe fo fg) : @LT.lt Nat _ a kd ∧ @LT.lt Nat _ kd pa ∧ @LT.lt Nat _ pa en ∧ @LT.lt Nat _ en nm ∧ @LT.lt Nat _ nm vl ∧ @LT.lt Nat _ vl ns ∧ @LT.lt Nat _ ns fa ∧ @LT.lt Nat _ fa op ∧ @LT.lt Nat _ op og ∧ @LT.lt Nat _ og pr := by obtain ⟨k0, k1, k2, k3, k4, k5, k6, k7, k8, k9, k10, k11, k12, k13, k14, k15, k16, k17, k18, k19, k20, k21, k22, k23, k24, k25, k26, k27, k28, k29, k30, k31, k32, k33, k34⟩ := T; exact ⟨k25, k26, k27, k28, k29, k30, k31, k32, k33, k34⟩
end OwnTB
theorem own_ne16 {n : Nat} (h : n < 16) : ¬ Int32.ofNat n = (16 : Int32) := fun q => by
  have q' := congrArg Int32.toInt q
  rw [own_ofNat (by omega)] at q'
  have e16 : (16 : Int32).toInt = 16 := rfl
  omega
theorem own_pos {n : Nat} (h : n < 16) : (0 : Int32) < Int32.ofNat (n + 1) := by
  rw [Int32.lt_iff_toInt_lt, own_ofNat (by omega)]
  show (0 : Int) < ((n + 1 : Nat) : Int)
  omega
def own_bit (x : Int32) : Prop := x = 0 ∨ x = 1
theorem own_rem (x : Int32) : 0 ≤ ((x &&& (2147483647 : Int32)) % (3 : Int32)).toInt ∧ ((x &&& (2147483647 : Int32)) % (3 : Int32)).toInt < (3 : Nat) := by
  have h := c_and x 2147483647 (by decide)
  have q := (c_irem (x &&& 2147483647) 3 3 rfl).1 h.1
  rw [q]; omega
theorem pd_0 : parseMethodDescriptor "()V" = some ⟨[], none⟩ := by decide +kernel
theorem pd_1 : parseMethodDescriptor "(Lcom/example/infoset/infoset/xdm/TreeBuffers;)V" = some ⟨[(.object "com/example/infoset/infoset/xdm/TreeBuffers")], none⟩ := by decide +kernel
theorem pd_2 : parseMethodDescriptor "(I)V" = some ⟨[.int], none⟩ := by decide +kernel
theorem pd_3 : parseMethodDescriptor "(IILcom/example/infoset/infoset/xdm/SharedStrings;Lcom/example/infoset/infoset/xdm/ConstructedTrees;)V" = some ⟨[.int, .int, (.object "com/example/infoset/infoset/xdm/SharedStrings"), (.object "com/example/infoset/infoset/xdm/ConstructedTrees")], none⟩ := by decide +kernel
theorem pd_4 : parseMethodDescriptor "()I" = some ⟨[], some .int⟩ := by decide +kernel
theorem pd_5 : parseMethodDescriptor "(Lcom/example/infoset/infoset/xdm/ConstructedTrees;)V" = some ⟨[(.object "com/example/infoset/infoset/xdm/ConstructedTrees")], none⟩ := by decide +kernel
theorem pd_6 : parseMethodDescriptor "()Lcom/example/infoset/infoset/xdm/NamespaceBindings;" = some ⟨[], some (.object "com/example/infoset/infoset/xdm/NamespaceBindings")⟩ := by decide +kernel
theorem pd_7 : parseMethodDescriptor "(Lcom/example/infoset/infoset/xdm/NodeKind;ILcom/example/infoset/infoset/xdm/QName;Ljava/lang/String;Lcom/example/infoset/infoset/xdm/NamespaceBindings;)I" = some ⟨[(.object "com/example/infoset/infoset/xdm/NodeKind"), .int, (.object "com/example/infoset/infoset/xdm/QName"), (.object "java/lang/String"), (.object "com/example/infoset/infoset/xdm/NamespaceBindings")], some .int⟩ := by decide +kernel
theorem pd_8 : parseMethodDescriptor "(Lcom/example/infoset/infoset/xdm/NamespaceBindings;Z)V" = some ⟨[(.object "com/example/infoset/infoset/xdm/NamespaceBindings"), .boolean], none⟩ := by decide +kernel
theorem d5_0 : decode prog_246_method_1_code 0 = .ok (.aload_n 0, 1) := by decide +kernel
theorem d5_1 : decode prog_246_method_1_code 1 = .ok (.invokespecial 3, 3) := by decide +kernel
theorem d5_4 : decode prog_246_method_1_code 4 = .ok (.aload_n 0, 1) := by decide +kernel
theorem d5_5 : decode prog_246_method_1_code 5 = .ok (.getstatic 9, 3) := by decide +kernel
theorem d5_8 : decode prog_246_method_1_code 8 = .ok (.getfield 13, 3) := by decide +kernel
theorem d5_11 : decode prog_246_method_1_code 11 = .ok (.putfield 17, 3) := by decide +kernel
theorem d5_14 : decode prog_246_method_1_code 14 = .ok (.aload_n 0, 1) := by decide +kernel
theorem d5_15 : decode prog_246_method_1_code 15 = .ok (.getstatic 9, 3) := by decide +kernel
theorem d5_18 : decode prog_246_method_1_code 18 = .ok (.getfield 20, 3) := by decide +kernel
theorem d5_21 : decode prog_246_method_1_code 21 = .ok (.putfield 23, 3) := by decide +kernel
theorem d5_24 : decode prog_246_method_1_code 24 = .ok (.return_, 1) := by decide +kernel
theorem pn_5 : plainName "com/example/infoset/infoset/xdm/NamespaceBindings$Builder" = true := by first | (simp [plainName, overriddenIn]; done) | decide +kernel
theorem ef_5 (m : MethodId) (x0 : Addr) : entryFrame m #[(.ref x0)] 1 = mkF m 0 #[.val (.ref x0)] [] := by first | (simp [entryFrame, mkF, argsToLocals, Value.category]; done) | rfl
set_option maxRecDepth 65536 in
set_option maxHeartbeats 40000000 in
theorem rm5 (l : Launch) (Z : State) (a0 : Array Value) (hw : ∀ d ∈ tables_1, d.before a0 Z = true) (ws : List Jvm.Cond) (a1 : Addr) (h0 : Heap) (n0 : Nat) (Z0 : n0 ≤ h0.size) (ga1 : n0 ≤ a1) (Oa : own_Ob Z h0 a1 "com/example/infoset/infoset/xdm/NamespaceBindings$Builder") (em px ux : Addr) (hem : @LT.lt Nat _ em n0) (S : Sta Z h0 "com/example/infoset/infoset/xdm/NamespaceBindings" "EMPTY" "Lcom/example/infoset/infoset/xdm/NamespaceBindings;" (.ref em)) (Pf : Fld Z h0 em "com/example/infoset/infoset/xdm/NamespaceBindings" "prefixes" "[Ljava/lang/String;" (.ref px)) (Uf : Fld Z h0 em "com/example/infoset/infoset/xdm/NamespaceBindings" "uris" "[Ljava/lang/String;" (.ref ux)) :
    own_Con l Z (⟨"com/example/infoset/infoset/xdm/NamespaceBindings$Builder", "<init>", "()V"⟩ : MethodName) prog_246_method_1_code 1 none ws ({ frames := 1, cells := 0, slots := 0, locals := 12 } : Room) #[(.ref a1)] h0 (fun v h L => v = none ∧ Fr n0 L ∧ Keep h0 h [a1]) := by
  refine own_body (plainFor_of_name pn_5) ?_
  intro p e s m below meth c T0 hx hby hml hown hnm hret hlk hZ X0 e0
  replace hown : s.vm.findClass "com/example/infoset/infoset/xdm/NamespaceBindings$Builder" = some m.cls := hown
  replace hret : meth.sig.returnType = none := hret
  replace hnm : meth.name = "<init>" := hnm
  rw [ef_5 m a1]
  have N0 := Fr.nil n0
  refine own_via (T' := T0) (g' := (mkF m 1 #[.val (.ref a1)] [(.ref a1)])) (fun _ kt => XS.aloadN X0.here hx rfl (hb hby d5_0) rfl rfl kt) ?_
  obtain ⟨T1, X1, e1, st1⟩ := initO X0 hx hZ hown (hw _ (List.mem_of_getElem? (i := 29) rfl)) (hw _ (List.mem_of_getElem? (i := 14) rfl)) (hw _ (List.mem_of_getElem? (i := 15) rfl)) e0 (g := (mkF m 1 #[.val (.ref a1)] [(.ref a1)])) rfl (by rw [hml]; rfl) rfl (hb hby d5_1) (by decide) (W := 0) (by show 2 * 0 + _ ≤ _; exact Nat.le_of_eq rfl) (by decide)
  refine own_via (T' := T1) (g' := (mkF m 4 #[.val (.ref a1)] [])) (fun _ kt => st1 _ kt) ?_
  refine own_via (T' := T1) (g' := (mkF m 5 #[.val (.ref a1)] [(.ref a1)])) (fun _ kt => XS.aloadN X1.here hx rfl (hb hby d5_4) rfl rfl kt) ?_
  obtain ⟨T2, X2, e2, st2⟩ := getS2 X1 hx hZ hown (host := "") (Or.inl (hw _ (List.mem_of_getElem? (i := 30) rfl))) Via.refl e1 S (g := (mkF m 5 #[.val (.ref a1)] [(.ref a1)])) rfl (hb hby d5_5)
  refine own_via (T' := T2) (g' := (mkF m 8 #[.val (.ref a1)] [(.ref em), (.ref a1)])) (fun _ kt => st2 _ kt) ?_
  obtain ⟨T3, X3, e3, st3⟩ := getF X2 hx hZ hown (Or.inr (hw _ (List.mem_of_getElem? (i := 31) rfl))) Via.refl e2 Pf (g := (mkF m 8 #[.val (.ref a1)] [(.ref em), (.ref a1)])) rfl rfl (hb hby d5_8)
  refine own_via (T' := T3) (g' := (mkF m 11 #[.val (.ref a1)] [(.ref px), (.ref a1)])) (fun _ kt => st3 _ kt) ?_
  obtain ⟨u4, Fu4⟩ := Oa.fld (hw _ (List.mem_of_getElem? (i := 24) rfl)) (Or.inl (hw _ (List.mem_of_getElem? (i := 34) rfl)))
  obtain ⟨T5, h5, X5, e5, W5, st5⟩ := putF X3 hx hZ hown (host := "") (Or.inl (hw _ (List.mem_of_getElem? (i := 33) rfl))) Via.refl e3 Fu4 Oa.exa (Or.inl (hw _ (List.mem_of_getElem? (i := 34) rfl))) (hw _ (List.mem_of_getElem? (i := 24) rfl)) (ty := (.array (.object "java/lang/String"))) (by decide) rfl rfl (g := (mkF m 11 #[.val (.ref a1)] [(.ref px), (.ref a1)])) rfl rfl (hb hby d5_11)
  have f6 := Oa.wr W5
  have f7 := S.wr W5
  have f8 := Pf.other W5 (Or.inl (own_ne (by omega)))
  have f9 := Uf.other W5 (Or.inl (own_ne (by omega)))
  have z5 : n0 ≤ h5.size := Nat.le_trans Z0 (Nat.le_of_eq W5.size.symm)
  have N5 := Fr.snoc X5 N0 ga1
  have K5 := (Keep.refl h0 [a1]).wr W5 (Or.inl (List.mem_of_getElem? (i := 0) rfl))
  have f5 := Fu4.same W5
  refine own_via (T' := T5) (g' := (mkF m 14 #[.val (.ref a1)] [])) (fun _ kt => st5 _ kt) ?_
  refine own_via (T' := T5) (g' := (mkF m 15 #[.val (.ref a1)] [(.ref a1)])) (fun _ kt => XS.aloadN X5.here hx rfl (hb hby d5_14) rfl rfl kt) ?_
  obtain ⟨T10, X10, e10, st10⟩ := getS2 X5 hx hZ hown (host := "") (Or.inl (hw _ (List.mem_of_getElem? (i := 30) rfl))) Via.refl e5 f7 (g := (mkF m 15 #[.val (.ref a1)] [(.ref a1)])) rfl (hb hby d5_15)
  refine own_via (T' := T10) (g' := (mkF m 18 #[.val (.ref a1)] [(.ref em), (.ref a1)])) (fun _ kt => st10 _ kt) ?_
  obtain ⟨T11, X11, e11, st11⟩ := getF X10 hx hZ hown (Or.inr (hw _ (List.mem_of_getElem? (i := 35) rfl))) Via.refl e10 f9 (g := (mkF m 18 #[.val (.ref a1)] [(.ref em), (.ref a1)])) rfl rfl (hb hby d5_18)
  refine own_via (T' := T11) (g' := (mkF m 21 #[.val (.ref a1)] [(.ref ux), (.ref a1)])) (fun _ kt => st11 _ kt) ?_
  obtain ⟨u12, Fu12⟩ := f6.fld (hw _ (List.mem_of_getElem? (i := 24) rfl)) (Or.inl (hw _ (List.mem_of_getElem? (i := 38) rfl)))
  obtain ⟨T13, h13, X13, e13, W13, st13⟩ := putF X11 hx hZ hown (host := "") (Or.inl (hw _ (List.mem_of_getElem? (i := 37) rfl))) Via.refl e11 Fu12 f6.exa (Or.inl (hw _ (List.mem_of_getElem? (i := 38) rfl))) (hw _ (List.mem_of_getElem? (i := 24) rfl)) (ty := (.array (.object "java/lang/String"))) (by decide) rfl rfl (g := (mkF m 21 #[.val (.ref a1)] [(.ref ux), (.ref a1)])) rfl rfl (hb hby d5_21)
  have f14 := f6.wr W13
  have f15 := f7.wr W13
  have f16 := f8.other W13 (Or.inl (own_ne (by omega)))
  have f17 := f9.other W13 (Or.inl (own_ne (by omega)))
  have z13 : n0 ≤ h13.size := Nat.le_trans z5 (Nat.le_of_eq W13.size.symm)
  have N13 := Fr.snoc X13 N5 ga1
  have K13 := K5.wr W13 (Or.inl (List.mem_of_getElem? (i := 0) rfl))
  have f13 := Fu12.same W13
  refine own_via (T' := T13) (g' := (mkF m 24 #[.val (.ref a1)] [])) (fun _ kt => st13 _ kt) ?_
  exact own_retV X13 hx hret hlk (hb hby d5_24) (by rw [e13]; exact ⟨rfl, N13, K13⟩) (by decide) (by decide)
theorem d4_0 : decode prog_240_method_1_code 0 = .ok (.aload_n 0, 1) := by decide +kernel
theorem d4_1 : decode prog_240_method_1_code 1 = .ok (.invokespecial 1, 3) := by decide +kernel
theorem d4_4 : decode prog_240_method_1_code 4 = .ok (.aload_n 0, 1) := by decide +kernel
theorem d4_5 : decode prog_240_method_1_code 5 = .ok (.new 7, 3) := by decide +kernel
theorem d4_8 : decode prog_240_method_1_code 8 = .ok (.dup, 1) := by decide +kernel
theorem d4_9 : decode prog_240_method_1_code 9 = .ok (.invokespecial 9, 3) := by decide +kernel
theorem d4_12 : decode prog_240_method_1_code 12 = .ok (.putfield 10, 3) := by decide +kernel
theorem d4_15 : decode prog_240_method_1_code 15 = .ok (.aload_n 0, 1) := by decide +kernel
theorem d4_16 : decode prog_240_method_1_code 16 = .ok (.iconst (-1), 1) := by decide +kernel
theorem d4_17 : decode prog_240_method_1_code 17 = .ok (.putfield 16, 3) := by decide +kernel
theorem d4_20 : decode prog_240_method_1_code 20 = .ok (.aload_n 0, 1) := by decide +kernel
theorem d4_21 : decode prog_240_method_1_code 21 = .ok (.aload_n 1, 1) := by decide +kernel
theorem d4_22 : decode prog_240_method_1_code 22 = .ok (.putfield 20, 3) := by decide +kernel
theorem d4_25 : decode prog_240_method_1_code 25 = .ok (.return_, 1) := by decide +kernel
theorem pn_4 : plainName "com/example/infoset/infoset/xdm/ElementStart" = true := by first | (simp [plainName, overriddenIn]; done) | decide +kernel
theorem ef_4 (m : MethodId) (x0 : Addr) (x1 : Addr) : entryFrame m #[(.ref x0), (.ref x1)] 2 = mkF m 0 #[.val (.ref x0), .val (.ref x1)] [] := by first | (simp [entryFrame, mkF, argsToLocals, Value.category]; done) | rfl
set_option maxRecDepth 65536 in
set_option maxHeartbeats 40000000 in
theorem rm4 (l : Launch) (Z : State) (a0 : Array Value) (hw : ∀ d ∈ tables_1, d.before a0 Z = true) (ws : List Jvm.Cond) (a1 tb : Addr) (h0 : Heap) (n0 : Nat) (Z0 : n0 ≤ h0.size) (ga1 : n0 ≤ a1) (Oa : own_Ob Z h0 a1 "com/example/infoset/infoset/xdm/ElementStart") (em px ux : Addr) (hem : @LT.lt Nat _ em n0) (S : Sta Z h0 "com/example/infoset/infoset/xdm/NamespaceBindings" "EMPTY" "Lcom/example/infoset/infoset/xdm/NamespaceBindings;" (.ref em)) (Pf : Fld Z h0 em "com/example/infoset/infoset/xdm/NamespaceBindings" "prefixes" "[Ljava/lang/String;" (.ref px)) (Uf : Fld Z h0 em "com/example/infoset/infoset/xdm/NamespaceBindings" "uris" "[Ljava/lang/String;" (.ref ux)) :
    own_Con l Z (⟨"com/example/infoset/infoset/xdm/ElementStart", "<init>", "(Lcom/example/infoset/infoset/xdm/TreeBuffers;)V"⟩ : MethodName) prog_240_method_1_code 2 none ws ({ frames := 2, cells := 1, slots := 7, locals := 26 } : Room) #[(.ref a1), (.ref tb)] h0 (fun v h L => v = none ∧ Fr n0 L ∧ Keep h0 h [a1]) := by
  refine own_body (plainFor_of_name pn_4) ?_
  intro p e s m below meth c T0 hx hby hml hown hnm hret hlk hZ X0 e0
  replace hown : s.vm.findClass "com/example/infoset/infoset/xdm/ElementStart" = some m.cls := hown
  replace hret : meth.sig.returnType = none := hret
  replace hnm : meth.name = "<init>" := hnm
  rw [ef_4 m a1 tb]
  have N0 := Fr.nil n0
  refine own_via (T' := T0) (g' := (mkF m 1 #[.val (.ref a1), .val (.ref tb)] [(.ref a1)])) (fun _ kt => XS.aloadN X0.here hx rfl (hb hby d4_0) rfl rfl kt) ?_
  obtain ⟨T1, X1, e1, st1⟩ := initO X0 hx hZ hown (hw _ (List.mem_of_getElem? (i := 22) rfl)) (hw _ (List.mem_of_getElem? (i := 14) rfl)) (hw _ (List.mem_of_getElem? (i := 15) rfl)) e0 (g := (mkF m 1 #[.val (.ref a1), .val (.ref tb)] [(.ref a1)])) rfl (by rw [hml]; rfl) rfl (hb hby d4_1) (by decide) (W := 0) (by show 2 * 0 + _ ≤ _; exact Nat.le_of_eq rfl) (by decide)
  refine own_via (T' := T1) (g' := (mkF m 4 #[.val (.ref a1), .val (.ref tb)] [])) (fun _ kt => st1 _ kt) ?_
  refine own_via (T' := T1) (g' := (mkF m 5 #[.val (.ref a1), .val (.ref tb)] [(.ref a1)])) (fun _ kt => XS.aloadN X1.here hx rfl (hb hby d4_4) rfl rfl kt) ?_
  obtain ⟨T2, h2, X2, e2, E2, A2, D2, M2, st2⟩ := newO X1 hx hZ hown (hw _ (List.mem_of_getElem? (i := 23) rfl)) (hw _ (List.mem_of_getElem? (i := 24) rfl)) (hw _ (List.mem_of_getElem? (i := 25) rfl)) e1 (g := (mkF m 5 #[.val (.ref a1), .val (.ref tb)] [(.ref a1)])) rfl (hb hby d4_5) (by decide) (by decide)
  obtain ⟨b2, gb2⟩ : ∃ z, z = h0.size := ⟨_, rfl⟩
  rw [← gb2] at A2 D2 M2 st2
  have lt_a1_b2 : @LT.lt Nat _ a1 b2 := Nat.lt_of_lt_of_le Oa.lt (Nat.le_of_eq gb2.symm)
  have lt_em_b2 : @LT.lt Nat _ em b2 := Nat.lt_of_lt_of_le Pf.lt (Nat.le_of_eq gb2.symm)
  have gg2 : n0 ≤ b2 := Nat.le_trans Z0 (Nat.le_of_eq gb2.symm)
  have kz2 : h0.size ≤ b2 := Nat.le_trans (Keep.refl h0 [a1]).1 (Nat.le_of_eq gb2.symm)
  have f3 := Oa.ext E2
  have f4 := S.ext E2
  have f5 := Pf.ext E2
  have f6 := Uf.ext E2
  have z2 : n0 ≤ h2.size := Nat.le_trans Z0 E2.1
  have K2 := (Keep.refl h0 [a1]).ext E2
  have Ob2 := own_Ob.of A2 M2
  refine own_via (T' := T2) (g' := (mkF m 8 #[.val (.ref a1), .val (.ref tb)] [(.ref b2), (.ref a1)])) (fun _ kt => st2 _ kt) ?_
  refine own_via (T' := T2) (g' := (mkF m 9 #[.val (.ref a1), .val (.ref tb)] [(.ref b2), (.ref b2), (.ref a1)])) (fun _ kt => XS.dup X2.here hx rfl (hb hby d4_8) rfl rfl kt) ?_
  obtain ⟨v7, T7, L7, X7, hQ7, st7⟩ := own_callI X2 hx hZ (y := (⟨"com/example/infoset/infoset/xdm/NamespaceBindings$Builder", "<init>", "()V"⟩ : MethodName)) rfl hown (hw _ (List.mem_of_getElem? (i := 26) rfl)) (hw _ (List.mem_of_getElem? (i := 27) rfl)) (hw _ (List.mem_of_getElem? (i := 25) rfl)) (hw _ (List.mem_of_getElem? (i := 28) rfl)) (by decide) (b := b2) (W := 2) (argsL := []) (rest := [(.ref b2), (.ref a1)]) (rm5 l Z a0 hw [] b2 h2 n0 z2 gg2 Ob2 em px ux hem f4 f5 f6) (by decide) (by decide) (by decide) (by decide) e2 (g := (mkF m 9 #[.val (.ref a1), .val (.ref tb)] [(.ref b2), (.ref b2), (.ref a1)])) rfl (by rw [hml]; rfl) (lenOf pd_0 rfl) rfl (by show 2 * 0 + _ ≤ _; exact Nat.le_of_eq rfl) (hb hby d4_9)
  obtain ⟨rfl, Nq7, Kq7⟩ := hQ7
  have f8 := f3.keep Kq7
  have f9 := Ob2.keep Kq7
  have z7 : n0 ≤ T7.heap.size := Nat.le_trans z2 Kq7.1
  have K7 := K2.trans Kq7 (allS (Or.inr kz2) all0)
  have N7 := Fr.app N0 Nq7
  refine own_via (T' := T7) (g' := (mkF m 12 #[.val (.ref a1), .val (.ref tb)] [(.ref b2), (.ref a1)])) (fun _ kt => st7 _ kt) ?_
  obtain ⟨u10, Fu10⟩ := f8.fld (hw _ (List.mem_of_getElem? (i := 17) rfl)) (Or.inr (hw _ (List.mem_of_getElem? (i := 40) rfl)))
  obtain ⟨T11, h11, X11, e11, W11, st11⟩ := putF X7 hx hZ hown (host := "") (Or.inl (hw _ (List.mem_of_getElem? (i := 39) rfl))) Via.refl rfl Fu10 f8.exa (Or.inr ⟨(hw _ (List.mem_of_getElem? (i := 40) rfl)), rfl, hnm⟩) (hw _ (List.mem_of_getElem? (i := 17) rfl)) (ty := (.object "com/example/infoset/infoset/xdm/NamespaceBindings$Builder")) (by decide) rfl rfl (g := (mkF m 12 #[.val (.ref a1), .val (.ref tb)] [(.ref b2), (.ref a1)])) rfl rfl (hb hby d4_12)
  have f12 := f8.wr W11
  have f13 := f9.wr W11
  have z11 : n0 ≤ h11.size := Nat.le_trans z7 (Nat.le_of_eq W11.size.symm)
  have N11 := Fr.snoc X11 N7 ga1
  have K11 := K7.wr W11 (Or.inl (List.mem_of_getElem? (i := 0) rfl))
  have f11 := Fu10.same W11
  refine own_via (T' := T11) (g' := (mkF m 15 #[.val (.ref a1), .val (.ref tb)] [])) (fun _ kt => st11 _ kt) ?_
  refine own_via (T' := T11) (g' := (mkF m 16 #[.val (.ref a1), .val (.ref tb)] [(.ref a1)])) (fun _ kt => XS.aloadN X11.here hx rfl (hb hby d4_15) rfl rfl kt) ?_
  refine own_via (T' := T11) (g' := (mkF m 17 #[.val (.ref a1), .val (.ref tb)] [(.int (-1 : Int32)), (.ref a1)])) (fun _ kt => XS.iconst X11.here hx rfl (hb hby d4_16) kt) ?_
  obtain ⟨u14, Fu14⟩ := f12.fld (hw _ (List.mem_of_getElem? (i := 17) rfl)) (Or.inl (hw _ (List.mem_of_getElem? (i := 42) rfl)))
  obtain ⟨T15, h15, X15, e15, W15, st15⟩ := putF X11 hx hZ hown (host := "") (Or.inl (hw _ (List.mem_of_getElem? (i := 41) rfl))) Via.refl e11 Fu14 f12.exa (Or.inl (hw _ (List.mem_of_getElem? (i := 42) rfl))) (hw _ (List.mem_of_getElem? (i := 17) rfl)) (ty := .int) (by decide) rfl rfl (g := (mkF m 17 #[.val (.ref a1), .val (.ref tb)] [(.int (-1 : Int32)), (.ref a1)])) rfl rfl (hb hby d4_17)
  have f16 := f12.wr W15
  have f17 := f13.wr W15
  have z15 : n0 ≤ h15.size := Nat.le_trans z11 (Nat.le_of_eq W15.size.symm)
  have N15 := Fr.snoc X15 N11 ga1
  have K15 := K11.wr W15 (Or.inl (List.mem_of_getElem? (i := 0) rfl))
  have f15 := Fu14.same W15
  refine own_via (T' := T15) (g' := (mkF m 20 #[.val (.ref a1), .val (.ref tb)] [])) (fun _ kt => st15 _ kt) ?_
  refine own_via (T' := T15) (g' := (mkF m 21 #[.val (.ref a1), .val (.ref tb)] [(.ref a1)])) (fun _ kt => XS.aloadN X15.here hx rfl (hb hby d4_20) rfl rfl kt) ?_
  refine own_via (T' := T15) (g' := (mkF m 22 #[.val (.ref a1), .val (.ref tb)] [(.ref tb), (.ref a1)])) (fun _ kt => XS.aloadN X15.here hx rfl (hb hby d4_21) rfl rfl kt) ?_
  obtain ⟨u18, Fu18⟩ := f16.fld (hw _ (List.mem_of_getElem? (i := 17) rfl)) (Or.inr (hw _ (List.mem_of_getElem? (i := 44) rfl)))
  obtain ⟨T19, h19, X19, e19, W19, st19⟩ := putF X15 hx hZ hown (host := "") (Or.inl (hw _ (List.mem_of_getElem? (i := 43) rfl))) Via.refl e15 Fu18 f16.exa (Or.inr ⟨(hw _ (List.mem_of_getElem? (i := 44) rfl)), rfl, hnm⟩) (hw _ (List.mem_of_getElem? (i := 17) rfl)) (ty := (.object "com/example/infoset/infoset/xdm/TreeBuffers")) (by decide) rfl rfl (g := (mkF m 22 #[.val (.ref a1), .val (.ref tb)] [(.ref tb), (.ref a1)])) rfl rfl (hb hby d4_22)
  have f20 := f16.wr W19
  have f21 := f17.wr W19
  have z19 : n0 ≤ h19.size := Nat.le_trans z15 (Nat.le_of_eq W19.size.symm)
  have N19 := Fr.snoc X19 N15 ga1
  have K19 := K15.wr W19 (Or.inl (List.mem_of_getElem? (i := 0) rfl))
  have f19 := Fu18.same W19
  refine own_via (T' := T19) (g' := (mkF m 25 #[.val (.ref a1), .val (.ref tb)] [])) (fun _ kt => st19 _ kt) ?_
  exact own_retV X19 hx hret hlk (hb hby d4_25) (by rw [e19]; exact ⟨rfl, N19, K19⟩) (by decide) (by decide)
theorem d6_0 : decode prog_267_method_25_code 0 = .ok (.aload_n 0, 1) := by decide +kernel
theorem d6_1 : decode prog_267_method_25_code 1 = .ok (.iload_n 1, 1) := by decide +kernel
theorem d6_2 : decode prog_267_method_25_code 2 = .ok (.newarray .byte, 2) := by decide +kernel
theorem d6_4 : decode prog_267_method_25_code 4 = .ok (.putfield 70, 3) := by decide +kernel
theorem d6_7 : decode prog_267_method_25_code 7 = .ok (.aload_n 0, 1) := by decide +kernel
theorem d6_8 : decode prog_267_method_25_code 8 = .ok (.iload_n 1, 1) := by decide +kernel
theorem d6_9 : decode prog_267_method_25_code 9 = .ok (.newarray .int, 2) := by decide +kernel
theorem d6_11 : decode prog_267_method_25_code 11 = .ok (.putfield 87, 3) := by decide +kernel
theorem d6_14 : decode prog_267_method_25_code 14 = .ok (.aload_n 0, 1) := by decide +kernel
theorem d6_15 : decode prog_267_method_25_code 15 = .ok (.iload_n 1, 1) := by decide +kernel
theorem d6_16 : decode prog_267_method_25_code 16 = .ok (.newarray .int, 2) := by decide +kernel
theorem d6_18 : decode prog_267_method_25_code 18 = .ok (.putfield 94, 3) := by decide +kernel
theorem d6_21 : decode prog_267_method_25_code 21 = .ok (.aload_n 0, 1) := by decide +kernel
theorem d6_22 : decode prog_267_method_25_code 22 = .ok (.iload_n 1, 1) := by decide +kernel
theorem d6_23 : decode prog_267_method_25_code 23 = .ok (.anewarray 286, 3) := by decide +kernel
theorem d6_26 : decode prog_267_method_25_code 26 = .ok (.putfield 97, 3) := by decide +kernel
theorem d6_29 : decode prog_267_method_25_code 29 = .ok (.aload_n 0, 1) := by decide +kernel
theorem d6_30 : decode prog_267_method_25_code 30 = .ok (.iload_n 1, 1) := by decide +kernel
theorem d6_31 : decode prog_267_method_25_code 31 = .ok (.anewarray 157, 3) := by decide +kernel
theorem d6_34 : decode prog_267_method_25_code 34 = .ok (.putfield 105, 3) := by decide +kernel
theorem d6_37 : decode prog_267_method_25_code 37 = .ok (.aload_n 0, 1) := by decide +kernel
theorem d6_38 : decode prog_267_method_25_code 38 = .ok (.iload_n 1, 1) := by decide +kernel
theorem d6_39 : decode prog_267_method_25_code 39 = .ok (.anewarray 288, 3) := by decide +kernel
theorem d6_42 : decode prog_267_method_25_code 42 = .ok (.putfield 110, 3) := by decide +kernel
theorem d6_45 : decode prog_267_method_25_code 45 = .ok (.aload_n 0, 1) := by decide +kernel
theorem d6_46 : decode prog_267_method_25_code 46 = .ok (.iload_n 1, 1) := by decide +kernel
theorem d6_47 : decode prog_267_method_25_code 47 = .ok (.newarray .int, 2) := by decide +kernel
theorem d6_49 : decode prog_267_method_25_code 49 = .ok (.putfield 115, 3) := by decide +kernel
theorem d6_52 : decode prog_267_method_25_code 52 = .ok (.aload_n 0, 1) := by decide +kernel
theorem d6_53 : decode prog_267_method_25_code 53 = .ok (.iload_n 1, 1) := by decide +kernel
theorem d6_54 : decode prog_267_method_25_code 54 = .ok (.newarray .int, 2) := by decide +kernel
theorem d6_56 : decode prog_267_method_25_code 56 = .ok (.putfield 127, 3) := by decide +kernel
theorem d6_59 : decode prog_267_method_25_code 59 = .ok (.aload_n 0, 1) := by decide +kernel
theorem d6_60 : decode prog_267_method_25_code 60 = .ok (.iload_n 1, 1) := by decide +kernel
theorem d6_61 : decode prog_267_method_25_code 61 = .ok (.anewarray 286, 3) := by decide +kernel
theorem d6_64 : decode prog_267_method_25_code 64 = .ok (.putfield 130, 3) := by decide +kernel
theorem d6_67 : decode prog_267_method_25_code 67 = .ok (.aload_n 0, 1) := by decide +kernel
theorem d6_68 : decode prog_267_method_25_code 68 = .ok (.iload_n 1, 1) := by decide +kernel
theorem d6_69 : decode prog_267_method_25_code 69 = .ok (.anewarray 157, 3) := by decide +kernel
theorem d6_72 : decode prog_267_method_25_code 72 = .ok (.putfield 133, 3) := by decide +kernel
theorem d6_75 : decode prog_267_method_25_code 75 = .ok (.aload_n 0, 1) := by decide +kernel
theorem d6_76 : decode prog_267_method_25_code 76 = .ok (.bipush 64, 2) := by decide +kernel
theorem d6_78 : decode prog_267_method_25_code 78 = .ok (.newarray .char, 2) := by decide +kernel
theorem d6_80 : decode prog_267_method_25_code 80 = .ok (.putfield 143, 3) := by decide +kernel
theorem d6_83 : decode prog_267_method_25_code 83 = .ok (.aload_n 0, 1) := by decide +kernel
theorem d6_84 : decode prog_267_method_25_code 84 = .ok (.bipush 16, 2) := by decide +kernel
theorem d6_86 : decode prog_267_method_25_code 86 = .ok (.newarray .int, 2) := by decide +kernel
theorem d6_88 : decode prog_267_method_25_code 88 = .ok (.putfield 182, 3) := by decide +kernel
theorem d6_91 : decode prog_267_method_25_code 91 = .ok (.aload_n 0, 1) := by decide +kernel
theorem d6_92 : decode prog_267_method_25_code 92 = .ok (.bipush 16, 2) := by decide +kernel
theorem d6_94 : decode prog_267_method_25_code 94 = .ok (.anewarray 288, 3) := by decide +kernel
theorem d6_97 : decode prog_267_method_25_code 97 = .ok (.putfield 185, 3) := by decide +kernel
theorem d6_100 : decode prog_267_method_25_code 100 = .ok (.aload_n 0, 1) := by decide +kernel
theorem d6_101 : decode prog_267_method_25_code 101 = .ok (.bipush 16, 2) := by decide +kernel
theorem d6_103 : decode prog_267_method_25_code 103 = .ok (.newarray .boolean, 2) := by decide +kernel
theorem d6_105 : decode prog_267_method_25_code 105 = .ok (.putfield 188, 3) := by decide +kernel
theorem d6_108 : decode prog_267_method_25_code 108 = .ok (.return_, 1) := by decide +kernel
theorem pn_6 : plainName "com/example/infoset/infoset/xdm/TreeBuffers" = true := by first | (simp [plainName, overriddenIn]; done) | decide +kernel
theorem ef_6 (m : MethodId) (x0 : Addr) (x1 : Int32) : entryFrame m #[(.ref x0), (.int x1)] 2 = mkF m 0 #[.val (.ref x0), .val (.int x1)] [] := by first | (simp [entryFrame, mkF, argsToLocals, Value.category]; done) | rfl
set_option maxRecDepth 65536 in
set_option maxHeartbeats 40000000 in
theorem rm6 (l : Launch) (Z : State) (a0 : Array Value) (hw : ∀ d ∈ tables_1, d.before a0 Z = true) (ws : List Jvm.Cond) (a1 : Addr) (h0 : Heap) (n0 : Nat) (Z0 : n0 ≤ h0.size) (ga1 : n0 ≤ a1) (Oa : own_Ob Z h0 a1 "com/example/infoset/infoset/xdm/TreeBuffers") (Fp1 : Fld Z h0 a1 "com/example/infoset/infoset/xdm/TreeBuffers" "size" "I" (.int (0 : Int32))) (Fp2 : Fld Z h0 a1 "com/example/infoset/infoset/xdm/TreeBuffers" "depth" "I" (.int (0 : Int32))) (Fp3 : Fld Z h0 a1 "com/example/infoset/infoset/xdm/TreeBuffers" "attributeCount" "I" (.int (0 : Int32))) :
    own_Con l Z (⟨"com/example/infoset/infoset/xdm/TreeBuffers", "allocate", "(I)V"⟩ : MethodName) prog_267_method_25_code 2 none ws ({ frames := 0, cells := 14, slots := 272, locals := 0 } : Room) #[(.ref a1), (.int 16)] h0 (fun v h L => ∃ kd pa en nm vl ns fa op og pr, h0.size ≤ kd ∧ v = none ∧ Fr n0 L ∧ Keep h0 h [a1] ∧ own_TB Z h a1 kd pa en nm vl ns fa op og pr 0 0 (fun _ => .int 0) (fun _ => .int 0) (fun _ => .null)) := by
  refine own_body (plainFor_of_name pn_6) ?_
  intro p e s m below meth c T0 hx hby hml hown hnm hret hlk hZ X0 e0
  replace hown : s.vm.findClass "com/example/infoset/infoset/xdm/TreeBuffers" = some m.cls := hown
  replace hret : meth.sig.returnType = none := hret
  replace hnm : meth.name = "allocate" := hnm
  rw [ef_6 m a1 16]
  have N0 := Fr.nil n0
  have lt_a1 : @LT.lt Nat _ a1 h0.size := Oa.lt
  refine own_via (T' := T0) (g' := (mkF m 1 #[.val (.ref a1), .val (.int (16 : Int32))] [(.ref a1)])) (fun _ kt => XS.aloadN X0.here hx rfl (hb hby d6_0) rfl rfl kt) ?_
  refine own_via (T' := T0) (g' := (mkF m 2 #[.val (.ref a1), .val (.int (16 : Int32))] [(.int (16 : Int32)), (.ref a1)])) (fun _ kt => XS.iloadN X0.here hx rfl (hb hby d6_1) rfl kt) ?_
  obtain ⟨T1, h1, b1, gb1, X1, e1, E1, A1, st1⟩ := own_newarr X0 hx hZ (hw _ (List.mem_of_getElem? (i := 59) rfl)) e0 (g := (mkF m 2 #[.val (.ref a1), .val (.int (16 : Int32))] [(.int (16 : Int32)), (.ref a1)])) rfl (hb hby d6_2) (j := (16 : Int32)) (n := 16) rfl (by decide) rfl (by decide) (by decide)
  have lt_a1_b1 : @LT.lt Nat _ a1 b1 := Nat.lt_of_lt_of_le Oa.lt (Nat.le_of_eq gb1.symm)
  have gg1 : n0 ≤ b1 := Nat.le_trans Z0 (Nat.le_of_eq gb1.symm)
  have kz1 : h0.size ≤ b1 := Nat.le_trans (Keep.refl h0 [a1]).1 (Nat.le_of_eq gb1.symm)
  have f2 := Oa.ext E1
  have f3 := Fp1.ext E1
  have f4 := Fp2.ext E1
  have f5 := Fp3.ext E1
  have z1 : n0 ≤ h1.size := Nat.le_trans Z0 E1.1
  have K1 := (Keep.refl h0 [a1]).ext E1
  replace A1 : own_Ar Z h1 b1 .byte 16 (fun _ => .int 0) := A1
  refine own_via (T' := T1) (g' := (mkF m 4 #[.val (.ref a1), .val (.int (16 : Int32))] [(.ref b1), (.ref a1)])) (fun _ kt => st1 _ kt) ?_
  obtain ⟨u6, Fu6⟩ := f2.fld (hw _ (List.mem_of_getElem? (i := 5) rfl)) (Or.inl (hw _ (List.mem_of_getElem? (i := 61) rfl)))
  obtain ⟨T7, h7, X7, e7, W7, st7⟩ := putF X1 hx hZ hown (host := "") (Or.inl (hw _ (List.mem_of_getElem? (i := 60) rfl))) Via.refl e1 Fu6 f2.exa (Or.inl (hw _ (List.mem_of_getElem? (i := 61) rfl))) (hw _ (List.mem_of_getElem? (i := 5) rfl)) (ty := (.array .byte)) (by decide) rfl rfl (g := (mkF m 4 #[.val (.ref a1), .val (.int (16 : Int32))] [(.ref b1), (.ref a1)])) rfl rfl (hb hby d6_4)
  have f8 := f2.wr W7
  have f9 := f3.other W7 (Or.inr (slot_ne (Or.inl (hw _ (List.mem_of_getElem? (i := 106) rfl))) (Or.inl (hw _ (List.mem_of_getElem? (i := 61) rfl))) (by decide) (t := .int) (t' := (.array .byte)) (by decide) (by decide)))
  have f10 := f4.other W7 (Or.inr (slot_ne (Or.inl (hw _ (List.mem_of_getElem? (i := 124) rfl))) (Or.inl (hw _ (List.mem_of_getElem? (i := 61) rfl))) (by decide) (t := .int) (t' := (.array .byte)) (by decide) (by decide)))
  have f11 := f5.other W7 (Or.inr (slot_ne (Or.inl (hw _ (List.mem_of_getElem? (i := 117) rfl))) (Or.inl (hw _ (List.mem_of_getElem? (i := 61) rfl))) (by decide) (t := .int) (t' := (.array .byte)) (by decide) (by decide)))
  have f12 := A1.other W7 (own_ne (by omega))
  have z7 : n0 ≤ h7.size := Nat.le_trans z1 (Nat.le_of_eq W7.size.symm)
  have N7 := Fr.snoc X7 N0 ga1
  have K7 := K1.wr W7 (Or.inl (List.mem_of_getElem? (i := 0) rfl))
  have f7 := Fu6.same W7
  refine own_via (T' := T7) (g' := (mkF m 7 #[.val (.ref a1), .val (.int (16 : Int32))] [])) (fun _ kt => st7 _ kt) ?_
  refine own_via (T' := T7) (g' := (mkF m 8 #[.val (.ref a1), .val (.int (16 : Int32))] [(.ref a1)])) (fun _ kt => XS.aloadN X7.here hx rfl (hb hby d6_7) rfl rfl kt) ?_
  refine own_via (T' := T7) (g' := (mkF m 9 #[.val (.ref a1), .val (.int (16 : Int32))] [(.int (16 : Int32)), (.ref a1)])) (fun _ kt => XS.iloadN X7.here hx rfl (hb hby d6_8) rfl kt) ?_
  obtain ⟨T13, h13, b13, gb13, X13, e13, E13, A13, st13⟩ := own_newarr X7 hx hZ (hw _ (List.mem_of_getElem? (i := 62) rfl)) e7 (g := (mkF m 9 #[.val (.ref a1), .val (.int (16 : Int32))] [(.int (16 : Int32)), (.ref a1)])) rfl (hb hby d6_9) (j := (16 : Int32)) (n := 16) rfl (by decide) rfl (by decide) (by decide)
  have lt_a1_b13 : @LT.lt Nat _ a1 b13 := Nat.lt_of_lt_of_le f8.lt (Nat.le_of_eq gb13.symm)
  have lt_b1_b13 : @LT.lt Nat _ b1 b13 := Nat.lt_of_lt_of_le f12.lt (Nat.le_of_eq gb13.symm)
  have gg13 : n0 ≤ b13 := Nat.le_trans z7 (Nat.le_of_eq gb13.symm)
  have kz13 : h0.size ≤ b13 := Nat.le_trans K7.1 (Nat.le_of_eq gb13.symm)
  have f14 := f8.ext E13
  have f15 := f9.ext E13
  have f16 := f10.ext E13
  have f17 := f11.ext E13
  have f18 := f12.ext E13
  have f19 := f7.ext E13
  have z13 : n0 ≤ h13.size := Nat.le_trans z7 E13.1
  have K13 := K7.ext E13
  replace A13 : own_Ar Z h13 b13 .int 16 (fun _ => .int 0) := A13
  refine own_via (T' := T13) (g' := (mkF m 11 #[.val (.ref a1), .val (.int (16 : Int32))] [(.ref b13), (.ref a1)])) (fun _ kt => st13 _ kt) ?_
  obtain ⟨u20, Fu20⟩ := f14.fld (hw _ (List.mem_of_getElem? (i := 5) rfl)) (Or.inl (hw _ (List.mem_of_getElem? (i := 64) rfl)))
  obtain ⟨T21, h21, X21, e21, W21, st21⟩ := putF X13 hx hZ hown (host := "") (Or.inl (hw _ (List.mem_of_getElem? (i := 63) rfl))) Via.refl e13 Fu20 f14.exa (Or.inl (hw _ (List.mem_of_getElem? (i := 64) rfl))) (hw _ (List.mem_of_getElem? (i := 5) rfl)) (ty := (.array .int)) (by decide) rfl rfl (g := (mkF m 11 #[.val (.ref a1), .val (.int (16 : Int32))] [(.ref b13), (.ref a1)])) rfl rfl (hb hby d6_11)
  have f22 := f14.wr W21
  have f23 := f15.other W21 (Or.inr (slot_ne (Or.inl (hw _ (List.mem_of_getElem? (i := 106) rfl))) (Or.inl (hw _ (List.mem_of_getElem? (i := 64) rfl))) (by decide) (t := .int) (t' := (.array .int)) (by decide) (by decide)))
  have f24 := f16.other W21 (Or.inr (slot_ne (Or.inl (hw _ (List.mem_of_getElem? (i := 124) rfl))) (Or.inl (hw _ (List.mem_of_getElem? (i := 64) rfl))) (by decide) (t := .int) (t' := (.array .int)) (by decide) (by decide)))
  have f25 := f17.other W21 (Or.inr (slot_ne (Or.inl (hw _ (List.mem_of_getElem? (i := 117) rfl))) (Or.inl (hw _ (List.mem_of_getElem? (i := 64) rfl))) (by decide) (t := .int) (t' := (.array .int)) (by decide) (by decide)))
  have f26 := f18.other W21 (own_ne (by omega))
  have f27 := f19.other W21 (Or.inr (slot_ne (Or.inl (hw _ (List.mem_of_getElem? (i := 61) rfl))) (Or.inl (hw _ (List.mem_of_getElem? (i := 64) rfl))) (by decide) (t := (.array .byte)) (t' := (.array .int)) (by decide) (by decide)))
  have f28 := A13.other W21 (own_ne (by omega))
  have z21 : n0 ≤ h21.size := Nat.le_trans z13 (Nat.le_of_eq W21.size.symm)
  have N21 := Fr.snoc X21 N7 ga1
  have K21 := K13.wr W21 (Or.inl (List.mem_of_getElem? (i := 0) rfl))
  have f21 := Fu20.same W21
  refine own_via (T' := T21) (g' := (mkF m 14 #[.val (.ref a1), .val (.int (16 : Int32))] [])) (fun _ kt => st21 _ kt) ?_
  refine own_via (T' := T21) (g' := (mkF m 15 #[.val (.ref a1), .val (.int (16 : Int32))] [(.ref a1)])) (fun _ kt => XS.aloadN X21.here hx rfl (hb hby d6_14) rfl rfl kt) ?_
  refine own_via (T' := T21) (g' := (mkF m 16 #[.val (.ref a1), .val (.int (16 : Int32))] [(.int (16 : Int32)), (.ref a1)])) (fun _ kt => XS.iloadN X21.here hx rfl (hb hby d6_15) rfl kt) ?_
  obtain ⟨T29, h29, b29, gb29, X29, e29, E29, A29, st29⟩ := own_newarr X21 hx hZ (hw _ (List.mem_of_getElem? (i := 62) rfl)) e21 (g := (mkF m 16 #[.val (.ref a1), .val (.int (16 : Int32))] [(.int (16 : Int32)), (.ref a1)])) rfl (hb hby d6_16) (j := (16 : Int32)) (n := 16) rfl (by decide) rfl (by decide) (by decide)
  have lt_a1_b29 : @LT.lt Nat _ a1 b29 := Nat.lt_of_lt_of_le f22.lt (Nat.le_of_eq gb29.symm)
  have lt_b1_b29 : @LT.lt Nat _ b1 b29 := Nat.lt_of_lt_of_le f26.lt (Nat.le_of_eq gb29.symm)
  have lt_b13_b29 : @LT.lt Nat _ b13 b29 := Nat.lt_of_lt_of_le f28.lt (Nat.le_of_eq gb29.symm)
  have gg29 : n0 ≤ b29 := Nat.le_trans z21 (Nat.le_of_eq gb29.symm)
  have kz29 : h0.size ≤ b29 := Nat.le_trans K21.1 (Nat.le_of_eq gb29.symm)
  have f30 := f22.ext E29
  have f31 := f23.ext E29
  have f32 := f24.ext E29
  have f33 := f25.ext E29
  have f34 := f26.ext E29
  have f35 := f27.ext E29
  have f36 := f28.ext E29
  have f37 := f21.ext E29
  have z29 : n0 ≤ h29.size := Nat.le_trans z21 E29.1
  have K29 := K21.ext E29
  replace A29 : own_Ar Z h29 b29 .int 16 (fun _ => .int 0) := A29
  refine own_via (T' := T29) (g' := (mkF m 18 #[.val (.ref a1), .val (.int (16 : Int32))] [(.ref b29), (.ref a1)])) (fun _ kt => st29 _ kt) ?_
  obtain ⟨u38, Fu38⟩ := f30.fld (hw _ (List.mem_of_getElem? (i := 5) rfl)) (Or.inl (hw _ (List.mem_of_getElem? (i := 66) rfl)))
  obtain ⟨T39, h39, X39, e39, W39, st39⟩ := putF X29 hx hZ hown (host := "") (Or.inl (hw _ (List.mem_of_getElem? (i := 65) rfl))) Via.refl e29 Fu38 f30.exa (Or.inl (hw _ (List.mem_of_getElem? (i := 66) rfl))) (hw _ (List.mem_of_getElem? (i := 5) rfl)) (ty := (.array .int)) (by decide) rfl rfl (g := (mkF m 18 #[.val (.ref a1), .val (.int (16 : Int32))] [(.ref b29), (.ref a1)])) rfl rfl (hb hby d6_18)
  have f40 := f30.wr W39
  have f41 := f31.other W39 (Or.inr (slot_ne (Or.inl (hw _ (List.mem_of_getElem? (i := 106) rfl))) (Or.inl (hw _ (List.mem_of_getElem? (i := 66) rfl))) (by decide) (t := .int) (t' := (.array .int)) (by decide) (by decide)))
  have f42 := f32.other W39 (Or.inr (slot_ne (Or.inl (hw _ (List.mem_of_getElem? (i := 124) rfl))) (Or.inl (hw _ (List.mem_of_getElem? (i := 66) rfl))) (by decide) (t := .int) (t' := (.array .int)) (by decide) (by decide)))
  have f43 := f33.other W39 (Or.inr (slot_ne (Or.inl (hw _ (List.mem_of_getElem? (i := 117) rfl))) (Or.inl (hw _ (List.mem_of_getElem? (i := 66) rfl))) (by decide) (t := .int) (t' := (.array .int)) (by decide) (by decide)))
  have f44 := f34.other W39 (own_ne (by omega))
  have f45 := f35.other W39 (Or.inr (slot_ne (Or.inl (hw _ (List.mem_of_getElem? (i := 61) rfl))) (Or.inl (hw _ (List.mem_of_getElem? (i := 66) rfl))) (by decide) (t := (.array .byte)) (t' := (.array .int)) (by decide) (by decide)))
  have f46 := f36.other W39 (own_ne (by omega))
  have f47 := f37.other W39 (Or.inr (slot_ne (Or.inl (hw _ (List.mem_of_getElem? (i := 64) rfl))) (Or.inl (hw _ (List.mem_of_getElem? (i := 66) rfl))) (by decide) (t := (.array .int)) (t' := (.array .int)) (by decide) (by decide)))
  have f48 := A29.other W39 (own_ne (by omega))
  have z39 : n0 ≤ h39.size := Nat.le_trans z29 (Nat.le_of_eq W39.size.symm)
  have N39 := Fr.snoc X39 N21 ga1
  have K39 := K29.wr W39 (Or.inl (List.mem_of_getElem? (i := 0) rfl))
  have f39 := Fu38.same W39
  refine own_via (T' := T39) (g' := (mkF m 21 #[.val (.ref a1), .val (.int (16 : Int32))] [])) (fun _ kt => st39 _ kt) ?_
  refine own_via (T' := T39) (g' := (mkF m 22 #[.val (.ref a1), .val (.int (16 : Int32))] [(.ref a1)])) (fun _ kt => XS.aloadN X39.here hx rfl (hb hby d6_21) rfl rfl kt) ?_
  refine own_via (T' := T39) (g' := (mkF m 23 #[.val (.ref a1), .val (.int (16 : Int32))] [(.int (16 : Int32)), (.ref a1)])) (fun _ kt => XS.iloadN X39.here hx rfl (hb hby d6_22) rfl kt) ?_
  obtain ⟨T49, h49, b49, gb49, X49, e49, E49, A49, O49, st49⟩ := own_newref X39 hx hZ hown (hw _ (List.mem_of_getElem? (i := 67) rfl)) (hw _ (List.mem_of_getElem? (i := 68) rfl)) e39 (g := (mkF m 23 #[.val (.ref a1), .val (.int (16 : Int32))] [(.int (16 : Int32)), (.ref a1)])) rfl (hb hby d6_23) (j := (16 : Int32)) (n := 16) rfl (by decide) rfl (by decide) (by decide)
  have lt_a1_b49 : @LT.lt Nat _ a1 b49 := Nat.lt_of_lt_of_le f40.lt (Nat.le_of_eq gb49.symm)
  have lt_b1_b49 : @LT.lt Nat _ b1 b49 := Nat.lt_of_lt_of_le f44.lt (Nat.le_of_eq gb49.symm)
  have lt_b13_b49 : @LT.lt Nat _ b13 b49 := Nat.lt_of_lt_of_le f46.lt (Nat.le_of_eq gb49.symm)
  have lt_b29_b49 : @LT.lt Nat _ b29 b49 := Nat.lt_of_lt_of_le f48.lt (Nat.le_of_eq gb49.symm)
  have gg49 : n0 ≤ b49 := Nat.le_trans z39 (Nat.le_of_eq gb49.symm)
  have kz49 : h0.size ≤ b49 := Nat.le_trans K39.1 (Nat.le_of_eq gb49.symm)
  have f50 := f40.ext E49
  have f51 := f41.ext E49
  have f52 := f42.ext E49
  have f53 := f43.ext E49
  have f54 := f44.ext E49
  have f55 := f45.ext E49
  have f56 := f46.ext E49
  have f57 := f47.ext E49
  have f58 := f48.ext E49
  have f59 := f39.ext E49
  have z49 : n0 ≤ h49.size := Nat.le_trans z39 E49.1
  have K49 := K39.ext E49
  refine own_via (T' := T49) (g' := (mkF m 26 #[.val (.ref a1), .val (.int (16 : Int32))] [(.ref b49), (.ref a1)])) (fun _ kt => st49 _ kt) ?_
  obtain ⟨u60, Fu60⟩ := f50.fld (hw _ (List.mem_of_getElem? (i := 5) rfl)) (Or.inl (hw _ (List.mem_of_getElem? (i := 70) rfl)))
  obtain ⟨T61, h61, X61, e61, W61, st61⟩ := putF X49 hx hZ hown (host := "") (Or.inl (hw _ (List.mem_of_getElem? (i := 69) rfl))) Via.refl e49 Fu60 f50.exa (Or.inl (hw _ (List.mem_of_getElem? (i := 70) rfl))) (hw _ (List.mem_of_getElem? (i := 5) rfl)) (ty := (.array (.object "com/example/infoset/infoset/xdm/QName"))) (by decide) rfl rfl (g := (mkF m 26 #[.val (.ref a1), .val (.int (16 : Int32))] [(.ref b49), (.ref a1)])) rfl rfl (hb hby d6_26)
  have f62 := f50.wr W61
  have f63 := f51.other W61 (Or.inr (slot_ne (Or.inl (hw _ (List.mem_of_getElem? (i := 106) rfl))) (Or.inl (hw _ (List.mem_of_getElem? (i := 70) rfl))) (by decide) (t := .int) (t' := (.array (.object "com/example/infoset/infoset/xdm/QName"))) (by decide) (by decide)))
  have f64 := f52.other W61 (Or.inr (slot_ne (Or.inl (hw _ (List.mem_of_getElem? (i := 124) rfl))) (Or.inl (hw _ (List.mem_of_getElem? (i := 70) rfl))) (by decide) (t := .int) (t' := (.array (.object "com/example/infoset/infoset/xdm/QName"))) (by decide) (by decide)))
  have f65 := f53.other W61 (Or.inr (slot_ne (Or.inl (hw _ (List.mem_of_getElem? (i := 117) rfl))) (Or.inl (hw _ (List.mem_of_getElem? (i := 70) rfl))) (by decide) (t := .int) (t' := (.array (.object "com/example/infoset/infoset/xdm/QName"))) (by decide) (by decide)))
  have f66 := f54.other W61 (own_ne (by omega))
  have f67 := f55.other W61 (Or.inr (slot_ne (Or.inl (hw _ (List.mem_of_getElem? (i := 61) rfl))) (Or.inl (hw _ (List.mem_of_getElem? (i := 70) rfl))) (by decide) (t := (.array .byte)) (t' := (.array (.object "com/example/infoset/infoset/xdm/QName"))) (by decide) (by decide)))
  have f68 := f56.other W61 (own_ne (by omega))
  have f69 := f57.other W61 (Or.inr (slot_ne (Or.inl (hw _ (List.mem_of_getElem? (i := 64) rfl))) (Or.inl (hw _ (List.mem_of_getElem? (i := 70) rfl))) (by decide) (t := (.array .int)) (t' := (.array (.object "com/example/infoset/infoset/xdm/QName"))) (by decide) (by decide)))
  have f70 := f58.other W61 (own_ne (by omega))
  have f71 := f59.other W61 (Or.inr (slot_ne (Or.inl (hw _ (List.mem_of_getElem? (i := 66) rfl))) (Or.inl (hw _ (List.mem_of_getElem? (i := 70) rfl))) (by decide) (t := (.array .int)) (t' := (.array (.object "com/example/infoset/infoset/xdm/QName"))) (by decide) (by decide)))
  have f72 := A49.other W61 (own_ne (by omega))
  have f73 := O49.wr W61
  have z61 : n0 ≤ h61.size := Nat.le_trans z49 (Nat.le_of_eq W61.size.symm)
  have N61 := Fr.snoc X61 N39 ga1
  have K61 := K49.wr W61 (Or.inl (List.mem_of_getElem? (i := 0) rfl))
  have f61 := Fu60.same W61
  refine own_via (T' := T61) (g' := (mkF m 29 #[.val (.ref a1), .val (.int (16 : Int32))] [])) (fun _ kt => st61 _ kt) ?_
  refine own_via (T' := T61) (g' := (mkF m 30 #[.val (.ref a1), .val (.int (16 : Int32))] [(.ref a1)])) (fun _ kt => XS.aloadN X61.here hx rfl (hb hby d6_29) rfl rfl kt) ?_
  refine own_via (T' := T61) (g' := (mkF m 31 #[.val (.ref a1), .val (.int (16 : Int32))] [(.int (16 : Int32)), (.ref a1)])) (fun _ kt => XS.iloadN X61.here hx rfl (hb hby d6_30) rfl kt) ?_
  obtain ⟨T74, h74, b74, gb74, X74, e74, E74, A74, O74, st74⟩ := own_newref X61 hx hZ hown (hw _ (List.mem_of_getElem? (i := 71) rfl)) (hw _ (List.mem_of_getElem? (i := 72) rfl)) e61 (g := (mkF m 31 #[.val (.ref a1), .val (.int (16 : Int32))] [(.int (16 : Int32)), (.ref a1)])) rfl (hb hby d6_31) (j := (16 : Int32)) (n := 16) rfl (by decide) rfl (by decide) (by decide)
  have lt_a1_b74 : @LT.lt Nat _ a1 b74 := Nat.lt_of_lt_of_le f62.lt (Nat.le_of_eq gb74.symm)
  have lt_b1_b74 : @LT.lt Nat _ b1 b74 := Nat.lt_of_lt_of_le f66.lt (Nat.le_of_eq gb74.symm)
  have lt_b13_b74 : @LT.lt Nat _ b13 b74 := Nat.lt_of_lt_of_le f68.lt (Nat.le_of_eq gb74.symm)
  have lt_b29_b74 : @LT.lt Nat _ b29 b74 := Nat.lt_of_lt_of_le f70.lt (Nat.le_of_eq gb74.symm)
  have lt_b49_b74 : @LT.lt Nat _ b49 b74 := Nat.lt_of_lt_of_le f72.lt (Nat.le_of_eq gb74.symm)
  have gg74 : n0 ≤ b74 := Nat.le_trans z61 (Nat.le_of_eq gb74.symm)
  have kz74 : h0.size ≤ b74 := Nat.le_trans K61.1 (Nat.le_of_eq gb74.symm)
  have f75 := f62.ext E74
  have f76 := f63.ext E74
  have f77 := f64.ext E74
  have f78 := f65.ext E74
  have f79 := f66.ext E74
  have f80 := f67.ext E74
  have f81 := f68.ext E74
  have f82 := f69.ext E74
  have f83 := f70.ext E74
  have f84 := f71.ext E74
  have f85 := f72.ext E74
  have f86 := f73.ext E74
  have f87 := f61.ext E74
  have z74 : n0 ≤ h74.size := Nat.le_trans z61 E74.1
  have K74 := K61.ext E74
  refine own_via (T' := T74) (g' := (mkF m 34 #[.val (.ref a1), .val (.int (16 : Int32))] [(.ref b74), (.ref a1)])) (fun _ kt => st74 _ kt) ?_
  obtain ⟨u88, Fu88⟩ := f75.fld (hw _ (List.mem_of_getElem? (i := 5) rfl)) (Or.inl (hw _ (List.mem_of_getElem? (i := 74) rfl)))
  obtain ⟨T89, h89, X89, e89, W89, st89⟩ := putF X74 hx hZ hown (host := "") (Or.inl (hw _ (List.mem_of_getElem? (i := 73) rfl))) Via.refl e74 Fu88 f75.exa (Or.inl (hw _ (List.mem_of_getElem? (i := 74) rfl))) (hw _ (List.mem_of_getElem? (i := 5) rfl)) (ty := (.array (.object "java/lang/String"))) (by decide) rfl rfl (g := (mkF m 34 #[.val (.ref a1), .val (.int (16 : Int32))] [(.ref b74), (.ref a1)])) rfl rfl (hb hby d6_34)
  have f90 := f75.wr W89
  have f91 := f76.other W89 (Or.inr (slot_ne (Or.inl (hw _ (List.mem_of_getElem? (i := 106) rfl))) (Or.inl (hw _ (List.mem_of_getElem? (i := 74) rfl))) (by decide) (t := .int) (t' := (.array (.object "java/lang/String"))) (by decide) (by decide)))
  have f92 := f77.other W89 (Or.inr (slot_ne (Or.inl (hw _ (List.mem_of_getElem? (i := 124) rfl))) (Or.inl (hw _ (List.mem_of_getElem? (i := 74) rfl))) (by decide) (t := .int) (t' := (.array (.object "java/lang/String"))) (by decide) (by decide)))
  have f93 := f78.other W89 (Or.inr (slot_ne (Or.inl (hw _ (List.mem_of_getElem? (i := 117) rfl))) (Or.inl (hw _ (List.mem_of_getElem? (i := 74) rfl))) (by decide) (t := .int) (t' := (.array (.object "java/lang/String"))) (by decide) (by decide)))
  have f94 := f79.other W89 (own_ne (by omega))
  have f95 := f80.other W89 (Or.inr (slot_ne (Or.inl (hw _ (List.mem_of_getElem? (i := 61) rfl))) (Or.inl (hw _ (List.mem_of_getElem? (i := 74) rfl))) (by decide) (t := (.array .byte)) (t' := (.array (.object "java/lang/String"))) (by decide) (by decide)))
  have f96 := f81.other W89 (own_ne (by omega))
  have f97 := f82.other W89 (Or.inr (slot_ne (Or.inl (hw _ (List.mem_of_getElem? (i := 64) rfl))) (Or.inl (hw _ (List.mem_of_getElem? (i := 74) rfl))) (by decide) (t := (.array .int)) (t' := (.array (.object "java/lang/String"))) (by decide) (by decide)))
  have f98 := f83.other W89 (own_ne (by omega))
  have f99 := f84.other W89 (Or.inr (slot_ne (Or.inl (hw _ (List.mem_of_getElem? (i := 66) rfl))) (Or.inl (hw _ (List.mem_of_getElem? (i := 74) rfl))) (by decide) (t := (.array .int)) (t' := (.array (.object "java/lang/String"))) (by decide) (by decide)))
  have f100 := f85.other W89 (own_ne (by omega))
  have f101 := f86.wr W89
  have f102 := f87.other W89 (Or.inr (slot_ne (Or.inl (hw _ (List.mem_of_getElem? (i := 70) rfl))) (Or.inl (hw _ (List.mem_of_getElem? (i := 74) rfl))) (by decide) (t := (.array (.object "com/example/infoset/infoset/xdm/QName"))) (t' := (.array (.object "java/lang/String"))) (by decide) (by decide)))
  have f103 := A74.other W89 (own_ne (by omega))
  have f104 := O74.wr W89
  have z89 : n0 ≤ h89.size := Nat.le_trans z74 (Nat.le_of_eq W89.size.symm)
  have N89 := Fr.snoc X89 N61 ga1
  have K89 := K74.wr W89 (Or.inl (List.mem_of_getElem? (i := 0) rfl))
  have f89 := Fu88.same W89
  refine own_via (T' := T89) (g' := (mkF m 37 #[.val (.ref a1), .val (.int (16 : Int32))] [])) (fun _ kt => st89 _ kt) ?_
  refine own_via (T' := T89) (g' := (mkF m 38 #[.val (.ref a1), .val (.int (16 : Int32))] [(.ref a1)])) (fun _ kt => XS.aloadN X89.here hx rfl (hb hby d6_37) rfl rfl kt) ?_
  refine own_via (T' := T89) (g' := (mkF m 39 #[.val (.ref a1), .val (.int (16 : Int32))] [(.int (16 : Int32)), (.ref a1)])) (fun _ kt => XS.iloadN X89.here hx rfl (hb hby d6_38) rfl kt) ?_
  obtain ⟨T105, h105, b105, gb105, X105, e105, E105, A105, O105, st105⟩ := own_newref X89 hx hZ hown (hw _ (List.mem_of_getElem? (i := 75) rfl)) (hw _ (List.mem_of_getElem? (i := 76) rfl)) e89 (g := (mkF m 39 #[.val (.ref a1), .val (.int (16 : Int32))] [(.int (16 : Int32)), (.ref a1)])) rfl (hb hby d6_39) (j := (16 : Int32)) (n := 16) rfl (by decide) rfl (by decide) (by decide)
  have lt_a1_b105 : @LT.lt Nat _ a1 b105 := Nat.lt_of_lt_of_le f90.lt (Nat.le_of_eq gb105.symm)
  have lt_b1_b105 : @LT.lt Nat _ b1 b105 := Nat.lt_of_lt_of_le f94.lt (Nat.le_of_eq gb105.symm)
  have lt_b13_b105 : @LT.lt Nat _ b13 b105 := Nat.lt_of_lt_of_le f96.lt (Nat.le_of_eq gb105.symm)
  have lt_b29_b105 : @LT.lt Nat _ b29 b105 := Nat.lt_of_lt_of_le f98.lt (Nat.le_of_eq gb105.symm)
  have lt_b49_b105 : @LT.lt Nat _ b49 b105 := Nat.lt_of_lt_of_le f100.lt (Nat.le_of_eq gb105.symm)
  have lt_b74_b105 : @LT.lt Nat _ b74 b105 := Nat.lt_of_lt_of_le f103.lt (Nat.le_of_eq gb105.symm)
  have gg105 : n0 ≤ b105 := Nat.le_trans z89 (Nat.le_of_eq gb105.symm)
  have kz105 : h0.size ≤ b105 := Nat.le_trans K89.1 (Nat.le_of_eq gb105.symm)
  have f106 := f90.ext E105
  have f107 := f91.ext E105
  have f108 := f92.ext E105
  have f109 := f93.ext E105
  have f110 := f94.ext E105
  have f111 := f95.ext E105
  have f112 := f96.ext E105
  have f113 := f97.ext E105
  have f114 := f98.ext E105
  have f115 := f99.ext E105
  have f116 := f100.ext E105
  have f117 := f101.ext E105
  have f118 := f102.ext E105
  have f119 := f103.ext E105
  have f120 := f104.ext E105
  have f121 := f89.ext E105
  have z105 : n0 ≤ h105.size := Nat.le_trans z89 E105.1
  have K105 := K89.ext E105
  refine own_via (T' := T105) (g' := (mkF m 42 #[.val (.ref a1), .val (.int (16 : Int32))] [(.ref b105), (.ref a1)])) (fun _ kt => st105 _ kt) ?_
  obtain ⟨u122, Fu122⟩ := f106.fld (hw _ (List.mem_of_getElem? (i := 5) rfl)) (Or.inl (hw _ (List.mem_of_getElem? (i := 78) rfl)))
  obtain ⟨T123, h123, X123, e123, W123, st123⟩ := putF X105 hx hZ hown (host := "") (Or.inl (hw _ (List.mem_of_getElem? (i := 77) rfl))) Via.refl e105 Fu122 f106.exa (Or.inl (hw _ (List.mem_of_getElem? (i := 78) rfl))) (hw _ (List.mem_of_getElem? (i := 5) rfl)) (ty := (.array (.object "com/example/infoset/infoset/xdm/NamespaceBindings"))) (by decide) rfl rfl (g := (mkF m 42 #[.val (.ref a1), .val (.int (16 : Int32))] [(.ref b105), (.ref a1)])) rfl rfl (hb hby d6_42)
  have f124 := f106.wr W123
  have f125 := f107.other W123 (Or.inr (slot_ne (Or.inl (hw _ (List.mem_of_getElem? (i := 106) rfl))) (Or.inl (hw _ (List.mem_of_getElem? (i := 78) rfl))) (by decide) (t := .int) (t' := (.array (.object "com/example/infoset/infoset/xdm/NamespaceBindings"))) (by decide) (by decide)))
  have f126 := f108.other W123 (Or.inr (slot_ne (Or.inl (hw _ (List.mem_of_getElem? (i := 124) rfl))) (Or.inl (hw _ (List.mem_of_getElem? (i := 78) rfl))) (by decide) (t := .int) (t' := (.array (.object "com/example/infoset/infoset/xdm/NamespaceBindings"))) (by decide) (by decide)))
  have f127 := f109.other W123 (Or.inr (slot_ne (Or.inl (hw _ (List.mem_of_getElem? (i := 117) rfl))) (Or.inl (hw _ (List.mem_of_getElem? (i := 78) rfl))) (by decide) (t := .int) (t' := (.array (.object "com/example/infoset/infoset/xdm/NamespaceBindings"))) (by decide) (by decide)))
  have f128 := f110.other W123 (own_ne (by omega))
  have f129 := f111.other W123 (Or.inr (slot_ne (Or.inl (hw _ (List.mem_of_getElem? (i := 61) rfl))) (Or.inl (hw _ (List.mem_of_getElem? (i := 78) rfl))) (by decide) (t := (.array .byte)) (t' := (.array (.object "com/example/infoset/infoset/xdm/NamespaceBindings"))) (by decide) (by decide)))
  have f130 := f112.other W123 (own_ne (by omega))
  have f131 := f113.other W123 (Or.inr (slot_ne (Or.inl (hw _ (List.mem_of_getElem? (i := 64) rfl))) (Or.inl (hw _ (List.mem_of_getElem? (i := 78) rfl))) (by decide) (t := (.array .int)) (t' := (.array (.object "com/example/infoset/infoset/xdm/NamespaceBindings"))) (by decide) (by decide)))
  have f132 := f114.other W123 (own_ne (by omega))
  have f133 := f115.other W123 (Or.inr (slot_ne (Or.inl (hw _ (List.mem_of_getElem? (i := 66) rfl))) (Or.inl (hw _ (List.mem_of_getElem? (i := 78) rfl))) (by decide) (t := (.array .int)) (t' := (.array (.object "com/example/infoset/infoset/xdm/NamespaceBindings"))) (by decide) (by decide)))
  have f134 := f116.other W123 (own_ne (by omega))
  have f135 := f117.wr W123
  have f136 := f118.other W123 (Or.inr (slot_ne (Or.inl (hw _ (List.mem_of_getElem? (i := 70) rfl))) (Or.inl (hw _ (List.mem_of_getElem? (i := 78) rfl))) (by decide) (t := (.array (.object "com/example/infoset/infoset/xdm/QName"))) (t' := (.array (.object "com/example/infoset/infoset/xdm/NamespaceBindings"))) (by decide) (by decide)))
  have f137 := f119.other W123 (own_ne (by omega))
  have f138 := f120.wr W123
  have f139 := f121.other W123 (Or.inr (slot_ne (Or.inl (hw _ (List.mem_of_getElem? (i := 74) rfl))) (Or.inl (hw _ (List.mem_of_getElem? (i := 78) rfl))) (by decide) (t := (.array (.object "java/lang/String"))) (t' := (.array (.object "com/example/infoset/infoset/xdm/NamespaceBindings"))) (by decide) (by decide)))
  have f140 := A105.other W123 (own_ne (by omega))
  have f141 := O105.wr W123
  have z123 : n0 ≤ h123.size := Nat.le_trans z105 (Nat.le_of_eq W123.size.symm)
  have N123 := Fr.snoc X123 N89 ga1
  have K123 := K105.wr W123 (Or.inl (List.mem_of_getElem? (i := 0) rfl))
  have f123 := Fu122.same W123
  refine own_via (T' := T123) (g' := (mkF m 45 #[.val (.ref a1), .val (.int (16 : Int32))] [])) (fun _ kt => st123 _ kt) ?_
  refine own_via (T' := T123) (g' := (mkF m 46 #[.val (.ref a1), .val (.int (16 : Int32))] [(.ref a1)])) (fun _ kt => XS.aloadN X123.here hx rfl (hb hby d6_45) rfl rfl kt) ?_
  refine own_via (T' := T123) (g' := (mkF m 47 #[.val (.ref a1), .val (.int (16 : Int32))] [(.int (16 : Int32)), (.ref a1)])) (fun _ kt => XS.iloadN X123.here hx rfl (hb hby d6_46) rfl kt) ?_
  obtain ⟨T142, h142, b142, gb142, X142, e142, E142, A142, st142⟩ := own_newarr X123 hx hZ (hw _ (List.mem_of_getElem? (i := 62) rfl)) e123 (g := (mkF m 47 #[.val (.ref a1), .val (.int (16 : Int32))] [(.int (16 : Int32)), (.ref a1)])) rfl (hb hby d6_47) (j := (16 : Int32)) (n := 16) rfl (by decide) rfl (by decide) (by decide)
  have lt_a1_b142 : @LT.lt Nat _ a1 b142 := Nat.lt_of_lt_of_le f124.lt (Nat.le_of_eq gb142.symm)
  have lt_b1_b142 : @LT.lt Nat _ b1 b142 := Nat.lt_of_lt_of_le f128.lt (Nat.le_of_eq gb142.symm)
  have lt_b13_b142 : @LT.lt Nat _ b13 b142 := Nat.lt_of_lt_of_le f130.lt (Nat.le_of_eq gb142.symm)
  have lt_b29_b142 : @LT.lt Nat _ b29 b142 := Nat.lt_of_lt_of_le f132.lt (Nat.le_of_eq gb142.symm)
  have lt_b49_b142 : @LT.lt Nat _ b49 b142 := Nat.lt_of_lt_of_le f134.lt (Nat.le_of_eq gb142.symm)
  have lt_b74_b142 : @LT.lt Nat _ b74 b142 := Nat.lt_of_lt_of_le f137.lt (Nat.le_of_eq gb142.symm)
  have lt_b105_b142 : @LT.lt Nat _ b105 b142 := Nat.lt_of_lt_of_le f140.lt (Nat.le_of_eq gb142.symm)
  have gg142 : n0 ≤ b142 := Nat.le_trans z123 (Nat.le_of_eq gb142.symm)
  have kz142 : h0.size ≤ b142 := Nat.le_trans K123.1 (Nat.le_of_eq gb142.symm)
  have f143 := f124.ext E142
  have f144 := f125.ext E142
  have f145 := f126.ext E142
  have f146 := f127.ext E142
  have f147 := f128.ext E142
  have f148 := f129.ext E142
  have f149 := f130.ext E142
  have f150 := f131.ext E142
  have f151 := f132.ext E142
  have f152 := f133.ext E142
  have f153 := f134.ext E142
  have f154 := f135.ext E142
  have f155 := f136.ext E142
  have f156 := f137.ext E142
  have f157 := f138.ext E142
  have f158 := f139.ext E142
  have f159 := f140.ext E142
  have f160 := f141.ext E142
  have f161 := f123.ext E142
  have z142 : n0 ≤ h142.size := Nat.le_trans z123 E142.1
  have K142 := K123.ext E142
  replace A142 : own_Ar Z h142 b142 .int 16 (fun _ => .int 0) := A142
  refine own_via (T' := T142) (g' := (mkF m 49 #[.val (.ref a1), .val (.int (16 : Int32))] [(.ref b142), (.ref a1)])) (fun _ kt => st142 _ kt) ?_
  obtain ⟨u162, Fu162⟩ := f143.fld (hw _ (List.mem_of_getElem? (i := 5) rfl)) (Or.inl (hw _ (List.mem_of_getElem? (i := 80) rfl)))
  obtain ⟨T163, h163, X163, e163, W163, st163⟩ := putF X142 hx hZ hown (host := "") (Or.inl (hw _ (List.mem_of_getElem? (i := 79) rfl))) Via.refl e142 Fu162 f143.exa (Or.inl (hw _ (List.mem_of_getElem? (i := 80) rfl))) (hw _ (List.mem_of_getElem? (i := 5) rfl)) (ty := (.array .int)) (by decide) rfl rfl (g := (mkF m 49 #[.val (.ref a1), .val (.int (16 : Int32))] [(.ref b142), (.ref a1)])) rfl rfl (hb hby d6_49)
  have f164 := f143.wr W163
  have f165 := f144.other W163 (Or.inr (slot_ne (Or.inl (hw _ (List.mem_of_getElem? (i := 106) rfl))) (Or.inl (hw _ (List.mem_of_getElem? (i := 80) rfl))) (by decide) (t := .int) (t' := (.array .int)) (by decide) (by decide)))
  have f166 := f145.other W163 (Or.inr (slot_ne (Or.inl (hw _ (List.mem_of_getElem? (i := 124) rfl))) (Or.inl (hw _ (List.mem_of_getElem? (i := 80) rfl))) (by decide) (t := .int) (t' := (.array .int)) (by decide) (by decide)))
  have f167 := f146.other W163 (Or.inr (slot_ne (Or.inl (hw _ (List.mem_of_getElem? (i := 117) rfl))) (Or.inl (hw _ (List.mem_of_getElem? (i := 80) rfl))) (by decide) (t := .int) (t' := (.array .int)) (by decide) (by decide)))
  have f168 := f147.other W163 (own_ne (by omega))
  have f169 := f148.other W163 (Or.inr (slot_ne (Or.inl (hw _ (List.mem_of_getElem? (i := 61) rfl))) (Or.inl (hw _ (List.mem_of_getElem? (i := 80) rfl))) (by decide) (t := (.array .byte)) (t' := (.array .int)) (by decide) (by decide)))
  have f170 := f149.other W163 (own_ne (by omega))
  have f171 := f150.other W163 (Or.inr (slot_ne (Or.inl (hw _ (List.mem_of_getElem? (i := 64) rfl))) (Or.inl (hw _ (List.mem_of_getElem? (i := 80) rfl))) (by decide) (t := (.array .int)) (t' := (.array .int)) (by decide) (by decide)))
  have f172 := f151.other W163 (own_ne (by omega))
  have f173 := f152.other W163 (Or.inr (slot_ne (Or.inl (hw _ (List.mem_of_getElem? (i := 66) rfl))) (Or.inl (hw _ (List.mem_of_getElem? (i := 80) rfl))) (by decide) (t := (.array .int)) (t' := (.array .int)) (by decide) (by decide)))
  have f174 := f153.other W163 (own_ne (by omega))
  have f175 := f154.wr W163
  have f176 := f155.other W163 (Or.inr (slot_ne (Or.inl (hw _ (List.mem_of_getElem? (i := 70) rfl))) (Or.inl (hw _ (List.mem_of_getElem? (i := 80) rfl))) (by decide) (t := (.array (.object "com/example/infoset/infoset/xdm/QName"))) (t' := (.array .int)) (by decide) (by decide)))
  have f177 := f156.other W163 (own_ne (by omega))
  have f178 := f157.wr W163
  have f179 := f158.other W163 (Or.inr (slot_ne (Or.inl (hw _ (List.mem_of_getElem? (i := 74) rfl))) (Or.inl (hw _ (List.mem_of_getElem? (i := 80) rfl))) (by decide) (t := (.array (.object "java/lang/String"))) (t' := (.array .int)) (by decide) (by decide)))
  have f180 := f159.other W163 (own_ne (by omega))
  have f181 := f160.wr W163
  have f182 := f161.other W163 (Or.inr (slot_ne (Or.inl (hw _ (List.mem_of_getElem? (i := 78) rfl))) (Or.inl (hw _ (List.mem_of_getElem? (i := 80) rfl))) (by decide) (t := (.array (.object "com/example/infoset/infoset/xdm/NamespaceBindings"))) (t' := (.array .int)) (by decide) (by decide)))
  have f183 := A142.other W163 (own_ne (by omega))
  have z163 : n0 ≤ h163.size := Nat.le_trans z142 (Nat.le_of_eq W163.size.symm)
  have N163 := Fr.snoc X163 N123 ga1
  have K163 := K142.wr W163 (Or.inl (List.mem_of_getElem? (i := 0) rfl))
  have f163 := Fu162.same W163
  refine own_via (T' := T163) (g' := (mkF m 52 #[.val (.ref a1), .val (.int (16 : Int32))] [])) (fun _ kt => st163 _ kt) ?_
  refine own_via (T' := T163) (g' := (mkF m 53 #[.val (.ref a1), .val (.int (16 : Int32))] [(.ref a1)])) (fun _ kt => XS.aloadN X163.here hx rfl (hb hby d6_52) rfl rfl kt) ?_
  refine own_via (T' := T163) (g' := (mkF m 54 #[.val (.ref a1), .val (.int (16 : Int32))] [(.int (16 : Int32)), (.ref a1)])) (fun _ kt => XS.iloadN X163.here hx rfl (hb hby d6_53) rfl kt) ?_
  obtain ⟨T184, h184, b184, gb184, X184, e184, E184, A184, st184⟩ := own_newarr X163 hx hZ (hw _ (List.mem_of_getElem? (i := 62) rfl)) e163 (g := (mkF m 54 #[.val (.ref a1), .val (.int (16 : Int32))] [(.int (16 : Int32)), (.ref a1)])) rfl (hb hby d6_54) (j := (16 : Int32)) (n := 16) rfl (by decide) rfl (by decide) (by decide)
  have lt_a1_b184 : @LT.lt Nat _ a1 b184 := Nat.lt_of_lt_of_le f164.lt (Nat.le_of_eq gb184.symm)
  have lt_b1_b184 : @LT.lt Nat _ b1 b184 := Nat.lt_of_lt_of_le f168.lt (Nat.le_of_eq gb184.symm)
  have lt_b13_b184 : @LT.lt Nat _ b13 b184 := Nat.lt_of_lt_of_le f170.lt (Nat.le_of_eq gb184.symm)
  have lt_b29_b184 : @LT.lt Nat _ b29 b184 := Nat.lt_of_lt_of_le f172.lt (Nat.le_of_eq gb184.symm)
  have lt_b49_b184 : @LT.lt Nat _ b49 b184 := Nat.lt_of_lt_of_le f174.lt (Nat.le_of_eq gb184.symm)
  have lt_b74_b184 : @LT.lt Nat _ b74 b184 := Nat.lt_of_lt_of_le f177.lt (Nat.le_of_eq gb184.symm)
  have lt_b105_b184 : @LT.lt Nat _ b105 b184 := Nat.lt_of_lt_of_le f180.lt (Nat.le_of_eq gb184.symm)
  have lt_b142_b184 : @LT.lt Nat _ b142 b184 := Nat.lt_of_lt_of_le f183.lt (Nat.le_of_eq gb184.symm)
  have gg184 : n0 ≤ b184 := Nat.le_trans z163 (Nat.le_of_eq gb184.symm)
  have kz184 : h0.size ≤ b184 := Nat.le_trans K163.1 (Nat.le_of_eq gb184.symm)
  have f185 := f164.ext E184
  have f186 := f165.ext E184
  have f187 := f166.ext E184
  have f188 := f167.ext E184
  have f189 := f168.ext E184
  have f190 := f169.ext E184
  have f191 := f170.ext E184
  have f192 := f171.ext E184
  have f193 := f172.ext E184
  have f194 := f173.ext E184
  have f195 := f174.ext E184
  have f196 := f175.ext E184
  have f197 := f176.ext E184
  have f198 := f177.ext E184
  have f199 := f178.ext E184
  have f200 := f179.ext E184
  have f201 := f180.ext E184
  have f202 := f181.ext E184
  have f203 := f182.ext E184
  have f204 := f183.ext E184
  have f205 := f163.ext E184
  have z184 : n0 ≤ h184.size := Nat.le_trans z163 E184.1
  have K184 := K163.ext E184
  replace A184 : own_Ar Z h184 b184 .int 16 (fun _ => .int 0) := A184
  refine own_via (T' := T184) (g' := (mkF m 56 #[.val (.ref a1), .val (.int (16 : Int32))] [(.ref b184), (.ref a1)])) (fun _ kt => st184 _ kt) ?_
  obtain ⟨u206, Fu206⟩ := f185.fld (hw _ (List.mem_of_getElem? (i := 5) rfl)) (Or.inl (hw _ (List.mem_of_getElem? (i := 82) rfl)))
  obtain ⟨T207, h207, X207, e207, W207, st207⟩ := putF X184 hx hZ hown (host := "") (Or.inl (hw _ (List.mem_of_getElem? (i := 81) rfl))) Via.refl e184 Fu206 f185.exa (Or.inl (hw _ (List.mem_of_getElem? (i := 82) rfl))) (hw _ (List.mem_of_getElem? (i := 5) rfl)) (ty := (.array .int)) (by decide) rfl rfl (g := (mkF m 56 #[.val (.ref a1), .val (.int (16 : Int32))] [(.ref b184), (.ref a1)])) rfl rfl (hb hby d6_56)
  have f208 := f185.wr W207
  have f209 := f186.other W207 (Or.inr (slot_ne (Or.inl (hw _ (List.mem_of_getElem? (i := 106) rfl))) (Or.inl (hw _ (List.mem_of_getElem? (i := 82) rfl))) (by decide) (t := .int) (t' := (.array .int)) (by decide) (by decide)))
  have f210 := f187.other W207 (Or.inr (slot_ne (Or.inl (hw _ (List.mem_of_getElem? (i := 124) rfl))) (Or.inl (hw _ (List.mem_of_getElem? (i := 82) rfl))) (by decide) (t := .int) (t' := (.array .int)) (by decide) (by decide)))
  have f211 := f188.other W207 (Or.inr (slot_ne (Or.inl (hw _ (List.mem_of_getElem? (i := 117) rfl))) (Or.inl (hw _ (List.mem_of_getElem? (i := 82) rfl))) (by decide) (t := .int) (t' := (.array .int)) (by decide) (by decide)))
  have f212 := f189.other W207 (own_ne (by omega))
  have f213 := f190.other W207 (Or.inr (slot_ne (Or.inl (hw _ (List.mem_of_getElem? (i := 61) rfl))) (Or.inl (hw _ (List.mem_of_getElem? (i := 82) rfl))) (by decide) (t := (.array .byte)) (t' := (.array .int)) (by decide) (by decide)))
  have f214 := f191.other W207 (own_ne (by omega))
  have f215 := f192.other W207 (Or.inr (slot_ne (Or.inl (hw _ (List.mem_of_getElem? (i := 64) rfl))) (Or.inl (hw _ (List.mem_of_getElem? (i := 82) rfl))) (by decide) (t := (.array .int)) (t' := (.array .int)) (by decide) (by decide)))
  have f216 := f193.other W207 (own_ne (by omega))
  have f217 := f194.other W207 (Or.inr (slot_ne (Or.inl (hw _ (List.mem_of_getElem? (i := 66) rfl))) (Or.inl (hw _ (List.mem_of_getElem? (i := 82) rfl))) (by decide) (t := (.array .int)) (t' := (.array .int)) (by decide) (by decide)))
  have f218 := f195.other W207 (own_ne (by omega))
  have f219 := f196.wr W207
  have f220 := f197.other W207 (Or.inr (slot_ne (Or.inl (hw _ (List.mem_of_getElem? (i := 70) rfl))) (Or.inl (hw _ (List.mem_of_getElem? (i := 82) rfl))) (by decide) (t := (.array (.object "com/example/infoset/infoset/xdm/QName"))) (t' := (.array .int)) (by decide) (by decide)))
  have f221 := f198.other W207 (own_ne (by omega))
  have f222 := f199.wr W207
  have f223 := f200.other W207 (Or.inr (slot_ne (Or.inl (hw _ (List.mem_of_getElem? (i := 74) rfl))) (Or.inl (hw _ (List.mem_of_getElem? (i := 82) rfl))) (by decide) (t := (.array (.object "java/lang/String"))) (t' := (.array .int)) (by decide) (by decide)))
  have f224 := f201.other W207 (own_ne (by omega))
  have f225 := f202.wr W207
  have f226 := f203.other W207 (Or.inr (slot_ne (Or.inl (hw _ (List.mem_of_getElem? (i := 78) rfl))) (Or.inl (hw _ (List.mem_of_getElem? (i := 82) rfl))) (by decide) (t := (.array (.object "com/example/infoset/infoset/xdm/NamespaceBindings"))) (t' := (.array .int)) (by decide) (by decide)))
  have f227 := f204.other W207 (own_ne (by omega))
  have f228 := f205.other W207 (Or.inr (slot_ne (Or.inl (hw _ (List.mem_of_getElem? (i := 80) rfl))) (Or.inl (hw _ (List.mem_of_getElem? (i := 82) rfl))) (by decide) (t := (.array .int)) (t' := (.array .int)) (by decide) (by decide)))
  have f229 := A184.other W207 (own_ne (by omega))
  have z207 : n0 ≤ h207.size := Nat.le_trans z184 (Nat.le_of_eq W207.size.symm)
  have N207 := Fr.snoc X207 N163 ga1
  have K207 := K184.wr W207 (Or.inl (List.mem_of_getElem? (i := 0) rfl))
  have f207 := Fu206.same W207
  refine own_via (T' := T207) (g' := (mkF m 59 #[.val (.ref a1), .val (.int (16 : Int32))] [])) (fun _ kt => st207 _ kt) ?_
  refine own_via (T' := T207) (g' := (mkF m 60 #[.val (.ref a1), .val (.int (16 : Int32))] [(.ref a1)])) (fun _ kt => XS.aloadN X207.here hx rfl (hb hby d6_59) rfl rfl kt) ?_
  refine own_via (T' := T207) (g' := (mkF m 61 #[.val (.ref a1), .val (.int (16 : Int32))] [(.int (16 : Int32)), (.ref a1)])) (fun _ kt => XS.iloadN X207.here hx rfl (hb hby d6_60) rfl kt) ?_
  obtain ⟨T230, h230, b230, gb230, X230, e230, E230, A230, O230, st230⟩ := own_newref X207 hx hZ hown (hw _ (List.mem_of_getElem? (i := 67) rfl)) (hw _ (List.mem_of_getElem? (i := 68) rfl)) e207 (g := (mkF m 61 #[.val (.ref a1), .val (.int (16 : Int32))] [(.int (16 : Int32)), (.ref a1)])) rfl (hb hby d6_61) (j := (16 : Int32)) (n := 16) rfl (by decide) rfl (by decide) (by decide)
  have lt_a1_b230 : @LT.lt Nat _ a1 b230 := Nat.lt_of_lt_of_le f208.lt (Nat.le_of_eq gb230.symm)
  have lt_b1_b230 : @LT.lt Nat _ b1 b230 := Nat.lt_of_lt_of_le f212.lt (Nat.le_of_eq gb230.symm)
  have lt_b13_b230 : @LT.lt Nat _ b13 b230 := Nat.lt_of_lt_of_le f214.lt (Nat.le_of_eq gb230.symm)
  have lt_b29_b230 : @LT.lt Nat _ b29 b230 := Nat.lt_of_lt_of_le f216.lt (Nat.le_of_eq gb230.symm)
  have lt_b49_b230 : @LT.lt Nat _ b49 b230 := Nat.lt_of_lt_of_le f218.lt (Nat.le_of_eq gb230.symm)
  have lt_b74_b230 : @LT.lt Nat _ b74 b230 := Nat.lt_of_lt_of_le f221.lt (Nat.le_of_eq gb230.symm)
  have lt_b105_b230 : @LT.lt Nat _ b105 b230 := Nat.lt_of_lt_of_le f224.lt (Nat.le_of_eq gb230.symm)
  have lt_b142_b230 : @LT.lt Nat _ b142 b230 := Nat.lt_of_lt_of_le f227.lt (Nat.le_of_eq gb230.symm)
  have gg230 : n0 ≤ b230 := Nat.le_trans z207 (Nat.le_of_eq gb230.symm)
  have kz230 : h0.size ≤ b230 := Nat.le_trans K207.1 (Nat.le_of_eq gb230.symm)
  have f231 := f208.ext E230
  have f232 := f209.ext E230
  have f233 := f210.ext E230
  have f234 := f211.ext E230
  have f235 := f212.ext E230
  have f236 := f213.ext E230
  have f237 := f214.ext E230
  have f238 := f215.ext E230
  have f239 := f216.ext E230
  have f240 := f217.ext E230
  have f241 := f218.ext E230
  have f242 := f219.ext E230
  have f243 := f220.ext E230
  have f244 := f221.ext E230
  have f245 := f222.ext E230
  have f246 := f223.ext E230
  have f247 := f224.ext E230
  have f248 := f225.ext E230
  have f249 := f226.ext E230
  have f250 := f227.ext E230
  have f251 := f228.ext E230
  have z230 : n0 ≤ h230.size := Nat.le_trans z207 E230.1
  have K230 := K207.ext E230
  refine own_via (T' := T230) (g' := (mkF m 64 #[.val (.ref a1), .val (.int (16 : Int32))] [(.ref b230), (.ref a1)])) (fun _ kt => st230 _ kt) ?_
  obtain ⟨u252, Fu252⟩ := f231.fld (hw _ (List.mem_of_getElem? (i := 5) rfl)) (Or.inl (hw _ (List.mem_of_getElem? (i := 84) rfl)))
  obtain ⟨T253, h253, X253, e253, W253, st253⟩ := putF X230 hx hZ hown (host := "") (Or.inl (hw _ (List.mem_of_getElem? (i := 83) rfl))) Via.refl e230 Fu252 f231.exa (Or.inl (hw _ (List.mem_of_getElem? (i := 84) rfl))) (hw _ (List.mem_of_getElem? (i := 5) rfl)) (ty := (.array (.object "com/example/infoset/infoset/xdm/QName"))) (by decide) rfl rfl (g := (mkF m 64 #[.val (.ref a1), .val (.int (16 : Int32))] [(.ref b230), (.ref a1)])) rfl rfl (hb hby d6_64)
  have f254 := f231.wr W253
  have f255 := f232.other W253 (Or.inr (slot_ne (Or.inl (hw _ (List.mem_of_getElem? (i := 106) rfl))) (Or.inl (hw _ (List.mem_of_getElem? (i := 84) rfl))) (by decide) (t := .int) (t' := (.array (.object "com/example/infoset/infoset/xdm/QName"))) (by decide) (by decide)))
  have f256 := f233.other W253 (Or.inr (slot_ne (Or.inl (hw _ (List.mem_of_getElem? (i := 124) rfl))) (Or.inl (hw _ (List.mem_of_getElem? (i := 84) rfl))) (by decide) (t := .int) (t' := (.array (.object "com/example/infoset/infoset/xdm/QName"))) (by decide) (by decide)))
  have f257 := f234.other W253 (Or.inr (slot_ne (Or.inl (hw _ (List.mem_of_getElem? (i := 117) rfl))) (Or.inl (hw _ (List.mem_of_getElem? (i := 84) rfl))) (by decide) (t := .int) (t' := (.array (.object "com/example/infoset/infoset/xdm/QName"))) (by decide) (by decide)))
  have f258 := f235.other W253 (own_ne (by omega))
  have f259 := f236.other W253 (Or.inr (slot_ne (Or.inl (hw _ (List.mem_of_getElem? (i := 61) rfl))) (Or.inl (hw _ (List.mem_of_getElem? (i := 84) rfl))) (by decide) (t := (.array .byte)) (t' := (.array (.object "com/example/infoset/infoset/xdm/QName"))) (by decide) (by decide)))
  have f260 := f237.other W253 (own_ne (by omega))
  have f261 := f238.other W253 (Or.inr (slot_ne (Or.inl (hw _ (List.mem_of_getElem? (i := 64) rfl))) (Or.inl (hw _ (List.mem_of_getElem? (i := 84) rfl))) (by decide) (t := (.array .int)) (t' := (.array (.object "com/example/infoset/infoset/xdm/QName"))) (by decide) (by decide)))
  have f262 := f239.other W253 (own_ne (by omega))
  have f263 := f240.other W253 (Or.inr (slot_ne (Or.inl (hw _ (List.mem_of_getElem? (i := 66) rfl))) (Or.inl (hw _ (List.mem_of_getElem? (i := 84) rfl))) (by decide) (t := (.array .int)) (t' := (.array (.object "com/example/infoset/infoset/xdm/QName"))) (by decide) (by decide)))
  have f264 := f241.other W253 (own_ne (by omega))
  have f265 := f242.wr W253
  have f266 := f243.other W253 (Or.inr (slot_ne (Or.inl (hw _ (List.mem_of_getElem? (i := 70) rfl))) (Or.inl (hw _ (List.mem_of_getElem? (i := 84) rfl))) (by decide) (t := (.array (.object "com/example/infoset/infoset/xdm/QName"))) (t' := (.array (.object "com/example/infoset/infoset/xdm/QName"))) (by decide) (by decide)))
  have f267 := f244.other W253 (own_ne (by omega))
  have f268 := f245.wr W253
  have f269 := f246.other W253 (Or.inr (slot_ne (Or.inl (hw _ (List.mem_of_getElem? (i := 74) rfl))) (Or.inl (hw _ (List.mem_of_getElem? (i := 84) rfl))) (by decide) (t := (.array (.object "java/lang/String"))) (t' := (.array (.object "com/example/infoset/infoset/xdm/QName"))) (by decide) (by decide)))
  have f270 := f247.other W253 (own_ne (by omega))
  have f271 := f248.wr W253
  have f272 := f249.other W253 (Or.inr (slot_ne (Or.inl (hw _ (List.mem_of_getElem? (i := 78) rfl))) (Or.inl (hw _ (List.mem_of_getElem? (i := 84) rfl))) (by decide) (t := (.array (.object "com/example/infoset/infoset/xdm/NamespaceBindings"))) (t' := (.array (.object "com/example/infoset/infoset/xdm/QName"))) (by decide) (by decide)))
  have f273 := f250.other W253 (own_ne (by omega))
  have f274 := f251.other W253 (Or.inr (slot_ne (Or.inl (hw _ (List.mem_of_getElem? (i := 80) rfl))) (Or.inl (hw _ (List.mem_of_getElem? (i := 84) rfl))) (by decide) (t := (.array .int)) (t' := (.array (.object "com/example/infoset/infoset/xdm/QName"))) (by decide) (by decide)))
  have f275 := A230.other W253 (own_ne (by omega))
  have f276 := O230.wr W253
  have z253 : n0 ≤ h253.size := Nat.le_trans z230 (Nat.le_of_eq W253.size.symm)
  have N253 := Fr.snoc X253 N207 ga1
  have K253 := K230.wr W253 (Or.inl (List.mem_of_getElem? (i := 0) rfl))
  have f253 := Fu252.same W253
  refine own_via (T' := T253) (g' := (mkF m 67 #[.val (.ref a1), .val (.int (16 : Int32))] [])) (fun _ kt => st253 _ kt) ?_
  refine own_via (T' := T253) (g' := (mkF m 68 #[.val (.ref a1), .val (.int (16 : Int32))] [(.ref a1)])) (fun _ kt => XS.aloadN X253.here hx rfl (hb hby d6_67) rfl rfl kt) ?_
  refine own_via (T' := T253) (g' := (mkF m 69 #[.val (.ref a1), .val (.int (16 : Int32))] [(.int (16 : Int32)), (.ref a1)])) (fun _ kt => XS.iloadN X253.here hx rfl (hb hby d6_68) rfl kt) ?_
  obtain ⟨T277, h277, b277, gb277, X277, e277, E277, A277, O277, st277⟩ := own_newref X253 hx hZ hown (hw _ (List.mem_of_getElem? (i := 71) rfl)) (hw _ (List.mem_of_getElem? (i := 72) rfl)) e253 (g := (mkF m 69 #[.val (.ref a1), .val (.int (16 : Int32))] [(.int (16 : Int32)), (.ref a1)])) rfl (hb hby d6_69) (j := (16 : Int32)) (n := 16) rfl (by decide) rfl (by decide) (by decide)
  have lt_a1_b277 : @LT.lt Nat _ a1 b277 := Nat.lt_of_lt_of_le f254.lt (Nat.le_of_eq gb277.symm)
  have lt_b1_b277 : @LT.lt Nat _ b1 b277 := Nat.lt_of_lt_of_le f258.lt (Nat.le_of_eq gb277.symm)
  have lt_b13_b277 : @LT.lt Nat _ b13 b277 := Nat.lt_of_lt_of_le f260.lt (Nat.le_of_eq gb277.symm)
  have lt_b29_b277 : @LT.lt Nat _ b29 b277 := Nat.lt_of_lt_of_le f262.lt (Nat.le_of_eq gb277.symm)
  have lt_b49_b277 : @LT.lt Nat _ b49 b277 := Nat.lt_of_lt_of_le f264.lt (Nat.le_of_eq gb277.symm)
  have lt_b74_b277 : @LT.lt Nat _ b74 b277 := Nat.lt_of_lt_of_le f267.lt (Nat.le_of_eq gb277.symm)
  have lt_b105_b277 : @LT.lt Nat _ b105 b277 := Nat.lt_of_lt_of_le f270.lt (Nat.le_of_eq gb277.symm)
  have lt_b142_b277 : @LT.lt Nat _ b142 b277 := Nat.lt_of_lt_of_le f273.lt (Nat.le_of_eq gb277.symm)
  have gg277 : n0 ≤ b277 := Nat.le_trans z253 (Nat.le_of_eq gb277.symm)
  have kz277 : h0.size ≤ b277 := Nat.le_trans K253.1 (Nat.le_of_eq gb277.symm)
  have f278 := f254.ext E277
  have f279 := f255.ext E277
  have f280 := f256.ext E277
  have f281 := f257.ext E277
  have f282 := f258.ext E277
  have f283 := f259.ext E277
  have f284 := f260.ext E277
  have f285 := f261.ext E277
  have f286 := f262.ext E277
  have f287 := f263.ext E277
  have f288 := f264.ext E277
  have f289 := f265.ext E277
  have f290 := f266.ext E277
  have f291 := f267.ext E277
  have f292 := f268.ext E277
  have f293 := f269.ext E277
  have f294 := f270.ext E277
  have f295 := f271.ext E277
  have f296 := f272.ext E277
  have f297 := f273.ext E277
  have f298 := f274.ext E277
  have z277 : n0 ≤ h277.size := Nat.le_trans z253 E277.1
  have K277 := K253.ext E277
  refine own_via (T' := T277) (g' := (mkF m 72 #[.val (.ref a1), .val (.int (16 : Int32))] [(.ref b277), (.ref a1)])) (fun _ kt => st277 _ kt) ?_
  obtain ⟨u299, Fu299⟩ := f278.fld (hw _ (List.mem_of_getElem? (i := 5) rfl)) (Or.inl (hw _ (List.mem_of_getElem? (i := 86) rfl)))
  obtain ⟨T300, h300, X300, e300, W300, st300⟩ := putF X277 hx hZ hown (host := "") (Or.inl (hw _ (List.mem_of_getElem? (i := 85) rfl))) Via.refl e277 Fu299 f278.exa (Or.inl (hw _ (List.mem_of_getElem? (i := 86) rfl))) (hw _ (List.mem_of_getElem? (i := 5) rfl)) (ty := (.array (.object "java/lang/String"))) (by decide) rfl rfl (g := (mkF m 72 #[.val (.ref a1), .val (.int (16 : Int32))] [(.ref b277), (.ref a1)])) rfl rfl (hb hby d6_72)
  have f301 := f278.wr W300
  have f302 := f279.other W300 (Or.inr (slot_ne (Or.inl (hw _ (List.mem_of_getElem? (i := 106) rfl))) (Or.inl (hw _ (List.mem_of_getElem? (i := 86) rfl))) (by decide) (t := .int) (t' := (.array (.object "java/lang/String"))) (by decide) (by decide)))
  have f303 := f280.other W300 (Or.inr (slot_ne (Or.inl (hw _ (List.mem_of_getElem? (i := 124) rfl))) (Or.inl (hw _ (List.mem_of_getElem? (i := 86) rfl))) (by decide) (t := .int) (t' := (.array (.object "java/lang/String"))) (by decide) (by decide)))
  have f304 := f281.other W300 (Or.inr (slot_ne (Or.inl (hw _ (List.mem_of_getElem? (i := 117) rfl))) (Or.inl (hw _ (List.mem_of_getElem? (i := 86) rfl))) (by decide) (t := .int) (t' := (.array (.object "java/lang/String"))) (by decide) (by decide)))
  have f305 := f282.other W300 (own_ne (by omega))
  have f306 := f283.other W300 (Or.inr (slot_ne (Or.inl (hw _ (List.mem_of_getElem? (i := 61) rfl))) (Or.inl (hw _ (List.mem_of_getElem? (i := 86) rfl))) (by decide) (t := (.array .byte)) (t' := (.array (.object "java/lang/String"))) (by decide) (by decide)))
  have f307 := f284.other W300 (own_ne (by omega))
  have f308 := f285.other W300 (Or.inr (slot_ne (Or.inl (hw _ (List.mem_of_getElem? (i := 64) rfl))) (Or.inl (hw _ (List.mem_of_getElem? (i := 86) rfl))) (by decide) (t := (.array .int)) (t' := (.array (.object "java/lang/String"))) (by decide) (by decide)))
  have f309 := f286.other W300 (own_ne (by omega))
  have f310 := f287.other W300 (Or.inr (slot_ne (Or.inl (hw _ (List.mem_of_getElem? (i := 66) rfl))) (Or.inl (hw _ (List.mem_of_getElem? (i := 86) rfl))) (by decide) (t := (.array .int)) (t' := (.array (.object "java/lang/String"))) (by decide) (by decide)))
  have f311 := f288.other W300 (own_ne (by omega))
  have f312 := f289.wr W300
  have f313 := f290.other W300 (Or.inr (slot_ne (Or.inl (hw _ (List.mem_of_getElem? (i := 70) rfl))) (Or.inl (hw _ (List.mem_of_getElem? (i := 86) rfl))) (by decide) (t := (.array (.object "com/example/infoset/infoset/xdm/QName"))) (t' := (.array (.object "java/lang/String"))) (by decide) (by decide)))
  have f314 := f291.other W300 (own_ne (by omega))
  have f315 := f292.wr W300
  have f316 := f293.other W300 (Or.inr (slot_ne (Or.inl (hw _ (List.mem_of_getElem? (i := 74) rfl))) (Or.inl (hw _ (List.mem_of_getElem? (i := 86) rfl))) (by decide) (t := (.array (.object "java/lang/String"))) (t' := (.array (.object "java/lang/String"))) (by decide) (by decide)))
  have f317 := f294.other W300 (own_ne (by omega))
  have f318 := f295.wr W300
  have f319 := f296.other W300 (Or.inr (slot_ne (Or.inl (hw _ (List.mem_of_getElem? (i := 78) rfl))) (Or.inl (hw _ (List.mem_of_getElem? (i := 86) rfl))) (by decide) (t := (.array (.object "com/example/infoset/infoset/xdm/NamespaceBindings"))) (t' := (.array (.object "java/lang/String"))) (by decide) (by decide)))
  have f320 := f297.other W300 (own_ne (by omega))
  have f321 := f298.other W300 (Or.inr (slot_ne (Or.inl (hw _ (List.mem_of_getElem? (i := 80) rfl))) (Or.inl (hw _ (List.mem_of_getElem? (i := 86) rfl))) (by decide) (t := (.array .int)) (t' := (.array (.object "java/lang/String"))) (by decide) (by decide)))
  have f322 := A277.other W300 (own_ne (by omega))
  have f323 := O277.wr W300
  have z300 : n0 ≤ h300.size := Nat.le_trans z277 (Nat.le_of_eq W300.size.symm)
  have N300 := Fr.snoc X300 N253 ga1
  have K300 := K277.wr W300 (Or.inl (List.mem_of_getElem? (i := 0) rfl))
  have f300 := Fu299.same W300
  refine own_via (T' := T300) (g' := (mkF m 75 #[.val (.ref a1), .val (.int (16 : Int32))] [])) (fun _ kt => st300 _ kt) ?_
  refine own_via (T' := T300) (g' := (mkF m 76 #[.val (.ref a1), .val (.int (16 : Int32))] [(.ref a1)])) (fun _ kt => XS.aloadN X300.here hx rfl (hb hby d6_75) rfl rfl kt) ?_
  refine own_via (T' := T300) (g' := (mkF m 78 #[.val (.ref a1), .val (.int (16 : Int32))] [(.int (64 : Int32)), (.ref a1)])) (fun _ kt => XS.bipush X300.here hx rfl (hb hby d6_76) kt) ?_
  obtain ⟨T324, h324, b324, gb324, X324, e324, E324, A324, st324⟩ := own_newarr X300 hx hZ (hw _ (List.mem_of_getElem? (i := 87) rfl)) e300 (g := (mkF m 78 #[.val (.ref a1), .val (.int (16 : Int32))] [(.int (64 : Int32)), (.ref a1)])) rfl (hb hby d6_78) (j := (64 : Int32)) (n := 64) rfl (by decide) rfl (by decide) (by decide)
  have lt_a1_b324 : @LT.lt Nat _ a1 b324 := Nat.lt_of_lt_of_le f301.lt (Nat.le_of_eq gb324.symm)
  have lt_b1_b324 : @LT.lt Nat _ b1 b324 := Nat.lt_of_lt_of_le f305.lt (Nat.le_of_eq gb324.symm)
  have lt_b13_b324 : @LT.lt Nat _ b13 b324 := Nat.lt_of_lt_of_le f307.lt (Nat.le_of_eq gb324.symm)
  have lt_b29_b324 : @LT.lt Nat _ b29 b324 := Nat.lt_of_lt_of_le f309.lt (Nat.le_of_eq gb324.symm)
  have lt_b49_b324 : @LT.lt Nat _ b49 b324 := Nat.lt_of_lt_of_le f311.lt (Nat.le_of_eq gb324.symm)
  have lt_b74_b324 : @LT.lt Nat _ b74 b324 := Nat.lt_of_lt_of_le f314.lt (Nat.le_of_eq gb324.symm)
  have lt_b105_b324 : @LT.lt Nat _ b105 b324 := Nat.lt_of_lt_of_le f317.lt (Nat.le_of_eq gb324.symm)
  have lt_b142_b324 : @LT.lt Nat _ b142 b324 := Nat.lt_of_lt_of_le f320.lt (Nat.le_of_eq gb324.symm)
  have gg324 : n0 ≤ b324 := Nat.le_trans z300 (Nat.le_of_eq gb324.symm)
  have kz324 : h0.size ≤ b324 := Nat.le_trans K300.1 (Nat.le_of_eq gb324.symm)
  have f325 := f301.ext E324
  have f326 := f302.ext E324
  have f327 := f303.ext E324
  have f328 := f304.ext E324
  have f329 := f305.ext E324
  have f330 := f306.ext E324
  have f331 := f307.ext E324
  have f332 := f308.ext E324
  have f333 := f309.ext E324
  have f334 := f310.ext E324
  have f335 := f311.ext E324
  have f336 := f312.ext E324
  have f337 := f313.ext E324
  have f338 := f314.ext E324
  have f339 := f315.ext E324
  have f340 := f316.ext E324
  have f341 := f317.ext E324
  have f342 := f318.ext E324
  have f343 := f319.ext E324
  have f344 := f320.ext E324
  have f345 := f321.ext E324
  have z324 : n0 ≤ h324.size := Nat.le_trans z300 E324.1
  have K324 := K300.ext E324
  replace A324 : own_Ar Z h324 b324 .char 64 (fun _ => .int 0) := A324
  refine own_via (T' := T324) (g' := (mkF m 80 #[.val (.ref a1), .val (.int (16 : Int32))] [(.ref b324), (.ref a1)])) (fun _ kt => st324 _ kt) ?_
  obtain ⟨u346, Fu346⟩ := f325.fld (hw _ (List.mem_of_getElem? (i := 5) rfl)) (Or.inl (hw _ (List.mem_of_getElem? (i := 89) rfl)))
  obtain ⟨T347, h347, X347, e347, W347, st347⟩ := putF X324 hx hZ hown (host := "") (Or.inl (hw _ (List.mem_of_getElem? (i := 88) rfl))) Via.refl e324 Fu346 f325.exa (Or.inl (hw _ (List.mem_of_getElem? (i := 89) rfl))) (hw _ (List.mem_of_getElem? (i := 5) rfl)) (ty := (.array .char)) (by decide) rfl rfl (g := (mkF m 80 #[.val (.ref a1), .val (.int (16 : Int32))] [(.ref b324), (.ref a1)])) rfl rfl (hb hby d6_80)
  have f348 := f325.wr W347
  have f349 := f326.other W347 (Or.inr (slot_ne (Or.inl (hw _ (List.mem_of_getElem? (i := 106) rfl))) (Or.inl (hw _ (List.mem_of_getElem? (i := 89) rfl))) (by decide) (t := .int) (t' := (.array .char)) (by decide) (by decide)))
  have f350 := f327.other W347 (Or.inr (slot_ne (Or.inl (hw _ (List.mem_of_getElem? (i := 124) rfl))) (Or.inl (hw _ (List.mem_of_getElem? (i := 89) rfl))) (by decide) (t := .int) (t' := (.array .char)) (by decide) (by decide)))
  have f351 := f328.other W347 (Or.inr (slot_ne (Or.inl (hw _ (List.mem_of_getElem? (i := 117) rfl))) (Or.inl (hw _ (List.mem_of_getElem? (i := 89) rfl))) (by decide) (t := .int) (t' := (.array .char)) (by decide) (by decide)))
  have f352 := f329.other W347 (own_ne (by omega))
  have f353 := f330.other W347 (Or.inr (slot_ne (Or.inl (hw _ (List.mem_of_getElem? (i := 61) rfl))) (Or.inl (hw _ (List.mem_of_getElem? (i := 89) rfl))) (by decide) (t := (.array .byte)) (t' := (.array .char)) (by decide) (by decide)))
  have f354 := f331.other W347 (own_ne (by omega))
  have f355 := f332.other W347 (Or.inr (slot_ne (Or.inl (hw _ (List.mem_of_getElem? (i := 64) rfl))) (Or.inl (hw _ (List.mem_of_getElem? (i := 89) rfl))) (by decide) (t := (.array .int)) (t' := (.array .char)) (by decide) (by decide)))
  have f356 := f333.other W347 (own_ne (by omega))
  have f357 := f334.other W347 (Or.inr (slot_ne (Or.inl (hw _ (List.mem_of_getElem? (i := 66) rfl))) (Or.inl (hw _ (List.mem_of_getElem? (i := 89) rfl))) (by decide) (t := (.array .int)) (t' := (.array .char)) (by decide) (by decide)))
  have f358 := f335.other W347 (own_ne (by omega))
  have f359 := f336.wr W347
  have f360 := f337.other W347 (Or.inr (slot_ne (Or.inl (hw _ (List.mem_of_getElem? (i := 70) rfl))) (Or.inl (hw _ (List.mem_of_getElem? (i := 89) rfl))) (by decide) (t := (.array (.object "com/example/infoset/infoset/xdm/QName"))) (t' := (.array .char)) (by decide) (by decide)))
  have f361 := f338.other W347 (own_ne (by omega))
  have f362 := f339.wr W347
  have f363 := f340.other W347 (Or.inr (slot_ne (Or.inl (hw _ (List.mem_of_getElem? (i := 74) rfl))) (Or.inl (hw _ (List.mem_of_getElem? (i := 89) rfl))) (by decide) (t := (.array (.object "java/lang/String"))) (t' := (.array .char)) (by decide) (by decide)))
  have f364 := f341.other W347 (own_ne (by omega))
  have f365 := f342.wr W347
  have f366 := f343.other W347 (Or.inr (slot_ne (Or.inl (hw _ (List.mem_of_getElem? (i := 78) rfl))) (Or.inl (hw _ (List.mem_of_getElem? (i := 89) rfl))) (by decide) (t := (.array (.object "com/example/infoset/infoset/xdm/NamespaceBindings"))) (t' := (.array .char)) (by decide) (by decide)))
  have f367 := f344.other W347 (own_ne (by omega))
  have f368 := f345.other W347 (Or.inr (slot_ne (Or.inl (hw _ (List.mem_of_getElem? (i := 80) rfl))) (Or.inl (hw _ (List.mem_of_getElem? (i := 89) rfl))) (by decide) (t := (.array .int)) (t' := (.array .char)) (by decide) (by decide)))
  have f369 := A324.other W347 (own_ne (by omega))
  have z347 : n0 ≤ h347.size := Nat.le_trans z324 (Nat.le_of_eq W347.size.symm)
  have N347 := Fr.snoc X347 N300 ga1
  have K347 := K324.wr W347 (Or.inl (List.mem_of_getElem? (i := 0) rfl))
  have f347 := Fu346.same W347
  refine own_via (T' := T347) (g' := (mkF m 83 #[.val (.ref a1), .val (.int (16 : Int32))] [])) (fun _ kt => st347 _ kt) ?_
  refine own_via (T' := T347) (g' := (mkF m 84 #[.val (.ref a1), .val (.int (16 : Int32))] [(.ref a1)])) (fun _ kt => XS.aloadN X347.here hx rfl (hb hby d6_83) rfl rfl kt) ?_
  refine own_via (T' := T347) (g' := (mkF m 86 #[.val (.ref a1), .val (.int (16 : Int32))] [(.int (16 : Int32)), (.ref a1)])) (fun _ kt => XS.bipush X347.here hx rfl (hb hby d6_84) kt) ?_
  obtain ⟨T370, h370, b370, gb370, X370, e370, E370, A370, st370⟩ := own_newarr X347 hx hZ (hw _ (List.mem_of_getElem? (i := 62) rfl)) e347 (g := (mkF m 86 #[.val (.ref a1), .val (.int (16 : Int32))] [(.int (16 : Int32)), (.ref a1)])) rfl (hb hby d6_86) (j := (16 : Int32)) (n := 16) rfl (by decide) rfl (by decide) (by decide)
  have lt_a1_b370 : @LT.lt Nat _ a1 b370 := Nat.lt_of_lt_of_le f348.lt (Nat.le_of_eq gb370.symm)
  have lt_b1_b370 : @LT.lt Nat _ b1 b370 := Nat.lt_of_lt_of_le f352.lt (Nat.le_of_eq gb370.symm)
  have lt_b13_b370 : @LT.lt Nat _ b13 b370 := Nat.lt_of_lt_of_le f354.lt (Nat.le_of_eq gb370.symm)
  have lt_b29_b370 : @LT.lt Nat _ b29 b370 := Nat.lt_of_lt_of_le f356.lt (Nat.le_of_eq gb370.symm)
  have lt_b49_b370 : @LT.lt Nat _ b49 b370 := Nat.lt_of_lt_of_le f358.lt (Nat.le_of_eq gb370.symm)
  have lt_b74_b370 : @LT.lt Nat _ b74 b370 := Nat.lt_of_lt_of_le f361.lt (Nat.le_of_eq gb370.symm)
  have lt_b105_b370 : @LT.lt Nat _ b105 b370 := Nat.lt_of_lt_of_le f364.lt (Nat.le_of_eq gb370.symm)
  have lt_b142_b370 : @LT.lt Nat _ b142 b370 := Nat.lt_of_lt_of_le f367.lt (Nat.le_of_eq gb370.symm)
  have gg370 : n0 ≤ b370 := Nat.le_trans z347 (Nat.le_of_eq gb370.symm)
  have kz370 : h0.size ≤ b370 := Nat.le_trans K347.1 (Nat.le_of_eq gb370.symm)
  have f371 := f348.ext E370
  have f372 := f349.ext E370
  have f373 := f350.ext E370
  have f374 := f351.ext E370
  have f375 := f352.ext E370
  have f376 := f353.ext E370
  have f377 := f354.ext E370
  have f378 := f355.ext E370
  have f379 := f356.ext E370
  have f380 := f357.ext E370
  have f381 := f358.ext E370
  have f382 := f359.ext E370
  have f383 := f360.ext E370
  have f384 := f361.ext E370
  have f385 := f362.ext E370
  have f386 := f363.ext E370
  have f387 := f364.ext E370
  have f388 := f365.ext E370
  have f389 := f366.ext E370
  have f390 := f367.ext E370
  have f391 := f368.ext E370
  have z370 : n0 ≤ h370.size := Nat.le_trans z347 E370.1
  have K370 := K347.ext E370
  replace A370 : own_Ar Z h370 b370 .int 16 (fun _ => .int 0) := A370
  refine own_via (T' := T370) (g' := (mkF m 88 #[.val (.ref a1), .val (.int (16 : Int32))] [(.ref b370), (.ref a1)])) (fun _ kt => st370 _ kt) ?_
  obtain ⟨u392, Fu392⟩ := f371.fld (hw _ (List.mem_of_getElem? (i := 5) rfl)) (Or.inl (hw _ (List.mem_of_getElem? (i := 91) rfl)))
  obtain ⟨T393, h393, X393, e393, W393, st393⟩ := putF X370 hx hZ hown (host := "") (Or.inl (hw _ (List.mem_of_getElem? (i := 90) rfl))) Via.refl e370 Fu392 f371.exa (Or.inl (hw _ (List.mem_of_getElem? (i := 91) rfl))) (hw _ (List.mem_of_getElem? (i := 5) rfl)) (ty := (.array .int)) (by decide) rfl rfl (g := (mkF m 88 #[.val (.ref a1), .val (.int (16 : Int32))] [(.ref b370), (.ref a1)])) rfl rfl (hb hby d6_88)
  have f394 := f371.wr W393
  have f395 := f372.other W393 (Or.inr (slot_ne (Or.inl (hw _ (List.mem_of_getElem? (i := 106) rfl))) (Or.inl (hw _ (List.mem_of_getElem? (i := 91) rfl))) (by decide) (t := .int) (t' := (.array .int)) (by decide) (by decide)))
  have f396 := f373.other W393 (Or.inr (slot_ne (Or.inl (hw _ (List.mem_of_getElem? (i := 124) rfl))) (Or.inl (hw _ (List.mem_of_getElem? (i := 91) rfl))) (by decide) (t := .int) (t' := (.array .int)) (by decide) (by decide)))
  have f397 := f374.other W393 (Or.inr (slot_ne (Or.inl (hw _ (List.mem_of_getElem? (i := 117) rfl))) (Or.inl (hw _ (List.mem_of_getElem? (i := 91) rfl))) (by decide) (t := .int) (t' := (.array .int)) (by decide) (by decide)))
  have f398 := f375.other W393 (own_ne (by omega))
  have f399 := f376.other W393 (Or.inr (slot_ne (Or.inl (hw _ (List.mem_of_getElem? (i := 61) rfl))) (Or.inl (hw _ (List.mem_of_getElem? (i := 91) rfl))) (by decide) (t := (.array .byte)) (t' := (.array .int)) (by decide) (by decide)))
  have f400 := f377.other W393 (own_ne (by omega))
  have f401 := f378.other W393 (Or.inr (slot_ne (Or.inl (hw _ (List.mem_of_getElem? (i := 64) rfl))) (Or.inl (hw _ (List.mem_of_getElem? (i := 91) rfl))) (by decide) (t := (.array .int)) (t' := (.array .int)) (by decide) (by decide)))
  have f402 := f379.other W393 (own_ne (by omega))
  have f403 := f380.other W393 (Or.inr (slot_ne (Or.inl (hw _ (List.mem_of_getElem? (i := 66) rfl))) (Or.inl (hw _ (List.mem_of_getElem? (i := 91) rfl))) (by decide) (t := (.array .int)) (t' := (.array .int)) (by decide) (by decide)))
  have f404 := f381.other W393 (own_ne (by omega))
  have f405 := f382.wr W393
  have f406 := f383.other W393 (Or.inr (slot_ne (Or.inl (hw _ (List.mem_of_getElem? (i := 70) rfl))) (Or.inl (hw _ (List.mem_of_getElem? (i := 91) rfl))) (by decide) (t := (.array (.object "com/example/infoset/infoset/xdm/QName"))) (t' := (.array .int)) (by decide) (by decide)))
  have f407 := f384.other W393 (own_ne (by omega))
  have f408 := f385.wr W393
  have f409 := f386.other W393 (Or.inr (slot_ne (Or.inl (hw _ (List.mem_of_getElem? (i := 74) rfl))) (Or.inl (hw _ (List.mem_of_getElem? (i := 91) rfl))) (by decide) (t := (.array (.object "java/lang/String"))) (t' := (.array .int)) (by decide) (by decide)))
  have f410 := f387.other W393 (own_ne (by omega))
  have f411 := f388.wr W393
  have f412 := f389.other W393 (Or.inr (slot_ne (Or.inl (hw _ (List.mem_of_getElem? (i := 78) rfl))) (Or.inl (hw _ (List.mem_of_getElem? (i := 91) rfl))) (by decide) (t := (.array (.object "com/example/infoset/infoset/xdm/NamespaceBindings"))) (t' := (.array .int)) (by decide) (by decide)))
  have f413 := f390.other W393 (own_ne (by omega))
  have f414 := f391.other W393 (Or.inr (slot_ne (Or.inl (hw _ (List.mem_of_getElem? (i := 80) rfl))) (Or.inl (hw _ (List.mem_of_getElem? (i := 91) rfl))) (by decide) (t := (.array .int)) (t' := (.array .int)) (by decide) (by decide)))
  have f415 := A370.other W393 (own_ne (by omega))
  have z393 : n0 ≤ h393.size := Nat.le_trans z370 (Nat.le_of_eq W393.size.symm)
  have N393 := Fr.snoc X393 N347 ga1
  have K393 := K370.wr W393 (Or.inl (List.mem_of_getElem? (i := 0) rfl))
  have f393 := Fu392.same W393
  refine own_via (T' := T393) (g' := (mkF m 91 #[.val (.ref a1), .val (.int (16 : Int32))] [])) (fun _ kt => st393 _ kt) ?_
  refine own_via (T' := T393) (g' := (mkF m 92 #[.val (.ref a1), .val (.int (16 : Int32))] [(.ref a1)])) (fun _ kt => XS.aloadN X393.here hx rfl (hb hby d6_91) rfl rfl kt) ?_
  refine own_via (T' := T393) (g' := (mkF m 94 #[.val (.ref a1), .val (.int (16 : Int32))] [(.int (16 : Int32)), (.ref a1)])) (fun _ kt => XS.bipush X393.here hx rfl (hb hby d6_92) kt) ?_
  obtain ⟨T416, h416, b416, gb416, X416, e416, E416, A416, O416, st416⟩ := own_newref X393 hx hZ hown (hw _ (List.mem_of_getElem? (i := 75) rfl)) (hw _ (List.mem_of_getElem? (i := 76) rfl)) e393 (g := (mkF m 94 #[.val (.ref a1), .val (.int (16 : Int32))] [(.int (16 : Int32)), (.ref a1)])) rfl (hb hby d6_94) (j := (16 : Int32)) (n := 16) rfl (by decide) rfl (by decide) (by decide)
  have lt_a1_b416 : @LT.lt Nat _ a1 b416 := Nat.lt_of_lt_of_le f394.lt (Nat.le_of_eq gb416.symm)
  have lt_b1_b416 : @LT.lt Nat _ b1 b416 := Nat.lt_of_lt_of_le f398.lt (Nat.le_of_eq gb416.symm)
  have lt_b13_b416 : @LT.lt Nat _ b13 b416 := Nat.lt_of_lt_of_le f400.lt (Nat.le_of_eq gb416.symm)
  have lt_b29_b416 : @LT.lt Nat _ b29 b416 := Nat.lt_of_lt_of_le f402.lt (Nat.le_of_eq gb416.symm)
  have lt_b49_b416 : @LT.lt Nat _ b49 b416 := Nat.lt_of_lt_of_le f404.lt (Nat.le_of_eq gb416.symm)
  have lt_b74_b416 : @LT.lt Nat _ b74 b416 := Nat.lt_of_lt_of_le f407.lt (Nat.le_of_eq gb416.symm)
  have lt_b105_b416 : @LT.lt Nat _ b105 b416 := Nat.lt_of_lt_of_le f410.lt (Nat.le_of_eq gb416.symm)
  have lt_b142_b416 : @LT.lt Nat _ b142 b416 := Nat.lt_of_lt_of_le f413.lt (Nat.le_of_eq gb416.symm)
  have lt_b370_b416 : @LT.lt Nat _ b370 b416 := Nat.lt_of_lt_of_le f415.lt (Nat.le_of_eq gb416.symm)
  have gg416 : n0 ≤ b416 := Nat.le_trans z393 (Nat.le_of_eq gb416.symm)
  have kz416 : h0.size ≤ b416 := Nat.le_trans K393.1 (Nat.le_of_eq gb416.symm)
  have f417 := f394.ext E416
  have f418 := f395.ext E416
  have f419 := f396.ext E416
  have f420 := f397.ext E416
  have f421 := f398.ext E416
  have f422 := f399.ext E416
  have f423 := f400.ext E416
  have f424 := f401.ext E416
  have f425 := f402.ext E416
  have f426 := f403.ext E416
  have f427 := f404.ext E416
  have f428 := f405.ext E416
  have f429 := f406.ext E416
  have f430 := f407.ext E416
  have f431 := f408.ext E416
  have f432 := f409.ext E416
  have f433 := f410.ext E416
  have f434 := f411.ext E416
  have f435 := f412.ext E416
  have f436 := f413.ext E416
  have f437 := f414.ext E416
  have f438 := f415.ext E416
  have f439 := f393.ext E416
  have z416 : n0 ≤ h416.size := Nat.le_trans z393 E416.1
  have K416 := K393.ext E416
  refine own_via (T' := T416) (g' := (mkF m 97 #[.val (.ref a1), .val (.int (16 : Int32))] [(.ref b416), (.ref a1)])) (fun _ kt => st416 _ kt) ?_
  obtain ⟨u440, Fu440⟩ := f417.fld (hw _ (List.mem_of_getElem? (i := 5) rfl)) (Or.inl (hw _ (List.mem_of_getElem? (i := 93) rfl)))
  obtain ⟨T441, h441, X441, e441, W441, st441⟩ := putF X416 hx hZ hown (host := "") (Or.inl (hw _ (List.mem_of_getElem? (i := 92) rfl))) Via.refl e416 Fu440 f417.exa (Or.inl (hw _ (List.mem_of_getElem? (i := 93) rfl))) (hw _ (List.mem_of_getElem? (i := 5) rfl)) (ty := (.array (.object "com/example/infoset/infoset/xdm/NamespaceBindings"))) (by decide) rfl rfl (g := (mkF m 97 #[.val (.ref a1), .val (.int (16 : Int32))] [(.ref b416), (.ref a1)])) rfl rfl (hb hby d6_97)
  have f442 := f417.wr W441
  have f443 := f418.other W441 (Or.inr (slot_ne (Or.inl (hw _ (List.mem_of_getElem? (i := 106) rfl))) (Or.inl (hw _ (List.mem_of_getElem? (i := 93) rfl))) (by decide) (t := .int) (t' := (.array (.object "com/example/infoset/infoset/xdm/NamespaceBindings"))) (by decide) (by decide)))
  have f444 := f419.other W441 (Or.inr (slot_ne (Or.inl (hw _ (List.mem_of_getElem? (i := 124) rfl))) (Or.inl (hw _ (List.mem_of_getElem? (i := 93) rfl))) (by decide) (t := .int) (t' := (.array (.object "com/example/infoset/infoset/xdm/NamespaceBindings"))) (by decide) (by decide)))
  have f445 := f420.other W441 (Or.inr (slot_ne (Or.inl (hw _ (List.mem_of_getElem? (i := 117) rfl))) (Or.inl (hw _ (List.mem_of_getElem? (i := 93) rfl))) (by decide) (t := .int) (t' := (.array (.object "com/example/infoset/infoset/xdm/NamespaceBindings"))) (by decide) (by decide)))
  have f446 := f421.other W441 (own_ne (by omega))
  have f447 := f422.other W441 (Or.inr (slot_ne (Or.inl (hw _ (List.mem_of_getElem? (i := 61) rfl))) (Or.inl (hw _ (List.mem_of_getElem? (i := 93) rfl))) (by decide) (t := (.array .byte)) (t' := (.array (.object "com/example/infoset/infoset/xdm/NamespaceBindings"))) (by decide) (by decide)))
  have f448 := f423.other W441 (own_ne (by omega))
  have f449 := f424.other W441 (Or.inr (slot_ne (Or.inl (hw _ (List.mem_of_getElem? (i := 64) rfl))) (Or.inl (hw _ (List.mem_of_getElem? (i := 93) rfl))) (by decide) (t := (.array .int)) (t' := (.array (.object "com/example/infoset/infoset/xdm/NamespaceBindings"))) (by decide) (by decide)))
  have f450 := f425.other W441 (own_ne (by omega))
  have f451 := f426.other W441 (Or.inr (slot_ne (Or.inl (hw _ (List.mem_of_getElem? (i := 66) rfl))) (Or.inl (hw _ (List.mem_of_getElem? (i := 93) rfl))) (by decide) (t := (.array .int)) (t' := (.array (.object "com/example/infoset/infoset/xdm/NamespaceBindings"))) (by decide) (by decide)))
  have f452 := f427.other W441 (own_ne (by omega))
  have f453 := f428.wr W441
  have f454 := f429.other W441 (Or.inr (slot_ne (Or.inl (hw _ (List.mem_of_getElem? (i := 70) rfl))) (Or.inl (hw _ (List.mem_of_getElem? (i := 93) rfl))) (by decide) (t := (.array (.object "com/example/infoset/infoset/xdm/QName"))) (t' := (.array (.object "com/example/infoset/infoset/xdm/NamespaceBindings"))) (by decide) (by decide)))
  have f455 := f430.other W441 (own_ne (by omega))
  have f456 := f431.wr W441
  have f457 := f432.other W441 (Or.inr (slot_ne (Or.inl (hw _ (List.mem_of_getElem? (i := 74) rfl))) (Or.inl (hw _ (List.mem_of_getElem? (i := 93) rfl))) (by decide) (t := (.array (.object "java/lang/String"))) (t' := (.array (.object "com/example/infoset/infoset/xdm/NamespaceBindings"))) (by decide) (by decide)))
  have f458 := f433.other W441 (own_ne (by omega))
  have f459 := f434.wr W441
  have f460 := f435.other W441 (Or.inr (slot_ne (Or.inl (hw _ (List.mem_of_getElem? (i := 78) rfl))) (Or.inl (hw _ (List.mem_of_getElem? (i := 93) rfl))) (by decide) (t := (.array (.object "com/example/infoset/infoset/xdm/NamespaceBindings"))) (t' := (.array (.object "com/example/infoset/infoset/xdm/NamespaceBindings"))) (by decide) (by decide)))
  have f461 := f436.other W441 (own_ne (by omega))
  have f462 := f437.other W441 (Or.inr (slot_ne (Or.inl (hw _ (List.mem_of_getElem? (i := 80) rfl))) (Or.inl (hw _ (List.mem_of_getElem? (i := 93) rfl))) (by decide) (t := (.array .int)) (t' := (.array (.object "com/example/infoset/infoset/xdm/NamespaceBindings"))) (by decide) (by decide)))
  have f463 := f438.other W441 (own_ne (by omega))
  have f464 := f439.other W441 (Or.inr (slot_ne (Or.inl (hw _ (List.mem_of_getElem? (i := 91) rfl))) (Or.inl (hw _ (List.mem_of_getElem? (i := 93) rfl))) (by decide) (t := (.array .int)) (t' := (.array (.object "com/example/infoset/infoset/xdm/NamespaceBindings"))) (by decide) (by decide)))
  have f465 := A416.other W441 (own_ne (by omega))
  have f466 := O416.wr W441
  have z441 : n0 ≤ h441.size := Nat.le_trans z416 (Nat.le_of_eq W441.size.symm)
  have N441 := Fr.snoc X441 N393 ga1
  have K441 := K416.wr W441 (Or.inl (List.mem_of_getElem? (i := 0) rfl))
  have f441 := Fu440.same W441
  refine own_via (T' := T441) (g' := (mkF m 100 #[.val (.ref a1), .val (.int (16 : Int32))] [])) (fun _ kt => st441 _ kt) ?_
  refine own_via (T' := T441) (g' := (mkF m 101 #[.val (.ref a1), .val (.int (16 : Int32))] [(.ref a1)])) (fun _ kt => XS.aloadN X441.here hx rfl (hb hby d6_100) rfl rfl kt) ?_
  refine own_via (T' := T441) (g' := (mkF m 103 #[.val (.ref a1), .val (.int (16 : Int32))] [(.int (16 : Int32)), (.ref a1)])) (fun _ kt => XS.bipush X441.here hx rfl (hb hby d6_101) kt) ?_
  obtain ⟨T467, h467, b467, gb467, X467, e467, E467, A467, st467⟩ := own_newarr X441 hx hZ (hw _ (List.mem_of_getElem? (i := 94) rfl)) e441 (g := (mkF m 103 #[.val (.ref a1), .val (.int (16 : Int32))] [(.int (16 : Int32)), (.ref a1)])) rfl (hb hby d6_103) (j := (16 : Int32)) (n := 16) rfl (by decide) rfl (by decide) (by decide)
  have lt_a1_b467 : @LT.lt Nat _ a1 b467 := Nat.lt_of_lt_of_le f442.lt (Nat.le_of_eq gb467.symm)
  have lt_b1_b467 : @LT.lt Nat _ b1 b467 := Nat.lt_of_lt_of_le f446.lt (Nat.le_of_eq gb467.symm)
  have lt_b13_b467 : @LT.lt Nat _ b13 b467 := Nat.lt_of_lt_of_le f448.lt (Nat.le_of_eq gb467.symm)
  have lt_b29_b467 : @LT.lt Nat _ b29 b467 := Nat.lt_of_lt_of_le f450.lt (Nat.le_of_eq gb467.symm)
  have lt_b49_b467 : @LT.lt Nat _ b49 b467 := Nat.lt_of_lt_of_le f452.lt (Nat.le_of_eq gb467.symm)
  have lt_b74_b467 : @LT.lt Nat _ b74 b467 := Nat.lt_of_lt_of_le f455.lt (Nat.le_of_eq gb467.symm)
  have lt_b105_b467 : @LT.lt Nat _ b105 b467 := Nat.lt_of_lt_of_le f458.lt (Nat.le_of_eq gb467.symm)
  have lt_b142_b467 : @LT.lt Nat _ b142 b467 := Nat.lt_of_lt_of_le f461.lt (Nat.le_of_eq gb467.symm)
  have lt_b370_b467 : @LT.lt Nat _ b370 b467 := Nat.lt_of_lt_of_le f463.lt (Nat.le_of_eq gb467.symm)
  have lt_b416_b467 : @LT.lt Nat _ b416 b467 := Nat.lt_of_lt_of_le f465.lt (Nat.le_of_eq gb467.symm)
  have gg467 : n0 ≤ b467 := Nat.le_trans z441 (Nat.le_of_eq gb467.symm)
  have kz467 : h0.size ≤ b467 := Nat.le_trans K441.1 (Nat.le_of_eq gb467.symm)
  have f468 := f442.ext E467
  have f469 := f443.ext E467
  have f470 := f444.ext E467
  have f471 := f445.ext E467
  have f472 := f446.ext E467
  have f473 := f447.ext E467
  have f474 := f448.ext E467
  have f475 := f449.ext E467
  have f476 := f450.ext E467
  have f477 := f451.ext E467
  have f478 := f452.ext E467
  have f479 := f453.ext E467
  have f480 := f454.ext E467
  have f481 := f455.ext E467
  have f482 := f456.ext E467
  have f483 := f457.ext E467
  have f484 := f458.ext E467
  have f485 := f459.ext E467
  have f486 := f460.ext E467
  have f487 := f461.ext E467
  have f488 := f462.ext E467
  have f489 := f463.ext E467
  have f490 := f464.ext E467
  have f491 := f465.ext E467
  have f492 := f466.ext E467
  have f493 := f441.ext E467
  have z467 : n0 ≤ h467.size := Nat.le_trans z441 E467.1
  have K467 := K441.ext E467
  replace A467 : own_Ar Z h467 b467 .boolean 16 (fun _ => .int 0) := A467
  refine own_via (T' := T467) (g' := (mkF m 105 #[.val (.ref a1), .val (.int (16 : Int32))] [(.ref b467), (.ref a1)])) (fun _ kt => st467 _ kt) ?_
  obtain ⟨u494, Fu494⟩ := f468.fld (hw _ (List.mem_of_getElem? (i := 5) rfl)) (Or.inl (hw _ (List.mem_of_getElem? (i := 96) rfl)))
  obtain ⟨T495, h495, X495, e495, W495, st495⟩ := putF X467 hx hZ hown (host := "") (Or.inl (hw _ (List.mem_of_getElem? (i := 95) rfl))) Via.refl e467 Fu494 f468.exa (Or.inl (hw _ (List.mem_of_getElem? (i := 96) rfl))) (hw _ (List.mem_of_getElem? (i := 5) rfl)) (ty := (.array .boolean)) (by decide) rfl rfl (g := (mkF m 105 #[.val (.ref a1), .val (.int (16 : Int32))] [(.ref b467), (.ref a1)])) rfl rfl (hb hby d6_105)
  have f496 := f468.wr W495
  have f497 := f469.other W495 (Or.inr (slot_ne (Or.inl (hw _ (List.mem_of_getElem? (i := 106) rfl))) (Or.inl (hw _ (List.mem_of_getElem? (i := 96) rfl))) (by decide) (t := .int) (t' := (.array .boolean)) (by decide) (by decide)))
  have f498 := f470.other W495 (Or.inr (slot_ne (Or.inl (hw _ (List.mem_of_getElem? (i := 124) rfl))) (Or.inl (hw _ (List.mem_of_getElem? (i := 96) rfl))) (by decide) (t := .int) (t' := (.array .boolean)) (by decide) (by decide)))
  have f499 := f471.other W495 (Or.inr (slot_ne (Or.inl (hw _ (List.mem_of_getElem? (i := 117) rfl))) (Or.inl (hw _ (List.mem_of_getElem? (i := 96) rfl))) (by decide) (t := .int) (t' := (.array .boolean)) (by decide) (by decide)))
  have f500 := f472.other W495 (own_ne (by omega))
  have f501 := f473.other W495 (Or.inr (slot_ne (Or.inl (hw _ (List.mem_of_getElem? (i := 61) rfl))) (Or.inl (hw _ (List.mem_of_getElem? (i := 96) rfl))) (by decide) (t := (.array .byte)) (t' := (.array .boolean)) (by decide) (by decide)))
  have f502 := f474.other W495 (own_ne (by omega))
  have f503 := f475.other W495 (Or.inr (slot_ne (Or.inl (hw _ (List.mem_of_getElem? (i := 64) rfl))) (Or.inl (hw _ (List.mem_of_getElem? (i := 96) rfl))) (by decide) (t := (.array .int)) (t' := (.array .boolean)) (by decide) (by decide)))
  have f504 := f476.other W495 (own_ne (by omega))
  have f505 := f477.other W495 (Or.inr (slot_ne (Or.inl (hw _ (List.mem_of_getElem? (i := 66) rfl))) (Or.inl (hw _ (List.mem_of_getElem? (i := 96) rfl))) (by decide) (t := (.array .int)) (t' := (.array .boolean)) (by decide) (by decide)))
  have f506 := f478.other W495 (own_ne (by omega))
  have f507 := f479.wr W495
  have f508 := f480.other W495 (Or.inr (slot_ne (Or.inl (hw _ (List.mem_of_getElem? (i := 70) rfl))) (Or.inl (hw _ (List.mem_of_getElem? (i := 96) rfl))) (by decide) (t := (.array (.object "com/example/infoset/infoset/xdm/QName"))) (t' := (.array .boolean)) (by decide) (by decide)))
  have f509 := f481.other W495 (own_ne (by omega))
  have f510 := f482.wr W495
  have f511 := f483.other W495 (Or.inr (slot_ne (Or.inl (hw _ (List.mem_of_getElem? (i := 74) rfl))) (Or.inl (hw _ (List.mem_of_getElem? (i := 96) rfl))) (by decide) (t := (.array (.object "java/lang/String"))) (t' := (.array .boolean)) (by decide) (by decide)))
  have f512 := f484.other W495 (own_ne (by omega))
  have f513 := f485.wr W495
  have f514 := f486.other W495 (Or.inr (slot_ne (Or.inl (hw _ (List.mem_of_getElem? (i := 78) rfl))) (Or.inl (hw _ (List.mem_of_getElem? (i := 96) rfl))) (by decide) (t := (.array (.object "com/example/infoset/infoset/xdm/NamespaceBindings"))) (t' := (.array .boolean)) (by decide) (by decide)))
  have f515 := f487.other W495 (own_ne (by omega))
  have f516 := f488.other W495 (Or.inr (slot_ne (Or.inl (hw _ (List.mem_of_getElem? (i := 80) rfl))) (Or.inl (hw _ (List.mem_of_getElem? (i := 96) rfl))) (by decide) (t := (.array .int)) (t' := (.array .boolean)) (by decide) (by decide)))
  have f517 := f489.other W495 (own_ne (by omega))
  have f518 := f490.other W495 (Or.inr (slot_ne (Or.inl (hw _ (List.mem_of_getElem? (i := 91) rfl))) (Or.inl (hw _ (List.mem_of_getElem? (i := 96) rfl))) (by decide) (t := (.array .int)) (t' := (.array .boolean)) (by decide) (by decide)))
  have f519 := f491.other W495 (own_ne (by omega))
  have f520 := f492.wr W495
  have f521 := f493.other W495 (Or.inr (slot_ne (Or.inl (hw _ (List.mem_of_getElem? (i := 93) rfl))) (Or.inl (hw _ (List.mem_of_getElem? (i := 96) rfl))) (by decide) (t := (.array (.object "com/example/infoset/infoset/xdm/NamespaceBindings"))) (t' := (.array .boolean)) (by decide) (by decide)))
  have f522 := A467.other W495 (own_ne (by omega))
  have z495 : n0 ≤ h495.size := Nat.le_trans z467 (Nat.le_of_eq W495.size.symm)
  have N495 := Fr.snoc X495 N441 ga1
  have K495 := K467.wr W495 (Or.inl (List.mem_of_getElem? (i := 0) rfl))
  have f495 := Fu494.same W495
  refine own_via (T' := T495) (g' := (mkF m 108 #[.val (.ref a1), .val (.int (16 : Int32))] [])) (fun _ kt => st495 _ kt) ?_
  exact own_retV X495 hx hret hlk (hb hby d6_108) (by rw [e495]; exact ⟨b1, b13, b29, b49, b74, b105, b142, b370, b416, b467, kz1, rfl, N495, K495, ⟨f496, f497, f498, f499, f501, f503, f505, f508, f511, f514, f516, f518, f521, f495, ⟨_, f500⟩, ⟨_, f502⟩, f504, ⟨_, f506⟩, ⟨_, f509⟩, ⟨_, f512⟩, ⟨_, f515⟩, f517, f519, ⟨_, f522⟩, f520, by omega, by omega, by omega, by omega, by omega, by omega, by omega, by omega, by omega, by omega⟩⟩) (by decide) (by decide)
theorem d2_0 : decode prog_267_method_3_code 0 = .ok (.aload_n 0, 1) := by decide +kernel
theorem d2_1 : decode prog_267_method_3_code 1 = .ok (.invokespecial 15, 3) := by decide +kernel
theorem d2_4 : decode prog_267_method_3_code 4 = .ok (.aload_n 0, 1) := by decide +kernel
theorem d2_5 : decode prog_267_method_3_code 5 = .ok (.new 18, 3) := by decide +kernel
theorem d2_8 : decode prog_267_method_3_code 8 = .ok (.dup, 1) := by decide +kernel
theorem d2_9 : decode prog_267_method_3_code 9 = .ok (.aload_n 0, 1) := by decide +kernel
theorem d2_10 : decode prog_267_method_3_code 10 = .ok (.invokespecial 20, 3) := by decide +kernel
theorem d2_13 : decode prog_267_method_3_code 13 = .ok (.putfield 23, 3) := by decide +kernel
theorem d2_16 : decode prog_267_method_3_code 16 = .ok (.aload_n 0, 1) := by decide +kernel
theorem d2_17 : decode prog_267_method_3_code 17 = .ok (.iload_n 1, 1) := by decide +kernel
theorem d2_18 : decode prog_267_method_3_code 18 = .ok (.putfield 27, 3) := by decide +kernel
theorem d2_21 : decode prog_267_method_3_code 21 = .ok (.aload_n 0, 1) := by decide +kernel
theorem d2_22 : decode prog_267_method_3_code 22 = .ok (.iload_n 2, 1) := by decide +kernel
theorem d2_23 : decode prog_267_method_3_code 23 = .ok (.putfield 31, 3) := by decide +kernel
theorem d2_26 : decode prog_267_method_3_code 26 = .ok (.aload_n 0, 1) := by decide +kernel
theorem d2_27 : decode prog_267_method_3_code 27 = .ok (.aload_n 3, 1) := by decide +kernel
theorem d2_28 : decode prog_267_method_3_code 28 = .ok (.putfield 34, 3) := by decide +kernel
theorem d2_31 : decode prog_267_method_3_code 31 = .ok (.aload_n 0, 1) := by decide +kernel
theorem d2_32 : decode prog_267_method_3_code 32 = .ok (.aload 4, 2) := by decide +kernel
theorem d2_34 : decode prog_267_method_3_code 34 = .ok (.putfield 38, 3) := by decide +kernel
theorem d2_37 : decode prog_267_method_3_code 37 = .ok (.aload_n 0, 1) := by decide +kernel
theorem d2_38 : decode prog_267_method_3_code 38 = .ok (.iload_n 1, 1) := by decide +kernel
theorem d2_39 : decode prog_267_method_3_code 39 = .ok (.invokevirtual 42, 3) := by decide +kernel
theorem d2_42 : decode prog_267_method_3_code 42 = .ok (.return_, 1) := by decide +kernel
theorem pn_2 : plainName "com/example/infoset/infoset/xdm/TreeBuffers" = true := by first | (simp [plainName, overriddenIn]; done) | decide +kernel
theorem ef_2 (m : MethodId) (x0 : Addr) (x1 : Int32) (x2 : Int32) : entryFrame m #[(.ref x0), (.int x1), (.int x2), .null, .null] 5 = mkF m 0 #[.val (.ref x0), .val (.int x1), .val (.int x2), .val .null, .val .null] [] := by first | (simp [entryFrame, mkF, argsToLocals, Value.category]; done) | rfl
set_option maxRecDepth 65536 in
set_option maxHeartbeats 40000000 in
theorem rm2 (l : Launch) (Z : State) (a0 : Array Value) (hw : ∀ d ∈ tables_1, d.before a0 Z = true) (ws : List Jvm.Cond) (a1 : Addr) (h0 : Heap) (n0 : Nat) (Z0 : n0 ≤ h0.size) (ga1 : n0 ≤ a1) (Oa : own_Ob Z h0 a1 "com/example/infoset/infoset/xdm/TreeBuffers") (Fp1 : Fld Z h0 a1 "com/example/infoset/infoset/xdm/TreeBuffers" "size" "I" (.int (0 : Int32))) (Fp2 : Fld Z h0 a1 "com/example/infoset/infoset/xdm/TreeBuffers" "depth" "I" (.int (0 : Int32))) (Fp3 : Fld Z h0 a1 "com/example/infoset/infoset/xdm/TreeBuffers" "attributeCount" "I" (.int (0 : Int32))) (em px ux : Addr) (hem : @LT.lt Nat _ em n0) (S : Sta Z h0 "com/example/infoset/infoset/xdm/NamespaceBindings" "EMPTY" "Lcom/example/infoset/infoset/xdm/NamespaceBindings;" (.ref em)) (Pf : Fld Z h0 em "com/example/infoset/infoset/xdm/NamespaceBindings" "prefixes" "[Ljava/lang/String;" (.ref px)) (Uf : Fld Z h0 em "com/example/infoset/infoset/xdm/NamespaceBindings" "uris" "[Ljava/lang/String;" (.ref ux)) :
    own_Con l Z (⟨"com/example/infoset/infoset/xdm/TreeBuffers", "<init>", "(IILcom/example/infoset/infoset/xdm/SharedStrings;Lcom/example/infoset/infoset/xdm/ConstructedTrees;)V"⟩ : MethodName) prog_267_method_3_code 5 none ws ({ frames := 3, cells := 16, slots := 289, locals := 41 } : Room) #[(.ref a1), (.int 16), (.int 16384), .null, .null] h0 (fun v h L => ∃ kd pa en nm vl ns fa op og pr, h0.size ≤ kd ∧ v = none ∧ Fr n0 L ∧ Keep h0 h [a1] ∧ own_TB Z h a1 kd pa en nm vl ns fa op og pr 0 0 (fun _ => .int 0) (fun _ => .int 0) (fun _ => .null)) := by
  refine own_body (plainFor_of_name pn_2) ?_
  intro p e s m below meth c T0 hx hby hml hown hnm hret hlk hZ X0 e0
  replace hown : s.vm.findClass "com/example/infoset/infoset/xdm/TreeBuffers" = some m.cls := hown
  replace hret : meth.sig.returnType = none := hret
  replace hnm : meth.name = "<init>" := hnm
  rw [ef_2 m a1 16 16384]
  have N0 := Fr.nil n0
  have lt_a1 : @LT.lt Nat _ a1 h0.size := Oa.lt
  refine own_via (T' := T0) (g' := (mkF m 1 #[.val (.ref a1), .val (.int (16 : Int32)), .val (.int (16384 : Int32)), .val .null, .val .null] [(.ref a1)])) (fun _ kt => XS.aloadN X0.here hx rfl (hb hby d2_0) rfl rfl kt) ?_
  obtain ⟨T1, X1, e1, st1⟩ := initO X0 hx hZ hown (hw _ (List.mem_of_getElem? (i := 13) rfl)) (hw _ (List.mem_of_getElem? (i := 14) rfl)) (hw _ (List.mem_of_getElem? (i := 15) rfl)) e0 (g := (mkF m 1 #[.val (.ref a1), .val (.int (16 : Int32)), .val (.int (16384 : Int32)), .val .null, .val .null] [(.ref a1)])) rfl (by rw [hml]; rfl) rfl (hb hby d2_1) (by decide) (W := 0) (by show 2 * 0 + _ ≤ _; exact Nat.le_of_eq rfl) (by decide)
  refine own_via (T' := T1) (g' := (mkF m 4 #[.val (.ref a1), .val (.int (16 : Int32)), .val (.int (16384 : Int32)), .val .null, .val .null] [])) (fun _ kt => st1 _ kt) ?_
  refine own_via (T' := T1) (g' := (mkF m 5 #[.val (.ref a1), .val (.int (16 : Int32)), .val (.int (16384 : Int32)), .val .null, .val .null] [(.ref a1)])) (fun _ kt => XS.aloadN X1.here hx rfl (hb hby d2_4) rfl rfl kt) ?_
  obtain ⟨T2, h2, X2, e2, E2, A2, D2, M2, st2⟩ := newO X1 hx hZ hown (hw _ (List.mem_of_getElem? (i := 16) rfl)) (hw _ (List.mem_of_getElem? (i := 17) rfl)) (hw _ (List.mem_of_getElem? (i := 18) rfl)) e1 (g := (mkF m 5 #[.val (.ref a1), .val (.int (16 : Int32)), .val (.int (16384 : Int32)), .val .null, .val .null] [(.ref a1)])) rfl (hb hby d2_5) (by decide) (by decide)
  obtain ⟨b2, gb2⟩ : ∃ z, z = h0.size := ⟨_, rfl⟩
  rw [← gb2] at A2 D2 M2 st2
  have lt_a1_b2 : @LT.lt Nat _ a1 b2 := Nat.lt_of_lt_of_le Oa.lt (Nat.le_of_eq gb2.symm)
  have lt_em_b2 : @LT.lt Nat _ em b2 := Nat.lt_of_lt_of_le Pf.lt (Nat.le_of_eq gb2.symm)
  have gg2 : n0 ≤ b2 := Nat.le_trans Z0 (Nat.le_of_eq gb2.symm)
  have kz2 : h0.size ≤ b2 := Nat.le_trans (Keep.refl h0 [a1]).1 (Nat.le_of_eq gb2.symm)
  have f3 := Oa.ext E2
  have f4 := Fp1.ext E2
  have f5 := Fp2.ext E2
  have f6 := Fp3.ext E2
  have f7 := S.ext E2
  have f8 := Pf.ext E2
  have f9 := Uf.ext E2
  have z2 : n0 ≤ h2.size := Nat.le_trans Z0 E2.1
  have K2 := (Keep.refl h0 [a1]).ext E2
  have Ob2 := own_Ob.of A2 M2
  refine own_via (T' := T2) (g' := (mkF m 8 #[.val (.ref a1), .val (.int (16 : Int32)), .val (.int (16384 : Int32)), .val .null, .val .null] [(.ref b2), (.ref a1)])) (fun _ kt => st2 _ kt) ?_
  refine own_via (T' := T2) (g' := (mkF m 9 #[.val (.ref a1), .val (.int (16 : Int32)), .val (.int (16384 : Int32)), .val .null, .val .null] [(.ref b2), (.ref b2), (.ref a1)])) (fun _ kt => XS.dup X2.here hx rfl (hb hby d2_8) rfl rfl kt) ?_
  refine own_via (T' := T2) (g' := (mkF m 10 #[.val (.ref a1), .val (.int (16 : Int32)), .val (.int (16384 : Int32)), .val .null, .val .null] [(.ref a1), (.ref b2), (.ref b2), (.ref a1)])) (fun _ kt => XS.aloadN X2.here hx rfl (hb hby d2_9) rfl rfl kt) ?_
  obtain ⟨v10, T10, L10, X10, hQ10, st10⟩ := own_callI X2 hx hZ (y := (⟨"com/example/infoset/infoset/xdm/ElementStart", "<init>", "(Lcom/example/infoset/infoset/xdm/TreeBuffers;)V"⟩ : MethodName)) rfl hown (hw _ (List.mem_of_getElem? (i := 19) rfl)) (hw _ (List.mem_of_getElem? (i := 20) rfl)) (hw _ (List.mem_of_getElem? (i := 18) rfl)) (hw _ (List.mem_of_getElem? (i := 21) rfl)) (by decide) (b := b2) (W := 2) (argsL := [(.ref a1)]) (rest := [(.ref b2), (.ref a1)]) (rm4 l Z a0 hw [] b2 a1 h2 n0 z2 gg2 Ob2 em px ux hem f7 f8 f9) (by decide) (by decide) (by decide) (by decide) e2 (g := (mkF m 10 #[.val (.ref a1), .val (.int (16 : Int32)), .val (.int (16384 : Int32)), .val .null, .val .null] [(.ref a1), (.ref b2), (.ref b2), (.ref a1)])) rfl (by rw [hml]; rfl) (lenOf pd_1 rfl) rfl (by show 2 * 0 + _ ≤ _; exact Nat.le_of_eq rfl) (hb hby d2_10)
  obtain ⟨rfl, Nq10, Kq10⟩ := hQ10
  have f11 := f3.keep Kq10
  have f12 := f4.keep Kq10 (ninS (own_ne (by omega)) nin0)
  have f13 := f5.keep Kq10 (ninS (own_ne (by omega)) nin0)
  have f14 := f6.keep Kq10 (ninS (own_ne (by omega)) nin0)
  have f15 := Ob2.keep Kq10
  have z10 : n0 ≤ T10.heap.size := Nat.le_trans z2 Kq10.1
  have K10 := K2.trans Kq10 (allS (Or.inr kz2) all0)
  have N10 := Fr.app N0 Nq10
  refine own_via (T' := T10) (g' := (mkF m 13 #[.val (.ref a1), .val (.int (16 : Int32)), .val (.int (16384 : Int32)), .val .null, .val .null] [(.ref b2), (.ref a1)])) (fun _ kt => st10 _ kt) ?_
  obtain ⟨u16, Fu16⟩ := f11.fld (hw _ (List.mem_of_getElem? (i := 5) rfl)) (Or.inr (hw _ (List.mem_of_getElem? (i := 46) rfl)))
  obtain ⟨T17, h17, X17, e17, W17, st17⟩ := putF X10 hx hZ hown (host := "") (Or.inl (hw _ (List.mem_of_getElem? (i := 45) rfl))) Via.refl rfl Fu16 f11.exa (Or.inr ⟨(hw _ (List.mem_of_getElem? (i := 46) rfl)), rfl, hnm⟩) (hw _ (List.mem_of_getElem? (i := 5) rfl)) (ty := (.object "com/example/infoset/infoset/xdm/ElementStart")) (by decide) rfl rfl (g := (mkF m 13 #[.val (.ref a1), .val (.int (16 : Int32)), .val (.int (16384 : Int32)), .val .null, .val .null] [(.ref b2), (.ref a1)])) rfl rfl (hb hby d2_13)
  have f18 := f11.wr W17
  have f19 := f12.other W17 (Or.inr (slot_ne (Or.inl (hw _ (List.mem_of_getElem? (i := 106) rfl))) (Or.inr (hw _ (List.mem_of_getElem? (i := 46) rfl))) (by decide) (t := .int) (t' := (.object "com/example/infoset/infoset/xdm/ElementStart")) (by decide) (by decide)))
  have f20 := f13.other W17 (Or.inr (slot_ne (Or.inl (hw _ (List.mem_of_getElem? (i := 124) rfl))) (Or.inr (hw _ (List.mem_of_getElem? (i := 46) rfl))) (by decide) (t := .int) (t' := (.object "com/example/infoset/infoset/xdm/ElementStart")) (by decide) (by decide)))
  have f21 := f14.other W17 (Or.inr (slot_ne (Or.inl (hw _ (List.mem_of_getElem? (i := 117) rfl))) (Or.inr (hw _ (List.mem_of_getElem? (i := 46) rfl))) (by decide) (t := .int) (t' := (.object "com/example/infoset/infoset/xdm/ElementStart")) (by decide) (by decide)))
  have z17 : n0 ≤ h17.size := Nat.le_trans z10 (Nat.le_of_eq W17.size.symm)
  have N17 := Fr.snoc X17 N10 ga1
  have K17 := K10.wr W17 (Or.inl (List.mem_of_getElem? (i := 0) rfl))
  have f17 := Fu16.same W17
  refine own_via (T' := T17) (g' := (mkF m 16 #[.val (.ref a1), .val (.int (16 : Int32)), .val (.int (16384 : Int32)), .val .null, .val .null] [])) (fun _ kt => st17 _ kt) ?_
  refine own_via (T' := T17) (g' := (mkF m 17 #[.val (.ref a1), .val (.int (16 : Int32)), .val (.int (16384 : Int32)), .val .null, .val .null] [(.ref a1)])) (fun _ kt => XS.aloadN X17.here hx rfl (hb hby d2_16) rfl rfl kt) ?_
  refine own_via (T' := T17) (g' := (mkF m 18 #[.val (.ref a1), .val (.int (16 : Int32)), .val (.int (16384 : Int32)), .val .null, .val .null] [(.int (16 : Int32)), (.ref a1)])) (fun _ kt => XS.iloadN X17.here hx rfl (hb hby d2_17) rfl kt) ?_
  obtain ⟨u22, Fu22⟩ := f18.fld (hw _ (List.mem_of_getElem? (i := 5) rfl)) (Or.inr (hw _ (List.mem_of_getElem? (i := 48) rfl)))
  obtain ⟨T23, h23, X23, e23, W23, st23⟩ := putF X17 hx hZ hown (host := "") (Or.inl (hw _ (List.mem_of_getElem? (i := 47) rfl))) Via.refl e17 Fu22 f18.exa (Or.inr ⟨(hw _ (List.mem_of_getElem? (i := 48) rfl)), rfl, hnm⟩) (hw _ (List.mem_of_getElem? (i := 5) rfl)) (ty := .int) (by decide) rfl rfl (g := (mkF m 18 #[.val (.ref a1), .val (.int (16 : Int32)), .val (.int (16384 : Int32)), .val .null, .val .null] [(.int (16 : Int32)), (.ref a1)])) rfl rfl (hb hby d2_18)
  have f24 := f18.wr W23
  have f25 := f19.other W23 (Or.inr (slot_ne (Or.inl (hw _ (List.mem_of_getElem? (i := 106) rfl))) (Or.inr (hw _ (List.mem_of_getElem? (i := 48) rfl))) (by decide) (t := .int) (t' := .int) (by decide) (by decide)))
  have f26 := f20.other W23 (Or.inr (slot_ne (Or.inl (hw _ (List.mem_of_getElem? (i := 124) rfl))) (Or.inr (hw _ (List.mem_of_getElem? (i := 48) rfl))) (by decide) (t := .int) (t' := .int) (by decide) (by decide)))
  have f27 := f21.other W23 (Or.inr (slot_ne (Or.inl (hw _ (List.mem_of_getElem? (i := 117) rfl))) (Or.inr (hw _ (List.mem_of_getElem? (i := 48) rfl))) (by decide) (t := .int) (t' := .int) (by decide) (by decide)))
  have z23 : n0 ≤ h23.size := Nat.le_trans z17 (Nat.le_of_eq W23.size.symm)
  have N23 := Fr.snoc X23 N17 ga1
  have K23 := K17.wr W23 (Or.inl (List.mem_of_getElem? (i := 0) rfl))
  have f23 := Fu22.same W23
  refine own_via (T' := T23) (g' := (mkF m 21 #[.val (.ref a1), .val (.int (16 : Int32)), .val (.int (16384 : Int32)), .val .null, .val .null] [])) (fun _ kt => st23 _ kt) ?_
  refine own_via (T' := T23) (g' := (mkF m 22 #[.val (.ref a1), .val (.int (16 : Int32)), .val (.int (16384 : Int32)), .val .null, .val .null] [(.ref a1)])) (fun _ kt => XS.aloadN X23.here hx rfl (hb hby d2_21) rfl rfl kt) ?_
  refine own_via (T' := T23) (g' := (mkF m 23 #[.val (.ref a1), .val (.int (16 : Int32)), .val (.int (16384 : Int32)), .val .null, .val .null] [(.int (16384 : Int32)), (.ref a1)])) (fun _ kt => XS.iloadN X23.here hx rfl (hb hby d2_22) rfl kt) ?_
  obtain ⟨u28, Fu28⟩ := f24.fld (hw _ (List.mem_of_getElem? (i := 5) rfl)) (Or.inr (hw _ (List.mem_of_getElem? (i := 50) rfl)))
  obtain ⟨T29, h29, X29, e29, W29, st29⟩ := putF X23 hx hZ hown (host := "") (Or.inl (hw _ (List.mem_of_getElem? (i := 49) rfl))) Via.refl e23 Fu28 f24.exa (Or.inr ⟨(hw _ (List.mem_of_getElem? (i := 50) rfl)), rfl, hnm⟩) (hw _ (List.mem_of_getElem? (i := 5) rfl)) (ty := .int) (by decide) rfl rfl (g := (mkF m 23 #[.val (.ref a1), .val (.int (16 : Int32)), .val (.int (16384 : Int32)), .val .null, .val .null] [(.int (16384 : Int32)), (.ref a1)])) rfl rfl (hb hby d2_23)
  have f30 := f24.wr W29
  have f31 := f25.other W29 (Or.inr (slot_ne (Or.inl (hw _ (List.mem_of_getElem? (i := 106) rfl))) (Or.inr (hw _ (List.mem_of_getElem? (i := 50) rfl))) (by decide) (t := .int) (t' := .int) (by decide) (by decide)))
  have f32 := f26.other W29 (Or.inr (slot_ne (Or.inl (hw _ (List.mem_of_getElem? (i := 124) rfl))) (Or.inr (hw _ (List.mem_of_getElem? (i := 50) rfl))) (by decide) (t := .int) (t' := .int) (by decide) (by decide)))
  have f33 := f27.other W29 (Or.inr (slot_ne (Or.inl (hw _ (List.mem_of_getElem? (i := 117) rfl))) (Or.inr (hw _ (List.mem_of_getElem? (i := 50) rfl))) (by decide) (t := .int) (t' := .int) (by decide) (by decide)))
  have z29 : n0 ≤ h29.size := Nat.le_trans z23 (Nat.le_of_eq W29.size.symm)
  have N29 := Fr.snoc X29 N23 ga1
  have K29 := K23.wr W29 (Or.inl (List.mem_of_getElem? (i := 0) rfl))
  have f29 := Fu28.same W29
  refine own_via (T' := T29) (g' := (mkF m 26 #[.val (.ref a1), .val (.int (16 : Int32)), .val (.int (16384 : Int32)), .val .null, .val .null] [])) (fun _ kt => st29 _ kt) ?_
  refine own_via (T' := T29) (g' := (mkF m 27 #[.val (.ref a1), .val (.int (16 : Int32)), .val (.int (16384 : Int32)), .val .null, .val .null] [(.ref a1)])) (fun _ kt => XS.aloadN X29.here hx rfl (hb hby d2_26) rfl rfl kt) ?_
  refine own_via (T' := T29) (g' := (mkF m 28 #[.val (.ref a1), .val (.int (16 : Int32)), .val (.int (16384 : Int32)), .val .null, .val .null] [.null, (.ref a1)])) (fun _ kt => XS.aloadN X29.here hx rfl (hb hby d2_27) rfl rfl kt) ?_
  obtain ⟨u34, Fu34⟩ := f30.fld (hw _ (List.mem_of_getElem? (i := 5) rfl)) (Or.inr (hw _ (List.mem_of_getElem? (i := 52) rfl)))
  obtain ⟨T35, h35, X35, e35, W35, st35⟩ := putF X29 hx hZ hown (host := "") (Or.inl (hw _ (List.mem_of_getElem? (i := 51) rfl))) Via.refl e29 Fu34 f30.exa (Or.inr ⟨(hw _ (List.mem_of_getElem? (i := 52) rfl)), rfl, hnm⟩) (hw _ (List.mem_of_getElem? (i := 5) rfl)) (ty := (.object "com/example/infoset/infoset/xdm/SharedStrings")) (by decide) rfl rfl (g := (mkF m 28 #[.val (.ref a1), .val (.int (16 : Int32)), .val (.int (16384 : Int32)), .val .null, .val .null] [.null, (.ref a1)])) rfl rfl (hb hby d2_28)
  have f36 := f30.wr W35
  have f37 := f31.other W35 (Or.inr (slot_ne (Or.inl (hw _ (List.mem_of_getElem? (i := 106) rfl))) (Or.inr (hw _ (List.mem_of_getElem? (i := 52) rfl))) (by decide) (t := .int) (t' := (.object "com/example/infoset/infoset/xdm/SharedStrings")) (by decide) (by decide)))
  have f38 := f32.other W35 (Or.inr (slot_ne (Or.inl (hw _ (List.mem_of_getElem? (i := 124) rfl))) (Or.inr (hw _ (List.mem_of_getElem? (i := 52) rfl))) (by decide) (t := .int) (t' := (.object "com/example/infoset/infoset/xdm/SharedStrings")) (by decide) (by decide)))
  have f39 := f33.other W35 (Or.inr (slot_ne (Or.inl (hw _ (List.mem_of_getElem? (i := 117) rfl))) (Or.inr (hw _ (List.mem_of_getElem? (i := 52) rfl))) (by decide) (t := .int) (t' := (.object "com/example/infoset/infoset/xdm/SharedStrings")) (by decide) (by decide)))
  have z35 : n0 ≤ h35.size := Nat.le_trans z29 (Nat.le_of_eq W35.size.symm)
  have N35 := Fr.snoc X35 N29 ga1
  have K35 := K29.wr W35 (Or.inl (List.mem_of_getElem? (i := 0) rfl))
  have f35 := Fu34.same W35
  refine own_via (T' := T35) (g' := (mkF m 31 #[.val (.ref a1), .val (.int (16 : Int32)), .val (.int (16384 : Int32)), .val .null, .val .null] [])) (fun _ kt => st35 _ kt) ?_
  refine own_via (T' := T35) (g' := (mkF m 32 #[.val (.ref a1), .val (.int (16 : Int32)), .val (.int (16384 : Int32)), .val .null, .val .null] [(.ref a1)])) (fun _ kt => XS.aloadN X35.here hx rfl (hb hby d2_31) rfl rfl kt) ?_
  refine own_via (T' := T35) (g' := (mkF m 34 #[.val (.ref a1), .val (.int (16 : Int32)), .val (.int (16384 : Int32)), .val .null, .val .null] [.null, (.ref a1)])) (fun _ kt => XS.aload X35.here hx rfl (hb hby d2_32) rfl rfl kt) ?_
  obtain ⟨u40, Fu40⟩ := f36.fld (hw _ (List.mem_of_getElem? (i := 5) rfl)) (Or.inr (hw _ (List.mem_of_getElem? (i := 54) rfl)))
  obtain ⟨T41, h41, X41, e41, W41, st41⟩ := putF X35 hx hZ hown (host := "") (Or.inl (hw _ (List.mem_of_getElem? (i := 53) rfl))) Via.refl e35 Fu40 f36.exa (Or.inr ⟨(hw _ (List.mem_of_getElem? (i := 54) rfl)), rfl, hnm⟩) (hw _ (List.mem_of_getElem? (i := 5) rfl)) (ty := (.object "com/example/infoset/infoset/xdm/ConstructedTrees")) (by decide) rfl rfl (g := (mkF m 34 #[.val (.ref a1), .val (.int (16 : Int32)), .val (.int (16384 : Int32)), .val .null, .val .null] [.null, (.ref a1)])) rfl rfl (hb hby d2_34)
  have f42 := f36.wr W41
  have f43 := f37.other W41 (Or.inr (slot_ne (Or.inl (hw _ (List.mem_of_getElem? (i := 106) rfl))) (Or.inr (hw _ (List.mem_of_getElem? (i := 54) rfl))) (by decide) (t := .int) (t' := (.object "com/example/infoset/infoset/xdm/ConstructedTrees")) (by decide) (by decide)))
  have f44 := f38.other W41 (Or.inr (slot_ne (Or.inl (hw _ (List.mem_of_getElem? (i := 124) rfl))) (Or.inr (hw _ (List.mem_of_getElem? (i := 54) rfl))) (by decide) (t := .int) (t' := (.object "com/example/infoset/infoset/xdm/ConstructedTrees")) (by decide) (by decide)))
  have f45 := f39.other W41 (Or.inr (slot_ne (Or.inl (hw _ (List.mem_of_getElem? (i := 117) rfl))) (Or.inr (hw _ (List.mem_of_getElem? (i := 54) rfl))) (by decide) (t := .int) (t' := (.object "com/example/infoset/infoset/xdm/ConstructedTrees")) (by decide) (by decide)))
  have z41 : n0 ≤ h41.size := Nat.le_trans z35 (Nat.le_of_eq W41.size.symm)
  have N41 := Fr.snoc X41 N35 ga1
  have K41 := K35.wr W41 (Or.inl (List.mem_of_getElem? (i := 0) rfl))
  have f41 := Fu40.same W41
  refine own_via (T' := T41) (g' := (mkF m 37 #[.val (.ref a1), .val (.int (16 : Int32)), .val (.int (16384 : Int32)), .val .null, .val .null] [])) (fun _ kt => st41 _ kt) ?_
  refine own_via (T' := T41) (g' := (mkF m 38 #[.val (.ref a1), .val (.int (16 : Int32)), .val (.int (16384 : Int32)), .val .null, .val .null] [(.ref a1)])) (fun _ kt => XS.aloadN X41.here hx rfl (hb hby d2_37) rfl rfl kt) ?_
  refine own_via (T' := T41) (g' := (mkF m 39 #[.val (.ref a1), .val (.int (16 : Int32)), .val (.int (16384 : Int32)), .val .null, .val .null] [(.int (16 : Int32)), (.ref a1)])) (fun _ kt => XS.iloadN X41.here hx rfl (hb hby d2_38) rfl kt) ?_
  obtain ⟨v46, T46, L46, X46, hQ46, st46⟩ := own_callP X41 hx hZ (y := (⟨"com/example/infoset/infoset/xdm/TreeBuffers", "allocate", "(I)V"⟩ : MethodName)) (y2 := (⟨"com/example/infoset/infoset/xdm/TreeBuffers", "add", "(Lcom/example/infoset/infoset/xdm/NodeKind;ILcom/example/infoset/infoset/xdm/QName;Ljava/lang/String;Lcom/example/infoset/infoset/xdm/NamespaceBindings;)I"⟩ : MethodName)) hown (hw _ (List.mem_of_getElem? (i := 55) rfl)) (hw _ (List.mem_of_getElem? (i := 56) rfl)) (hw _ (List.mem_of_getElem? (i := 57) rfl)) (hw _ (List.mem_of_getElem? (i := 6) rfl)) (hw _ (List.mem_of_getElem? (i := 58) rfl)) (hw _ (List.mem_of_getElem? (i := 103) rfl)) (hw _ (List.mem_of_getElem? (i := 102) rfl)) rfl (by decide) (b := a1) (W := 0) (argsL := [(.int 16)]) (rest := []) (rm6 l Z a0 hw [] a1 h41 n0 z41 ga1 f42 f43 f44 f45) (by decide) (by decide) (by decide) (by decide) e41 f42.exa (g := (mkF m 39 #[.val (.ref a1), .val (.int (16 : Int32)), .val (.int (16384 : Int32)), .val .null, .val .null] [(.int (16 : Int32)), (.ref a1)])) rfl (by rw [hml]; rfl) (lenOf pd_2 rfl) rfl (by show 2 * 0 + _ ≤ _; exact Nat.le_of_eq rfl) (hb hby d2_39)
  obtain ⟨kd, pa, en, nm, vl, ns, fa, op, og, pr, okd, rfl, Nq46, Kq46, Tq46⟩ := hQ46
  have kzkd : h0.size ≤ kd := Nat.le_trans K41.1 okd
  have z46 : n0 ≤ T46.heap.size := Nat.le_trans z41 Kq46.1
  have K46 := K41.trans Kq46 (allS (Or.inl (List.mem_of_getElem? (i := 0) rfl)) all0)
  have N46 := Fr.app N41 Nq46
  refine own_via (T' := T46) (g' := (mkF m 42 #[.val (.ref a1), .val (.int (16 : Int32)), .val (.int (16384 : Int32)), .val .null, .val .null] [])) (fun _ kt => st46 _ kt) ?_
  exact own_retV X46 hx hret hlk (hb hby d2_42) ⟨kd, pa, en, nm, vl, ns, fa, op, og, pr, kzkd, rfl, N46, K46, Tq46⟩ (by decide) (by decide)
theorem d1_0 : decode prog_267_method_2_code 0 = .ok (.aload_n 0, 1) := by decide +kernel
theorem d1_1 : decode prog_267_method_2_code 1 = .ok (.bipush 16, 2) := by decide +kernel
theorem d1_3 : decode prog_267_method_2_code 3 = .ok (.sipush 16384, 3) := by decide +kernel
theorem d1_6 : decode prog_267_method_2_code 6 = .ok (.aconst_null, 1) := by decide +kernel
theorem d1_7 : decode prog_267_method_2_code 7 = .ok (.aload_n 1, 1) := by decide +kernel
theorem d1_8 : decode prog_267_method_2_code 8 = .ok (.invokespecial 12, 3) := by decide +kernel
theorem d1_11 : decode prog_267_method_2_code 11 = .ok (.return_, 1) := by decide +kernel
theorem pn_1 : plainName "com/example/infoset/infoset/xdm/TreeBuffers" = true := by first | (simp [plainName, overriddenIn]; done) | decide +kernel
theorem ef_1 (m : MethodId) (x0 : Addr) : entryFrame m #[(.ref x0), .null] 2 = mkF m 0 #[.val (.ref x0), .val .null] [] := by first | (simp [entryFrame, mkF, argsToLocals, Value.category]; done) | rfl
set_option maxRecDepth 65536 in
set_option maxHeartbeats 40000000 in
theorem rm1 (l : Launch) (Z : State) (a0 : Array Value) (hw : ∀ d ∈ tables_1, d.before a0 Z = true) (ws : List Jvm.Cond) (a1 : Addr) (h0 : Heap) (n0 : Nat) (Z0 : n0 ≤ h0.size) (ga1 : n0 ≤ a1) (Oa : own_Ob Z h0 a1 "com/example/infoset/infoset/xdm/TreeBuffers") (Fp1 : Fld Z h0 a1 "com/example/infoset/infoset/xdm/TreeBuffers" "size" "I" (.int (0 : Int32))) (Fp2 : Fld Z h0 a1 "com/example/infoset/infoset/xdm/TreeBuffers" "depth" "I" (.int (0 : Int32))) (Fp3 : Fld Z h0 a1 "com/example/infoset/infoset/xdm/TreeBuffers" "attributeCount" "I" (.int (0 : Int32))) (em px ux : Addr) (hem : @LT.lt Nat _ em n0) (S : Sta Z h0 "com/example/infoset/infoset/xdm/NamespaceBindings" "EMPTY" "Lcom/example/infoset/infoset/xdm/NamespaceBindings;" (.ref em)) (Pf : Fld Z h0 em "com/example/infoset/infoset/xdm/NamespaceBindings" "prefixes" "[Ljava/lang/String;" (.ref px)) (Uf : Fld Z h0 em "com/example/infoset/infoset/xdm/NamespaceBindings" "uris" "[Ljava/lang/String;" (.ref ux)) :
    own_Con l Z (⟨"com/example/infoset/infoset/xdm/TreeBuffers", "<init>", "(Lcom/example/infoset/infoset/xdm/ConstructedTrees;)V"⟩ : MethodName) prog_267_method_2_code 2 none ws ({ frames := 4, cells := 16, slots := 289, locals := 57 } : Room) #[(.ref a1), .null] h0 (fun v h L => ∃ kd pa en nm vl ns fa op og pr, h0.size ≤ kd ∧ v = none ∧ Fr n0 L ∧ Keep h0 h [a1] ∧ own_TB Z h a1 kd pa en nm vl ns fa op og pr 0 0 (fun _ => .int 0) (fun _ => .int 0) (fun _ => .null)) := by
  refine own_body (plainFor_of_name pn_1) ?_
  intro p e s m below meth c T0 hx hby hml hown hnm hret hlk hZ X0 e0
  replace hown : s.vm.findClass "com/example/infoset/infoset/xdm/TreeBuffers" = some m.cls := hown
  replace hret : meth.sig.returnType = none := hret
  replace hnm : meth.name = "<init>" := hnm
  rw [ef_1 m a1]
  have N0 := Fr.nil n0
  refine own_via (T' := T0) (g' := (mkF m 1 #[.val (.ref a1), .val .null] [(.ref a1)])) (fun _ kt => XS.aloadN X0.here hx rfl (hb hby d1_0) rfl rfl kt) ?_
  refine own_via (T' := T0) (g' := (mkF m 3 #[.val (.ref a1), .val .null] [(.int (16 : Int32)), (.ref a1)])) (fun _ kt => XS.bipush X0.here hx rfl (hb hby d1_1) kt) ?_
  refine own_via (T' := T0) (g' := (mkF m 6 #[.val (.ref a1), .val .null] [(.int (16384 : Int32)), (.int (16 : Int32)), (.ref a1)])) (fun _ kt => XS.sipush X0.here hx rfl (hb hby d1_3) kt) ?_
  refine own_via (T' := T0) (g' := (mkF m 7 #[.val (.ref a1), .val .null] [.null, (.int (16384 : Int32)), (.int (16 : Int32)), (.ref a1)])) (fun _ kt => XS.aconstNull X0.here hx rfl (hb hby d1_6) kt) ?_
  refine own_via (T' := T0) (g' := (mkF m 8 #[.val (.ref a1), .val .null] [.null, .null, (.int (16384 : Int32)), (.int (16 : Int32)), (.ref a1)])) (fun _ kt => XS.aloadN X0.here hx rfl (hb hby d1_7) rfl rfl kt) ?_
  obtain ⟨v1, T1, L1, X1, hQ1, st1⟩ := own_callI X0 hx hZ (y := (⟨"com/example/infoset/infoset/xdm/TreeBuffers", "<init>", "(IILcom/example/infoset/infoset/xdm/SharedStrings;Lcom/example/infoset/infoset/xdm/ConstructedTrees;)V"⟩ : MethodName)) rfl hown (hw _ (List.mem_of_getElem? (i := 10) rfl)) (hw _ (List.mem_of_getElem? (i := 11) rfl)) (hw _ (List.mem_of_getElem? (i := 6) rfl)) (hw _ (List.mem_of_getElem? (i := 12) rfl)) (by decide) (b := a1) (W := 0) (argsL := [(.int (16 : Int32)), (.int (16384 : Int32)), .null, .null]) (rest := []) (rm2 l Z a0 hw [] a1 h0 n0 Z0 ga1 Oa Fp1 Fp2 Fp3 em px ux hem S Pf Uf) (by decide) (by decide) (by decide) (by decide) e0 (g := (mkF m 8 #[.val (.ref a1), .val .null] [.null, .null, (.int (16384 : Int32)), (.int (16 : Int32)), (.ref a1)])) rfl (by rw [hml]; rfl) (lenOf pd_3 rfl) rfl (by show 2 * 0 + _ ≤ _; exact Nat.le_of_eq rfl) (hb hby d1_8)
  obtain ⟨kd, pa, en, nm, vl, ns, fa, op, og, pr, okd, rfl, Nq1, Kq1, Tq1⟩ := hQ1
  have z1 : n0 ≤ T1.heap.size := Nat.le_trans Z0 Kq1.1
  have K1 := (Keep.refl h0 [a1]).trans Kq1 (allS (Or.inl (List.mem_of_getElem? (i := 0) rfl)) all0)
  have N1 := Fr.app N0 Nq1
  refine own_via (T' := T1) (g' := (mkF m 11 #[.val (.ref a1), .val .null] [])) (fun _ kt => st1 _ kt) ?_
  exact own_retV X1 hx hret hlk (hb hby d1_11) ⟨kd, pa, en, nm, vl, ns, fa, op, og, pr, okd, rfl, N1, K1, Tq1⟩ (by decide) (by decide)
theorem d8_0 : decode jdk_37_method_2_code 0 = .ok (.aload_n 0, 1) := by decide +kernel
theorem d8_1 : decode jdk_37_method_2_code 1 = .ok (.getfield 7, 3) := by decide +kernel
theorem d8_4 : decode jdk_37_method_2_code 4 = .ok (.ireturn, 1) := by decide +kernel
theorem pn_8 : plainName "java/lang/Enum" = true := by first | (simp [plainName, overriddenIn]; done) | decide +kernel
theorem ef_8 (m : MethodId) (x0 : Addr) : entryFrame m #[(.ref x0)] 1 = mkF m 0 #[.val (.ref x0)] [] := by first | (simp [entryFrame, mkF, argsToLocals, Value.category]; done) | rfl
set_option maxRecDepth 65536 in
set_option maxHeartbeats 40000000 in
theorem rm8 (l : Launch) (Z : State) (a0 : Array Value) (hw : ∀ d ∈ tables_1, d.before a0 Z = true) (ws : List Jvm.Cond) (r : Addr) (w : Int32) (h0 : Heap) (F : Fld Z h0 r "java/lang/Enum" "ordinal" "I" (.int w)) :
    own_Pure l Z (⟨"java/lang/Enum", "ordinal", "()I"⟩ : MethodName) jdk_37_method_2_code 1 (some .int) ws ({ frames := 0, cells := 0, slots := 0, locals := 0 } : Room) #[(.ref r)] h0 (some (.int w)) := by
  refine own_body (plainFor_of_name pn_8) ?_
  intro p e s m below meth c T0 hx hby hml hown hnm hret hlk hZ X0 e0
  replace hown : s.vm.findClass "java/lang/Enum" = some m.cls := hown
  replace hret : meth.sig.returnType = (some .int) := hret
  replace hnm : meth.name = "ordinal" := hnm
  rw [ef_8 m r]
  refine own_via (T' := T0) (g' := (mkF m 1 #[.val (.ref r)] [(.ref r)])) (fun _ kt => XS.aloadN X0.here hx rfl (hb hby d8_0) rfl rfl kt) ?_
  obtain ⟨T1, X1, e1, st1⟩ := getF X0 hx hZ hown (host := "") (Or.inl (hw _ (List.mem_of_getElem? (i := 114) rfl))) Via.refl e0 F (g := (mkF m 1 #[.val (.ref r)] [(.ref r)])) rfl rfl (hb hby d8_1)
  refine own_via (T' := T1) (g' := (mkF m 4 #[.val (.ref r)] [(.int w)])) (fun _ kt => st1 _ kt) ?_
  exact own_retI X1 hx hret hlk (hb hby d8_4) ⟨rfl, rfl, e1⟩ (by decide) (by decide)
theorem d7_0 : decode prog_267_method_7_code 0 = .ok (.aload_n 0, 1) := by decide +kernel
theorem d7_1 : decode prog_267_method_7_code 1 = .ok (.getfield 74, 3) := by decide +kernel
theorem d7_4 : decode prog_267_method_7_code 4 = .ok (.aload_n 0, 1) := by decide +kernel
theorem d7_5 : decode prog_267_method_7_code 5 = .ok (.getfield 70, 3) := by decide +kernel
theorem d7_8 : decode prog_267_method_7_code 8 = .ok (.arraylength, 1) := by decide +kernel
theorem d7_9 : decode prog_267_method_7_code 9 = .ok (.if_icmp .ne 112, 3) := by decide +kernel
theorem d7_121 : decode prog_267_method_7_code 121 = .ok (.aload_n 0, 1) := by decide +kernel
theorem d7_122 : decode prog_267_method_7_code 122 = .ok (.getfield 70, 3) := by decide +kernel
theorem d7_125 : decode prog_267_method_7_code 125 = .ok (.aload_n 0, 1) := by decide +kernel
theorem d7_126 : decode prog_267_method_7_code 126 = .ok (.getfield 74, 3) := by decide +kernel
theorem d7_129 : decode prog_267_method_7_code 129 = .ok (.aload_n 1, 1) := by decide +kernel
theorem d7_130 : decode prog_267_method_7_code 130 = .ok (.invokevirtual 118, 3) := by decide +kernel
theorem d7_133 : decode prog_267_method_7_code 133 = .ok (.i2b, 1) := by decide +kernel
theorem d7_134 : decode prog_267_method_7_code 134 = .ok (.bastore, 1) := by decide +kernel
theorem d7_135 : decode prog_267_method_7_code 135 = .ok (.aload_n 0, 1) := by decide +kernel
theorem d7_136 : decode prog_267_method_7_code 136 = .ok (.getfield 87, 3) := by decide +kernel
theorem d7_139 : decode prog_267_method_7_code 139 = .ok (.aload_n 0, 1) := by decide +kernel
theorem d7_140 : decode prog_267_method_7_code 140 = .ok (.getfield 74, 3) := by decide +kernel
theorem d7_143 : decode prog_267_method_7_code 143 = .ok (.iload_n 2, 1) := by decide +kernel
theorem d7_144 : decode prog_267_method_7_code 144 = .ok (.iastore, 1) := by decide +kernel
theorem d7_145 : decode prog_267_method_7_code 145 = .ok (.aload_n 0, 1) := by decide +kernel
theorem d7_146 : decode prog_267_method_7_code 146 = .ok (.getfield 94, 3) := by decide +kernel
theorem d7_149 : decode prog_267_method_7_code 149 = .ok (.aload_n 0, 1) := by decide +kernel
theorem d7_150 : decode prog_267_method_7_code 150 = .ok (.getfield 74, 3) := by decide +kernel
theorem d7_153 : decode prog_267_method_7_code 153 = .ok (.aload_n 0, 1) := by decide +kernel
theorem d7_154 : decode prog_267_method_7_code 154 = .ok (.getfield 74, 3) := by decide +kernel
theorem d7_157 : decode prog_267_method_7_code 157 = .ok (.iconst 1, 1) := by decide +kernel
theorem d7_158 : decode prog_267_method_7_code 158 = .ok (.iadd, 1) := by decide +kernel
theorem d7_159 : decode prog_267_method_7_code 159 = .ok (.iastore, 1) := by decide +kernel
theorem d7_160 : decode prog_267_method_7_code 160 = .ok (.aload_n 0, 1) := by decide +kernel
theorem d7_161 : decode prog_267_method_7_code 161 = .ok (.getfield 97, 3) := by decide +kernel
theorem d7_164 : decode prog_267_method_7_code 164 = .ok (.aload_n 0, 1) := by decide +kernel
theorem d7_165 : decode prog_267_method_7_code 165 = .ok (.getfield 74, 3) := by decide +kernel
theorem d7_168 : decode prog_267_method_7_code 168 = .ok (.aload_n 3, 1) := by decide +kernel
theorem d7_169 : decode prog_267_method_7_code 169 = .ok (.aastore, 1) := by decide +kernel
theorem d7_170 : decode prog_267_method_7_code 170 = .ok (.aload_n 0, 1) := by decide +kernel
theorem d7_171 : decode prog_267_method_7_code 171 = .ok (.getfield 105, 3) := by decide +kernel
theorem d7_174 : decode prog_267_method_7_code 174 = .ok (.aload_n 0, 1) := by decide +kernel
theorem d7_175 : decode prog_267_method_7_code 175 = .ok (.getfield 74, 3) := by decide +kernel
theorem d7_178 : decode prog_267_method_7_code 178 = .ok (.aload 4, 2) := by decide +kernel
theorem d7_180 : decode prog_267_method_7_code 180 = .ok (.aastore, 1) := by decide +kernel
theorem d7_181 : decode prog_267_method_7_code 181 = .ok (.aload_n 0, 1) := by decide +kernel
theorem d7_182 : decode prog_267_method_7_code 182 = .ok (.getfield 110, 3) := by decide +kernel
theorem d7_185 : decode prog_267_method_7_code 185 = .ok (.aload_n 0, 1) := by decide +kernel
theorem d7_186 : decode prog_267_method_7_code 186 = .ok (.getfield 74, 3) := by decide +kernel
theorem d7_189 : decode prog_267_method_7_code 189 = .ok (.aload 5, 2) := by decide +kernel
theorem d7_191 : decode prog_267_method_7_code 191 = .ok (.aastore, 1) := by decide +kernel
theorem d7_192 : decode prog_267_method_7_code 192 = .ok (.aload_n 0, 1) := by decide +kernel
theorem d7_193 : decode prog_267_method_7_code 193 = .ok (.getfield 115, 3) := by decide +kernel
theorem d7_196 : decode prog_267_method_7_code 196 = .ok (.aload_n 0, 1) := by decide +kernel
theorem d7_197 : decode prog_267_method_7_code 197 = .ok (.getfield 74, 3) := by decide +kernel
theorem d7_200 : decode prog_267_method_7_code 200 = .ok (.aload_n 0, 1) := by decide +kernel
theorem d7_201 : decode prog_267_method_7_code 201 = .ok (.getfield 124, 3) := by decide +kernel
theorem d7_204 : decode prog_267_method_7_code 204 = .ok (.iastore, 1) := by decide +kernel
theorem d7_205 : decode prog_267_method_7_code 205 = .ok (.aload_n 0, 1) := by decide +kernel
theorem d7_206 : decode prog_267_method_7_code 206 = .ok (.dup, 1) := by decide +kernel
theorem d7_207 : decode prog_267_method_7_code 207 = .ok (.getfield 74, 3) := by decide +kernel
theorem d7_210 : decode prog_267_method_7_code 210 = .ok (.dup_x1, 1) := by decide +kernel
theorem d7_211 : decode prog_267_method_7_code 211 = .ok (.iconst 1, 1) := by decide +kernel
theorem d7_212 : decode prog_267_method_7_code 212 = .ok (.iadd, 1) := by decide +kernel
theorem d7_213 : decode prog_267_method_7_code 213 = .ok (.putfield 74, 3) := by decide +kernel
theorem d7_216 : decode prog_267_method_7_code 216 = .ok (.ireturn, 1) := by decide +kernel
theorem pn_7 : plainName "com/example/infoset/infoset/xdm/TreeBuffers" = true := by first | (simp [plainName, overriddenIn]; done) | decide +kernel
theorem ef_7 (m : MethodId) (x0 : Addr) (x1 : Addr) (x2 : Int32) : entryFrame m #[(.ref x0), (.ref x1), (.int x2), .null, .null, .null] 7 = mkF m 0 #[.val (.ref x0), .val (.ref x1), .val (.int x2), .val .null, .val .null, .val .null, .unset] [] := by first | (simp [entryFrame, mkF, argsToLocals, Value.category]; done) | rfl
set_option maxRecDepth 65536 in
set_option maxHeartbeats 40000000 in
theorem rm7 (l : Launch) (Z : State) (a0 : Array Value) (hw : ∀ d ∈ tables_1, d.before a0 Z = true) (ws : List Jvm.Cond) (a kd pa en nm vl ns fa op og pr : Addr) (n d : Nat) (fe fo fg : Nat → Value) (h0 : Heap) (n0 : Nat) (Z0 : n0 ≤ h0.size) (ga : n0 ≤ a) (T : own_TB Z h0 a kd pa en nm vl ns fa op og pr n d fe fo fg) (kx : Addr) (pv kw : Int32) (hn : n < 16) (EK : Exa Z h0 kx "com/example/infoset/infoset/xdm/NodeKind") (FK : Fld Z h0 kx "java/lang/Enum" "ordinal" "I" (.int kw)) :
    own_Con l Z (⟨"com/example/infoset/infoset/xdm/TreeBuffers", "add", "(Lcom/example/infoset/infoset/xdm/NodeKind;ILcom/example/infoset/infoset/xdm/QName;Ljava/lang/String;Lcom/example/infoset/infoset/xdm/NamespaceBindings;)I"⟩ : MethodName) prog_267_method_7_code 7 (some .int) ws ({ frames := 1, cells := 0, slots := 0, locals := 14 } : Room) #[(.ref a), (.ref kx), (.int pv), .null, .null, .null] h0 (fun v h L => v = some (.int (Int32.ofNat n)) ∧ Fr n0 L ∧ Keep h0 h [a, kd, pa, en, nm, vl, ns, fa] ∧ own_TB Z h a kd pa en nm vl ns fa op og pr (n + 1) d (own_up fe n (.int (Int32.ofNat (n + 1)))) fo fg) := by
  refine own_body (plainFor_of_name pn_7) ?_
  intro p e s m below meth c T0 hx hby hml hown hnm hret hlk hZ X0 e0
  replace hown : s.vm.findClass "com/example/infoset/infoset/xdm/TreeBuffers" = some m.cls := hown
  replace hret : meth.sig.returnType = (some .int) := hret
  replace hnm : meth.name = "add" := hnm
  rw [ef_7 m a kx pv]
  have N0 := Fr.nil n0
  obtain ⟨k0, k1, k2, k3, k4, k5, k6, k7, k8, k9, k10, k11, k12, k13, k14, k15, k16, k17, k18, k19, k20, k21, k22, k23, k24, k25, k26, k27, k28, k29, k30, k31, k32, k33, k34⟩ := T
  obtain ⟨f_kd, k14⟩ := k14
  obtain ⟨f_pa, k15⟩ := k15
  obtain ⟨f_nm, k17⟩ := k17
  obtain ⟨f_vl, k18⟩ := k18
  obtain ⟨f_ns, k19⟩ := k19
  obtain ⟨f_fa, k20⟩ := k20
  obtain ⟨f_pr, k23⟩ := k23
  refine own_via (T' := T0) (g' := (mkF m 1 #[.val (.ref a), .val (.ref kx), .val (.int pv), .val .null, .val .null, .val .null, .unset] [(.ref a)])) (fun _ kt => XS.aloadN X0.here hx rfl (hb hby d7_0) rfl rfl kt) ?_
  obtain ⟨T1, X1, e1, st1⟩ := getF X0 hx hZ hown (host := "") (Or.inl (hw _ (List.mem_of_getElem? (i := 105) rfl))) Via.refl e0 k1 (g := (mkF m 1 #[.val (.ref a), .val (.ref kx), .val (.int pv), .val .null, .val .null, .val .null, .unset] [(.ref a)])) rfl rfl (hb hby d7_1)
  refine own_via (T' := T1) (g' := (mkF m 4 #[.val (.ref a), .val (.ref kx), .val (.int pv), .val .null, .val .null, .val .null, .unset] [(.int (Int32.ofNat n))])) (fun _ kt => st1 _ kt) ?_
  refine own_via (T' := T1) (g' := (mkF m 5 #[.val (.ref a), .val (.ref kx), .val (.int pv), .val .null, .val .null, .val .null, .unset] [(.ref a), (.int (Int32.ofNat n))])) (fun _ kt => XS.aloadN X1.here hx rfl (hb hby d7_4) rfl rfl kt) ?_
  obtain ⟨T2, X2, e2, st2⟩ := getF X1 hx hZ hown (host := "") (Or.inl (hw _ (List.mem_of_getElem? (i := 60) rfl))) Via.refl e1 k4 (g := (mkF m 5 #[.val (.ref a), .val (.ref kx), .val (.int pv), .val .null, .val .null, .val .null, .unset] [(.ref a), (.int (Int32.ofNat n))])) rfl rfl (hb hby d7_5)
  refine own_via (T' := T2) (g' := (mkF m 8 #[.val (.ref a), .val (.ref kx), .val (.int pv), .val .null, .val .null, .val .null, .unset] [(.ref kd), (.int (Int32.ofNat n))])) (fun _ kt => st2 _ kt) ?_
  refine own_via (T' := T2) (g' := (mkF m 9 #[.val (.ref a), .val (.ref kx), .val (.int pv), .val .null, .val .null, .val .null, .unset] [(.int (16 : Int32)), (.int (Int32.ofNat n))])) (fun _ kt => own_alen X2 hx hZ e2 k14 (g := (mkF m 8 #[.val (.ref a), .val (.ref kx), .val (.int pv), .val .null, .val .null, .val .null, .unset] [(.ref kd), (.int (Int32.ofNat n))])) rfl rfl (hb hby d7_8) _ kt) ?_
  refine own_via (T' := T2) (g' := (mkF m 121 #[.val (.ref a), .val (.ref kx), .val (.int pv), .val .null, .val .null, .val .null, .unset] [])) (fun _ kt => XS.icmpYes X2.here hx rfl (pc0 := 9) (pc' := 121) rfl (hb hby d7_9) rfl (feq (own_ne16 hn)).2 (by decide) (by decide) kt) ?_
  refine own_via (T' := T2) (g' := (mkF m 122 #[.val (.ref a), .val (.ref kx), .val (.int pv), .val .null, .val .null, .val .null, .unset] [(.ref a)])) (fun _ kt => XS.aloadN X2.here hx rfl (hb hby d7_121) rfl rfl kt) ?_
  obtain ⟨T3, X3, e3, st3⟩ := getF X2 hx hZ hown (host := "") (Or.inl (hw _ (List.mem_of_getElem? (i := 60) rfl))) Via.refl e2 k4 (g := (mkF m 122 #[.val (.ref a), .val (.ref kx), .val (.int pv), .val .null, .val .null, .val .null, .unset] [(.ref a)])) rfl rfl (hb hby d7_122)
  refine own_via (T' := T3) (g' := (mkF m 125 #[.val (.ref a), .val (.ref kx), .val (.int pv), .val .null, .val .null, .val .null, .unset] [(.ref kd)])) (fun _ kt => st3 _ kt) ?_
  refine own_via (T' := T3) (g' := (mkF m 126 #[.val (.ref a), .val (.ref kx), .val (.int pv), .val .null, .val .null, .val .null, .unset] [(.ref a), (.ref kd)])) (fun _ kt => XS.aloadN X3.here hx rfl (hb hby d7_125) rfl rfl kt) ?_
  obtain ⟨T4, X4, e4, st4⟩ := getF X3 hx hZ hown (host := "") (Or.inl (hw _ (List.mem_of_getElem? (i := 105) rfl))) Via.refl e3 k1 (g := (mkF m 126 #[.val (.ref a), .val (.ref kx), .val (.int pv), .val .null, .val .null, .val .null, .unset] [(.ref a), (.ref kd)])) rfl rfl (hb hby d7_126)
  refine own_via (T' := T4) (g' := (mkF m 129 #[.val (.ref a), .val (.ref kx), .val (.int pv), .val .null, .val .null, .val .null, .unset] [(.int (Int32.ofNat n)), (.ref kd)])) (fun _ kt => st4 _ kt) ?_
  refine own_via (T' := T4) (g' := (mkF m 130 #[.val (.ref a), .val (.ref kx), .val (.int pv), .val .null, .val .null, .val .null, .unset] [(.ref kx), (.int (Int32.ofNat n)), (.ref kd)])) (fun _ kt => XS.aloadN X4.here hx rfl (hb hby d7_129) rfl rfl kt) ?_
  obtain ⟨v5, T5, L5, X5, hQ5, st5⟩ := own_callU X4 hx hZ (y := (⟨"com/example/infoset/infoset/xdm/NodeKind", "ordinal", "()I"⟩ : MethodName)) (z := (⟨"java/lang/Enum", "ordinal", "()I"⟩ : MethodName)) hown (hw _ (List.mem_of_getElem? (i := 107) rfl)) (hw _ (List.mem_of_getElem? (i := 108) rfl)) (hw _ (List.mem_of_getElem? (i := 109) rfl)) (hw _ (List.mem_of_getElem? (i := 111) rfl)) (hw _ (List.mem_of_getElem? (i := 110) rfl)) (hw _ (List.mem_of_getElem? (i := 112) rfl)) (hw _ (List.mem_of_getElem? (i := 113) rfl)) (by decide) (b := kx) (W := 2) (argsL := []) (rest := [(.int (Int32.ofNat n)), (.ref kd)]) (rm8 l Z a0 hw [] kx kw h0 FK) (by decide) (by decide) (by decide) (by decide) e4 EK (g := (mkF m 130 #[.val (.ref a), .val (.ref kx), .val (.int pv), .val .null, .val .null, .val .null, .unset] [(.ref kx), (.int (Int32.ofNat n)), (.ref kd)])) rfl (by rw [hml]; rfl) (lenOf pd_4 rfl) rfl (by show 2 * 0 + _ ≤ _; exact Nat.le_of_eq rfl) (hb hby d7_130)
  obtain ⟨rfl, hL5, e5⟩ := hQ5
  replace X5 := own_pure (v := none) (r := none) X5 rfl rfl hL5
  refine own_via (T' := T5) (g' := (mkF m 133 #[.val (.ref a), .val (.ref kx), .val (.int pv), .val .null, .val .null, .val .null, .unset] [(.int kw), (.int (Int32.ofNat n)), (.ref kd)])) (fun _ kt => st5 _ kt) ?_
  refine own_via (T' := T5) (g' := (mkF m 134 #[.val (.ref a), .val (.ref kx), .val (.int pv), .val .null, .val .null, .val .null, .unset] [(.int (kw.toInt8.toInt32)), (.int (Int32.ofNat n)), (.ref kd)])) (fun _ kt => XS.i2b X5.here hx rfl (hb hby d7_133) rfl kt) ?_
  obtain ⟨T6, h6, X6, e6, W6, A6, st6⟩ := own_bastoreB X5 hx hZ e5 k14 (j := (Int32.ofNat n)) (i := n) rfl (by omega) (r := nar .byte (kw.toInt8.toInt32)) rfl (g := (mkF m 134 #[.val (.ref a), .val (.ref kx), .val (.int pv), .val .null, .val .null, .val .null, .unset] [(.int (kw.toInt8.toInt32)), (.int (Int32.ofNat n)), (.ref kd)])) rfl rfl (hb hby d7_134)
  have f7 := k0.wr W6
  have f8 := k1.other W6 (Or.inl (own_ne (by omega)))
  have f9 := k2.other W6 (Or.inl (own_ne (by omega)))
  have f10 := k3.other W6 (Or.inl (own_ne (by omega)))
  have f11 := k4.other W6 (Or.inl (own_ne (by omega)))
  have f12 := k5.other W6 (Or.inl (own_ne (by omega)))
  have f13 := k15.other W6 (own_ne (by omega))
  have f14 := k6.other W6 (Or.inl (own_ne (by omega)))
  have f15 := k16.other W6 (own_ne (by omega))
  have f16 := k7.other W6 (Or.inl (own_ne (by omega)))
  have f17 := k17.other W6 (own_ne (by omega))
  have f18 := k8.other W6 (Or.inl (own_ne (by omega)))
  have f19 := k18.other W6 (own_ne (by omega))
  have f20 := k9.other W6 (Or.inl (own_ne (by omega)))
  have f21 := k19.other W6 (own_ne (by omega))
  have f22 := k10.other W6 (Or.inl (own_ne (by omega)))
  have f23 := k20.other W6 (own_ne (by omega))
  have f24 := k11.other W6 (Or.inl (own_ne (by omega)))
  have f25 := k21.other W6 (own_ne (by omega))
  have f26 := k12.other W6 (Or.inl (own_ne (by omega)))
  have f27 := k22.other W6 (own_ne (by omega))
  have f28 := k13.other W6 (Or.inl (own_ne (by omega)))
  have f29 := k23.other W6 (own_ne (by omega))
  have f30 := k24.wr W6
  have z6 : n0 ≤ h6.size := Nat.le_trans Z0 (Nat.le_of_eq W6.size.symm)
  have N6 := Fr.snoc X6 N0 (by omega)
  have K6 := (Keep.refl h0 [a, kd, pa, en, nm, vl, ns, fa]).wr W6 (Or.inl (List.mem_of_getElem? (i := 1) rfl))
  refine own_via (T' := T6) (g' := (mkF m 135 #[.val (.ref a), .val (.ref kx), .val (.int pv), .val .null, .val .null, .val .null, .unset] [])) (fun _ kt => st6 _ kt) ?_
  refine own_via (T' := T6) (g' := (mkF m 136 #[.val (.ref a), .val (.ref kx), .val (.int pv), .val .null, .val .null, .val .null, .unset] [(.ref a)])) (fun _ kt => XS.aloadN X6.here hx rfl (hb hby d7_135) rfl rfl kt) ?_
  obtain ⟨T31, X31, e31, st31⟩ := getF X6 hx hZ hown (host := "") (Or.inl (hw _ (List.mem_of_getElem? (i := 63) rfl))) Via.refl e6 f12 (g := (mkF m 136 #[.val (.ref a), .val (.ref kx), .val (.int pv), .val .null, .val .null, .val .null, .unset] [(.ref a)])) rfl rfl (hb hby d7_136)
  refine own_via (T' := T31) (g' := (mkF m 139 #[.val (.ref a), .val (.ref kx), .val (.int pv), .val .null, .val .null, .val .null, .unset] [(.ref pa)])) (fun _ kt => st31 _ kt) ?_
  refine own_via (T' := T31) (g' := (mkF m 140 #[.val (.ref a), .val (.ref kx), .val (.int pv), .val .null, .val .null, .val .null, .unset] [(.ref a), (.ref pa)])) (fun _ kt => XS.aloadN X31.here hx rfl (hb hby d7_139) rfl rfl kt) ?_
  obtain ⟨T32, X32, e32, st32⟩ := getF X31 hx hZ hown (host := "") (Or.inl (hw _ (List.mem_of_getElem? (i := 105) rfl))) Via.refl e31 f8 (g := (mkF m 140 #[.val (.ref a), .val (.ref kx), .val (.int pv), .val .null, .val .null, .val .null, .unset] [(.ref a), (.ref pa)])) rfl rfl (hb hby d7_140)
  refine own_via (T' := T32) (g' := (mkF m 143 #[.val (.ref a), .val (.ref kx), .val (.int pv), .val .null, .val .null, .val .null, .unset] [(.int (Int32.ofNat n)), (.ref pa)])) (fun _ kt => st32 _ kt) ?_
  refine own_via (T' := T32) (g' := (mkF m 144 #[.val (.ref a), .val (.ref kx), .val (.int pv), .val .null, .val .null, .val .null, .unset] [(.int pv), (.int (Int32.ofNat n)), (.ref pa)])) (fun _ kt => XS.iloadN X32.here hx rfl (hb hby d7_143) rfl kt) ?_
  obtain ⟨T33, h33, X33, e33, W33, A33, st33⟩ := own_iastore X32 hx hZ e32 f13 (j := (Int32.ofNat n)) (i := n) rfl (by omega) (g := (mkF m 144 #[.val (.ref a), .val (.ref kx), .val (.int pv), .val .null, .val .null, .val .null, .unset] [(.int pv), (.int (Int32.ofNat n)), (.ref pa)])) rfl rfl (hb hby d7_144)
  have f34 := f7.wr W33
  have f35 := f8.other W33 (Or.inl (own_ne (by omega)))
  have f36 := f9.other W33 (Or.inl (own_ne (by omega)))
  have f37 := f10.other W33 (Or.inl (own_ne (by omega)))
  have f38 := f11.other W33 (Or.inl (own_ne (by omega)))
  have f39 := A6.other W33 (own_ne (by omega))
  have f40 := f12.other W33 (Or.inl (own_ne (by omega)))
  have f41 := f14.other W33 (Or.inl (own_ne (by omega)))
  have f42 := f15.other W33 (own_ne (by omega))
  have f43 := f16.other W33 (Or.inl (own_ne (by omega)))
  have f44 := f17.other W33 (own_ne (by omega))
  have f45 := f18.other W33 (Or.inl (own_ne (by omega)))
  have f46 := f19.other W33 (own_ne (by omega))
  have f47 := f20.other W33 (Or.inl (own_ne (by omega)))
  have f48 := f21.other W33 (own_ne (by omega))
  have f49 := f22.other W33 (Or.inl (own_ne (by omega)))
  have f50 := f23.other W33 (own_ne (by omega))
  have f51 := f24.other W33 (Or.inl (own_ne (by omega)))
  have f52 := f25.other W33 (own_ne (by omega))
  have f53 := f26.other W33 (Or.inl (own_ne (by omega)))
  have f54 := f27.other W33 (own_ne (by omega))
  have f55 := f28.other W33 (Or.inl (own_ne (by omega)))
  have f56 := f29.other W33 (own_ne (by omega))
  have f57 := f30.wr W33
  have z33 : n0 ≤ h33.size := Nat.le_trans z6 (Nat.le_of_eq W33.size.symm)
  have N33 := Fr.snoc X33 N6 (by omega)
  have K33 := K6.wr W33 (Or.inl (List.mem_of_getElem? (i := 2) rfl))
  refine own_via (T' := T33) (g' := (mkF m 145 #[.val (.ref a), .val (.ref kx), .val (.int pv), .val .null, .val .null, .val .null, .unset] [])) (fun _ kt => st33 _ kt) ?_
  refine own_via (T' := T33) (g' := (mkF m 146 #[.val (.ref a), .val (.ref kx), .val (.int pv), .val .null, .val .null, .val .null, .unset] [(.ref a)])) (fun _ kt => XS.aloadN X33.here hx rfl (hb hby d7_145) rfl rfl kt) ?_
  obtain ⟨T58, X58, e58, st58⟩ := getF X33 hx hZ hown (host := "") (Or.inl (hw _ (List.mem_of_getElem? (i := 65) rfl))) Via.refl e33 f41 (g := (mkF m 146 #[.val (.ref a), .val (.ref kx), .val (.int pv), .val .null, .val .null, .val .null, .unset] [(.ref a)])) rfl rfl (hb hby d7_146)
  refine own_via (T' := T58) (g' := (mkF m 149 #[.val (.ref a), .val (.ref kx), .val (.int pv), .val .null, .val .null, .val .null, .unset] [(.ref en)])) (fun _ kt => st58 _ kt) ?_
  refine own_via (T' := T58) (g' := (mkF m 150 #[.val (.ref a), .val (.ref kx), .val (.int pv), .val .null, .val .null, .val .null, .unset] [(.ref a), (.ref en)])) (fun _ kt => XS.aloadN X58.here hx rfl (hb hby d7_149) rfl rfl kt) ?_
  obtain ⟨T59, X59, e59, st59⟩ := getF X58 hx hZ hown (host := "") (Or.inl (hw _ (List.mem_of_getElem? (i := 105) rfl))) Via.refl e58 f35 (g := (mkF m 150 #[.val (.ref a), .val (.ref kx), .val (.int pv), .val .null, .val .null, .val .null, .unset] [(.ref a), (.ref en)])) rfl rfl (hb hby d7_150)
  refine own_via (T' := T59) (g' := (mkF m 153 #[.val (.ref a), .val (.ref kx), .val (.int pv), .val .null, .val .null, .val .null, .unset] [(.int (Int32.ofNat n)), (.ref en)])) (fun _ kt => st59 _ kt) ?_
  refine own_via (T' := T59) (g' := (mkF m 154 #[.val (.ref a), .val (.ref kx), .val (.int pv), .val .null, .val .null, .val .null, .unset] [(.ref a), (.int (Int32.ofNat n)), (.ref en)])) (fun _ kt => XS.aloadN X59.here hx rfl (hb hby d7_153) rfl rfl kt) ?_
  obtain ⟨T60, X60, e60, st60⟩ := getF X59 hx hZ hown (host := "") (Or.inl (hw _ (List.mem_of_getElem? (i := 105) rfl))) Via.refl e59 f35 (g := (mkF m 154 #[.val (.ref a), .val (.ref kx), .val (.int pv), .val .null, .val .null, .val .null, .unset] [(.ref a), (.int (Int32.ofNat n)), (.ref en)])) rfl rfl (hb hby d7_154)
  refine own_via (T' := T60) (g' := (mkF m 157 #[.val (.ref a), .val (.ref kx), .val (.int pv), .val .null, .val .null, .val .null, .unset] [(.int (Int32.ofNat n)), (.int (Int32.ofNat n)), (.ref en)])) (fun _ kt => st60 _ kt) ?_
  refine own_via (T' := T60) (g' := (mkF m 158 #[.val (.ref a), .val (.ref kx), .val (.int pv), .val .null, .val .null, .val .null, .unset] [(.int (1 : Int32)), (.int (Int32.ofNat n)), (.int (Int32.ofNat n)), (.ref en)])) (fun _ kt => XS.iconst X60.here hx rfl (hb hby d7_157) kt) ?_
  refine own_via (T' := T60) (g' := (mkF m 159 #[.val (.ref a), .val (.ref kx), .val (.int pv), .val .null, .val .null, .val .null, .unset] [(.int ((Int32.ofNat n) + (1 : Int32))), (.int (Int32.ofNat n)), (.ref en)])) (fun _ kt => XS.iadd X60.here hx rfl (hb hby d7_158) rfl kt) ?_
  rw [show ((Int32.ofNat n) + (1 : Int32)) = (Int32.ofNat (n + 1)) from (inc_ofNat n).symm]
  obtain ⟨T61, h61, X61, e61, W61, A61, st61⟩ := own_iastore X60 hx hZ e60 f42 (j := (Int32.ofNat n)) (i := n) rfl (by omega) (g := (mkF m 159 #[.val (.ref a), .val (.ref kx), .val (.int pv), .val .null, .val .null, .val .null, .unset] [(.int (Int32.ofNat (n + 1))), (.int (Int32.ofNat n)), (.ref en)])) rfl rfl (hb hby d7_159)
  have f62 := f34.wr W61
  have f63 := f35.other W61 (Or.inl (own_ne (by omega)))
  have f64 := f36.other W61 (Or.inl (own_ne (by omega)))
  have f65 := f37.other W61 (Or.inl (own_ne (by omega)))
  have f66 := f38.other W61 (Or.inl (own_ne (by omega)))
  have f67 := f39.other W61 (own_ne (by omega))
  have f68 := f40.other W61 (Or.inl (own_ne (by omega)))
  have f69 := A33.other W61 (own_ne (by omega))
  have f70 := f41.other W61 (Or.inl (own_ne (by omega)))
  have f71 := f43.other W61 (Or.inl (own_ne (by omega)))
  have f72 := f44.other W61 (own_ne (by omega))
  have f73 := f45.other W61 (Or.inl (own_ne (by omega)))
  have f74 := f46.other W61 (own_ne (by omega))
  have f75 := f47.other W61 (Or.inl (own_ne (by omega)))
  have f76 := f48.other W61 (own_ne (by omega))
  have f77 := f49.other W61 (Or.inl (own_ne (by omega)))
  have f78 := f50.other W61 (own_ne (by omega))
  have f79 := f51.other W61 (Or.inl (own_ne (by omega)))
  have f80 := f52.other W61 (own_ne (by omega))
  have f81 := f53.other W61 (Or.inl (own_ne (by omega)))
  have f82 := f54.other W61 (own_ne (by omega))
  have f83 := f55.other W61 (Or.inl (own_ne (by omega)))
  have f84 := f56.other W61 (own_ne (by omega))
  have f85 := f57.wr W61
  have z61 : n0 ≤ h61.size := Nat.le_trans z33 (Nat.le_of_eq W61.size.symm)
  have N61 := Fr.snoc X61 N33 (by omega)
  have K61 := K33.wr W61 (Or.inl (List.mem_of_getElem? (i := 3) rfl))
  refine own_via (T' := T61) (g' := (mkF m 160 #[.val (.ref a), .val (.ref kx), .val (.int pv), .val .null, .val .null, .val .null, .unset] [])) (fun _ kt => st61 _ kt) ?_
  refine own_via (T' := T61) (g' := (mkF m 161 #[.val (.ref a), .val (.ref kx), .val (.int pv), .val .null, .val .null, .val .null, .unset] [(.ref a)])) (fun _ kt => XS.aloadN X61.here hx rfl (hb hby d7_160) rfl rfl kt) ?_
  obtain ⟨T86, X86, e86, st86⟩ := getF X61 hx hZ hown (host := "") (Or.inl (hw _ (List.mem_of_getElem? (i := 69) rfl))) Via.refl e61 f71 (g := (mkF m 161 #[.val (.ref a), .val (.ref kx), .val (.int pv), .val .null, .val .null, .val .null, .unset] [(.ref a)])) rfl rfl (hb hby d7_161)
  refine own_via (T' := T86) (g' := (mkF m 164 #[.val (.ref a), .val (.ref kx), .val (.int pv), .val .null, .val .null, .val .null, .unset] [(.ref nm)])) (fun _ kt => st86 _ kt) ?_
  refine own_via (T' := T86) (g' := (mkF m 165 #[.val (.ref a), .val (.ref kx), .val (.int pv), .val .null, .val .null, .val .null, .unset] [(.ref a), (.ref nm)])) (fun _ kt => XS.aloadN X86.here hx rfl (hb hby d7_164) rfl rfl kt) ?_
  obtain ⟨T87, X87, e87, st87⟩ := getF X86 hx hZ hown (host := "") (Or.inl (hw _ (List.mem_of_getElem? (i := 105) rfl))) Via.refl e86 f63 (g := (mkF m 165 #[.val (.ref a), .val (.ref kx), .val (.int pv), .val .null, .val .null, .val .null, .unset] [(.ref a), (.ref nm)])) rfl rfl (hb hby d7_165)
  refine own_via (T' := T87) (g' := (mkF m 168 #[.val (.ref a), .val (.ref kx), .val (.int pv), .val .null, .val .null, .val .null, .unset] [(.int (Int32.ofNat n)), (.ref nm)])) (fun _ kt => st87 _ kt) ?_
  refine own_via (T' := T87) (g' := (mkF m 169 #[.val (.ref a), .val (.ref kx), .val (.int pv), .val .null, .val .null, .val .null, .unset] [.null, (.int (Int32.ofNat n)), (.ref nm)])) (fun _ kt => XS.aloadN X87.here hx rfl (hb hby d7_168) rfl rfl kt) ?_
  obtain ⟨T88, h88, X88, e88, W88, A88, st88⟩ := own_aastore X87 hx hZ e87 f72 (j := (Int32.ofNat n)) (i := n) rfl (by omega) rfl (Or.inl rfl) (g := (mkF m 169 #[.val (.ref a), .val (.ref kx), .val (.int pv), .val .null, .val .null, .val .null, .unset] [.null, (.int (Int32.ofNat n)), (.ref nm)])) rfl rfl (hb hby d7_169)
  have f89 := f62.wr W88
  have f90 := f63.other W88 (Or.inl (own_ne (by omega)))
  have f91 := f64.other W88 (Or.inl (own_ne (by omega)))
  have f92 := f65.other W88 (Or.inl (own_ne (by omega)))
  have f93 := f66.other W88 (Or.inl (own_ne (by omega)))
  have f94 := f67.other W88 (own_ne (by omega))
  have f95 := f68.other W88 (Or.inl (own_ne (by omega)))
  have f96 := f69.other W88 (own_ne (by omega))
  have f97 := f70.other W88 (Or.inl (own_ne (by omega)))
  have f98 := A61.other W88 (own_ne (by omega))
  have f99 := f71.other W88 (Or.inl (own_ne (by omega)))
  have f100 := f73.other W88 (Or.inl (own_ne (by omega)))
  have f101 := f74.other W88 (own_ne (by omega))
  have f102 := f75.other W88 (Or.inl (own_ne (by omega)))
  have f103 := f76.other W88 (own_ne (by omega))
  have f104 := f77.other W88 (Or.inl (own_ne (by omega)))
  have f105 := f78.other W88 (own_ne (by omega))
  have f106 := f79.other W88 (Or.inl (own_ne (by omega)))
  have f107 := f80.other W88 (own_ne (by omega))
  have f108 := f81.other W88 (Or.inl (own_ne (by omega)))
  have f109 := f82.other W88 (own_ne (by omega))
  have f110 := f83.other W88 (Or.inl (own_ne (by omega)))
  have f111 := f84.other W88 (own_ne (by omega))
  have f112 := f85.wr W88
  have z88 : n0 ≤ h88.size := Nat.le_trans z61 (Nat.le_of_eq W88.size.symm)
  have N88 := Fr.snoc X88 N61 (by omega)
  have K88 := K61.wr W88 (Or.inl (List.mem_of_getElem? (i := 4) rfl))
  refine own_via (T' := T88) (g' := (mkF m 170 #[.val (.ref a), .val (.ref kx), .val (.int pv), .val .null, .val .null, .val .null, .unset] [])) (fun _ kt => st88 _ kt) ?_
  refine own_via (T' := T88) (g' := (mkF m 171 #[.val (.ref a), .val (.ref kx), .val (.int pv), .val .null, .val .null, .val .null, .unset] [(.ref a)])) (fun _ kt => XS.aloadN X88.here hx rfl (hb hby d7_170) rfl rfl kt) ?_
  obtain ⟨T113, X113, e113, st113⟩ := getF X88 hx hZ hown (host := "") (Or.inl (hw _ (List.mem_of_getElem? (i := 73) rfl))) Via.refl e88 f100 (g := (mkF m 171 #[.val (.ref a), .val (.ref kx), .val (.int pv), .val .null, .val .null, .val .null, .unset] [(.ref a)])) rfl rfl (hb hby d7_171)
  refine own_via (T' := T113) (g' := (mkF m 174 #[.val (.ref a), .val (.ref kx), .val (.int pv), .val .null, .val .null, .val .null, .unset] [(.ref vl)])) (fun _ kt => st113 _ kt) ?_
  refine own_via (T' := T113) (g' := (mkF m 175 #[.val (.ref a), .val (.ref kx), .val (.int pv), .val .null, .val .null, .val .null, .unset] [(.ref a), (.ref vl)])) (fun _ kt => XS.aloadN X113.here hx rfl (hb hby d7_174) rfl rfl kt) ?_
  obtain ⟨T114, X114, e114, st114⟩ := getF X113 hx hZ hown (host := "") (Or.inl (hw _ (List.mem_of_getElem? (i := 105) rfl))) Via.refl e113 f90 (g := (mkF m 175 #[.val (.ref a), .val (.ref kx), .val (.int pv), .val .null, .val .null, .val .null, .unset] [(.ref a), (.ref vl)])) rfl rfl (hb hby d7_175)
  refine own_via (T' := T114) (g' := (mkF m 178 #[.val (.ref a), .val (.ref kx), .val (.int pv), .val .null, .val .null, .val .null, .unset] [(.int (Int32.ofNat n)), (.ref vl)])) (fun _ kt => st114 _ kt) ?_
  refine own_via (T' := T114) (g' := (mkF m 180 #[.val (.ref a), .val (.ref kx), .val (.int pv), .val .null, .val .null, .val .null, .unset] [.null, (.int (Int32.ofNat n)), (.ref vl)])) (fun _ kt => XS.aload X114.here hx rfl (hb hby d7_178) rfl rfl kt) ?_
  obtain ⟨T115, h115, X115, e115, W115, A115, st115⟩ := own_aastore X114 hx hZ e114 f101 (j := (Int32.ofNat n)) (i := n) rfl (by omega) rfl (Or.inl rfl) (g := (mkF m 180 #[.val (.ref a), .val (.ref kx), .val (.int pv), .val .null, .val .null, .val .null, .unset] [.null, (.int (Int32.ofNat n)), (.ref vl)])) rfl rfl (hb hby d7_180)
  have f116 := f89.wr W115
  have f117 := f90.other W115 (Or.inl (own_ne (by omega)))
  have f118 := f91.other W115 (Or.inl (own_ne (by omega)))
  have f119 := f92.other W115 (Or.inl (own_ne (by omega)))
  have f120 := f93.other W115 (Or.inl (own_ne (by omega)))
  have f121 := f94.other W115 (own_ne (by omega))
  have f122 := f95.other W115 (Or.inl (own_ne (by omega)))
  have f123 := f96.other W115 (own_ne (by omega))
  have f124 := f97.other W115 (Or.inl (own_ne (by omega)))
  have f125 := f98.other W115 (own_ne (by omega))
  have f126 := f99.other W115 (Or.inl (own_ne (by omega)))
  have f127 := A88.other W115 (own_ne (by omega))
  have f128 := f100.other W115 (Or.inl (own_ne (by omega)))
  have f129 := f102.other W115 (Or.inl (own_ne (by omega)))
  have f130 := f103.other W115 (own_ne (by omega))
  have f131 := f104.other W115 (Or.inl (own_ne (by omega)))
  have f132 := f105.other W115 (own_ne (by omega))
  have f133 := f106.other W115 (Or.inl (own_ne (by omega)))
  have f134 := f107.other W115 (own_ne (by omega))
  have f135 := f108.other W115 (Or.inl (own_ne (by omega)))
  have f136 := f109.other W115 (own_ne (by omega))
  have f137 := f110.other W115 (Or.inl (own_ne (by omega)))
  have f138 := f111.other W115 (own_ne (by omega))
  have f139 := f112.wr W115
  have z115 : n0 ≤ h115.size := Nat.le_trans z88 (Nat.le_of_eq W115.size.symm)
  have N115 := Fr.snoc X115 N88 (by omega)
  have K115 := K88.wr W115 (Or.inl (List.mem_of_getElem? (i := 5) rfl))
  refine own_via (T' := T115) (g' := (mkF m 181 #[.val (.ref a), .val (.ref kx), .val (.int pv), .val .null, .val .null, .val .null, .unset] [])) (fun _ kt => st115 _ kt) ?_
  refine own_via (T' := T115) (g' := (mkF m 182 #[.val (.ref a), .val (.ref kx), .val (.int pv), .val .null, .val .null, .val .null, .unset] [(.ref a)])) (fun _ kt => XS.aloadN X115.here hx rfl (hb hby d7_181) rfl rfl kt) ?_
  obtain ⟨T140, X140, e140, st140⟩ := getF X115 hx hZ hown (host := "") (Or.inl (hw _ (List.mem_of_getElem? (i := 77) rfl))) Via.refl e115 f129 (g := (mkF m 182 #[.val (.ref a), .val (.ref kx), .val (.int pv), .val .null, .val .null, .val .null, .unset] [(.ref a)])) rfl rfl (hb hby d7_182)
  refine own_via (T' := T140) (g' := (mkF m 185 #[.val (.ref a), .val (.ref kx), .val (.int pv), .val .null, .val .null, .val .null, .unset] [(.ref ns)])) (fun _ kt => st140 _ kt) ?_
  refine own_via (T' := T140) (g' := (mkF m 186 #[.val (.ref a), .val (.ref kx), .val (.int pv), .val .null, .val .null, .val .null, .unset] [(.ref a), (.ref ns)])) (fun _ kt => XS.aloadN X140.here hx rfl (hb hby d7_185) rfl rfl kt) ?_
  obtain ⟨T141, X141, e141, st141⟩ := getF X140 hx hZ hown (host := "") (Or.inl (hw _ (List.mem_of_getElem? (i := 105) rfl))) Via.refl e140 f117 (g := (mkF m 186 #[.val (.ref a), .val (.ref kx), .val (.int pv), .val .null, .val .null, .val .null, .unset] [(.ref a), (.ref ns)])) rfl rfl (hb hby d7_186)
  refine own_via (T' := T141) (g' := (mkF m 189 #[.val (.ref a), .val (.ref kx), .val (.int pv), .val .null, .val .null, .val .null, .unset] [(.int (Int32.ofNat n)), (.ref ns)])) (fun _ kt => st141 _ kt) ?_
  refine own_via (T' := T141) (g' := (mkF m 191 #[.val (.ref a), .val (.ref kx), .val (.int pv), .val .null, .val .null, .val .null, .unset] [.null, (.int (Int32.ofNat n)), (.ref ns)])) (fun _ kt => XS.aload X141.here hx rfl (hb hby d7_189) rfl rfl kt) ?_
  obtain ⟨T142, h142, X142, e142, W142, A142, st142⟩ := own_aastore X141 hx hZ e141 f130 (j := (Int32.ofNat n)) (i := n) rfl (by omega) rfl (Or.inl rfl) (g := (mkF m 191 #[.val (.ref a), .val (.ref kx), .val (.int pv), .val .null, .val .null, .val .null, .unset] [.null, (.int (Int32.ofNat n)), (.ref ns)])) rfl rfl (hb hby d7_191)
  have f143 := f116.wr W142
  have f144 := f117.other W142 (Or.inl (own_ne (by omega)))
  have f145 := f118.other W142 (Or.inl (own_ne (by omega)))
  have f146 := f119.other W142 (Or.inl (own_ne (by omega)))
  have f147 := f120.other W142 (Or.inl (own_ne (by omega)))
  have f148 := f121.other W142 (own_ne (by omega))
  have f149 := f122.other W142 (Or.inl (own_ne (by omega)))
  have f150 := f123.other W142 (own_ne (by omega))
  have f151 := f124.other W142 (Or.inl (own_ne (by omega)))
  have f152 := f125.other W142 (own_ne (by omega))
  have f153 := f126.other W142 (Or.inl (own_ne (by omega)))
  have f154 := f127.other W142 (own_ne (by omega))
  have f155 := f128.other W142 (Or.inl (own_ne (by omega)))
  have f156 := A115.other W142 (own_ne (by omega))
  have f157 := f129.other W142 (Or.inl (own_ne (by omega)))
  have f158 := f131.other W142 (Or.inl (own_ne (by omega)))
  have f159 := f132.other W142 (own_ne (by omega))
  have f160 := f133.other W142 (Or.inl (own_ne (by omega)))
  have f161 := f134.other W142 (own_ne (by omega))
  have f162 := f135.other W142 (Or.inl (own_ne (by omega)))
  have f163 := f136.other W142 (own_ne (by omega))
  have f164 := f137.other W142 (Or.inl (own_ne (by omega)))
  have f165 := f138.other W142 (own_ne (by omega))
  have f166 := f139.wr W142
  have z142 : n0 ≤ h142.size := Nat.le_trans z115 (Nat.le_of_eq W142.size.symm)
  have N142 := Fr.snoc X142 N115 (by omega)
  have K142 := K115.wr W142 (Or.inl (List.mem_of_getElem? (i := 6) rfl))
  refine own_via (T' := T142) (g' := (mkF m 192 #[.val (.ref a), .val (.ref kx), .val (.int pv), .val .null, .val .null, .val .null, .unset] [])) (fun _ kt => st142 _ kt) ?_
  refine own_via (T' := T142) (g' := (mkF m 193 #[.val (.ref a), .val (.ref kx), .val (.int pv), .val .null, .val .null, .val .null, .unset] [(.ref a)])) (fun _ kt => XS.aloadN X142.here hx rfl (hb hby d7_192) rfl rfl kt) ?_
  obtain ⟨T167, X167, e167, st167⟩ := getF X142 hx hZ hown (host := "") (Or.inl (hw _ (List.mem_of_getElem? (i := 79) rfl))) Via.refl e142 f158 (g := (mkF m 193 #[.val (.ref a), .val (.ref kx), .val (.int pv), .val .null, .val .null, .val .null, .unset] [(.ref a)])) rfl rfl (hb hby d7_193)
  refine own_via (T' := T167) (g' := (mkF m 196 #[.val (.ref a), .val (.ref kx), .val (.int pv), .val .null, .val .null, .val .null, .unset] [(.ref fa)])) (fun _ kt => st167 _ kt) ?_
  refine own_via (T' := T167) (g' := (mkF m 197 #[.val (.ref a), .val (.ref kx), .val (.int pv), .val .null, .val .null, .val .null, .unset] [(.ref a), (.ref fa)])) (fun _ kt => XS.aloadN X167.here hx rfl (hb hby d7_196) rfl rfl kt) ?_
  obtain ⟨T168, X168, e168, st168⟩ := getF X167 hx hZ hown (host := "") (Or.inl (hw _ (List.mem_of_getElem? (i := 105) rfl))) Via.refl e167 f144 (g := (mkF m 197 #[.val (.ref a), .val (.ref kx), .val (.int pv), .val .null, .val .null, .val .null, .unset] [(.ref a), (.ref fa)])) rfl rfl (hb hby d7_197)
  refine own_via (T' := T168) (g' := (mkF m 200 #[.val (.ref a), .val (.ref kx), .val (.int pv), .val .null, .val .null, .val .null, .unset] [(.int (Int32.ofNat n)), (.ref fa)])) (fun _ kt => st168 _ kt) ?_
  refine own_via (T' := T168) (g' := (mkF m 201 #[.val (.ref a), .val (.ref kx), .val (.int pv), .val .null, .val .null, .val .null, .unset] [(.ref a), (.int (Int32.ofNat n)), (.ref fa)])) (fun _ kt => XS.aloadN X168.here hx rfl (hb hby d7_200) rfl rfl kt) ?_
  obtain ⟨T169, X169, e169, st169⟩ := getF X168 hx hZ hown (host := "") (Or.inl (hw _ (List.mem_of_getElem? (i := 116) rfl))) Via.refl e168 f146 (g := (mkF m 201 #[.val (.ref a), .val (.ref kx), .val (.int pv), .val .null, .val .null, .val .null, .unset] [(.ref a), (.int (Int32.ofNat n)), (.ref fa)])) rfl rfl (hb hby d7_201)
  refine own_via (T' := T169) (g' := (mkF m 204 #[.val (.ref a), .val (.ref kx), .val (.int pv), .val .null, .val .null, .val .null, .unset] [(.int (0 : Int32)), (.int (Int32.ofNat n)), (.ref fa)])) (fun _ kt => st169 _ kt) ?_
  obtain ⟨T170, h170, X170, e170, W170, A170, st170⟩ := own_iastore X169 hx hZ e169 f159 (j := (Int32.ofNat n)) (i := n) rfl (by omega) (g := (mkF m 204 #[.val (.ref a), .val (.ref kx), .val (.int pv), .val .null, .val .null, .val .null, .unset] [(.int (0 : Int32)), (.int (Int32.ofNat n)), (.ref fa)])) rfl rfl (hb hby d7_204)
  have f171 := f143.wr W170
  have f172 := f144.other W170 (Or.inl (own_ne (by omega)))
  have f173 := f145.other W170 (Or.inl (own_ne (by omega)))
  have f174 := f146.other W170 (Or.inl (own_ne (by omega)))
  have f175 := f147.other W170 (Or.inl (own_ne (by omega)))
  have f176 := f148.other W170 (own_ne (by omega))
  have f177 := f149.other W170 (Or.inl (own_ne (by omega)))
  have f178 := f150.other W170 (own_ne (by omega))
  have f179 := f151.other W170 (Or.inl (own_ne (by omega)))
  have f180 := f152.other W170 (own_ne (by omega))
  have f181 := f153.other W170 (Or.inl (own_ne (by omega)))
  have f182 := f154.other W170 (own_ne (by omega))
  have f183 := f155.other W170 (Or.inl (own_ne (by omega)))
  have f184 := f156.other W170 (own_ne (by omega))
  have f185 := f157.other W170 (Or.inl (own_ne (by omega)))
  have f186 := A142.other W170 (own_ne (by omega))
  have f187 := f158.other W170 (Or.inl (own_ne (by omega)))
  have f188 := f160.other W170 (Or.inl (own_ne (by omega)))
  have f189 := f161.other W170 (own_ne (by omega))
  have f190 := f162.other W170 (Or.inl (own_ne (by omega)))
  have f191 := f163.other W170 (own_ne (by omega))
  have f192 := f164.other W170 (Or.inl (own_ne (by omega)))
  have f193 := f165.other W170 (own_ne (by omega))
  have f194 := f166.wr W170
  have z170 : n0 ≤ h170.size := Nat.le_trans z142 (Nat.le_of_eq W170.size.symm)
  have N170 := Fr.snoc X170 N142 (by omega)
  have K170 := K142.wr W170 (Or.inl (List.mem_of_getElem? (i := 7) rfl))
  refine own_via (T' := T170) (g' := (mkF m 205 #[.val (.ref a), .val (.ref kx), .val (.int pv), .val .null, .val .null, .val .null, .unset] [])) (fun _ kt => st170 _ kt) ?_
  refine own_via (T' := T170) (g' := (mkF m 206 #[.val (.ref a), .val (.ref kx), .val (.int pv), .val .null, .val .null, .val .null, .unset] [(.ref a)])) (fun _ kt => XS.aloadN X170.here hx rfl (hb hby d7_205) rfl rfl kt) ?_
  refine own_via (T' := T170) (g' := (mkF m 207 #[.val (.ref a), .val (.ref kx), .val (.int pv), .val .null, .val .null, .val .null, .unset] [(.ref a), (.ref a)])) (fun _ kt => XS.dup X170.here hx rfl (hb hby d7_206) rfl rfl kt) ?_
  obtain ⟨T195, X195, e195, st195⟩ := getF X170 hx hZ hown (host := "") (Or.inl (hw _ (List.mem_of_getElem? (i := 105) rfl))) Via.refl e170 f172 (g := (mkF m 207 #[.val (.ref a), .val (.ref kx), .val (.int pv), .val .null, .val .null, .val .null, .unset] [(.ref a), (.ref a)])) rfl rfl (hb hby d7_207)
  refine own_via (T' := T195) (g' := (mkF m 210 #[.val (.ref a), .val (.ref kx), .val (.int pv), .val .null, .val .null, .val .null, .unset] [(.int (Int32.ofNat n)), (.ref a)])) (fun _ kt => st195 _ kt) ?_
  refine own_via (T' := T195) (g' := (mkF m 211 #[.val (.ref a), .val (.ref kx), .val (.int pv), .val .null, .val .null, .val .null, .unset] [(.int (Int32.ofNat n)), (.ref a), (.int (Int32.ofNat n))])) (fun _ kt => XS.dupX1 X195.here hx rfl (hb hby d7_210) rfl rfl rfl kt) ?_
  refine own_via (T' := T195) (g' := (mkF m 212 #[.val (.ref a), .val (.ref kx), .val (.int pv), .val .null, .val .null, .val .null, .unset] [(.int (1 : Int32)), (.int (Int32.ofNat n)), (.ref a), (.int (Int32.ofNat n))])) (fun _ kt => XS.iconst X195.here hx rfl (hb hby d7_211) kt) ?_
  refine own_via (T' := T195) (g' := (mkF m 213 #[.val (.ref a), .val (.ref kx), .val (.int pv), .val .null, .val .null, .val .null, .unset] [(.int ((Int32.ofNat n) + (1 : Int32))), (.ref a), (.int (Int32.ofNat n))])) (fun _ kt => XS.iadd X195.here hx rfl (hb hby d7_212) rfl kt) ?_
  rw [show ((Int32.ofNat n) + (1 : Int32)) = (Int32.ofNat (n + 1)) from (inc_ofNat n).symm]
  obtain ⟨T196, h196, X196, e196, W196, st196⟩ := putF X195 hx hZ hown (host := "") (Or.inl (hw _ (List.mem_of_getElem? (i := 105) rfl))) Via.refl e195 f172 f171.exa (Or.inl (hw _ (List.mem_of_getElem? (i := 106) rfl))) (hw _ (List.mem_of_getElem? (i := 5) rfl)) (ty := .int) (by decide) rfl rfl (g := (mkF m 213 #[.val (.ref a), .val (.ref kx), .val (.int pv), .val .null, .val .null, .val .null, .unset] [(.int (Int32.ofNat (n + 1))), (.ref a), (.int (Int32.ofNat n))])) rfl rfl (hb hby d7_213)
  have f197 := f171.wr W196
  have f198 := f173.other W196 (Or.inr (slot_ne (Or.inl (hw _ (List.mem_of_getElem? (i := 124) rfl))) (Or.inl (hw _ (List.mem_of_getElem? (i := 106) rfl))) (by decide) (t := .int) (t' := .int) (by decide) (by decide)))
  have f199 := f174.other W196 (Or.inr (slot_ne (Or.inl (hw _ (List.mem_of_getElem? (i := 117) rfl))) (Or.inl (hw _ (List.mem_of_getElem? (i := 106) rfl))) (by decide) (t := .int) (t' := .int) (by decide) (by decide)))
  have f200 := f175.other W196 (Or.inr (slot_ne (Or.inl (hw _ (List.mem_of_getElem? (i := 61) rfl))) (Or.inl (hw _ (List.mem_of_getElem? (i := 106) rfl))) (by decide) (t := (.array .byte)) (t' := .int) (by decide) (by decide)))
  have f201 := f176.other W196 (own_ne (by omega))
  have f202 := f177.other W196 (Or.inr (slot_ne (Or.inl (hw _ (List.mem_of_getElem? (i := 64) rfl))) (Or.inl (hw _ (List.mem_of_getElem? (i := 106) rfl))) (by decide) (t := (.array .int)) (t' := .int) (by decide) (by decide)))
  have f203 := f178.other W196 (own_ne (by omega))
  have f204 := f179.other W196 (Or.inr (slot_ne (Or.inl (hw _ (List.mem_of_getElem? (i := 66) rfl))) (Or.inl (hw _ (List.mem_of_getElem? (i := 106) rfl))) (by decide) (t := (.array .int)) (t' := .int) (by decide) (by decide)))
  have f205 := f180.other W196 (own_ne (by omega))
  have f206 := f181.other W196 (Or.inr (slot_ne (Or.inl (hw _ (List.mem_of_getElem? (i := 70) rfl))) (Or.inl (hw _ (List.mem_of_getElem? (i := 106) rfl))) (by decide) (t := (.array (.object "com/example/infoset/infoset/xdm/QName"))) (t' := .int) (by decide) (by decide)))
  have f207 := f182.other W196 (own_ne (by omega))
  have f208 := f183.other W196 (Or.inr (slot_ne (Or.inl (hw _ (List.mem_of_getElem? (i := 74) rfl))) (Or.inl (hw _ (List.mem_of_getElem? (i := 106) rfl))) (by decide) (t := (.array (.object "java/lang/String"))) (t' := .int) (by decide) (by decide)))
  have f209 := f184.other W196 (own_ne (by omega))
  have f210 := f185.other W196 (Or.inr (slot_ne (Or.inl (hw _ (List.mem_of_getElem? (i := 78) rfl))) (Or.inl (hw _ (List.mem_of_getElem? (i := 106) rfl))) (by decide) (t := (.array (.object "com/example/infoset/infoset/xdm/NamespaceBindings"))) (t' := .int) (by decide) (by decide)))
  have f211 := f186.other W196 (own_ne (by omega))
  have f212 := f187.other W196 (Or.inr (slot_ne (Or.inl (hw _ (List.mem_of_getElem? (i := 80) rfl))) (Or.inl (hw _ (List.mem_of_getElem? (i := 106) rfl))) (by decide) (t := (.array .int)) (t' := .int) (by decide) (by decide)))
  have f213 := A170.other W196 (own_ne (by omega))
  have f214 := f188.other W196 (Or.inr (slot_ne (Or.inl (hw _ (List.mem_of_getElem? (i := 91) rfl))) (Or.inl (hw _ (List.mem_of_getElem? (i := 106) rfl))) (by decide) (t := (.array .int)) (t' := .int) (by decide) (by decide)))
  have f215 := f189.other W196 (own_ne (by omega))
  have f216 := f190.other W196 (Or.inr (slot_ne (Or.inl (hw _ (List.mem_of_getElem? (i := 93) rfl))) (Or.inl (hw _ (List.mem_of_getElem? (i := 106) rfl))) (by decide) (t := (.array (.object "com/example/infoset/infoset/xdm/NamespaceBindings"))) (t' := .int) (by decide) (by decide)))
  have f217 := f191.other W196 (own_ne (by omega))
  have f218 := f192.other W196 (Or.inr (slot_ne (Or.inl (hw _ (List.mem_of_getElem? (i := 96) rfl))) (Or.inl (hw _ (List.mem_of_getElem? (i := 106) rfl))) (by decide) (t := (.array .boolean)) (t' := .int) (by decide) (by decide)))
  have f219 := f193.other W196 (own_ne (by omega))
  have f220 := f194.wr W196
  have z196 : n0 ≤ h196.size := Nat.le_trans z170 (Nat.le_of_eq W196.size.symm)
  have N196 := Fr.snoc X196 N170 (by omega)
  have K196 := K170.wr W196 (Or.inl (List.mem_of_getElem? (i := 0) rfl))
  have f196 := f172.same W196
  refine own_via (T' := T196) (g' := (mkF m 216 #[.val (.ref a), .val (.ref kx), .val (.int pv), .val .null, .val .null, .val .null, .unset] [(.int (Int32.ofNat n))])) (fun _ kt => st196 _ kt) ?_
  exact own_retI X196 hx hret hlk (hb hby d7_216) (by rw [e196]; exact ⟨rfl, N196, K196, ⟨f197, f196, f198, f199, f200, f202, f204, f206, f208, f210, f212, f214, f216, f218, ⟨_, f201⟩, ⟨_, f203⟩, f205, ⟨_, f207⟩, ⟨_, f209⟩, ⟨_, f211⟩, ⟨_, f213⟩, f215, f217, ⟨_, f219⟩, f220, by omega, by omega, by omega, by omega, by omega, by omega, by omega, by omega, by omega, by omega⟩⟩) (by decide) (by decide)
theorem d9_0 : decode prog_267_method_13_code 0 = .ok (.aload_n 0, 1) := by decide +kernel
theorem d9_1 : decode prog_267_method_13_code 1 = .ok (.getfield 179, 3) := by decide +kernel
theorem d9_4 : decode prog_267_method_13_code 4 = .ok (.aload_n 0, 1) := by decide +kernel
theorem d9_5 : decode prog_267_method_13_code 5 = .ok (.getfield 182, 3) := by decide +kernel
theorem d9_8 : decode prog_267_method_13_code 8 = .ok (.arraylength, 1) := by decide +kernel
theorem d9_9 : decode prog_267_method_13_code 9 = .ok (.if_icmp .ne 57, 3) := by decide +kernel
theorem d9_66 : decode prog_267_method_13_code 66 = .ok (.aload_n 0, 1) := by decide +kernel
theorem d9_67 : decode prog_267_method_13_code 67 = .ok (.getfield 182, 3) := by decide +kernel
theorem d9_70 : decode prog_267_method_13_code 70 = .ok (.aload_n 0, 1) := by decide +kernel
theorem d9_71 : decode prog_267_method_13_code 71 = .ok (.dup, 1) := by decide +kernel
theorem d9_72 : decode prog_267_method_13_code 72 = .ok (.getfield 179, 3) := by decide +kernel
theorem d9_75 : decode prog_267_method_13_code 75 = .ok (.dup_x1, 1) := by decide +kernel
theorem d9_76 : decode prog_267_method_13_code 76 = .ok (.iconst 1, 1) := by decide +kernel
theorem d9_77 : decode prog_267_method_13_code 77 = .ok (.iadd, 1) := by decide +kernel
theorem d9_78 : decode prog_267_method_13_code 78 = .ok (.putfield 179, 3) := by decide +kernel
theorem d9_81 : decode prog_267_method_13_code 81 = .ok (.iload_n 1, 1) := by decide +kernel
theorem d9_82 : decode prog_267_method_13_code 82 = .ok (.iastore, 1) := by decide +kernel
theorem d9_83 : decode prog_267_method_13_code 83 = .ok (.return_, 1) := by decide +kernel
theorem pn_9 : plainName "com/example/infoset/infoset/xdm/TreeBuffers" = true := by first | (simp [plainName, overriddenIn]; done) | decide +kernel
theorem ef_9 (m : MethodId) (x0 : Addr) (x1 : Int32) : entryFrame m #[(.ref x0), (.int x1)] 2 = mkF m 0 #[.val (.ref x0), .val (.int x1)] [] := by first | (simp [entryFrame, mkF, argsToLocals, Value.category]; done) | rfl
set_option maxRecDepth 65536 in
set_option maxHeartbeats 40000000 in
theorem rm9 (l : Launch) (Z : State) (a0 : Array Value) (hw : ∀ d ∈ tables_1, d.before a0 Z = true) (ws : List Jvm.Cond) (a kd pa en nm vl ns fa op og pr : Addr) (n d : Nat) (fe fo fg : Nat → Value) (h0 : Heap) (n0 : Nat) (Z0 : n0 ≤ h0.size) (ga : n0 ≤ a) (T : own_TB Z h0 a kd pa en nm vl ns fa op og pr n d fe fo fg) (iv : Int32) (hd : d < 16) :
    own_Con l Z (⟨"com/example/infoset/infoset/xdm/TreeBuffers", "open", "(I)V"⟩ : MethodName) prog_267_method_13_code 2 none ws ({ frames := 0, cells := 0, slots := 0, locals := 0 } : Room) #[(.ref a), (.int iv)] h0 (fun v h L => v = none ∧ Fr n0 L ∧ Keep h0 h [a, op] ∧ own_TB Z h a kd pa en nm vl ns fa op og pr n (d + 1) fe (own_up fo d (.int iv)) fg) := by
  refine own_body (plainFor_of_name pn_9) ?_
  intro p e s m below meth c T0 hx hby hml hown hnm hret hlk hZ X0 e0
  replace hown : s.vm.findClass "com/example/infoset/infoset/xdm/TreeBuffers" = some m.cls := hown
  replace hret : meth.sig.returnType = none := hret
  replace hnm : meth.name = "open" := hnm
  rw [ef_9 m a iv]
  have N0 := Fr.nil n0
  obtain ⟨k0, k1, k2, k3, k4, k5, k6, k7, k8, k9, k10, k11, k12, k13, k14, k15, k16, k17, k18, k19, k20, k21, k22, k23, k24, k25, k26, k27, k28, k29, k30, k31, k32, k33, k34⟩ := T
  obtain ⟨f_kd, k14⟩ := k14
  obtain ⟨f_pa, k15⟩ := k15
  obtain ⟨f_nm, k17⟩ := k17
  obtain ⟨f_vl, k18⟩ := k18
  obtain ⟨f_ns, k19⟩ := k19
  obtain ⟨f_fa, k20⟩ := k20
  obtain ⟨f_pr, k23⟩ := k23
  refine own_via (T' := T0) (g' := (mkF m 1 #[.val (.ref a), .val (.int iv)] [(.ref a)])) (fun _ kt => XS.aloadN X0.here hx rfl (hb hby d9_0) rfl rfl kt) ?_
  obtain ⟨T1, X1, e1, st1⟩ := getF X0 hx hZ hown (host := "") (Or.inl (hw _ (List.mem_of_getElem? (i := 123) rfl))) Via.refl e0 k2 (g := (mkF m 1 #[.val (.ref a), .val (.int iv)] [(.ref a)])) rfl rfl (hb hby d9_1)
  refine own_via (T' := T1) (g' := (mkF m 4 #[.val (.ref a), .val (.int iv)] [(.int (Int32.ofNat d))])) (fun _ kt => st1 _ kt) ?_
  refine own_via (T' := T1) (g' := (mkF m 5 #[.val (.ref a), .val (.int iv)] [(.ref a), (.int (Int32.ofNat d))])) (fun _ kt => XS.aloadN X1.here hx rfl (hb hby d9_4) rfl rfl kt) ?_
  obtain ⟨T2, X2, e2, st2⟩ := getF X1 hx hZ hown (host := "") (Or.inl (hw _ (List.mem_of_getElem? (i := 90) rfl))) Via.refl e1 k11 (g := (mkF m 5 #[.val (.ref a), .val (.int iv)] [(.ref a), (.int (Int32.ofNat d))])) rfl rfl (hb hby d9_5)
  refine own_via (T' := T2) (g' := (mkF m 8 #[.val (.ref a), .val (.int iv)] [(.ref op), (.int (Int32.ofNat d))])) (fun _ kt => st2 _ kt) ?_
  refine own_via (T' := T2) (g' := (mkF m 9 #[.val (.ref a), .val (.int iv)] [(.int (16 : Int32)), (.int (Int32.ofNat d))])) (fun _ kt => own_alen X2 hx hZ e2 k21 (g := (mkF m 8 #[.val (.ref a), .val (.int iv)] [(.ref op), (.int (Int32.ofNat d))])) rfl rfl (hb hby d9_8) _ kt) ?_
  refine own_via (T' := T2) (g' := (mkF m 66 #[.val (.ref a), .val (.int iv)] [])) (fun _ kt => XS.icmpYes X2.here hx rfl (pc0 := 9) (pc' := 66) rfl (hb hby d9_9) rfl (feq (own_ne16 hd)).2 (by decide) (by decide) kt) ?_
  refine own_via (T' := T2) (g' := (mkF m 67 #[.val (.ref a), .val (.int iv)] [(.ref a)])) (fun _ kt => XS.aloadN X2.here hx rfl (hb hby d9_66) rfl rfl kt) ?_
  obtain ⟨T3, X3, e3, st3⟩ := getF X2 hx hZ hown (host := "") (Or.inl (hw _ (List.mem_of_getElem? (i := 90) rfl))) Via.refl e2 k11 (g := (mkF m 67 #[.val (.ref a), .val (.int iv)] [(.ref a)])) rfl rfl (hb hby d9_67)
  refine own_via (T' := T3) (g' := (mkF m 70 #[.val (.ref a), .val (.int iv)] [(.ref op)])) (fun _ kt => st3 _ kt) ?_
  refine own_via (T' := T3) (g' := (mkF m 71 #[.val (.ref a), .val (.int iv)] [(.ref a), (.ref op)])) (fun _ kt => XS.aloadN X3.here hx rfl (hb hby d9_70) rfl rfl kt) ?_
  refine own_via (T' := T3) (g' := (mkF m 72 #[.val (.ref a), .val (.int iv)] [(.ref a), (.ref a), (.ref op)])) (fun _ kt => XS.dup X3.here hx rfl (hb hby d9_71) rfl rfl kt) ?_
  obtain ⟨T4, X4, e4, st4⟩ := getF X3 hx hZ hown (host := "") (Or.inl (hw _ (List.mem_of_getElem? (i := 123) rfl))) Via.refl e3 k2 (g := (mkF m 72 #[.val (.ref a), .val (.int iv)] [(.ref a), (.ref a), (.ref op)])) rfl rfl (hb hby d9_72)
  refine own_via (T' := T4) (g' := (mkF m 75 #[.val (.ref a), .val (.int iv)] [(.int (Int32.ofNat d)), (.ref a), (.ref op)])) (fun _ kt => st4 _ kt) ?_
  refine own_via (T' := T4) (g' := (mkF m 76 #[.val (.ref a), .val (.int iv)] [(.int (Int32.ofNat d)), (.ref a), (.int (Int32.ofNat d)), (.ref op)])) (fun _ kt => XS.dupX1 X4.here hx rfl (hb hby d9_75) rfl rfl rfl kt) ?_
  refine own_via (T' := T4) (g' := (mkF m 77 #[.val (.ref a), .val (.int iv)] [(.int (1 : Int32)), (.int (Int32.ofNat d)), (.ref a), (.int (Int32.ofNat d)), (.ref op)])) (fun _ kt => XS.iconst X4.here hx rfl (hb hby d9_76) kt) ?_
  refine own_via (T' := T4) (g' := (mkF m 78 #[.val (.ref a), .val (.int iv)] [(.int ((Int32.ofNat d) + (1 : Int32))), (.ref a), (.int (Int32.ofNat d)), (.ref op)])) (fun _ kt => XS.iadd X4.here hx rfl (hb hby d9_77) rfl kt) ?_
  rw [show ((Int32.ofNat d) + (1 : Int32)) = (Int32.ofNat (d + 1)) from (inc_ofNat d).symm]
  obtain ⟨T5, h5, X5, e5, W5, st5⟩ := putF X4 hx hZ hown (host := "") (Or.inl (hw _ (List.mem_of_getElem? (i := 123) rfl))) Via.refl e4 k2 k0.exa (Or.inl (hw _ (List.mem_of_getElem? (i := 124) rfl))) (hw _ (List.mem_of_getElem? (i := 5) rfl)) (ty := .int) (by decide) rfl rfl (g := (mkF m 78 #[.val (.ref a), .val (.int iv)] [(.int (Int32.ofNat (d + 1))), (.ref a), (.int (Int32.ofNat d)), (.ref op)])) rfl rfl (hb hby d9_78)
  have f6 := k0.wr W5
  have f7 := k1.other W5 (Or.inr (slot_ne (Or.inl (hw _ (List.mem_of_getElem? (i := 106) rfl))) (Or.inl (hw _ (List.mem_of_getElem? (i := 124) rfl))) (by decide) (t := .int) (t' := .int) (by decide) (by decide)))
  have f8 := k3.other W5 (Or.inr (slot_ne (Or.inl (hw _ (List.mem_of_getElem? (i := 117) rfl))) (Or.inl (hw _ (List.mem_of_getElem? (i := 124) rfl))) (by decide) (t := .int) (t' := .int) (by decide) (by decide)))
  have f9 := k4.other W5 (Or.inr (slot_ne (Or.inl (hw _ (List.mem_of_getElem? (i := 61) rfl))) (Or.inl (hw _ (List.mem_of_getElem? (i := 124) rfl))) (by decide) (t := (.array .byte)) (t' := .int) (by decide) (by decide)))
  have f10 := k14.other W5 (own_ne (by omega))
  have f11 := k5.other W5 (Or.inr (slot_ne (Or.inl (hw _ (List.mem_of_getElem? (i := 64) rfl))) (Or.inl (hw _ (List.mem_of_getElem? (i := 124) rfl))) (by decide) (t := (.array .int)) (t' := .int) (by decide) (by decide)))
  have f12 := k15.other W5 (own_ne (by omega))
  have f13 := k6.other W5 (Or.inr (slot_ne (Or.inl (hw _ (List.mem_of_getElem? (i := 66) rfl))) (Or.inl (hw _ (List.mem_of_getElem? (i := 124) rfl))) (by decide) (t := (.array .int)) (t' := .int) (by decide) (by decide)))
  have f14 := k16.other W5 (own_ne (by omega))
  have f15 := k7.other W5 (Or.inr (slot_ne (Or.inl (hw _ (List.mem_of_getElem? (i := 70) rfl))) (Or.inl (hw _ (List.mem_of_getElem? (i := 124) rfl))) (by decide) (t := (.array (.object "com/example/infoset/infoset/xdm/QName"))) (t' := .int) (by decide) (by decide)))
  have f16 := k17.other W5 (own_ne (by omega))
  have f17 := k8.other W5 (Or.inr (slot_ne (Or.inl (hw _ (List.mem_of_getElem? (i := 74) rfl))) (Or.inl (hw _ (List.mem_of_getElem? (i := 124) rfl))) (by decide) (t := (.array (.object "java/lang/String"))) (t' := .int) (by decide) (by decide)))
  have f18 := k18.other W5 (own_ne (by omega))
  have f19 := k9.other W5 (Or.inr (slot_ne (Or.inl (hw _ (List.mem_of_getElem? (i := 78) rfl))) (Or.inl (hw _ (List.mem_of_getElem? (i := 124) rfl))) (by decide) (t := (.array (.object "com/example/infoset/infoset/xdm/NamespaceBindings"))) (t' := .int) (by decide) (by decide)))
  have f20 := k19.other W5 (own_ne (by omega))
  have f21 := k10.other W5 (Or.inr (slot_ne (Or.inl (hw _ (List.mem_of_getElem? (i := 80) rfl))) (Or.inl (hw _ (List.mem_of_getElem? (i := 124) rfl))) (by decide) (t := (.array .int)) (t' := .int) (by decide) (by decide)))
  have f22 := k20.other W5 (own_ne (by omega))
  have f23 := k11.other W5 (Or.inr (slot_ne (Or.inl (hw _ (List.mem_of_getElem? (i := 91) rfl))) (Or.inl (hw _ (List.mem_of_getElem? (i := 124) rfl))) (by decide) (t := (.array .int)) (t' := .int) (by decide) (by decide)))
  have f24 := k21.other W5 (own_ne (by omega))
  have f25 := k12.other W5 (Or.inr (slot_ne (Or.inl (hw _ (List.mem_of_getElem? (i := 93) rfl))) (Or.inl (hw _ (List.mem_of_getElem? (i := 124) rfl))) (by decide) (t := (.array (.object "com/example/infoset/infoset/xdm/NamespaceBindings"))) (t' := .int) (by decide) (by decide)))
  have f26 := k22.other W5 (own_ne (by omega))
  have f27 := k13.other W5 (Or.inr (slot_ne (Or.inl (hw _ (List.mem_of_getElem? (i := 96) rfl))) (Or.inl (hw _ (List.mem_of_getElem? (i := 124) rfl))) (by decide) (t := (.array .boolean)) (t' := .int) (by decide) (by decide)))
  have f28 := k23.other W5 (own_ne (by omega))
  have f29 := k24.wr W5
  have z5 : n0 ≤ h5.size := Nat.le_trans Z0 (Nat.le_of_eq W5.size.symm)
  have N5 := Fr.snoc X5 N0 (by omega)
  have K5 := (Keep.refl h0 [a, op]).wr W5 (Or.inl (List.mem_of_getElem? (i := 0) rfl))
  have f5 := k2.same W5
  refine own_via (T' := T5) (g' := (mkF m 81 #[.val (.ref a), .val (.int iv)] [(.int (Int32.ofNat d)), (.ref op)])) (fun _ kt => st5 _ kt) ?_
  refine own_via (T' := T5) (g' := (mkF m 82 #[.val (.ref a), .val (.int iv)] [(.int iv), (.int (Int32.ofNat d)), (.ref op)])) (fun _ kt => XS.iloadN X5.here hx rfl (hb hby d9_81) rfl kt) ?_
  obtain ⟨T30, h30, X30, e30, W30, A30, st30⟩ := own_iastore X5 hx hZ e5 f24 (j := (Int32.ofNat d)) (i := d) rfl (by omega) (g := (mkF m 82 #[.val (.ref a), .val (.int iv)] [(.int iv), (.int (Int32.ofNat d)), (.ref op)])) rfl rfl (hb hby d9_82)
  have f31 := f6.wr W30
  have f32 := f7.other W30 (Or.inl (own_ne (by omega)))
  have f33 := f5.other W30 (Or.inl (own_ne (by omega)))
  have f34 := f8.other W30 (Or.inl (own_ne (by omega)))
  have f35 := f9.other W30 (Or.inl (own_ne (by omega)))
  have f36 := f10.other W30 (own_ne (by omega))
  have f37 := f11.other W30 (Or.inl (own_ne (by omega)))
  have f38 := f12.other W30 (own_ne (by omega))
  have f39 := f13.other W30 (Or.inl (own_ne (by omega)))
  have f40 := f14.other W30 (own_ne (by omega))
  have f41 := f15.other W30 (Or.inl (own_ne (by omega)))
  have f42 := f16.other W30 (own_ne (by omega))
  have f43 := f17.other W30 (Or.inl (own_ne (by omega)))
  have f44 := f18.other W30 (own_ne (by omega))
  have f45 := f19.other W30 (Or.inl (own_ne (by omega)))
  have f46 := f20.other W30 (own_ne (by omega))
  have f47 := f21.other W30 (Or.inl (own_ne (by omega)))
  have f48 := f22.other W30 (own_ne (by omega))
  have f49 := f23.other W30 (Or.inl (own_ne (by omega)))
  have f50 := f25.other W30 (Or.inl (own_ne (by omega)))
  have f51 := f26.other W30 (own_ne (by omega))
  have f52 := f27.other W30 (Or.inl (own_ne (by omega)))
  have f53 := f28.other W30 (own_ne (by omega))
  have f54 := f29.wr W30
  have z30 : n0 ≤ h30.size := Nat.le_trans z5 (Nat.le_of_eq W30.size.symm)
  have N30 := Fr.snoc X30 N5 (by omega)
  have K30 := K5.wr W30 (Or.inl (List.mem_of_getElem? (i := 1) rfl))
  refine own_via (T' := T30) (g' := (mkF m 83 #[.val (.ref a), .val (.int iv)] [])) (fun _ kt => st30 _ kt) ?_
  exact own_retV X30 hx hret hlk (hb hby d9_83) (by rw [e30]; exact ⟨rfl, N30, K30, ⟨f31, f32, f33, f34, f35, f37, f39, f41, f43, f45, f47, f49, f50, f52, ⟨_, f36⟩, ⟨_, f38⟩, f40, ⟨_, f42⟩, ⟨_, f44⟩, ⟨_, f46⟩, ⟨_, f48⟩, A30, f51, ⟨_, f53⟩, f54, by omega, by omega, by omega, by omega, by omega, by omega, by omega, by omega, by omega, by omega⟩⟩) (by decide) (by decide)
theorem d10_0 : decode prog_267_method_19_code 0 = .ok (.aload_n 0, 1) := by decide +kernel
theorem d10_1 : decode prog_267_method_19_code 1 = .ok (.getfield 94, 3) := by decide +kernel
theorem d10_4 : decode prog_267_method_19_code 4 = .ok (.aload_n 0, 1) := by decide +kernel
theorem d10_5 : decode prog_267_method_19_code 5 = .ok (.getfield 182, 3) := by decide +kernel
theorem d10_8 : decode prog_267_method_19_code 8 = .ok (.aload_n 0, 1) := by decide +kernel
theorem d10_9 : decode prog_267_method_19_code 9 = .ok (.getfield 179, 3) := by decide +kernel
theorem d10_12 : decode prog_267_method_19_code 12 = .ok (.iconst 1, 1) := by decide +kernel
theorem d10_13 : decode prog_267_method_19_code 13 = .ok (.isub, 1) := by decide +kernel
theorem d10_14 : decode prog_267_method_19_code 14 = .ok (.iaload, 1) := by decide +kernel
theorem d10_15 : decode prog_267_method_19_code 15 = .ok (.aload_n 0, 1) := by decide +kernel
theorem d10_16 : decode prog_267_method_19_code 16 = .ok (.getfield 74, 3) := by decide +kernel
theorem d10_19 : decode prog_267_method_19_code 19 = .ok (.iastore, 1) := by decide +kernel
theorem d10_20 : decode prog_267_method_19_code 20 = .ok (.aload_n 0, 1) := by decide +kernel
theorem d10_21 : decode prog_267_method_19_code 21 = .ok (.getfield 185, 3) := by decide +kernel
theorem d10_24 : decode prog_267_method_19_code 24 = .ok (.aload_n 0, 1) := by decide +kernel
theorem d10_25 : decode prog_267_method_19_code 25 = .ok (.getfield 179, 3) := by decide +kernel
theorem d10_28 : decode prog_267_method_19_code 28 = .ok (.iconst 1, 1) := by decide +kernel
theorem d10_29 : decode prog_267_method_19_code 29 = .ok (.isub, 1) := by decide +kernel
theorem d10_30 : decode prog_267_method_19_code 30 = .ok (.aconst_null, 1) := by decide +kernel
theorem d10_31 : decode prog_267_method_19_code 31 = .ok (.aastore, 1) := by decide +kernel
theorem d10_32 : decode prog_267_method_19_code 32 = .ok (.aload_n 0, 1) := by decide +kernel
theorem d10_33 : decode prog_267_method_19_code 33 = .ok (.dup, 1) := by decide +kernel
theorem d10_34 : decode prog_267_method_19_code 34 = .ok (.getfield 179, 3) := by decide +kernel
theorem d10_37 : decode prog_267_method_19_code 37 = .ok (.iconst 1, 1) := by decide +kernel
theorem d10_38 : decode prog_267_method_19_code 38 = .ok (.isub, 1) := by decide +kernel
theorem d10_39 : decode prog_267_method_19_code 39 = .ok (.putfield 179, 3) := by decide +kernel
theorem d10_42 : decode prog_267_method_19_code 42 = .ok (.return_, 1) := by decide +kernel
theorem pn_10 : plainName "com/example/infoset/infoset/xdm/TreeBuffers" = true := by first | (simp [plainName, overriddenIn]; done) | decide +kernel
theorem ef_10 (m : MethodId) (x0 : Addr) : entryFrame m #[(.ref x0)] 1 = mkF m 0 #[.val (.ref x0)] [] := by first | (simp [entryFrame, mkF, argsToLocals, Value.category]; done) | rfl
set_option maxRecDepth 65536 in
set_option maxHeartbeats 40000000 in
theorem rm10 (l : Launch) (Z : State) (a0 : Array Value) (hw : ∀ d ∈ tables_1, d.before a0 Z = true) (ws : List Jvm.Cond) (a kd pa en nm vl ns fa op og pr : Addr) (n dd : Nat) (fe fo fg : Nat → Value) (h0 : Heap) (n0 : Nat) (Z0 : n0 ≤ h0.size) (ga : n0 ≤ a) (T : own_TB Z h0 a kd pa en nm vl ns fa op og pr n (dd + 1) fe fo fg) (cc : Nat) (hd : dd < 16) (hc : cc < 16) (hfo : fo dd = .int (Int32.ofNat cc)) :
    own_Con l Z (⟨"com/example/infoset/infoset/xdm/TreeBuffers", "close", "()V"⟩ : MethodName) prog_267_method_19_code 1 none ws ({ frames := 0, cells := 0, slots := 0, locals := 0 } : Room) #[(.ref a)] h0 (fun v h L => v = none ∧ Fr n0 L ∧ Keep h0 h [a, en, og] ∧ own_TB Z h a kd pa en nm vl ns fa op og pr n dd (own_up fe cc (.int (Int32.ofNat n))) fo (own_up fg dd .null)) := by
  refine own_body (plainFor_of_name pn_10) ?_
  intro p e s m below meth c T0 hx hby hml hown hnm hret hlk hZ X0 e0
  replace hown : s.vm.findClass "com/example/infoset/infoset/xdm/TreeBuffers" = some m.cls := hown
  replace hret : meth.sig.returnType = none := hret
  replace hnm : meth.name = "close" := hnm
  rw [ef_10 m a]
  have N0 := Fr.nil n0
  obtain ⟨k0, k1, k2, k3, k4, k5, k6, k7, k8, k9, k10, k11, k12, k13, k14, k15, k16, k17, k18, k19, k20, k21, k22, k23, k24, k25, k26, k27, k28, k29, k30, k31, k32, k33, k34⟩ := T
  obtain ⟨f_kd, k14⟩ := k14
  obtain ⟨f_pa, k15⟩ := k15
  obtain ⟨f_nm, k17⟩ := k17
  obtain ⟨f_vl, k18⟩ := k18
  obtain ⟨f_ns, k19⟩ := k19
  obtain ⟨f_fa, k20⟩ := k20
  obtain ⟨f_pr, k23⟩ := k23
  refine own_via (T' := T0) (g' := (mkF m 1 #[.val (.ref a)] [(.ref a)])) (fun _ kt => XS.aloadN X0.here hx rfl (hb hby d10_0) rfl rfl kt) ?_
  obtain ⟨T1, X1, e1, st1⟩ := getF X0 hx hZ hown (host := "") (Or.inl (hw _ (List.mem_of_getElem? (i := 65) rfl))) Via.refl e0 k6 (g := (mkF m 1 #[.val (.ref a)] [(.ref a)])) rfl rfl (hb hby d10_1)
  refine own_via (T' := T1) (g' := (mkF m 4 #[.val (.ref a)] [(.ref en)])) (fun _ kt => st1 _ kt) ?_
  refine own_via (T' := T1) (g' := (mkF m 5 #[.val (.ref a)] [(.ref a), (.ref en)])) (fun _ kt => XS.aloadN X1.here hx rfl (hb hby d10_4) rfl rfl kt) ?_
  obtain ⟨T2, X2, e2, st2⟩ := getF X1 hx hZ hown (host := "") (Or.inl (hw _ (List.mem_of_getElem? (i := 90) rfl))) Via.refl e1 k11 (g := (mkF m 5 #[.val (.ref a)] [(.ref a), (.ref en)])) rfl rfl (hb hby d10_5)
  refine own_via (T' := T2) (g' := (mkF m 8 #[.val (.ref a)] [(.ref op), (.ref en)])) (fun _ kt => st2 _ kt) ?_
  refine own_via (T' := T2) (g' := (mkF m 9 #[.val (.ref a)] [(.ref a), (.ref op), (.ref en)])) (fun _ kt => XS.aloadN X2.here hx rfl (hb hby d10_8) rfl rfl kt) ?_
  obtain ⟨T3, X3, e3, st3⟩ := getF X2 hx hZ hown (host := "") (Or.inl (hw _ (List.mem_of_getElem? (i := 123) rfl))) Via.refl e2 k2 (g := (mkF m 9 #[.val (.ref a)] [(.ref a), (.ref op), (.ref en)])) rfl rfl (hb hby d10_9)
  refine own_via (T' := T3) (g' := (mkF m 12 #[.val (.ref a)] [(.int (Int32.ofNat (dd + 1))), (.ref op), (.ref en)])) (fun _ kt => st3 _ kt) ?_
  refine own_via (T' := T3) (g' := (mkF m 13 #[.val (.ref a)] [(.int (1 : Int32)), (.int (Int32.ofNat (dd + 1))), (.ref op), (.ref en)])) (fun _ kt => XS.iconst X3.here hx rfl (hb hby d10_12) kt) ?_
  refine own_via (T' := T3) (g' := (mkF m 14 #[.val (.ref a)] [(.int ((Int32.ofNat (dd + 1)) - (1 : Int32))), (.ref op), (.ref en)])) (fun _ kt => XS.isub X3.here hx rfl (hb hby d10_13) rfl kt) ?_
  rw [show ((Int32.ofNat (dd + 1)) - (1 : Int32)) = (Int32.ofNat dd) from dec_ofNat dd]
  refine own_via (T' := T3) (g' := (mkF m 15 #[.val (.ref a)] [(fo dd), (.ref en)])) (fun _ kt => own_iaload X3 hx hZ e3 k21 (j := (Int32.ofNat dd)) (i := dd) rfl (by omega) (g := (mkF m 14 #[.val (.ref a)] [(.int (Int32.ofNat dd)), (.ref op), (.ref en)])) rfl rfl (hb hby d10_14) _ kt) ?_
  rw [hfo]
  refine own_via (T' := T3) (g' := (mkF m 16 #[.val (.ref a)] [(.ref a), (.int (Int32.ofNat cc)), (.ref en)])) (fun _ kt => XS.aloadN X3.here hx rfl (hb hby d10_15) rfl rfl kt) ?_
  obtain ⟨T4, X4, e4, st4⟩ := getF X3 hx hZ hown (host := "") (Or.inl (hw _ (List.mem_of_getElem? (i := 105) rfl))) Via.refl e3 k1 (g := (mkF m 16 #[.val (.ref a)] [(.ref a), (.int (Int32.ofNat cc)), (.ref en)])) rfl rfl (hb hby d10_16)
  refine own_via (T' := T4) (g' := (mkF m 19 #[.val (.ref a)] [(.int (Int32.ofNat n)), (.int (Int32.ofNat cc)), (.ref en)])) (fun _ kt => st4 _ kt) ?_
  obtain ⟨T5, h5, X5, e5, W5, A5, st5⟩ := own_iastore X4 hx hZ e4 k16 (j := (Int32.ofNat cc)) (i := cc) rfl (by omega) (g := (mkF m 19 #[.val (.ref a)] [(.int (Int32.ofNat n)), (.int (Int32.ofNat cc)), (.ref en)])) rfl rfl (hb hby d10_19)
  have f6 := k0.wr W5
  have f7 := k1.other W5 (Or.inl (own_ne (by omega)))
  have f8 := k2.other W5 (Or.inl (own_ne (by omega)))
  have f9 := k3.other W5 (Or.inl (own_ne (by omega)))
  have f10 := k4.other W5 (Or.inl (own_ne (by omega)))
  have f11 := k14.other W5 (own_ne (by omega))
  have f12 := k5.other W5 (Or.inl (own_ne (by omega)))
  have f13 := k15.other W5 (own_ne (by omega))
  have f14 := k6.other W5 (Or.inl (own_ne (by omega)))
  have f15 := k7.other W5 (Or.inl (own_ne (by omega)))
  have f16 := k17.other W5 (own_ne (by omega))
  have f17 := k8.other W5 (Or.inl (own_ne (by omega)))
  have f18 := k18.other W5 (own_ne (by omega))
  have f19 := k9.other W5 (Or.inl (own_ne (by omega)))
  have f20 := k19.other W5 (own_ne (by omega))
  have f21 := k10.other W5 (Or.inl (own_ne (by omega)))
  have f22 := k20.other W5 (own_ne (by omega))
  have f23 := k11.other W5 (Or.inl (own_ne (by omega)))
  have f24 := k21.other W5 (own_ne (by omega))
  have f25 := k12.other W5 (Or.inl (own_ne (by omega)))
  have f26 := k22.other W5 (own_ne (by omega))
  have f27 := k13.other W5 (Or.inl (own_ne (by omega)))
  have f28 := k23.other W5 (own_ne (by omega))
  have f29 := k24.wr W5
  have z5 : n0 ≤ h5.size := Nat.le_trans Z0 (Nat.le_of_eq W5.size.symm)
  have N5 := Fr.snoc X5 N0 (by omega)
  have K5 := (Keep.refl h0 [a, en, og]).wr W5 (Or.inl (List.mem_of_getElem? (i := 1) rfl))
  refine own_via (T' := T5) (g' := (mkF m 20 #[.val (.ref a)] [])) (fun _ kt => st5 _ kt) ?_
  refine own_via (T' := T5) (g' := (mkF m 21 #[.val (.ref a)] [(.ref a)])) (fun _ kt => XS.aloadN X5.here hx rfl (hb hby d10_20) rfl rfl kt) ?_
  obtain ⟨T30, X30, e30, st30⟩ := getF X5 hx hZ hown (host := "") (Or.inl (hw _ (List.mem_of_getElem? (i := 92) rfl))) Via.refl e5 f25 (g := (mkF m 21 #[.val (.ref a)] [(.ref a)])) rfl rfl (hb hby d10_21)
  refine own_via (T' := T30) (g' := (mkF m 24 #[.val (.ref a)] [(.ref og)])) (fun _ kt => st30 _ kt) ?_
  refine own_via (T' := T30) (g' := (mkF m 25 #[.val (.ref a)] [(.ref a), (.ref og)])) (fun _ kt => XS.aloadN X30.here hx rfl (hb hby d10_24) rfl rfl kt) ?_
  obtain ⟨T31, X31, e31, st31⟩ := getF X30 hx hZ hown (host := "") (Or.inl (hw _ (List.mem_of_getElem? (i := 123) rfl))) Via.refl e30 f8 (g := (mkF m 25 #[.val (.ref a)] [(.ref a), (.ref og)])) rfl rfl (hb hby d10_25)
  refine own_via (T' := T31) (g' := (mkF m 28 #[.val (.ref a)] [(.int (Int32.ofNat (dd + 1))), (.ref og)])) (fun _ kt => st31 _ kt) ?_
  refine own_via (T' := T31) (g' := (mkF m 29 #[.val (.ref a)] [(.int (1 : Int32)), (.int (Int32.ofNat (dd + 1))), (.ref og)])) (fun _ kt => XS.iconst X31.here hx rfl (hb hby d10_28) kt) ?_
  refine own_via (T' := T31) (g' := (mkF m 30 #[.val (.ref a)] [(.int ((Int32.ofNat (dd + 1)) - (1 : Int32))), (.ref og)])) (fun _ kt => XS.isub X31.here hx rfl (hb hby d10_29) rfl kt) ?_
  rw [show ((Int32.ofNat (dd + 1)) - (1 : Int32)) = (Int32.ofNat dd) from dec_ofNat dd]
  refine own_via (T' := T31) (g' := (mkF m 31 #[.val (.ref a)] [.null, (.int (Int32.ofNat dd)), (.ref og)])) (fun _ kt => XS.aconstNull X31.here hx rfl (hb hby d10_30) kt) ?_
  obtain ⟨T32, h32, X32, e32, W32, A32, st32⟩ := own_aastore X31 hx hZ e31 f26 (j := (Int32.ofNat dd)) (i := dd) rfl (by omega) rfl (Or.inl rfl) (g := (mkF m 31 #[.val (.ref a)] [.null, (.int (Int32.ofNat dd)), (.ref og)])) rfl rfl (hb hby d10_31)
  have f33 := f6.wr W32
  have f34 := f7.other W32 (Or.inl (own_ne (by omega)))
  have f35 := f8.other W32 (Or.inl (own_ne (by omega)))
  have f36 := f9.other W32 (Or.inl (own_ne (by omega)))
  have f37 := f10.other W32 (Or.inl (own_ne (by omega)))
  have f38 := f11.other W32 (own_ne (by omega))
  have f39 := f12.other W32 (Or.inl (own_ne (by omega)))
  have f40 := f13.other W32 (own_ne (by omega))
  have f41 := f14.other W32 (Or.inl (own_ne (by omega)))
  have f42 := A5.other W32 (own_ne (by omega))
  have f43 := f15.other W32 (Or.inl (own_ne (by omega)))
  have f44 := f16.other W32 (own_ne (by omega))
  have f45 := f17.other W32 (Or.inl (own_ne (by omega)))
  have f46 := f18.other W32 (own_ne (by omega))
  have f47 := f19.other W32 (Or.inl (own_ne (by omega)))
  have f48 := f20.other W32 (own_ne (by omega))
  have f49 := f21.other W32 (Or.inl (own_ne (by omega)))
  have f50 := f22.other W32 (own_ne (by omega))
  have f51 := f23.other W32 (Or.inl (own_ne (by omega)))
  have f52 := f24.other W32 (own_ne (by omega))
  have f53 := f25.other W32 (Or.inl (own_ne (by omega)))
  have f54 := f27.other W32 (Or.inl (own_ne (by omega)))
  have f55 := f28.other W32 (own_ne (by omega))
  have f56 := f29.wr W32
  have z32 : n0 ≤ h32.size := Nat.le_trans z5 (Nat.le_of_eq W32.size.symm)
  have N32 := Fr.snoc X32 N5 (by omega)
  have K32 := K5.wr W32 (Or.inl (List.mem_of_getElem? (i := 2) rfl))
  refine own_via (T' := T32) (g' := (mkF m 32 #[.val (.ref a)] [])) (fun _ kt => st32 _ kt) ?_
  refine own_via (T' := T32) (g' := (mkF m 33 #[.val (.ref a)] [(.ref a)])) (fun _ kt => XS.aloadN X32.here hx rfl (hb hby d10_32) rfl rfl kt) ?_
  refine own_via (T' := T32) (g' := (mkF m 34 #[.val (.ref a)] [(.ref a), (.ref a)])) (fun _ kt => XS.dup X32.here hx rfl (hb hby d10_33) rfl rfl kt) ?_
  obtain ⟨T57, X57, e57, st57⟩ := getF X32 hx hZ hown (host := "") (Or.inl (hw _ (List.mem_of_getElem? (i := 123) rfl))) Via.refl e32 f35 (g := (mkF m 34 #[.val (.ref a)] [(.ref a), (.ref a)])) rfl rfl (hb hby d10_34)
  refine own_via (T' := T57) (g' := (mkF m 37 #[.val (.ref a)] [(.int (Int32.ofNat (dd + 1))), (.ref a)])) (fun _ kt => st57 _ kt) ?_
  refine own_via (T' := T57) (g' := (mkF m 38 #[.val (.ref a)] [(.int (1 : Int32)), (.int (Int32.ofNat (dd + 1))), (.ref a)])) (fun _ kt => XS.iconst X57.here hx rfl (hb hby d10_37) kt) ?_
  refine own_via (T' := T57) (g' := (mkF m 39 #[.val (.ref a)] [(.int ((Int32.ofNat (dd + 1)) - (1 : Int32))), (.ref a)])) (fun _ kt => XS.isub X57.here hx rfl (hb hby d10_38) rfl kt) ?_
  rw [show ((Int32.ofNat (dd + 1)) - (1 : Int32)) = (Int32.ofNat dd) from dec_ofNat dd]
  obtain ⟨T58, h58, X58, e58, W58, st58⟩ := putF X57 hx hZ hown (host := "") (Or.inl (hw _ (List.mem_of_getElem? (i := 123) rfl))) Via.refl e57 f35 f33.exa (Or.inl (hw _ (List.mem_of_getElem? (i := 124) rfl))) (hw _ (List.mem_of_getElem? (i := 5) rfl)) (ty := .int) (by decide) rfl rfl (g := (mkF m 39 #[.val (.ref a)] [(.int (Int32.ofNat dd)), (.ref a)])) rfl rfl (hb hby d10_39)
  have f59 := f33.wr W58
  have f60 := f34.other W58 (Or.inr (slot_ne (Or.inl (hw _ (List.mem_of_getElem? (i := 106) rfl))) (Or.inl (hw _ (List.mem_of_getElem? (i := 124) rfl))) (by decide) (t := .int) (t' := .int) (by decide) (by decide)))
  have f61 := f36.other W58 (Or.inr (slot_ne (Or.inl (hw _ (List.mem_of_getElem? (i := 117) rfl))) (Or.inl (hw _ (List.mem_of_getElem? (i := 124) rfl))) (by decide) (t := .int) (t' := .int) (by decide) (by decide)))
  have f62 := f37.other W58 (Or.inr (slot_ne (Or.inl (hw _ (List.mem_of_getElem? (i := 61) rfl))) (Or.inl (hw _ (List.mem_of_getElem? (i := 124) rfl))) (by decide) (t := (.array .byte)) (t' := .int) (by decide) (by decide)))
  have f63 := f38.other W58 (own_ne (by omega))
  have f64 := f39.other W58 (Or.inr (slot_ne (Or.inl (hw _ (List.mem_of_getElem? (i := 64) rfl))) (Or.inl (hw _ (List.mem_of_getElem? (i := 124) rfl))) (by decide) (t := (.array .int)) (t' := .int) (by decide) (by decide)))
  have f65 := f40.other W58 (own_ne (by omega))
  have f66 := f41.other W58 (Or.inr (slot_ne (Or.inl (hw _ (List.mem_of_getElem? (i := 66) rfl))) (Or.inl (hw _ (List.mem_of_getElem? (i := 124) rfl))) (by decide) (t := (.array .int)) (t' := .int) (by decide) (by decide)))
  have f67 := f42.other W58 (own_ne (by omega))
  have f68 := f43.other W58 (Or.inr (slot_ne (Or.inl (hw _ (List.mem_of_getElem? (i := 70) rfl))) (Or.inl (hw _ (List.mem_of_getElem? (i := 124) rfl))) (by decide) (t := (.array (.object "com/example/infoset/infoset/xdm/QName"))) (t' := .int) (by decide) (by decide)))
  have f69 := f44.other W58 (own_ne (by omega))
  have f70 := f45.other W58 (Or.inr (slot_ne (Or.inl (hw _ (List.mem_of_getElem? (i := 74) rfl))) (Or.inl (hw _ (List.mem_of_getElem? (i := 124) rfl))) (by decide) (t := (.array (.object "java/lang/String"))) (t' := .int) (by decide) (by decide)))
  have f71 := f46.other W58 (own_ne (by omega))
  have f72 := f47.other W58 (Or.inr (slot_ne (Or.inl (hw _ (List.mem_of_getElem? (i := 78) rfl))) (Or.inl (hw _ (List.mem_of_getElem? (i := 124) rfl))) (by decide) (t := (.array (.object "com/example/infoset/infoset/xdm/NamespaceBindings"))) (t' := .int) (by decide) (by decide)))
  have f73 := f48.other W58 (own_ne (by omega))
  have f74 := f49.other W58 (Or.inr (slot_ne (Or.inl (hw _ (List.mem_of_getElem? (i := 80) rfl))) (Or.inl (hw _ (List.mem_of_getElem? (i := 124) rfl))) (by decide) (t := (.array .int)) (t' := .int) (by decide) (by decide)))
  have f75 := f50.other W58 (own_ne (by omega))
  have f76 := f51.other W58 (Or.inr (slot_ne (Or.inl (hw _ (List.mem_of_getElem? (i := 91) rfl))) (Or.inl (hw _ (List.mem_of_getElem? (i := 124) rfl))) (by decide) (t := (.array .int)) (t' := .int) (by decide) (by decide)))
  have f77 := f52.other W58 (own_ne (by omega))
  have f78 := f53.other W58 (Or.inr (slot_ne (Or.inl (hw _ (List.mem_of_getElem? (i := 93) rfl))) (Or.inl (hw _ (List.mem_of_getElem? (i := 124) rfl))) (by decide) (t := (.array (.object "com/example/infoset/infoset/xdm/NamespaceBindings"))) (t' := .int) (by decide) (by decide)))
  have f79 := A32.other W58 (own_ne (by omega))
  have f80 := f54.other W58 (Or.inr (slot_ne (Or.inl (hw _ (List.mem_of_getElem? (i := 96) rfl))) (Or.inl (hw _ (List.mem_of_getElem? (i := 124) rfl))) (by decide) (t := (.array .boolean)) (t' := .int) (by decide) (by decide)))
  have f81 := f55.other W58 (own_ne (by omega))
  have f82 := f56.wr W58
  have z58 : n0 ≤ h58.size := Nat.le_trans z32 (Nat.le_of_eq W58.size.symm)
  have N58 := Fr.snoc X58 N32 (by omega)
  have K58 := K32.wr W58 (Or.inl (List.mem_of_getElem? (i := 0) rfl))
  have f58 := f35.same W58
  refine own_via (T' := T58) (g' := (mkF m 42 #[.val (.ref a)] [])) (fun _ kt => st58 _ kt) ?_
  exact own_retV X58 hx hret hlk (hb hby d10_42) (by rw [e58]; exact ⟨rfl, N58, K58, ⟨f59, f60, f58, f61, f62, f64, f66, f68, f70, f72, f74, f76, f78, f80, ⟨_, f63⟩, ⟨_, f65⟩, f67, ⟨_, f69⟩, ⟨_, f71⟩, ⟨_, f73⟩, ⟨_, f75⟩, f77, f79, ⟨_, f81⟩, f82, by omega, by omega, by omega, by omega, by omega, by omega, by omega, by omega, by omega, by omega⟩⟩) (by decide) (by decide)
theorem d11_0 : decode prog_267_method_17_code 0 = .ok (.aload_n 0, 1) := by decide +kernel
theorem d11_1 : decode prog_267_method_17_code 1 = .ok (.getfield 179, 3) := by decide +kernel
theorem d11_4 : decode prog_267_method_17_code 4 = .ok (.ireturn, 1) := by decide +kernel
theorem pn_11 : plainName "com/example/infoset/infoset/xdm/TreeBuffers" = true := by first | (simp [plainName, overriddenIn]; done) | decide +kernel
theorem ef_11 (m : MethodId) (x0 : Addr) : entryFrame m #[(.ref x0)] 1 = mkF m 0 #[.val (.ref x0)] [] := by first | (simp [entryFrame, mkF, argsToLocals, Value.category]; done) | rfl
set_option maxRecDepth 65536 in
set_option maxHeartbeats 40000000 in
theorem rm11 (l : Launch) (Z : State) (a0 : Array Value) (hw : ∀ d ∈ tables_1, d.before a0 Z = true) (ws : List Jvm.Cond) (a kd pa en nm vl ns fa op og pr : Addr) (n d : Nat) (fe fo fg : Nat → Value) (h0 : Heap) (n0 : Nat) (Z0 : n0 ≤ h0.size) (ga : n0 ≤ a) (T : own_TB Z h0 a kd pa en nm vl ns fa op og pr n d fe fo fg) :
    own_Con l Z (⟨"com/example/infoset/infoset/xdm/TreeBuffers", "depth", "()I"⟩ : MethodName) prog_267_method_17_code 1 (some .int) ws ({ frames := 0, cells := 0, slots := 0, locals := 0 } : Room) #[(.ref a)] h0 (fun v h L => v = some (.int (Int32.ofNat d)) ∧ L = [] ∧ h = h0) := by
  refine own_body (plainFor_of_name pn_11) ?_
  intro p e s m below meth c T0 hx hby hml hown hnm hret hlk hZ X0 e0
  replace hown : s.vm.findClass "com/example/infoset/infoset/xdm/TreeBuffers" = some m.cls := hown
  replace hret : meth.sig.returnType = (some .int) := hret
  replace hnm : meth.name = "depth" := hnm
  rw [ef_11 m a]
  have N0 := Fr.nil n0
  obtain ⟨k0, k1, k2, k3, k4, k5, k6, k7, k8, k9, k10, k11, k12, k13, k14, k15, k16, k17, k18, k19, k20, k21, k22, k23, k24, k25, k26, k27, k28, k29, k30, k31, k32, k33, k34⟩ := T
  obtain ⟨f_kd, k14⟩ := k14
  obtain ⟨f_pa, k15⟩ := k15
  obtain ⟨f_nm, k17⟩ := k17
  obtain ⟨f_vl, k18⟩ := k18
  obtain ⟨f_ns, k19⟩ := k19
  obtain ⟨f_fa, k20⟩ := k20
  obtain ⟨f_pr, k23⟩ := k23
  refine own_via (T' := T0) (g' := (mkF m 1 #[.val (.ref a)] [(.ref a)])) (fun _ kt => XS.aloadN X0.here hx rfl (hb hby d11_0) rfl rfl kt) ?_
  obtain ⟨T1, X1, e1, st1⟩ := getF X0 hx hZ hown (host := "") (Or.inl (hw _ (List.mem_of_getElem? (i := 123) rfl))) Via.refl e0 k2 (g := (mkF m 1 #[.val (.ref a)] [(.ref a)])) rfl rfl (hb hby d11_1)
  refine own_via (T' := T1) (g' := (mkF m 4 #[.val (.ref a)] [(.int (Int32.ofNat d))])) (fun _ kt => st1 _ kt) ?_
  exact own_retI X1 hx hret hlk (hb hby d11_4) ⟨rfl, rfl, e1⟩ (by decide) (by decide)
theorem d12_0 : decode prog_267_method_18_code 0 = .ok (.aload_n 0, 1) := by decide +kernel
theorem d12_1 : decode prog_267_method_18_code 1 = .ok (.getfield 179, 3) := by decide +kernel
theorem d12_4 : decode prog_267_method_18_code 4 = .ok (.ifCond .le 17, 3) := by decide +kernel
theorem d12_7 : decode prog_267_method_18_code 7 = .ok (.aload_n 0, 1) := by decide +kernel
theorem d12_8 : decode prog_267_method_18_code 8 = .ok (.getfield 182, 3) := by decide +kernel
theorem d12_11 : decode prog_267_method_18_code 11 = .ok (.aload_n 0, 1) := by decide +kernel
theorem d12_12 : decode prog_267_method_18_code 12 = .ok (.getfield 179, 3) := by decide +kernel
theorem d12_15 : decode prog_267_method_18_code 15 = .ok (.iconst 1, 1) := by decide +kernel
theorem d12_16 : decode prog_267_method_18_code 16 = .ok (.isub, 1) := by decide +kernel
theorem d12_17 : decode prog_267_method_18_code 17 = .ok (.iaload, 1) := by decide +kernel
theorem d12_18 : decode prog_267_method_18_code 18 = .ok (.goto 4, 3) := by decide +kernel
theorem d12_21 : decode prog_267_method_18_code 21 = .ok (.iconst (-1), 1) := by decide +kernel
theorem d12_22 : decode prog_267_method_18_code 22 = .ok (.ireturn, 1) := by decide +kernel
theorem pn_12 : plainName "com/example/infoset/infoset/xdm/TreeBuffers" = true := by first | (simp [plainName, overriddenIn]; done) | decide +kernel
theorem ef_12 (m : MethodId) (x0 : Addr) : entryFrame m #[(.ref x0)] 1 = mkF m 0 #[.val (.ref x0)] [] := by first | (simp [entryFrame, mkF, argsToLocals, Value.category]; done) | rfl
set_option maxRecDepth 65536 in
set_option maxHeartbeats 40000000 in
theorem rm12z (l : Launch) (Z : State) (a0 : Array Value) (hw : ∀ d ∈ tables_1, d.before a0 Z = true) (ws : List Jvm.Cond) (a kd pa en nm vl ns fa op og pr : Addr) (n : Nat) (fe fo fg : Nat → Value) (h0 : Heap) (n0 : Nat) (Z0 : n0 ≤ h0.size) (ga : n0 ≤ a) (T : own_TB Z h0 a kd pa en nm vl ns fa op og pr n 0 fe fo fg) :
    own_Con l Z (⟨"com/example/infoset/infoset/xdm/TreeBuffers", "innermost", "()I"⟩ : MethodName) prog_267_method_18_code 1 (some .int) ws ({ frames := 0, cells := 0, slots := 0, locals := 0 } : Room) #[(.ref a)] h0 (fun v h L => v = some (.int (-1)) ∧ L = [] ∧ h = h0) := by
  refine own_body (plainFor_of_name pn_12) ?_
  intro p e s m below meth c T0 hx hby hml hown hnm hret hlk hZ X0 e0
  replace hown : s.vm.findClass "com/example/infoset/infoset/xdm/TreeBuffers" = some m.cls := hown
  replace hret : meth.sig.returnType = (some .int) := hret
  replace hnm : meth.name = "innermost" := hnm
  rw [ef_12 m a]
  have N0 := Fr.nil n0
  obtain ⟨k0, k1, k2, k3, k4, k5, k6, k7, k8, k9, k10, k11, k12, k13, k14, k15, k16, k17, k18, k19, k20, k21, k22, k23, k24, k25, k26, k27, k28, k29, k30, k31, k32, k33, k34⟩ := T
  obtain ⟨f_kd, k14⟩ := k14
  obtain ⟨f_pa, k15⟩ := k15
  obtain ⟨f_nm, k17⟩ := k17
  obtain ⟨f_vl, k18⟩ := k18
  obtain ⟨f_ns, k19⟩ := k19
  obtain ⟨f_fa, k20⟩ := k20
  obtain ⟨f_pr, k23⟩ := k23
  refine own_via (T' := T0) (g' := (mkF m 1 #[.val (.ref a)] [(.ref a)])) (fun _ kt => XS.aloadN X0.here hx rfl (hb hby d12_0) rfl rfl kt) ?_
  obtain ⟨T1, X1, e1, st1⟩ := getF X0 hx hZ hown (host := "") (Or.inl (hw _ (List.mem_of_getElem? (i := 123) rfl))) Via.refl e0 k2 (g := (mkF m 1 #[.val (.ref a)] [(.ref a)])) rfl rfl (hb hby d12_1)
  refine own_via (T' := T1) (g' := (mkF m 4 #[.val (.ref a)] [(.int (0 : Int32))])) (fun _ kt => st1 _ kt) ?_
  refine own_via (T' := T1) (g' := (mkF m 21 #[.val (.ref a)] [])) (fun _ kt => XS.ifYes X1.here hx rfl (pc0 := 4) (pc' := 21) rfl (hb hby d12_4) rfl ((if0 _ _).trans (flt (by decide : ¬ ((0 : Int32) < (0 : Int32)))).2.2.2) (by decide) (by decide) kt) ?_
  refine own_via (T' := T1) (g' := (mkF m 22 #[.val (.ref a)] [(.int (-1 : Int32))])) (fun _ kt => XS.iconst X1.here hx rfl (hb hby d12_21) kt) ?_
  exact own_retI X1 hx hret hlk (hb hby d12_22) ⟨rfl, rfl, e1⟩ (by decide) (by decide)
set_option maxRecDepth 65536 in
set_option maxHeartbeats 40000000 in
theorem rm12s (l : Launch) (Z : State) (a0 : Array Value) (hw : ∀ d ∈ tables_1, d.before a0 Z = true) (ws : List Jvm.Cond) (a kd pa en nm vl ns fa op og pr : Addr) (n dd : Nat) (fe fo fg : Nat → Value) (h0 : Heap) (n0 : Nat) (Z0 : n0 ≤ h0.size) (ga : n0 ≤ a) (T : own_TB Z h0 a kd pa en nm vl ns fa op og pr n (dd + 1) fe fo fg) (iv : Int32) (hd : dd < 16) (hfo : fo dd = .int iv) :
    own_Con l Z (⟨"com/example/infoset/infoset/xdm/TreeBuffers", "innermost", "()I"⟩ : MethodName) prog_267_method_18_code 1 (some .int) ws ({ frames := 0, cells := 0, slots := 0, locals := 0 } : Room) #[(.ref a)] h0 (fun v h L => v = some (.int iv) ∧ L = [] ∧ h = h0) := by
  refine own_body (plainFor_of_name pn_12) ?_
  intro p e s m below meth c T0 hx hby hml hown hnm hret hlk hZ X0 e0
  replace hown : s.vm.findClass "com/example/infoset/infoset/xdm/TreeBuffers" = some m.cls := hown
  replace hret : meth.sig.returnType = (some .int) := hret
  replace hnm : meth.name = "innermost" := hnm
  rw [ef_12 m a]
  have N0 := Fr.nil n0
  obtain ⟨k0, k1, k2, k3, k4, k5, k6, k7, k8, k9, k10, k11, k12, k13, k14, k15, k16, k17, k18, k19, k20, k21, k22, k23, k24, k25, k26, k27, k28, k29, k30, k31, k32, k33, k34⟩ := T
  obtain ⟨f_kd, k14⟩ := k14
  obtain ⟨f_pa, k15⟩ := k15
  obtain ⟨f_nm, k17⟩ := k17
  obtain ⟨f_vl, k18⟩ := k18
  obtain ⟨f_ns, k19⟩ := k19
  obtain ⟨f_fa, k20⟩ := k20
  obtain ⟨f_pr, k23⟩ := k23
  refine own_via (T' := T0) (g' := (mkF m 1 #[.val (.ref a)] [(.ref a)])) (fun _ kt => XS.aloadN X0.here hx rfl (hb hby d12_0) rfl rfl kt) ?_
  obtain ⟨T1, X1, e1, st1⟩ := getF X0 hx hZ hown (host := "") (Or.inl (hw _ (List.mem_of_getElem? (i := 123) rfl))) Via.refl e0 k2 (g := (mkF m 1 #[.val (.ref a)] [(.ref a)])) rfl rfl (hb hby d12_1)
  refine own_via (T' := T1) (g' := (mkF m 4 #[.val (.ref a)] [(.int (Int32.ofNat (dd + 1)))])) (fun _ kt => st1 _ kt) ?_
  refine own_via (T' := T1) (g' := (mkF m 7 #[.val (.ref a)] [])) (fun _ kt => XS.ifNo X1.here hx rfl (hb hby d12_4) rfl ((if0 _ _).trans (tlt (own_pos hd)).2.2.2) kt) ?_
  refine own_via (T' := T1) (g' := (mkF m 8 #[.val (.ref a)] [(.ref a)])) (fun _ kt => XS.aloadN X1.here hx rfl (hb hby d12_7) rfl rfl kt) ?_
  obtain ⟨T2, X2, e2, st2⟩ := getF X1 hx hZ hown (host := "") (Or.inl (hw _ (List.mem_of_getElem? (i := 90) rfl))) Via.refl e1 k11 (g := (mkF m 8 #[.val (.ref a)] [(.ref a)])) rfl rfl (hb hby d12_8)
  refine own_via (T' := T2) (g' := (mkF m 11 #[.val (.ref a)] [(.ref op)])) (fun _ kt => st2 _ kt) ?_
  refine own_via (T' := T2) (g' := (mkF m 12 #[.val (.ref a)] [(.ref a), (.ref op)])) (fun _ kt => XS.aloadN X2.here hx rfl (hb hby d12_11) rfl rfl kt) ?_
  obtain ⟨T3, X3, e3, st3⟩ := getF X2 hx hZ hown (host := "") (Or.inl (hw _ (List.mem_of_getElem? (i := 123) rfl))) Via.refl e2 k2 (g := (mkF m 12 #[.val (.ref a)] [(.ref a), (.ref op)])) rfl rfl (hb hby d12_12)
  refine own_via (T' := T3) (g' := (mkF m 15 #[.val (.ref a)] [(.int (Int32.ofNat (dd + 1))), (.ref op)])) (fun _ kt => st3 _ kt) ?_
  refine own_via (T' := T3) (g' := (mkF m 16 #[.val (.ref a)] [(.int (1 : Int32)), (.int (Int32.ofNat (dd + 1))), (.ref op)])) (fun _ kt => XS.iconst X3.here hx rfl (hb hby d12_15) kt) ?_
  refine own_via (T' := T3) (g' := (mkF m 17 #[.val (.ref a)] [(.int ((Int32.ofNat (dd + 1)) - (1 : Int32))), (.ref op)])) (fun _ kt => XS.isub X3.here hx rfl (hb hby d12_16) rfl kt) ?_
  rw [show ((Int32.ofNat (dd + 1)) - (1 : Int32)) = (Int32.ofNat dd) from dec_ofNat dd]
  refine own_via (T' := T3) (g' := (mkF m 18 #[.val (.ref a)] [(fo dd)])) (fun _ kt => own_iaload X3 hx hZ e3 k21 (j := (Int32.ofNat dd)) (i := dd) rfl (by omega) (g := (mkF m 17 #[.val (.ref a)] [(.int (Int32.ofNat dd)), (.ref op)])) rfl rfl (hb hby d12_17) _ kt) ?_
  rw [hfo]
  refine own_via (T' := T3) (g' := (mkF m 22 #[.val (.ref a)] [(.int iv)])) (fun _ kt => XS.goto X3.here hx rfl (pc0 := 18) (pc' := 22) rfl (hb hby d12_18) (by decide) (by decide) kt) ?_
  exact own_retI X3 hx hret hlk (hb hby d12_22) ⟨rfl, rfl, e3⟩ (by decide) (by decide)
theorem d13_0 : decode prog_267_method_15_code 0 = .ok (.aload_n 0, 1) := by decide +kernel
theorem d13_1 : decode prog_267_method_15_code 1 = .ok (.getfield 179, 3) := by decide +kernel
theorem d13_4 : decode prog_267_method_15_code 4 = .ok (.ifCond .le 17, 3) := by decide +kernel
theorem d13_7 : decode prog_267_method_15_code 7 = .ok (.aload_n 0, 1) := by decide +kernel
theorem d13_8 : decode prog_267_method_15_code 8 = .ok (.getfield 185, 3) := by decide +kernel
theorem d13_11 : decode prog_267_method_15_code 11 = .ok (.aload_n 0, 1) := by decide +kernel
theorem d13_12 : decode prog_267_method_15_code 12 = .ok (.getfield 179, 3) := by decide +kernel
theorem d13_15 : decode prog_267_method_15_code 15 = .ok (.iconst 1, 1) := by decide +kernel
theorem d13_16 : decode prog_267_method_15_code 16 = .ok (.isub, 1) := by decide +kernel
theorem d13_17 : decode prog_267_method_15_code 17 = .ok (.aaload, 1) := by decide +kernel
theorem d13_18 : decode prog_267_method_15_code 18 = .ok (.goto 4, 3) := by decide +kernel
theorem d13_21 : decode prog_267_method_15_code 21 = .ok (.aconst_null, 1) := by decide +kernel
theorem d13_22 : decode prog_267_method_15_code 22 = .ok (.areturn, 1) := by decide +kernel
theorem pn_13 : plainName "com/example/infoset/infoset/xdm/TreeBuffers" = true := by first | (simp [plainName, overriddenIn]; done) | decide +kernel
theorem ef_13 (m : MethodId) (x0 : Addr) : entryFrame m #[(.ref x0)] 1 = mkF m 0 #[.val (.ref x0)] [] := by first | (simp [entryFrame, mkF, argsToLocals, Value.category]; done) | rfl
set_option maxRecDepth 65536 in
set_option maxHeartbeats 40000000 in
theorem rm13z (l : Launch) (Z : State) (a0 : Array Value) (hw : ∀ d ∈ tables_1, d.before a0 Z = true) (ws : List Jvm.Cond) (a kd pa en nm vl ns fa op og pr : Addr) (n : Nat) (fe fo fg : Nat → Value) (h0 : Heap) (n0 : Nat) (Z0 : n0 ≤ h0.size) (ga : n0 ≤ a) (T : own_TB Z h0 a kd pa en nm vl ns fa op og pr n 0 fe fo fg) :
    own_Con l Z (⟨"com/example/infoset/infoset/xdm/TreeBuffers", "innermostOriginal", "()Lcom/example/infoset/infoset/xdm/NamespaceBindings;"⟩ : MethodName) prog_267_method_15_code 1 (some (.object "com/example/infoset/infoset/xdm/NamespaceBindings")) ws ({ frames := 0, cells := 0, slots := 0, locals := 0 } : Room) #[(.ref a)] h0 (fun v h L => v = some .null ∧ L = [] ∧ h = h0) := by
  refine own_body (plainFor_of_name pn_13) ?_
  intro p e s m below meth c T0 hx hby hml hown hnm hret hlk hZ X0 e0
  replace hown : s.vm.findClass "com/example/infoset/infoset/xdm/TreeBuffers" = some m.cls := hown
  replace hret : meth.sig.returnType = (some (.object "com/example/infoset/infoset/xdm/NamespaceBindings")) := hret
  replace hnm : meth.name = "innermostOriginal" := hnm
  rw [ef_13 m a]
  have N0 := Fr.nil n0
  obtain ⟨k0, k1, k2, k3, k4, k5, k6, k7, k8, k9, k10, k11, k12, k13, k14, k15, k16, k17, k18, k19, k20, k21, k22, k23, k24, k25, k26, k27, k28, k29, k30, k31, k32, k33, k34⟩ := T
  obtain ⟨f_kd, k14⟩ := k14
  obtain ⟨f_pa, k15⟩ := k15
  obtain ⟨f_nm, k17⟩ := k17
  obtain ⟨f_vl, k18⟩ := k18
  obtain ⟨f_ns, k19⟩ := k19
  obtain ⟨f_fa, k20⟩ := k20
  obtain ⟨f_pr, k23⟩ := k23
  refine own_via (T' := T0) (g' := (mkF m 1 #[.val (.ref a)] [(.ref a)])) (fun _ kt => XS.aloadN X0.here hx rfl (hb hby d13_0) rfl rfl kt) ?_
  obtain ⟨T1, X1, e1, st1⟩ := getF X0 hx hZ hown (host := "") (Or.inl (hw _ (List.mem_of_getElem? (i := 123) rfl))) Via.refl e0 k2 (g := (mkF m 1 #[.val (.ref a)] [(.ref a)])) rfl rfl (hb hby d13_1)
  refine own_via (T' := T1) (g' := (mkF m 4 #[.val (.ref a)] [(.int (0 : Int32))])) (fun _ kt => st1 _ kt) ?_
  refine own_via (T' := T1) (g' := (mkF m 21 #[.val (.ref a)] [])) (fun _ kt => XS.ifYes X1.here hx rfl (pc0 := 4) (pc' := 21) rfl (hb hby d13_4) rfl ((if0 _ _).trans (flt (by decide : ¬ ((0 : Int32) < (0 : Int32)))).2.2.2) (by decide) (by decide) kt) ?_
  refine own_via (T' := T1) (g' := (mkF m 22 #[.val (.ref a)] [.null])) (fun _ kt => XS.aconstNull X1.here hx rfl (hb hby d13_21) kt) ?_
  exact own_retA X1 hx hret rfl hlk rfl rfl (hb hby d13_22) ⟨rfl, rfl, e1⟩ (by decide) (by decide)
theorem own_narR {v : Value} {C : String} (h : v.isRef = true) : narrow (.object C) v = v := by cases v <;> first | rfl | cases h
set_option maxRecDepth 65536 in
set_option maxHeartbeats 40000000 in
theorem rm13s (l : Launch) (Z : State) (a0 : Array Value) (hw : ∀ d ∈ tables_1, d.before a0 Z = true) (ws : List Jvm.Cond) (a kd pa en nm vl ns fa op og pr : Addr) (n dd : Nat) (fe fo fg : Nat → Value) (h0 : Heap) (n0 : Nat) (Z0 : n0 ≤ h0.size) (ga : n0 ≤ a) (T : own_TB Z h0 a kd pa en nm vl ns fa op og pr n (dd + 1) fe fo fg) (hd : dd < 16) (hgr : (fg dd).isRef = true) :
    own_Con l Z (⟨"com/example/infoset/infoset/xdm/TreeBuffers", "innermostOriginal", "()Lcom/example/infoset/infoset/xdm/NamespaceBindings;"⟩ : MethodName) prog_267_method_15_code 1 (some (.object "com/example/infoset/infoset/xdm/NamespaceBindings")) ws ({ frames := 0, cells := 0, slots := 0, locals := 0 } : Room) #[(.ref a)] h0 (fun v h L => v = some (fg dd) ∧ L = [] ∧ h = h0) := by
  refine own_body (plainFor_of_name pn_13) ?_
  intro p e s m below meth c T0 hx hby hml hown hnm hret hlk hZ X0 e0
  replace hown : s.vm.findClass "com/example/infoset/infoset/xdm/TreeBuffers" = some m.cls := hown
  replace hret : meth.sig.returnType = (some (.object "com/example/infoset/infoset/xdm/NamespaceBindings")) := hret
  replace hnm : meth.name = "innermostOriginal" := hnm
  rw [ef_13 m a]
  have N0 := Fr.nil n0
  obtain ⟨k0, k1, k2, k3, k4, k5, k6, k7, k8, k9, k10, k11, k12, k13, k14, k15, k16, k17, k18, k19, k20, k21, k22, k23, k24, k25, k26, k27, k28, k29, k30, k31, k32, k33, k34⟩ := T
  obtain ⟨f_kd, k14⟩ := k14
  obtain ⟨f_pa, k15⟩ := k15
  obtain ⟨f_nm, k17⟩ := k17
  obtain ⟨f_vl, k18⟩ := k18
  obtain ⟨f_ns, k19⟩ := k19
  obtain ⟨f_fa, k20⟩ := k20
  obtain ⟨f_pr, k23⟩ := k23
  refine own_via (T' := T0) (g' := (mkF m 1 #[.val (.ref a)] [(.ref a)])) (fun _ kt => XS.aloadN X0.here hx rfl (hb hby d13_0) rfl rfl kt) ?_
  obtain ⟨T1, X1, e1, st1⟩ := getF X0 hx hZ hown (host := "") (Or.inl (hw _ (List.mem_of_getElem? (i := 123) rfl))) Via.refl e0 k2 (g := (mkF m 1 #[.val (.ref a)] [(.ref a)])) rfl rfl (hb hby d13_1)
  refine own_via (T' := T1) (g' := (mkF m 4 #[.val (.ref a)] [(.int (Int32.ofNat (dd + 1)))])) (fun _ kt => st1 _ kt) ?_
  refine own_via (T' := T1) (g' := (mkF m 7 #[.val (.ref a)] [])) (fun _ kt => XS.ifNo X1.here hx rfl (hb hby d13_4) rfl ((if0 _ _).trans (tlt (own_pos hd)).2.2.2) kt) ?_
  refine own_via (T' := T1) (g' := (mkF m 8 #[.val (.ref a)] [(.ref a)])) (fun _ kt => XS.aloadN X1.here hx rfl (hb hby d13_7) rfl rfl kt) ?_
  obtain ⟨T2, X2, e2, st2⟩ := getF X1 hx hZ hown (host := "") (Or.inl (hw _ (List.mem_of_getElem? (i := 92) rfl))) Via.refl e1 k12 (g := (mkF m 8 #[.val (.ref a)] [(.ref a)])) rfl rfl (hb hby d13_8)
  refine own_via (T' := T2) (g' := (mkF m 11 #[.val (.ref a)] [(.ref og)])) (fun _ kt => st2 _ kt) ?_
  refine own_via (T' := T2) (g' := (mkF m 12 #[.val (.ref a)] [(.ref a), (.ref og)])) (fun _ kt => XS.aloadN X2.here hx rfl (hb hby d13_11) rfl rfl kt) ?_
  obtain ⟨T3, X3, e3, st3⟩ := getF X2 hx hZ hown (host := "") (Or.inl (hw _ (List.mem_of_getElem? (i := 123) rfl))) Via.refl e2 k2 (g := (mkF m 12 #[.val (.ref a)] [(.ref a), (.ref og)])) rfl rfl (hb hby d13_12)
  refine own_via (T' := T3) (g' := (mkF m 15 #[.val (.ref a)] [(.int (Int32.ofNat (dd + 1))), (.ref og)])) (fun _ kt => st3 _ kt) ?_
  refine own_via (T' := T3) (g' := (mkF m 16 #[.val (.ref a)] [(.int (1 : Int32)), (.int (Int32.ofNat (dd + 1))), (.ref og)])) (fun _ kt => XS.iconst X3.here hx rfl (hb hby d13_15) kt) ?_
  refine own_via (T' := T3) (g' := (mkF m 17 #[.val (.ref a)] [(.int ((Int32.ofNat (dd + 1)) - (1 : Int32))), (.ref og)])) (fun _ kt => XS.isub X3.here hx rfl (hb hby d13_16) rfl kt) ?_
  rw [show ((Int32.ofNat (dd + 1)) - (1 : Int32)) = (Int32.ofNat dd) from dec_ofNat dd]
  refine own_via (T' := T3) (g' := (mkF m 18 #[.val (.ref a)] [(fg dd)])) (fun _ kt => own_aaload X3 hx hZ e3 k22 rfl (j := (Int32.ofNat dd)) (i := dd) rfl (by omega) (g := (mkF m 17 #[.val (.ref a)] [(.int (Int32.ofNat dd)), (.ref og)])) rfl rfl (hb hby d13_17) _ kt) ?_
  refine own_via (T' := T3) (g' := (mkF m 22 #[.val (.ref a)] [(fg dd)])) (fun _ kt => XS.goto X3.here hx rfl (pc0 := 18) (pc' := 22) rfl (hb hby d13_18) (by decide) (by decide) kt) ?_
  exact own_retA X3 hx hret rfl hlk hgr (own_narR hgr) (hb hby d13_22) ⟨rfl, rfl, e3⟩ (by decide) (by decide)
theorem d14_0 : decode prog_267_method_14_code 0 = .ok (.aload_n 0, 1) := by decide +kernel
theorem d14_1 : decode prog_267_method_14_code 1 = .ok (.getfield 185, 3) := by decide +kernel
theorem d14_4 : decode prog_267_method_14_code 4 = .ok (.aload_n 0, 1) := by decide +kernel
theorem d14_5 : decode prog_267_method_14_code 5 = .ok (.getfield 179, 3) := by decide +kernel
theorem d14_8 : decode prog_267_method_14_code 8 = .ok (.iconst 1, 1) := by decide +kernel
theorem d14_9 : decode prog_267_method_14_code 9 = .ok (.isub, 1) := by decide +kernel
theorem d14_10 : decode prog_267_method_14_code 10 = .ok (.aload_n 1, 1) := by decide +kernel
theorem d14_11 : decode prog_267_method_14_code 11 = .ok (.aastore, 1) := by decide +kernel
theorem d14_12 : decode prog_267_method_14_code 12 = .ok (.aload_n 0, 1) := by decide +kernel
theorem d14_13 : decode prog_267_method_14_code 13 = .ok (.getfield 188, 3) := by decide +kernel
theorem d14_16 : decode prog_267_method_14_code 16 = .ok (.aload_n 0, 1) := by decide +kernel
theorem d14_17 : decode prog_267_method_14_code 17 = .ok (.getfield 179, 3) := by decide +kernel
theorem d14_20 : decode prog_267_method_14_code 20 = .ok (.iconst 1, 1) := by decide +kernel
theorem d14_21 : decode prog_267_method_14_code 21 = .ok (.isub, 1) := by decide +kernel
theorem d14_22 : decode prog_267_method_14_code 22 = .ok (.iload_n 2, 1) := by decide +kernel
theorem d14_23 : decode prog_267_method_14_code 23 = .ok (.bastore, 1) := by decide +kernel
theorem d14_24 : decode prog_267_method_14_code 24 = .ok (.return_, 1) := by decide +kernel
theorem pn_14 : plainName "com/example/infoset/infoset/xdm/TreeBuffers" = true := by first | (simp [plainName, overriddenIn]; done) | decide +kernel
theorem ef_14 (m : MethodId) (x0 : Addr) (x1 : Addr) (x2 : Int32) : entryFrame m #[(.ref x0), (.ref x1), (.int x2)] 3 = mkF m 0 #[.val (.ref x0), .val (.ref x1), .val (.int x2)] [] := by first | (simp [entryFrame, mkF, argsToLocals, Value.category]; done) | rfl
set_option maxRecDepth 65536 in
set_option maxHeartbeats 40000000 in
theorem rm14 (l : Launch) (Z : State) (a0 : Array Value) (hw : ∀ d ∈ tables_1, d.before a0 Z = true) (ws : List Jvm.Cond) (a kd pa en nm vl ns fa op og pr : Addr) (n dd : Nat) (fe fo fg : Nat → Value) (h0 : Heap) (n0 : Nat) (Z0 : n0 ≤ h0.size) (ga : n0 ≤ a) (T : own_TB Z h0 a kd pa en nm vl ns fa op og pr n (dd + 1) fe fo fg) (em : Addr) (pv : Int32) (hd : dd < 16) (EM : Exa Z h0 em "com/example/infoset/infoset/xdm/NamespaceBindings") :
    own_Con l Z (⟨"com/example/infoset/infoset/xdm/TreeBuffers", "keepOriginal", "(Lcom/example/infoset/infoset/xdm/NamespaceBindings;Z)V"⟩ : MethodName) prog_267_method_14_code 3 none ws ({ frames := 0, cells := 0, slots := 0, locals := 0 } : Room) #[(.ref a), (.ref em), (.int pv)] h0 (fun v h L => v = none ∧ Fr n0 L ∧ Keep h0 h [og, pr] ∧ own_TB Z h a kd pa en nm vl ns fa op og pr n (dd + 1) fe fo (own_up fg dd (.ref em))) := by
  refine own_body (plainFor_of_name pn_14) ?_
  intro p e s m below meth c T0 hx hby hml hown hnm hret hlk hZ X0 e0
  replace hown : s.vm.findClass "com/example/infoset/infoset/xdm/TreeBuffers" = some m.cls := hown
  replace hret : meth.sig.returnType = none := hret
  replace hnm : meth.name = "keepOriginal" := hnm
  rw [ef_14 m a em pv]
  have N0 := Fr.nil n0
  obtain ⟨k0, k1, k2, k3, k4, k5, k6, k7, k8, k9, k10, k11, k12, k13, k14, k15, k16, k17, k18, k19, k20, k21, k22, k23, k24, k25, k26, k27, k28, k29, k30, k31, k32, k33, k34⟩ := T
  obtain ⟨f_kd, k14⟩ := k14
  obtain ⟨f_pa, k15⟩ := k15
  obtain ⟨f_nm, k17⟩ := k17
  obtain ⟨f_vl, k18⟩ := k18
  obtain ⟨f_ns, k19⟩ := k19
  obtain ⟨f_fa, k20⟩ := k20
  obtain ⟨f_pr, k23⟩ := k23
  refine own_via (T' := T0) (g' := (mkF m 1 #[.val (.ref a), .val (.ref em), .val (.int pv)] [(.ref a)])) (fun _ kt => XS.aloadN X0.here hx rfl (hb hby d14_0) rfl rfl kt) ?_
  obtain ⟨T1, X1, e1, st1⟩ := getF X0 hx hZ hown (host := "") (Or.inl (hw _ (List.mem_of_getElem? (i := 92) rfl))) Via.refl e0 k12 (g := (mkF m 1 #[.val (.ref a), .val (.ref em), .val (.int pv)] [(.ref a)])) rfl rfl (hb hby d14_1)
  refine own_via (T' := T1) (g' := (mkF m 4 #[.val (.ref a), .val (.ref em), .val (.int pv)] [(.ref og)])) (fun _ kt => st1 _ kt) ?_
  refine own_via (T' := T1) (g' := (mkF m 5 #[.val (.ref a), .val (.ref em), .val (.int pv)] [(.ref a), (.ref og)])) (fun _ kt => XS.aloadN X1.here hx rfl (hb hby d14_4) rfl rfl kt) ?_
  obtain ⟨T2, X2, e2, st2⟩ := getF X1 hx hZ hown (host := "") (Or.inl (hw _ (List.mem_of_getElem? (i := 123) rfl))) Via.refl e1 k2 (g := (mkF m 5 #[.val (.ref a), .val (.ref em), .val (.int pv)] [(.ref a), (.ref og)])) rfl rfl (hb hby d14_5)
  refine own_via (T' := T2) (g' := (mkF m 8 #[.val (.ref a), .val (.ref em), .val (.int pv)] [(.int (Int32.ofNat (dd + 1))), (.ref og)])) (fun _ kt => st2 _ kt) ?_
  refine own_via (T' := T2) (g' := (mkF m 9 #[.val (.ref a), .val (.ref em), .val (.int pv)] [(.int (1 : Int32)), (.int (Int32.ofNat (dd + 1))), (.ref og)])) (fun _ kt => XS.iconst X2.here hx rfl (hb hby d14_8) kt) ?_
  refine own_via (T' := T2) (g' := (mkF m 10 #[.val (.ref a), .val (.ref em), .val (.int pv)] [(.int ((Int32.ofNat (dd + 1)) - (1 : Int32))), (.ref og)])) (fun _ kt => XS.isub X2.here hx rfl (hb hby d14_9) rfl kt) ?_
  rw [show ((Int32.ofNat (dd + 1)) - (1 : Int32)) = (Int32.ofNat dd) from dec_ofNat dd]
  refine own_via (T' := T2) (g' := (mkF m 11 #[.val (.ref a), .val (.ref em), .val (.int pv)] [(.ref em), (.int (Int32.ofNat dd)), (.ref og)])) (fun _ kt => XS.aloadN X2.here hx rfl (hb hby d14_10) rfl rfl kt) ?_
  obtain ⟨T3, h3, X3, e3, W3, A3, st3⟩ := own_aastore X2 hx hZ e2 k22 (j := (Int32.ofNat dd)) (i := dd) rfl (by omega) rfl (own_sto k22 k24 (Ins.self EM)) (g := (mkF m 11 #[.val (.ref a), .val (.ref em), .val (.int pv)] [(.ref em), (.int (Int32.ofNat dd)), (.ref og)])) rfl rfl (hb hby d14_11)
  have f4 := k0.wr W3
  have f5 := k1.other W3 (Or.inl (own_ne (by omega)))
  have f6 := k2.other W3 (Or.inl (own_ne (by omega)))
  have f7 := k3.other W3 (Or.inl (own_ne (by omega)))
  have f8 := k4.other W3 (Or.inl (own_ne (by omega)))
  have f9 := k14.other W3 (own_ne (by omega))
  have f10 := k5.other W3 (Or.inl (own_ne (by omega)))
  have f11 := k15.other W3 (own_ne (by omega))
  have f12 := k6.other W3 (Or.inl (own_ne (by omega)))
  have f13 := k16.other W3 (own_ne (by omega))
  have f14 := k7.other W3 (Or.inl (own_ne (by omega)))
  have f15 := k17.other W3 (own_ne (by omega))
  have f16 := k8.other W3 (Or.inl (own_ne (by omega)))
  have f17 := k18.other W3 (own_ne (by omega))
  have f18 := k9.other W3 (Or.inl (own_ne (by omega)))
  have f19 := k19.other W3 (own_ne (by omega))
  have f20 := k10.other W3 (Or.inl (own_ne (by omega)))
  have f21 := k20.other W3 (own_ne (by omega))
  have f22 := k11.other W3 (Or.inl (own_ne (by omega)))
  have f23 := k21.other W3 (own_ne (by omega))
  have f24 := k12.other W3 (Or.inl (own_ne (by omega)))
  have f25 := k13.other W3 (Or.inl (own_ne (by omega)))
  have f26 := k23.other W3 (own_ne (by omega))
  have f27 := k24.wr W3
  have z3 : n0 ≤ h3.size := Nat.le_trans Z0 (Nat.le_of_eq W3.size.symm)
  have N3 := Fr.snoc X3 N0 (by omega)
  have K3 := (Keep.refl h0 [og, pr]).wr W3 (Or.inl (List.mem_of_getElem? (i := 0) rfl))
  refine own_via (T' := T3) (g' := (mkF m 12 #[.val (.ref a), .val (.ref em), .val (.int pv)] [])) (fun _ kt => st3 _ kt) ?_
  refine own_via (T' := T3) (g' := (mkF m 13 #[.val (.ref a), .val (.ref em), .val (.int pv)] [(.ref a)])) (fun _ kt => XS.aloadN X3.here hx rfl (hb hby d14_12) rfl rfl kt) ?_
  obtain ⟨T28, X28, e28, st28⟩ := getF X3 hx hZ hown (host := "") (Or.inl (hw _ (List.mem_of_getElem? (i := 95) rfl))) Via.refl e3 f25 (g := (mkF m 13 #[.val (.ref a), .val (.ref em), .val (.int pv)] [(.ref a)])) rfl rfl (hb hby d14_13)
  refine own_via (T' := T28) (g' := (mkF m 16 #[.val (.ref a), .val (.ref em), .val (.int pv)] [(.ref pr)])) (fun _ kt => st28 _ kt) ?_
  refine own_via (T' := T28) (g' := (mkF m 17 #[.val (.ref a), .val (.ref em), .val (.int pv)] [(.ref a), (.ref pr)])) (fun _ kt => XS.aloadN X28.here hx rfl (hb hby d14_16) rfl rfl kt) ?_
  obtain ⟨T29, X29, e29, st29⟩ := getF X28 hx hZ hown (host := "") (Or.inl (hw _ (List.mem_of_getElem? (i := 123) rfl))) Via.refl e28 f6 (g := (mkF m 17 #[.val (.ref a), .val (.ref em), .val (.int pv)] [(.ref a), (.ref pr)])) rfl rfl (hb hby d14_17)
  refine own_via (T' := T29) (g' := (mkF m 20 #[.val (.ref a), .val (.ref em), .val (.int pv)] [(.int (Int32.ofNat (dd + 1))), (.ref pr)])) (fun _ kt => st29 _ kt) ?_
  refine own_via (T' := T29) (g' := (mkF m 21 #[.val (.ref a), .val (.ref em), .val (.int pv)] [(.int (1 : Int32)), (.int (Int32.ofNat (dd + 1))), (.ref pr)])) (fun _ kt => XS.iconst X29.here hx rfl (hb hby d14_20) kt) ?_
  refine own_via (T' := T29) (g' := (mkF m 22 #[.val (.ref a), .val (.ref em), .val (.int pv)] [(.int ((Int32.ofNat (dd + 1)) - (1 : Int32))), (.ref pr)])) (fun _ kt => XS.isub X29.here hx rfl (hb hby d14_21) rfl kt) ?_
  rw [show ((Int32.ofNat (dd + 1)) - (1 : Int32)) = (Int32.ofNat dd) from dec_ofNat dd]
  refine own_via (T' := T29) (g' := (mkF m 23 #[.val (.ref a), .val (.ref em), .val (.int pv)] [(.int pv), (.int (Int32.ofNat dd)), (.ref pr)])) (fun _ kt => XS.iloadN X29.here hx rfl (hb hby d14_22) rfl kt) ?_
  obtain ⟨T30, h30, X30, e30, W30, A30, st30⟩ := own_bastoreZ X29 hx hZ e29 f26 (j := (Int32.ofNat dd)) (i := dd) rfl (by omega) (r := nar .boolean pv) rfl (g := (mkF m 23 #[.val (.ref a), .val (.ref em), .val (.int pv)] [(.int pv), (.int (Int32.ofNat dd)), (.ref pr)])) rfl rfl (hb hby d14_23)
  have f31 := f4.wr W30
  have f32 := f5.other W30 (Or.inl (own_ne (by omega)))
  have f33 := f6.other W30 (Or.inl (own_ne (by omega)))
  have f34 := f7.other W30 (Or.inl (own_ne (by omega)))
  have f35 := f8.other W30 (Or.inl (own_ne (by omega)))
  have f36 := f9.other W30 (own_ne (by omega))
  have f37 := f10.other W30 (Or.inl (own_ne (by omega)))
  have f38 := f11.other W30 (own_ne (by omega))
  have f39 := f12.other W30 (Or.inl (own_ne (by omega)))
  have f40 := f13.other W30 (own_ne (by omega))
  have f41 := f14.other W30 (Or.inl (own_ne (by omega)))
  have f42 := f15.other W30 (own_ne (by omega))
  have f43 := f16.other W30 (Or.inl (own_ne (by omega)))
  have f44 := f17.other W30 (own_ne (by omega))
  have f45 := f18.other W30 (Or.inl (own_ne (by omega)))
  have f46 := f19.other W30 (own_ne (by omega))
  have f47 := f20.other W30 (Or.inl (own_ne (by omega)))
  have f48 := f21.other W30 (own_ne (by omega))
  have f49 := f22.other W30 (Or.inl (own_ne (by omega)))
  have f50 := f23.other W30 (own_ne (by omega))
  have f51 := f24.other W30 (Or.inl (own_ne (by omega)))
  have f52 := A3.other W30 (own_ne (by omega))
  have f53 := f25.other W30 (Or.inl (own_ne (by omega)))
  have f54 := f27.wr W30
  have z30 : n0 ≤ h30.size := Nat.le_trans z3 (Nat.le_of_eq W30.size.symm)
  have N30 := Fr.snoc X30 N3 (by omega)
  have K30 := K3.wr W30 (Or.inl (List.mem_of_getElem? (i := 1) rfl))
  refine own_via (T' := T30) (g' := (mkF m 24 #[.val (.ref a), .val (.ref em), .val (.int pv)] [])) (fun _ kt => st30 _ kt) ?_
  exact own_retV X30 hx hret hlk (hb hby d14_24) (by rw [e30]; exact ⟨rfl, N30, K30, ⟨f31, f32, f33, f34, f35, f37, f39, f41, f43, f45, f47, f49, f51, f53, ⟨_, f36⟩, ⟨_, f38⟩, f40, ⟨_, f42⟩, ⟨_, f44⟩, ⟨_, f46⟩, ⟨_, f48⟩, f50, f52, ⟨_, A30⟩, f54, by omega, by omega, by omega, by omega, by omega, by omega, by omega, by omega, by omega, by omega⟩⟩) (by decide) (by decide)
theorem pn_0 : plainName "com/example/infoset/infoset/xdm/TreeBuffersClosePinLaw" = true := by first | (simp [plainName, overriddenIn]; done) | decide +kernel
theorem ef_0 (m : MethodId) (x0 : Int32) (x1 : Int32) : entryFrame m #[(.int x0), (.int x1)] maxLocals = mkF m 0 #[.val (.int x0), .val (.int x1), .unset, .unset, .unset, .unset, .unset, .unset, .unset, .unset, .unset, .unset, .unset, .unset, .unset] [] := by first | (simp [entryFrame, mkF, argsToLocals, Value.category, maxLocals]; done) | rfl
set_option maxRecDepth 65536 in
set_option maxHeartbeats 40000000 in
theorem rm0 (l : Launch) (Z : State) (a0 : Array Value) (hw : ∀ d ∈ tables_1, d.before a0 Z = true) (ws : List Jvm.Cond) (p1 p2 : Int32) (h0 : Heap) (n0 : Nat) (Z0 : n0 ≤ h0.size) (O0 : Old Z n0 h0) (em px ux k1 k3 k4 : Addr) (hem : @LT.lt Nat _ em n0) (S_em : Sta Z Z.heap "com/example/infoset/infoset/xdm/NamespaceBindings" "EMPTY" "Lcom/example/infoset/infoset/xdm/NamespaceBindings;" (.ref em)) (E_em : Exa Z Z.heap em "com/example/infoset/infoset/xdm/NamespaceBindings") (Pf : Fld Z Z.heap em "com/example/infoset/infoset/xdm/NamespaceBindings" "prefixes" "[Ljava/lang/String;" (.ref px)) (Uf : Fld Z Z.heap em "com/example/infoset/infoset/xdm/NamespaceBindings" "uris" "[Ljava/lang/String;" (.ref ux)) (S_k1 : Sta Z Z.heap "com/example/infoset/infoset/xdm/NodeKind" "ELEMENT" "Lcom/example/infoset/infoset/xdm/NodeKind;" (.ref k1)) (E_k1 : Exa Z Z.heap k1 "com/example/infoset/infoset/xdm/NodeKind") (F_k1 : Fld Z Z.heap k1 "java/lang/Enum" "ordinal" "I" (.int 1)) (S_k3 : Sta Z Z.heap "com/example/infoset/infoset/xdm/NodeKind" "TEXT" "Lcom/example/infoset/infoset/xdm/NodeKind;" (.ref k3)) (E_k3 : Exa Z Z.heap k3 "com/example/infoset/infoset/xdm/NodeKind") (F_k3 : Fld Z Z.heap k3 "java/lang/Enum" "ordinal" "I" (.int 3)) (S_k4 : Sta Z Z.heap "com/example/infoset/infoset/xdm/NodeKind" "COMMENT" "Lcom/example/infoset/infoset/xdm/NodeKind;" (.ref k4)) (E_k4 : Exa Z Z.heap k4 "com/example/infoset/infoset/xdm/NodeKind") (F_k4 : Fld Z Z.heap k4 "java/lang/Enum" "ordinal" "I" (.int 4)) :
    own_Con l Z x code maxLocals ret ws room_1 #[(.int p1), (.int p2)] h0 (fun v h L => v = some (.int 1) ∧ Fr n0 L) := by
  refine own_body (plainFor_of_name pn_0) ?_
  intro p e s m below meth c T0 hx hby hml hown hnm hret hlk hZ X0 e0
  replace hown : s.vm.findClass "com/example/infoset/infoset/xdm/TreeBuffersClosePinLaw" = some m.cls := hown
  replace hret : meth.sig.returnType = (some .boolean) := hret
  replace hnm : meth.name = "law" := hnm
  rw [ef_0 m p1 p2]
  have N0 := Fr.nil n0
  have HJ1 : ∀ v1 : Int32, own_bit v1 → own_Ends p e below (own_Fin below s room_1.cells room_1.slots (fun v h L => v = some (.int 1) ∧ Fr n0 L)) T0 (mkF m 11 #[.val (.int p1), .val (.int p2), .unset, .unset, .unset, .unset, .unset, .unset, .unset, .unset, .unset, .unset, .unset, .unset, .unset] [(.int v1)]) := by
    intro v1 hv1
    refine own_via (T' := T0) (g' := (mkF m 12 #[.val (.int p1), .val (.int p2), .val (.int v1), .unset, .unset, .unset, .unset, .unset, .unset, .unset, .unset, .unset, .unset, .unset, .unset] [])) (fun _ kt => XS.istoreN X0.here hx rfl (hb hby at_11) rfl (l' := #[.val (.int p1), .val (.int p2), .val (.int v1), .unset, .unset, .unset, .unset, .unset, .unset, .unset, .unset, .unset, .unset, .unset, .unset]) rfl kt) ?_
    have HJ2 : ∀ v2 : Int32, own_bit v2 → own_Ends p e below (own_Fin below s room_1.cells room_1.slots (fun v h L => v = some (.int 1) ∧ Fr n0 L)) T0 (mkF m 23 #[.val (.int p1), .val (.int p2), .val (.int v1), .unset, .unset, .unset, .unset, .unset, .unset, .unset, .unset, .unset, .unset, .unset, .unset] [(.int v2)]) := by
      intro v2 hv2
      refine own_via (T' := T0) (g' := (mkF m 24 #[.val (.int p1), .val (.int p2), .val (.int v1), .val (.int v2), .unset, .unset, .unset, .unset, .unset, .unset, .unset, .unset, .unset, .unset, .unset] [])) (fun _ kt => XS.istoreN X0.here hx rfl (hb hby at_23) rfl (l' := #[.val (.int p1), .val (.int p2), .val (.int v1), .val (.int v2), .unset, .unset, .unset, .unset, .unset, .unset, .unset, .unset, .unset, .unset, .unset]) rfl kt) ?_
      have HJ3 : ∀ v3 : Int32, own_bit v3 → own_Ends p e below (own_Fin below s room_1.cells room_1.slots (fun v h L => v = some (.int 1) ∧ Fr n0 L)) T0 (mkF m 35 #[.val (.int p1), .val (.int p2), .val (.int v1), .val (.int v2), .unset, .unset, .unset, .unset, .unset, .unset, .unset, .unset, .unset, .unset, .unset] [(.int v3)]) := by
        intro v3 hv3
        refine own_via (T' := T0) (g' := (mkF m 37 #[.val (.int p1), .val (.int p2), .val (.int v1), .val (.int v2), .val (.int v3), .unset, .unset, .unset, .unset, .unset, .unset, .unset, .unset, .unset, .unset] [])) (fun _ kt => XS.istore X0.here hx rfl (hb hby at_35) rfl (l' := #[.val (.int p1), .val (.int p2), .val (.int v1), .val (.int v2), .val (.int v3), .unset, .unset, .unset, .unset, .unset, .unset, .unset, .unset, .unset, .unset]) rfl kt) ?_
        have HJ4 : ∀ v4 : Int32, own_bit v4 → own_Ends p e below (own_Fin below s room_1.cells room_1.slots (fun v h L => v = some (.int 1) ∧ Fr n0 L)) T0 (mkF m 49 #[.val (.int p1), .val (.int p2), .val (.int v1), .val (.int v2), .val (.int v3), .unset, .unset, .unset, .unset, .unset, .unset, .unset, .unset, .unset, .unset] [(.int v4)]) := by
          intro v4 hv4
          refine own_via (T' := T0) (g' := (mkF m 57 #[.val (.int p1), .val (.int p2), .val (.int v1), .val (.int v2), .val (.int v3), .val (.int v4), .unset, .unset, .unset, .unset, .unset, .unset, .unset, .unset, .unset] [(.int ((p2 &&& (2147483647 : Int32)) % (3 : Int32)))])) (fun _ kt => XS.istore X0.here hx rfl (hb hby at_49) rfl (l' := #[.val (.int p1), .val (.int p2), .val (.int v1), .val (.int v2), .val (.int v3), .val (.int v4), .unset, .unset, .unset, .unset, .unset, .unset, .unset, .unset, .unset]) rfl (XS.iloadN X0.here hx rfl (hb hby at_51) rfl (X0.ldcInt hx hown (mvT hZ (hw _ (List.mem_of_getElem? (i := 0) rfl))) (g := (mkF m 52 #[.val (.int p1), .val (.int p2), .val (.int v1), .val (.int v2), .val (.int v3), .val (.int v4), .unset, .unset, .unset, .unset, .unset, .unset, .unset, .unset, .unset] [(.int p2)])) rfl (hb hby at_52) _ (XS.iand X0.here hx rfl (hb hby at_54) rfl (XS.iconst X0.here hx rfl (hb hby at_55) (Jvm.RoadKit.iremM X0 hx rfl (hb hby at_56) rfl (by decide) kt)))))) ?_
          obtain ⟨ev, hev, hz⟩ : ∃ n : Nat, n < 3 ∧ ((p2 &&& (2147483647 : Int32)) % (3 : Int32)) = Int32.ofNat n := own_nat (c := 3) (own_rem p2).1 (own_rem p2).2
          rw [hz]
          refine own_via (T' := T0) (g' := (mkF m 59 #[.val (.int p1), .val (.int p2), .val (.int v1), .val (.int v2), .val (.int v3), .val (.int v4), .val (.int (Int32.ofNat ev)), .unset, .unset, .unset, .unset, .unset, .unset, .unset, .unset] [])) (fun _ kt => XS.istore X0.here hx rfl (hb hby at_57) rfl (l' := #[.val (.int p1), .val (.int p2), .val (.int v1), .val (.int v2), .val (.int v3), .val (.int v4), .val (.int (Int32.ofNat ev)), .unset, .unset, .unset, .unset, .unset, .unset, .unset, .unset]) rfl kt) ?_
          obtain ⟨T5, X5, e5, st5⟩ := getS2 X0 hx hZ hown (host := "") (Or.inl (hw _ (List.mem_of_getElem? (i := 1) rfl))) Via.refl e0 (S_em.ext O0.2) (g := (mkF m 59 #[.val (.int p1), .val (.int p2), .val (.int v1), .val (.int v2), .val (.int v3), .val (.int v4), .val (.int (Int32.ofNat ev)), .unset, .unset, .unset, .unset, .unset, .unset, .unset, .unset] [])) rfl (hb hby at_59)
          refine own_via (T' := T5) (g' := (mkF m 64 #[.val (.int p1), .val (.int p2), .val (.int v1), .val (.int v2), .val (.int v3), .val (.int v4), .val (.int (Int32.ofNat ev)), .val (.ref em), .unset, .unset, .unset, .unset, .unset, .unset, .unset] [])) (fun _ kt => st5 _ (XS.astore X5.here hx rfl (hb hby at_62) rfl rfl (l' := #[.val (.int p1), .val (.int p2), .val (.int v1), .val (.int v2), .val (.int v3), .val (.int v4), .val (.int (Int32.ofNat ev)), .val (.ref em), .unset, .unset, .unset, .unset, .unset, .unset, .unset]) rfl kt)) ?_
          obtain ⟨T6, h6, X6, e6, E6, A6, D6, M6, st6⟩ := newO X5 hx hZ hown (hw _ (List.mem_of_getElem? (i := 4) rfl)) (hw _ (List.mem_of_getElem? (i := 5) rfl)) (hw _ (List.mem_of_getElem? (i := 6) rfl)) e5 (g := (mkF m 64 #[.val (.int p1), .val (.int p2), .val (.int v1), .val (.int v2), .val (.int v3), .val (.int v4), .val (.int (Int32.ofNat ev)), .val (.ref em), .unset, .unset, .unset, .unset, .unset, .unset, .unset] [])) rfl (hb hby at_64) (by decide) (by decide)
          obtain ⟨b6, gb6⟩ : ∃ z, z = h0.size := ⟨_, rfl⟩
          rw [← gb6] at A6 D6 M6 st6
          have gg6 : n0 ≤ b6 := Nat.le_trans Z0 (Nat.le_of_eq gb6.symm)
          have f7 := O0.ext E6
          have z6 : n0 ≤ h6.size := Nat.le_trans Z0 E6.1
          have Ob6 := own_Ob.of A6 M6
          have f8 : Fld Z h6 b6 "com/example/infoset/infoset/xdm/TreeBuffers" "size" "I" (.int (0 : Int32)) := D6 (Or.inl (hw _ (List.mem_of_getElem? (i := 106) rfl))) (ty := .int) (by decide)
          have f9 : Fld Z h6 b6 "com/example/infoset/infoset/xdm/TreeBuffers" "depth" "I" (.int (0 : Int32)) := D6 (Or.inl (hw _ (List.mem_of_getElem? (i := 124) rfl))) (ty := .int) (by decide)
          have f10 : Fld Z h6 b6 "com/example/infoset/infoset/xdm/TreeBuffers" "attributeCount" "I" (.int (0 : Int32)) := D6 (Or.inl (hw _ (List.mem_of_getElem? (i := 117) rfl))) (ty := .int) (by decide)
          refine own_via (T' := T6) (g' := (mkF m 69 #[.val (.int p1), .val (.int p2), .val (.int v1), .val (.int v2), .val (.int v3), .val (.int v4), .val (.int (Int32.ofNat ev)), .val (.ref em), .unset, .unset, .unset, .unset, .unset, .unset, .unset] [.null, (.ref b6), (.ref b6)])) (fun _ kt => st6 _ (XS.dup X6.here hx rfl (hb hby at_67) rfl rfl (XS.aconstNull X6.here hx rfl (hb hby at_68) kt))) ?_
          obtain ⟨v11, T11, L11, X11, hQ11, st11⟩ := own_callI X6 hx hZ (y := (⟨"com/example/infoset/infoset/xdm/TreeBuffers", "<init>", "(Lcom/example/infoset/infoset/xdm/ConstructedTrees;)V"⟩ : MethodName)) rfl hown (hw _ (List.mem_of_getElem? (i := 7) rfl)) (hw _ (List.mem_of_getElem? (i := 8) rfl)) (hw _ (List.mem_of_getElem? (i := 6) rfl)) (hw _ (List.mem_of_getElem? (i := 9) rfl)) (by decide) (b := b6) (W := 1) (argsL := [.null]) (rest := [(.ref b6)]) (rm1 l Z a0 hw [] b6 h6 n0 z6 gg6 Ob6 f8 f9 f10 em px ux hem (S_em.ext f7.2) (Pf.ext f7.2) (Uf.ext f7.2)) (by decide) (by decide) (by decide) (by decide) e6 (g := (mkF m 69 #[.val (.int p1), .val (.int p2), .val (.int v1), .val (.int v2), .val (.int v3), .val (.int v4), .val (.int (Int32.ofNat ev)), .val (.ref em), .unset, .unset, .unset, .unset, .unset, .unset, .unset] [.null, (.ref b6), (.ref b6)])) rfl (by rw [hml]; rfl) (lenOf pd_5 rfl) rfl (by show 2 * 0 + _ ≤ _; exact Nat.le_of_eq rfl) (hb hby at_69)
          obtain ⟨kd, pa, en, nm, vl, ns, fa, op, og, pr, okd, rfl, Nq11, Kq11, Tq11⟩ := hQ11
          have lt_b_kd : @LT.lt Nat _ b6 kd := Nat.lt_of_lt_of_le Ob6.lt okd
          have gtb : n0 ≤ b6 := gg6
          have f12 := f7.keep Kq11 (allS (by omega) all0)
          have z11 : n0 ≤ T11.heap.size := Nat.le_trans z6 Kq11.1
          have N11 := Fr.app N0 Nq11
          obtain ⟨q0, q1, q2, q3, q4, q5, q6, q7, q8, q9⟩ := Tq11.ord
          refine own_via (T' := T11) (g' := (mkF m 74 #[.val (.int p1), .val (.int p2), .val (.int v1), .val (.int v2), .val (.int v3), .val (.int v4), .val (.int (Int32.ofNat ev)), .val (.ref em), .val (.ref b6), .unset, .unset, .unset, .unset, .unset, .unset] [])) (fun _ kt => st11 _ (XS.astore X11.here hx rfl (hb hby at_72) rfl rfl (l' := #[.val (.int p1), .val (.int p2), .val (.int v1), .val (.int v2), .val (.int v3), .val (.int v4), .val (.int (Int32.ofNat ev)), .val (.ref em), .val (.ref b6), .unset, .unset, .unset, .unset, .unset, .unset]) rfl kt)) ?_
          have Tail1 : v1 = 0 → ∀ (T : State) (hh : Heap) (locs : List Loc) (fg0 : Nat → Value), Stand p l e room_1 s m #[(.int p1), (.int p2)] below meth c T locs 17 313 → T.heap = hh → n0 ≤ hh.size → Fr n0 locs → Old Z n0 hh → (fg0 0).isRef = true → (v2 = 0 → fg0 0 = .null) → (¬ v2 = 0 → fg0 0 = .ref em) → own_TB Z hh b6 kd pa en nm vl ns fa op og pr 1 1 (own_up (fun _ => .int 0) 0 (.int (Int32.ofNat 1))) (own_up (fun _ => .int 0) 0 (.int (0 : Int32))) fg0 → own_Ends p e below (own_Fin below s room_1.cells room_1.slots (fun v h L => v = some (.int 1) ∧ Fr n0 L)) T (mkF m 159 #[.val (.int p1), .val (.int p2), .val (.int v1), .val (.int v2), .val (.int v3), .val (.int v4), .val (.int (Int32.ofNat ev)), .val (.ref em), .val (.ref b6), .val (.int (0 : Int32)), .val (.int (-1 : Int32)), .unset, .unset, .unset, .unset] []) := by
            intro hdp T hh locs fg0 XL eL zL NL OL hgr hg0 hg1 TL
            rcases (by omega : ev = 0 ∨ ev = 1 ∨ ev = 2) with rfl | rfl | rfl
            · refine own_via (T' := T) (g' := (mkF m 175 #[.val (.int p1), .val (.int p2), .val (.int v1), .val (.int v2), .val (.int v3), .val (.int v4), .val (.int (0 : Int32)), .val (.ref em), .val (.ref b6), .val (.int (0 : Int32)), .val (.int (-1 : Int32)), .val (.int (0 : Int32)), .unset, .unset, .unset] [(.int (1 : Int32)), (.int (0 : Int32))])) (fun _ kt => XS.iloadN XL.here hx rfl (hb hby at_159) rfl (XS.ifYes XL.here hx rfl (pc0 := 160) (pc' := 168) rfl (hb hby at_160) rfl ((if0 _ _).trans (teq hdp).1) (by decide) (by decide) (XS.iload XL.here hx rfl (hb hby at_168) rfl (XS.istore XL.here hx rfl (hb hby at_170) rfl (l' := #[.val (.int p1), .val (.int p2), .val (.int v1), .val (.int v2), .val (.int v3), .val (.int v4), .val (.int (0 : Int32)), .val (.ref em), .val (.ref b6), .val (.int (0 : Int32)), .val (.int (-1 : Int32)), .val (.int (0 : Int32)), .unset, .unset, .unset]) rfl (XS.iload XL.here hx rfl (hb hby at_172) rfl (XS.iconst XL.here hx rfl (hb hby at_174) kt)))))) ?_
              refine own_via (T' := T) (g' := (mkF m 214 #[.val (.int p1), .val (.int p2), .val (.int v1), .val (.int v2), .val (.int v3), .val (.int v4), .val (.int (0 : Int32)), .val (.ref em), .val (.ref b6), .val (.int (0 : Int32)), .val (.int (-1 : Int32)), .val (.int (0 : Int32)), .unset, .unset, .unset] [(.int v1), (.int (1 : Int32))])) (fun _ kt => XS.icmpYes XL.here hx rfl (pc0 := 175) (pc' := 192) rfl (hb hby at_175) rfl (tlt (by decide : ((0 : Int32) < (1 : Int32)))).1 (by decide) (by decide) (XS.iload XL.here hx rfl (hb hby at_192) rfl (XS.iconst XL.here hx rfl (hb hby at_194) (XS.icmpYes XL.here hx rfl (pc0 := 195) (pc' := 212) rfl (hb hby at_195) rfl (tlt (by decide : ((0 : Int32) < (2 : Int32)))).1 (by decide) (by decide) (XS.iconst XL.here hx rfl (hb hby at_212) (XS.iloadN XL.here hx rfl (hb hby at_213) rfl kt)))))) ?_
              refine own_via (T' := T) (g' := (mkF m 228 #[.val (.int p1), .val (.int p2), .val (.int v1), .val (.int v2), .val (.int v3), .val (.int v4), .val (.int (0 : Int32)), .val (.ref em), .val (.ref b6), .val (.int (0 : Int32)), .val (.int (-1 : Int32)), .val (.int (0 : Int32)), .val (.int (1 : Int32)), .unset, .unset] [])) (fun _ kt => XS.ifYes XL.here hx rfl (pc0 := 214) (pc' := 221) rfl (hb hby at_214) rfl ((if0 _ _).trans (teq hdp).1) (by decide) (by decide) (XS.iconst XL.here hx rfl (hb hby at_221) (XS.iadd XL.here hx rfl (hb hby at_222) rfl (XS.iload XL.here hx rfl (hb hby at_223) rfl (XS.iadd XL.here hx rfl (hb hby at_225) rfl (XS.istore XL.here hx rfl (hb hby at_226) rfl (l' := #[.val (.int p1), .val (.int p2), .val (.int v1), .val (.int v2), .val (.int v3), .val (.int v4), .val (.int (0 : Int32)), .val (.ref em), .val (.ref b6), .val (.int (0 : Int32)), .val (.int (-1 : Int32)), .val (.int (0 : Int32)), .val (.int (1 : Int32)), .unset, .unset]) rfl kt)))))) ?_
              refine own_via (T' := T) (g' := (mkF m 230 #[.val (.int p1), .val (.int p2), .val (.int v1), .val (.int v2), .val (.int v3), .val (.int v4), .val (.int (0 : Int32)), .val (.ref em), .val (.ref b6), .val (.int (0 : Int32)), .val (.int (-1 : Int32)), .val (.int (0 : Int32)), .val (.int (1 : Int32)), .unset, .unset] [(.ref b6)])) (fun _ kt => XS.aload XL.here hx rfl (hb hby at_228) rfl rfl kt) ?_
              obtain ⟨T13, X13, e13, st13⟩ := getF XL hx hZ hown (host := "") (Or.inl (hw _ (List.mem_of_getElem? (i := 125) rfl))) Via.refl eL TL.f_size (g := (mkF m 230 #[.val (.int p1), .val (.int p2), .val (.int v1), .val (.int v2), .val (.int v3), .val (.int v4), .val (.int (0 : Int32)), .val (.ref em), .val (.ref b6), .val (.int (0 : Int32)), .val (.int (-1 : Int32)), .val (.int (0 : Int32)), .val (.int (1 : Int32)), .unset, .unset] [(.ref b6)])) rfl rfl (hb hby at_230)
              refine own_via (T' := T13) (g' := (mkF m 245 #[.val (.int p1), .val (.int p2), .val (.int v1), .val (.int v2), .val (.int v3), .val (.int v4), .val (.int (0 : Int32)), .val (.ref em), .val (.ref b6), .val (.int (0 : Int32)), .val (.int (-1 : Int32)), .val (.int (0 : Int32)), .val (.int (1 : Int32)), .val (.int (1 : Int32)), .unset] [])) (fun _ kt => st13 _ (XS.iload X13.here hx rfl (hb hby at_233) rfl (XS.icmpNo X13.here hx rfl (hb hby at_235) rfl (teq (by decide : ((1 : Int32) = (1 : Int32)))).2 (XS.iconst X13.here hx rfl (hb hby at_238) (XS.goto X13.here hx rfl (pc0 := 239) (pc' := 243) rfl (hb hby at_239) (by decide) (by decide) (XS.istore X13.here hx rfl (hb hby at_243) rfl (l' := #[.val (.int p1), .val (.int p2), .val (.int v1), .val (.int v2), .val (.int v3), .val (.int v4), .val (.int (0 : Int32)), .val (.ref em), .val (.ref b6), .val (.int (0 : Int32)), .val (.int (-1 : Int32)), .val (.int (0 : Int32)), .val (.int (1 : Int32)), .val (.int (1 : Int32)), .unset]) rfl kt)))))) ?_
              refine own_via (T' := T13) (g' := (mkF m 247 #[.val (.int p1), .val (.int p2), .val (.int v1), .val (.int v2), .val (.int v3), .val (.int v4), .val (.int (0 : Int32)), .val (.ref em), .val (.ref b6), .val (.int (0 : Int32)), .val (.int (-1 : Int32)), .val (.int (0 : Int32)), .val (.int (1 : Int32)), .val (.int (1 : Int32)), .unset] [(.ref b6)])) (fun _ kt => XS.aload X13.here hx rfl (hb hby at_245) rfl rfl kt) ?_
              obtain ⟨v14, T14, L14, X14, hQ14, st14⟩ := own_callV X13 hx hZ (y := (⟨"com/example/infoset/infoset/xdm/TreeBuffers", "close", "()V"⟩ : MethodName)) (z := (⟨"com/example/infoset/infoset/xdm/TreeBuffers", "close", "()V"⟩ : MethodName)) hown (hw _ (List.mem_of_getElem? (i := 126) rfl)) (hw _ (List.mem_of_getElem? (i := 127) rfl)) (notFace_of_selects (args := #[]) (mvT hZ (hw _ (List.mem_of_getElem? (i := 129) rfl)))) (hw _ (List.mem_of_getElem? (i := 129) rfl)) (hw _ (List.mem_of_getElem? (i := 128) rfl)) (hw _ (List.mem_of_getElem? (i := 6) rfl)) (hw _ (List.mem_of_getElem? (i := 130) rfl)) (by decide) (b := b6) (W := 0) (argsL := []) (rest := []) (rm10 l Z a0 hw [] b6 kd pa en nm vl ns fa op og pr 1 0 (own_up (fun _ => .int 0) 0 (.int (Int32.ofNat 1))) (own_up (fun _ => .int 0) 0 (.int (0 : Int32))) fg0 hh n0 zL gtb TL 0 (by decide) (by decide) rfl) (by decide) (by decide) (by decide) (by decide) e13 TL.ob.exa (g := (mkF m 247 #[.val (.int p1), .val (.int p2), .val (.int v1), .val (.int v2), .val (.int v3), .val (.int v4), .val (.int (0 : Int32)), .val (.ref em), .val (.ref b6), .val (.int (0 : Int32)), .val (.int (-1 : Int32)), .val (.int (0 : Int32)), .val (.int (1 : Int32)), .val (.int (1 : Int32)), .unset] [(.ref b6)])) rfl (by rw [hml]; rfl) (lenOf pd_0 rfl) rfl (by show 2 * 0 + _ ≤ _; exact Nat.le_of_eq rfl) (hb hby at_247)
              obtain ⟨rfl, Nq14, Kq14, Tq14⟩ := hQ14
              replace Tq14 : own_TB Z T14.heap b6 kd pa en nm vl ns fa op og pr 1 0 (own_up (own_up (fun _ => .int 0) 0 (.int (Int32.ofNat 1))) 0 (.int (Int32.ofNat 1))) (own_up (fun _ => .int 0) 0 (.int (0 : Int32))) (own_up fg0 0 .null) := Tq14
              have f15 := OL.keep Kq14 (allS (by omega) (allS (by omega) (allS (by omega) all0)))
              have z14 : n0 ≤ T14.heap.size := Nat.le_trans zL Kq14.1
              have N14 := Fr.app NL Nq14
              refine own_via (T' := T14) (g' := (mkF m 257 #[.val (.int p1), .val (.int p2), .val (.int v1), .val (.int v2), .val (.int v3), .val (.int v4), .val (.int (0 : Int32)), .val (.ref em), .val (.ref b6), .val (.int (0 : Int32)), .val (.int (-1 : Int32)), .val (.int (0 : Int32)), .val (.int (1 : Int32)), .val (.int (1 : Int32)), .unset] [(.ref b6)])) (fun _ kt => st14 _ (XS.iload X14.here hx rfl (hb hby at_250) rfl (XS.ifNo X14.here hx rfl (hb hby at_252) rfl ((if0 _ _).trans (feq (by decide : ¬ ((1 : Int32) = (0 : Int32)))).1) (XS.aload X14.here hx rfl (hb hby at_255) rfl rfl kt)))) ?_
              obtain ⟨T16, X16, e16, st16⟩ := getF X14 hx hZ hown (host := "") (Or.inl (hw _ (List.mem_of_getElem? (i := 125) rfl))) Via.refl rfl Tq14.f_size (g := (mkF m 257 #[.val (.int p1), .val (.int p2), .val (.int v1), .val (.int v2), .val (.int v3), .val (.int v4), .val (.int (0 : Int32)), .val (.ref em), .val (.ref b6), .val (.int (0 : Int32)), .val (.int (-1 : Int32)), .val (.int (0 : Int32)), .val (.int (1 : Int32)), .val (.int (1 : Int32)), .unset] [(.ref b6)])) rfl rfl (hb hby at_257)
              refine own_via (T' := T16) (g' := (mkF m 267 #[.val (.int p1), .val (.int p2), .val (.int v1), .val (.int v2), .val (.int v3), .val (.int v4), .val (.int (0 : Int32)), .val (.ref em), .val (.ref b6), .val (.int (0 : Int32)), .val (.int (-1 : Int32)), .val (.int (0 : Int32)), .val (.int (1 : Int32)), .val (.int (1 : Int32)), .unset] [(.ref b6)])) (fun _ kt => st16 _ (XS.iload X16.here hx rfl (hb hby at_260) rfl (XS.icmpNo X16.here hx rfl (hb hby at_262) rfl (teq (by decide : ((1 : Int32) = (1 : Int32)))).2 (XS.aload X16.here hx rfl (hb hby at_265) rfl rfl kt)))) ?_
              obtain ⟨T17, X17, e17, st17⟩ := getF X16 hx hZ hown (host := "") (Or.inl (hw _ (List.mem_of_getElem? (i := 131) rfl))) Via.refl e16 Tq14.f_ends (g := (mkF m 267 #[.val (.int p1), .val (.int p2), .val (.int v1), .val (.int v2), .val (.int v3), .val (.int v4), .val (.int (0 : Int32)), .val (.ref em), .val (.ref b6), .val (.int (0 : Int32)), .val (.int (-1 : Int32)), .val (.int (0 : Int32)), .val (.int (1 : Int32)), .val (.int (1 : Int32)), .unset] [(.ref b6)])) rfl rfl (hb hby at_267)
              refine own_via (T' := T17) (g' := (mkF m 279 #[.val (.int p1), .val (.int p2), .val (.int v1), .val (.int v2), .val (.int v3), .val (.int v4), .val (.int (0 : Int32)), .val (.ref em), .val (.ref b6), .val (.int (0 : Int32)), .val (.int (-1 : Int32)), .val (.int (0 : Int32)), .val (.int (1 : Int32)), .val (.int (1 : Int32)), .unset] [(.int (1 : Int32))])) (fun _ kt => st17 _ (XS.iload X17.here hx rfl (hb hby at_270) rfl (own_iaload X17 hx hZ e17 Tq14.a_en (j := (0 : Int32)) (i := 0) rfl (by decide) (g := (mkF m 272 #[.val (.int p1), .val (.int p2), .val (.int v1), .val (.int v2), .val (.int v3), .val (.int v4), .val (.int (0 : Int32)), .val (.ref em), .val (.ref b6), .val (.int (0 : Int32)), .val (.int (-1 : Int32)), .val (.int (0 : Int32)), .val (.int (1 : Int32)), .val (.int (1 : Int32)), .unset] [(.int (0 : Int32)), (.ref en)])) rfl rfl (hb hby at_272) _ (XS.iload X17.here hx rfl (hb hby at_273) rfl (XS.icmpNo X17.here hx rfl (hb hby at_275) rfl (teq (by decide : ((1 : Int32) = (1 : Int32)))).2 (XS.iconst X17.here hx rfl (hb hby at_278) kt)))))) ?_
              refine own_via (T' := T17) (g' := (mkF m 358 #[.val (.int p1), .val (.int p2), .val (.int v1), .val (.int v2), .val (.int v3), .val (.int v4), .val (.int (0 : Int32)), .val (.ref em), .val (.ref b6), .val (.int (0 : Int32)), .val (.int (-1 : Int32)), .val (.int (0 : Int32)), .val (.int (1 : Int32)), .val (.int (1 : Int32)), .unset] [])) (fun _ kt => XS.goto X17.here hx rfl (pc0 := 279) (pc' := 283) rfl (hb hby at_279) (by decide) (by decide) (XS.istore X17.here hx rfl (hb hby at_283) rfl (l' := #[.val (.int p1), .val (.int p2), .val (.int v1), .val (.int v2), .val (.int v3), .val (.int v4), .val (.int (0 : Int32)), .val (.ref em), .val (.ref b6), .val (.int (0 : Int32)), .val (.int (-1 : Int32)), .val (.int (0 : Int32)), .val (.int (1 : Int32)), .val (.int (1 : Int32)), .unset]) rfl (XS.iloadN X17.here hx rfl (hb hby at_285) rfl (XS.ifYes X17.here hx rfl (pc0 := 286) (pc' := 353) rfl (hb hby at_286) rfl ((if0 _ _).trans (teq hdp).1) (by decide) (by decide) (XS.iload X17.here hx rfl (hb hby at_353) rfl (XS.ifNo X17.here hx rfl (hb hby at_355) rfl ((if0 _ _).trans (feq (by decide : ¬ ((1 : Int32) = (0 : Int32)))).1) kt)))))) ?_
              refine own_via (T' := T17) (g' := (mkF m 360 #[.val (.int p1), .val (.int p2), .val (.int v1), .val (.int v2), .val (.int v3), .val (.int v4), .val (.int (0 : Int32)), .val (.ref em), .val (.ref b6), .val (.int (0 : Int32)), .val (.int (-1 : Int32)), .val (.int (0 : Int32)), .val (.int (1 : Int32)), .val (.int (1 : Int32)), .unset] [(.ref b6)])) (fun _ kt => XS.aload X17.here hx rfl (hb hby at_358) rfl rfl kt) ?_
              obtain ⟨v18, T18, L18, X18, hQ18, st18⟩ := own_callV X17 hx hZ (y := (⟨"com/example/infoset/infoset/xdm/TreeBuffers", "depth", "()I"⟩ : MethodName)) (z := (⟨"com/example/infoset/infoset/xdm/TreeBuffers", "depth", "()I"⟩ : MethodName)) hown (hw _ (List.mem_of_getElem? (i := 132) rfl)) (hw _ (List.mem_of_getElem? (i := 133) rfl)) (notFace_of_selects (args := #[]) (mvT hZ (hw _ (List.mem_of_getElem? (i := 135) rfl)))) (hw _ (List.mem_of_getElem? (i := 135) rfl)) (hw _ (List.mem_of_getElem? (i := 134) rfl)) (hw _ (List.mem_of_getElem? (i := 6) rfl)) (hw _ (List.mem_of_getElem? (i := 136) rfl)) (by decide) (b := b6) (W := 0) (argsL := []) (rest := []) (rm11 l Z a0 hw [] b6 kd pa en nm vl ns fa op og pr 1 0 (own_up (own_up (fun _ => .int 0) 0 (.int (Int32.ofNat 1))) 0 (.int (Int32.ofNat 1))) (own_up (fun _ => .int 0) 0 (.int (0 : Int32))) (own_up fg0 0 .null) T14.heap n0 z14 gtb Tq14) (by decide) (by decide) (by decide) (by decide) e17 Tq14.ob.exa (g := (mkF m 360 #[.val (.int p1), .val (.int p2), .val (.int v1), .val (.int v2), .val (.int v3), .val (.int v4), .val (.int (0 : Int32)), .val (.ref em), .val (.ref b6), .val (.int (0 : Int32)), .val (.int (-1 : Int32)), .val (.int (0 : Int32)), .val (.int (1 : Int32)), .val (.int (1 : Int32)), .unset] [(.ref b6)])) rfl (by rw [hml]; rfl) (lenOf pd_4 rfl) rfl (by show 2 * 0 + _ ≤ _; exact Nat.le_of_eq rfl) (hb hby at_360)
              obtain ⟨rfl, hL18, e18⟩ := hQ18
              replace X18 := own_pure (v := none) (r := none) X18 rfl rfl hL18
              refine own_via (T' := T18) (g' := (mkF m 368 #[.val (.int p1), .val (.int p2), .val (.int v1), .val (.int v2), .val (.int v3), .val (.int v4), .val (.int (0 : Int32)), .val (.ref em), .val (.ref b6), .val (.int (0 : Int32)), .val (.int (-1 : Int32)), .val (.int (0 : Int32)), .val (.int (1 : Int32)), .val (.int (1 : Int32)), .unset] [(.ref b6)])) (fun _ kt => st18 _ (XS.ifNo X18.here hx rfl (hb hby at_363) rfl ((if0 _ _).trans (teq (by decide : ((0 : Int32) = (0 : Int32)))).2) (XS.aload X18.here hx rfl (hb hby at_366) rfl rfl kt))) ?_
              obtain ⟨v19, T19, L19, X19, hQ19, st19⟩ := own_callV X18 hx hZ (y := (⟨"com/example/infoset/infoset/xdm/TreeBuffers", "innermost", "()I"⟩ : MethodName)) (z := (⟨"com/example/infoset/infoset/xdm/TreeBuffers", "innermost", "()I"⟩ : MethodName)) hown (hw _ (List.mem_of_getElem? (i := 137) rfl)) (hw _ (List.mem_of_getElem? (i := 138) rfl)) (notFace_of_selects (args := #[]) (mvT hZ (hw _ (List.mem_of_getElem? (i := 140) rfl)))) (hw _ (List.mem_of_getElem? (i := 140) rfl)) (hw _ (List.mem_of_getElem? (i := 139) rfl)) (hw _ (List.mem_of_getElem? (i := 6) rfl)) (hw _ (List.mem_of_getElem? (i := 141) rfl)) (by decide) (b := b6) (W := 0) (argsL := []) (rest := []) (rm12z l Z a0 hw [] b6 kd pa en nm vl ns fa op og pr 1 (own_up (own_up (fun _ => .int 0) 0 (.int (Int32.ofNat 1))) 0 (.int (Int32.ofNat 1))) (own_up (fun _ => .int 0) 0 (.int (0 : Int32))) (own_up fg0 0 .null) T14.heap n0 z14 gtb Tq14) (by decide) (by decide) (by decide) (by decide) e18 Tq14.ob.exa (g := (mkF m 368 #[.val (.int p1), .val (.int p2), .val (.int v1), .val (.int v2), .val (.int v3), .val (.int v4), .val (.int (0 : Int32)), .val (.ref em), .val (.ref b6), .val (.int (0 : Int32)), .val (.int (-1 : Int32)), .val (.int (0 : Int32)), .val (.int (1 : Int32)), .val (.int (1 : Int32)), .unset] [(.ref b6)])) rfl (by rw [hml]; rfl) (lenOf pd_4 rfl) rfl (by show 2 * 0 + _ ≤ _; exact Nat.le_of_eq rfl) (hb hby at_368)
              obtain ⟨rfl, hL19, e19⟩ := hQ19
              replace X19 := own_pure (v := none) (r := none) X19 rfl rfl hL19
              refine own_via (T' := T19) (g' := (mkF m 377 #[.val (.int p1), .val (.int p2), .val (.int v1), .val (.int v2), .val (.int v3), .val (.int v4), .val (.int (0 : Int32)), .val (.ref em), .val (.ref b6), .val (.int (0 : Int32)), .val (.int (-1 : Int32)), .val (.int (0 : Int32)), .val (.int (1 : Int32)), .val (.int (1 : Int32)), .unset] [(.ref b6)])) (fun _ kt => st19 _ (XS.iconst X19.here hx rfl (hb hby at_371) (XS.icmpNo X19.here hx rfl (hb hby at_372) rfl (teq (by decide : ((-1 : Int32) = (-1 : Int32)))).2 (XS.aload X19.here hx rfl (hb hby at_375) rfl rfl kt)))) ?_
              obtain ⟨v20, T20, L20, X20, hQ20, st20⟩ := own_callV X19 hx hZ (y := (⟨"com/example/infoset/infoset/xdm/TreeBuffers", "innermostOriginal", "()Lcom/example/infoset/infoset/xdm/NamespaceBindings;"⟩ : MethodName)) (z := (⟨"com/example/infoset/infoset/xdm/TreeBuffers", "innermostOriginal", "()Lcom/example/infoset/infoset/xdm/NamespaceBindings;"⟩ : MethodName)) hown (hw _ (List.mem_of_getElem? (i := 142) rfl)) (hw _ (List.mem_of_getElem? (i := 143) rfl)) (notFace_of_selects (args := #[]) (mvT hZ (hw _ (List.mem_of_getElem? (i := 145) rfl)))) (hw _ (List.mem_of_getElem? (i := 145) rfl)) (hw _ (List.mem_of_getElem? (i := 144) rfl)) (hw _ (List.mem_of_getElem? (i := 6) rfl)) (hw _ (List.mem_of_getElem? (i := 146) rfl)) (by decide) (b := b6) (W := 0) (argsL := []) (rest := []) (rm13z l Z a0 hw [] b6 kd pa en nm vl ns fa op og pr 1 (own_up (own_up (fun _ => .int 0) 0 (.int (Int32.ofNat 1))) 0 (.int (Int32.ofNat 1))) (own_up (fun _ => .int 0) 0 (.int (0 : Int32))) (own_up fg0 0 .null) T14.heap n0 z14 gtb Tq14) (by decide) (by decide) (by decide) (by decide) e19 Tq14.ob.exa (g := (mkF m 377 #[.val (.int p1), .val (.int p2), .val (.int v1), .val (.int v2), .val (.int v3), .val (.int v4), .val (.int (0 : Int32)), .val (.ref em), .val (.ref b6), .val (.int (0 : Int32)), .val (.int (-1 : Int32)), .val (.int (0 : Int32)), .val (.int (1 : Int32)), .val (.int (1 : Int32)), .unset] [(.ref b6)])) rfl (by rw [hml]; rfl) (lenOf pd_6 rfl) rfl (by show 2 * 0 + _ ≤ _; exact Nat.le_of_eq rfl) (hb hby at_377)
              obtain ⟨rfl, hL20, e20⟩ := hQ20
              replace X20 := own_pure (v := none) (r := none) X20 rfl rfl hL20
              refine own_via (T' := T20) (g' := (mkF m 392 #[.val (.int p1), .val (.int p2), .val (.int v1), .val (.int v2), .val (.int v3), .val (.int v4), .val (.int (0 : Int32)), .val (.ref em), .val (.ref b6), .val (.int (0 : Int32)), .val (.int (-1 : Int32)), .val (.int (0 : Int32)), .val (.int (1 : Int32)), .val (.int (1 : Int32)), .unset] [(.int (0 : Int32))])) (fun _ kt => st20 _ (XS.ifnonnullNo X20.here hx rfl (hb hby at_380) rfl (XS.iconst X20.here hx rfl (hb hby at_383) (XS.goto X20.here hx rfl (pc0 := 384) (pc' := 388) rfl (hb hby at_384) (by decide) (by decide) (XS.istore X20.here hx rfl (hb hby at_388) rfl (l' := #[.val (.int p1), .val (.int p2), .val (.int v1), .val (.int v2), .val (.int v3), .val (.int v4), .val (.int (0 : Int32)), .val (.ref em), .val (.ref b6), .val (.int (0 : Int32)), .val (.int (-1 : Int32)), .val (.int (0 : Int32)), .val (.int (1 : Int32)), .val (.int (1 : Int32)), .unset]) rfl (XS.iload X20.here hx rfl (hb hby at_390) rfl kt)))))) ?_
              refine own_via (T' := T20) (g' := (mkF m 462 #[.val (.int p1), .val (.int p2), .val (.int v1), .val (.int v2), .val (.int v3), .val (.int v4), .val (.int (0 : Int32)), .val (.ref em), .val (.ref b6), .val (.int (0 : Int32)), .val (.int (-1 : Int32)), .val (.int (0 : Int32)), .val (.int (1 : Int32)), .val (.int (1 : Int32)), .unset] [(.ref b6)])) (fun _ kt => XS.iconst X20.here hx rfl (hb hby at_392) (XS.icmpYes X20.here hx rfl (pc0 := 393) (pc' := 425) rfl (hb hby at_393) rfl (tlt (by decide : ((0 : Int32) < (1 : Int32)))).1 (by decide) (by decide) (XS.iload X20.here hx rfl (hb hby at_425) rfl (XS.iconst X20.here hx rfl (hb hby at_427) (XS.icmpYes X20.here hx rfl (pc0 := 428) (pc' := 460) rfl (hb hby at_428) rfl (tlt (by decide : ((0 : Int32) < (2 : Int32)))).1 (by decide) (by decide) (XS.aload X20.here hx rfl (hb hby at_460) rfl rfl kt)))))) ?_
              obtain ⟨T21, X21, e21, st21⟩ := getS2 X20 hx hZ hown (host := "") (Or.inl (hw _ (List.mem_of_getElem? (i := 97) rfl))) Via.refl e20 (S_k1.ext f15.2) (g := (mkF m 462 #[.val (.int p1), .val (.int p2), .val (.int v1), .val (.int v2), .val (.int v3), .val (.int v4), .val (.int (0 : Int32)), .val (.ref em), .val (.ref b6), .val (.int (0 : Int32)), .val (.int (-1 : Int32)), .val (.int (0 : Int32)), .val (.int (1 : Int32)), .val (.int (1 : Int32)), .unset] [(.ref b6)])) rfl (hb hby at_462)
              refine own_via (T' := T21) (g' := (mkF m 477 #[.val (.int p1), .val (.int p2), .val (.int v1), .val (.int v2), .val (.int v3), .val (.int v4), .val (.int (0 : Int32)), .val (.ref em), .val (.ref b6), .val (.int (0 : Int32)), .val (.int (-1 : Int32)), .val (.int (0 : Int32)), .val (.int (1 : Int32)), .val (.int (1 : Int32)), .unset] [.null, .null, (.int (-1 : Int32)), (.ref k1), (.ref b6)])) (fun _ kt => st21 _ (XS.iloadN X21.here hx rfl (hb hby at_465) rfl (XS.ifYes X21.here hx rfl (pc0 := 466) (pc' := 474) rfl (hb hby at_466) rfl ((if0 _ _).trans (teq hdp).1) (by decide) (by decide) (XS.iconst X21.here hx rfl (hb hby at_474) (XS.aconstNull X21.here hx rfl (hb hby at_475) (XS.aconstNull X21.here hx rfl (hb hby at_476) kt)))))) ?_
              refine own_via (T' := T21) (g' := (mkF m 478 #[.val (.int p1), .val (.int p2), .val (.int v1), .val (.int v2), .val (.int v3), .val (.int v4), .val (.int (0 : Int32)), .val (.ref em), .val (.ref b6), .val (.int (0 : Int32)), .val (.int (-1 : Int32)), .val (.int (0 : Int32)), .val (.int (1 : Int32)), .val (.int (1 : Int32)), .unset] [.null, .null, .null, (.int (-1 : Int32)), (.ref k1), (.ref b6)])) (fun _ kt => XS.aconstNull X21.here hx rfl (hb hby at_477) kt) ?_
              obtain ⟨v22, T22, L22, X22, hQ22, st22⟩ := own_callV X21 hx hZ (y := (⟨"com/example/infoset/infoset/xdm/TreeBuffers", "add", "(Lcom/example/infoset/infoset/xdm/NodeKind;ILcom/example/infoset/infoset/xdm/QName;Ljava/lang/String;Lcom/example/infoset/infoset/xdm/NamespaceBindings;)I"⟩ : MethodName)) (z := (⟨"com/example/infoset/infoset/xdm/TreeBuffers", "add", "(Lcom/example/infoset/infoset/xdm/NodeKind;ILcom/example/infoset/infoset/xdm/QName;Ljava/lang/String;Lcom/example/infoset/infoset/xdm/NamespaceBindings;)I"⟩ : MethodName)) hown (hw _ (List.mem_of_getElem? (i := 100) rfl)) (hw _ (List.mem_of_getElem? (i := 101) rfl)) (notFace_of_selects (args := #[]) (mvT hZ (hw _ (List.mem_of_getElem? (i := 103) rfl)))) (hw _ (List.mem_of_getElem? (i := 103) rfl)) (hw _ (List.mem_of_getElem? (i := 102) rfl)) (hw _ (List.mem_of_getElem? (i := 6) rfl)) (hw _ (List.mem_of_getElem? (i := 104) rfl)) (by decide) (b := b6) (W := 0) (argsL := [(.ref k1), (.int (-1 : Int32)), .null, .null, .null]) (rest := []) (rm7 l Z a0 hw [] b6 kd pa en nm vl ns fa op og pr 1 0 (own_up (own_up (fun _ => .int 0) 0 (.int (Int32.ofNat 1))) 0 (.int (Int32.ofNat 1))) (own_up (fun _ => .int 0) 0 (.int (0 : Int32))) (own_up fg0 0 .null) T14.heap n0 z14 gtb Tq14 k1 (-1 : Int32) 1 (by decide) (E_k1.ext f15.2) (F_k1.ext f15.2)) (by decide) (by decide) (by decide) (by decide) e21 Tq14.ob.exa (g := (mkF m 478 #[.val (.int p1), .val (.int p2), .val (.int v1), .val (.int v2), .val (.int v3), .val (.int v4), .val (.int (0 : Int32)), .val (.ref em), .val (.ref b6), .val (.int (0 : Int32)), .val (.int (-1 : Int32)), .val (.int (0 : Int32)), .val (.int (1 : Int32)), .val (.int (1 : Int32)), .unset] [.null, .null, .null, (.int (-1 : Int32)), (.ref k1), (.ref b6)])) rfl (by rw [hml]; rfl) (lenOf pd_7 rfl) rfl (by show 2 * 0 + _ ≤ _; exact Nat.le_of_eq rfl) (hb hby at_478)
              obtain ⟨rfl, Nq22, Kq22, Tq22⟩ := hQ22
              replace Tq22 : own_TB Z T22.heap b6 kd pa en nm vl ns fa op og pr 2 0 (own_up (own_up (own_up (fun _ => .int 0) 0 (.int (Int32.ofNat 1))) 0 (.int (Int32.ofNat 1))) 1 (.int (Int32.ofNat 2))) (own_up (fun _ => .int 0) 0 (.int (0 : Int32))) (own_up fg0 0 .null) := Tq22
              have f23 := f15.keep Kq22 (allS (by omega) (allS (by omega) (allS (by omega) (allS (by omega) (allS (by omega) (allS (by omega) (allS (by omega) (allS (by omega) all0))))))))
              have z22 : n0 ≤ T22.heap.size := Nat.le_trans z14 Kq22.1
              have N22 := Fr.app N14 Nq22
              refine own_via (T' := T22) (g' := (mkF m 487 #[.val (.int p1), .val (.int p2), .val (.int v1), .val (.int v2), .val (.int v3), .val (.int v4), .val (.int (0 : Int32)), .val (.ref em), .val (.ref b6), .val (.int (0 : Int32)), .val (.int (-1 : Int32)), .val (.int (0 : Int32)), .val (.int (1 : Int32)), .val (.int (1 : Int32)), .val (.int (1 : Int32))] [(.int (1 : Int32)), (.ref b6)])) (fun _ kt => st22 _ (XS.istore X22.here hx rfl (hb hby at_481) rfl (l' := #[.val (.int p1), .val (.int p2), .val (.int v1), .val (.int v2), .val (.int v3), .val (.int v4), .val (.int (0 : Int32)), .val (.ref em), .val (.ref b6), .val (.int (0 : Int32)), .val (.int (-1 : Int32)), .val (.int (0 : Int32)), .val (.int (1 : Int32)), .val (.int (1 : Int32)), .val (.int (1 : Int32))]) rfl (XS.aload X22.here hx rfl (hb hby at_483) rfl rfl (XS.iload X22.here hx rfl (hb hby at_485) rfl kt)))) ?_
              obtain ⟨v24, T24, L24, X24, hQ24, st24⟩ := own_callV X22 hx hZ (y := (⟨"com/example/infoset/infoset/xdm/TreeBuffers", "open", "(I)V"⟩ : MethodName)) (z := (⟨"com/example/infoset/infoset/xdm/TreeBuffers", "open", "(I)V"⟩ : MethodName)) hown (hw _ (List.mem_of_getElem? (i := 118) rfl)) (hw _ (List.mem_of_getElem? (i := 119) rfl)) (notFace_of_selects (args := #[]) (mvT hZ (hw _ (List.mem_of_getElem? (i := 121) rfl)))) (hw _ (List.mem_of_getElem? (i := 121) rfl)) (hw _ (List.mem_of_getElem? (i := 120) rfl)) (hw _ (List.mem_of_getElem? (i := 6) rfl)) (hw _ (List.mem_of_getElem? (i := 122) rfl)) (by decide) (b := b6) (W := 0) (argsL := [(.int (1 : Int32))]) (rest := []) (rm9 l Z a0 hw [] b6 kd pa en nm vl ns fa op og pr 2 0 (own_up (own_up (own_up (fun _ => .int 0) 0 (.int (Int32.ofNat 1))) 0 (.int (Int32.ofNat 1))) 1 (.int (Int32.ofNat 2))) (own_up (fun _ => .int 0) 0 (.int (0 : Int32))) (own_up fg0 0 .null) T22.heap n0 z22 gtb Tq22 (1 : Int32) (by decide)) (by decide) (by decide) (by decide) (by decide) rfl Tq22.ob.exa (g := (mkF m 487 #[.val (.int p1), .val (.int p2), .val (.int v1), .val (.int v2), .val (.int v3), .val (.int v4), .val (.int (0 : Int32)), .val (.ref em), .val (.ref b6), .val (.int (0 : Int32)), .val (.int (-1 : Int32)), .val (.int (0 : Int32)), .val (.int (1 : Int32)), .val (.int (1 : Int32)), .val (.int (1 : Int32))] [(.int (1 : Int32)), (.ref b6)])) rfl (by rw [hml]; rfl) (lenOf pd_2 rfl) rfl (by show 2 * 0 + _ ≤ _; exact Nat.le_of_eq rfl) (hb hby at_487)
              obtain ⟨rfl, Nq24, Kq24, Tq24⟩ := hQ24
              replace Tq24 : own_TB Z T24.heap b6 kd pa en nm vl ns fa op og pr 2 1 (own_up (own_up (own_up (fun _ => .int 0) 0 (.int (Int32.ofNat 1))) 0 (.int (Int32.ofNat 1))) 1 (.int (Int32.ofNat 2))) (own_up (own_up (fun _ => .int 0) 0 (.int (0 : Int32))) 0 (.int (1 : Int32))) (own_up fg0 0 .null) := Tq24
              have f25 := f23.keep Kq24 (allS (by omega) (allS (by omega) all0))
              have z24 : n0 ≤ T24.heap.size := Nat.le_trans z22 Kq24.1
              have N24 := Fr.app N22 Nq24
              refine own_via (T' := T24) (g' := (mkF m 497 #[.val (.int p1), .val (.int p2), .val (.int v1), .val (.int v2), .val (.int v3), .val (.int v4), .val (.int (0 : Int32)), .val (.ref em), .val (.ref b6), .val (.int (0 : Int32)), .val (.int (-1 : Int32)), .val (.int (0 : Int32)), .val (.int (1 : Int32)), .val (.int (1 : Int32)), .val (.int (1 : Int32))] [(.ref b6)])) (fun _ kt => st24 _ (XS.iload X24.here hx rfl (hb hby at_490) rfl (XS.ifNo X24.here hx rfl (hb hby at_492) rfl ((if0 _ _).trans (feq (by decide : ¬ ((1 : Int32) = (0 : Int32)))).1) (XS.aload X24.here hx rfl (hb hby at_495) rfl rfl kt)))) ?_
              obtain ⟨v26, T26, L26, X26, hQ26, st26⟩ := own_callV X24 hx hZ (y := (⟨"com/example/infoset/infoset/xdm/TreeBuffers", "innermostOriginal", "()Lcom/example/infoset/infoset/xdm/NamespaceBindings;"⟩ : MethodName)) (z := (⟨"com/example/infoset/infoset/xdm/TreeBuffers", "innermostOriginal", "()Lcom/example/infoset/infoset/xdm/NamespaceBindings;"⟩ : MethodName)) hown (hw _ (List.mem_of_getElem? (i := 142) rfl)) (hw _ (List.mem_of_getElem? (i := 143) rfl)) (notFace_of_selects (args := #[]) (mvT hZ (hw _ (List.mem_of_getElem? (i := 145) rfl)))) (hw _ (List.mem_of_getElem? (i := 145) rfl)) (hw _ (List.mem_of_getElem? (i := 144) rfl)) (hw _ (List.mem_of_getElem? (i := 6) rfl)) (hw _ (List.mem_of_getElem? (i := 146) rfl)) (by decide) (b := b6) (W := 0) (argsL := []) (rest := []) (rm13s l Z a0 hw [] b6 kd pa en nm vl ns fa op og pr 2 0 (own_up (own_up (own_up (fun _ => .int 0) 0 (.int (Int32.ofNat 1))) 0 (.int (Int32.ofNat 1))) 1 (.int (Int32.ofNat 2))) (own_up (own_up (fun _ => .int 0) 0 (.int (0 : Int32))) 0 (.int (1 : Int32))) (own_up fg0 0 .null) T24.heap n0 z24 gtb Tq24 (by decide) rfl) (by decide) (by decide) (by decide) (by decide) rfl Tq24.ob.exa (g := (mkF m 497 #[.val (.int p1), .val (.int p2), .val (.int v1), .val (.int v2), .val (.int v3), .val (.int v4), .val (.int (0 : Int32)), .val (.ref em), .val (.ref b6), .val (.int (0 : Int32)), .val (.int (-1 : Int32)), .val (.int (0 : Int32)), .val (.int (1 : Int32)), .val (.int (1 : Int32)), .val (.int (1 : Int32))] [(.ref b6)])) rfl (by rw [hml]; rfl) (lenOf pd_6 rfl) rfl (by show 2 * 0 + _ ≤ _; exact Nat.le_of_eq rfl) (hb hby at_497)
              obtain ⟨rfl, hL26, e26⟩ := hQ26
              replace X26 := own_pure (v := none) (r := none) X26 rfl rfl hL26
              refine own_via (T' := T26) (g' := (mkF m 505 #[.val (.int p1), .val (.int p2), .val (.int v1), .val (.int v2), .val (.int v3), .val (.int v4), .val (.int (0 : Int32)), .val (.ref em), .val (.ref b6), .val (.int (0 : Int32)), .val (.int (-1 : Int32)), .val (.int (0 : Int32)), .val (.int (1 : Int32)), .val (.int (1 : Int32)), .val (.int (1 : Int32))] [(.ref b6)])) (fun _ kt => st26 _ (XS.ifnonnullNo X26.here hx rfl (hb hby at_500) rfl (XS.aload X26.here hx rfl (hb hby at_503) rfl rfl kt))) ?_
              obtain ⟨T27, X27, e27, st27⟩ := getF X26 hx hZ hown (host := "") (Or.inl (hw _ (List.mem_of_getElem? (i := 131) rfl))) Via.refl e26 Tq24.f_ends (g := (mkF m 505 #[.val (.int p1), .val (.int p2), .val (.int v1), .val (.int v2), .val (.int v3), .val (.int v4), .val (.int (0 : Int32)), .val (.ref em), .val (.ref b6), .val (.int (0 : Int32)), .val (.int (-1 : Int32)), .val (.int (0 : Int32)), .val (.int (1 : Int32)), .val (.int (1 : Int32)), .val (.int (1 : Int32))] [(.ref b6)])) rfl rfl (hb hby at_505)
              refine own_via (T' := T27) (g' := (mkF m 517 #[.val (.int p1), .val (.int p2), .val (.int v1), .val (.int v2), .val (.int v3), .val (.int v4), .val (.int (0 : Int32)), .val (.ref em), .val (.ref b6), .val (.int (0 : Int32)), .val (.int (-1 : Int32)), .val (.int (0 : Int32)), .val (.int (1 : Int32)), .val (.int (1 : Int32)), .val (.int (1 : Int32))] [(.int (1 : Int32))])) (fun _ kt => st27 _ (XS.iload X27.here hx rfl (hb hby at_508) rfl (own_iaload X27 hx hZ e27 Tq24.a_en (j := (0 : Int32)) (i := 0) rfl (by decide) (g := (mkF m 510 #[.val (.int p1), .val (.int p2), .val (.int v1), .val (.int v2), .val (.int v3), .val (.int v4), .val (.int (0 : Int32)), .val (.ref em), .val (.ref b6), .val (.int (0 : Int32)), .val (.int (-1 : Int32)), .val (.int (0 : Int32)), .val (.int (1 : Int32)), .val (.int (1 : Int32)), .val (.int (1 : Int32))] [(.int (0 : Int32)), (.ref en)])) rfl rfl (hb hby at_510) _ (XS.iload X27.here hx rfl (hb hby at_511) rfl (XS.icmpNo X27.here hx rfl (hb hby at_513) rfl (teq (by decide : ((1 : Int32) = (1 : Int32)))).2 (XS.iconst X27.here hx rfl (hb hby at_516) kt)))))) ?_
              refine own_via (T' := T27) (g' := (mkF m 525 #[.val (.int p1), .val (.int p2), .val (.int v1), .val (.int v2), .val (.int v3), .val (.int v4), .val (.int (0 : Int32)), .val (.ref em), .val (.ref b6), .val (.int (0 : Int32)), .val (.int (-1 : Int32)), .val (.int (0 : Int32)), .val (.int (1 : Int32)), .val (.int (1 : Int32)), .val (.int (1 : Int32))] [(.int (1 : Int32))])) (fun _ kt => XS.goto X27.here hx rfl (pc0 := 517) (pc' := 521) rfl (hb hby at_517) (by decide) (by decide) (XS.istore X27.here hx rfl (hb hby at_521) rfl (l' := #[.val (.int p1), .val (.int p2), .val (.int v1), .val (.int v2), .val (.int v3), .val (.int v4), .val (.int (0 : Int32)), .val (.ref em), .val (.ref b6), .val (.int (0 : Int32)), .val (.int (-1 : Int32)), .val (.int (0 : Int32)), .val (.int (1 : Int32)), .val (.int (1 : Int32)), .val (.int (1 : Int32))]) rfl (XS.iload X27.here hx rfl (hb hby at_523) rfl kt))) ?_
              exact own_retZ X27 hx hret hlk (hb hby at_525) (by decide) ⟨rfl, N24⟩ (by decide) (by decide)
            · refine own_via (T' := T) (g' := (mkF m 175 #[.val (.int p1), .val (.int p2), .val (.int v1), .val (.int v2), .val (.int v3), .val (.int v4), .val (.int (1 : Int32)), .val (.ref em), .val (.ref b6), .val (.int (0 : Int32)), .val (.int (-1 : Int32)), .val (.int (0 : Int32)), .unset, .unset, .unset] [(.int (1 : Int32)), (.int (1 : Int32))])) (fun _ kt => XS.iloadN XL.here hx rfl (hb hby at_159) rfl (XS.ifYes XL.here hx rfl (pc0 := 160) (pc' := 168) rfl (hb hby at_160) rfl ((if0 _ _).trans (teq hdp).1) (by decide) (by decide) (XS.iload XL.here hx rfl (hb hby at_168) rfl (XS.istore XL.here hx rfl (hb hby at_170) rfl (l' := #[.val (.int p1), .val (.int p2), .val (.int v1), .val (.int v2), .val (.int v3), .val (.int v4), .val (.int (1 : Int32)), .val (.ref em), .val (.ref b6), .val (.int (0 : Int32)), .val (.int (-1 : Int32)), .val (.int (0 : Int32)), .unset, .unset, .unset]) rfl (XS.iload XL.here hx rfl (hb hby at_172) rfl (XS.iconst XL.here hx rfl (hb hby at_174) kt)))))) ?_
              refine own_via (T' := T) (g' := (mkF m 180 #[.val (.int p1), .val (.int p2), .val (.int v1), .val (.int v2), .val (.int v3), .val (.int v4), .val (.int (1 : Int32)), .val (.ref em), .val (.ref b6), .val (.int (0 : Int32)), .val (.int (-1 : Int32)), .val (.int (0 : Int32)), .unset, .unset, .unset] [(.ref b6)])) (fun _ kt => XS.icmpNo XL.here hx rfl (hb hby at_175) rfl (flt (by decide : ¬ ((1 : Int32) < (1 : Int32)))).1 (XS.aload XL.here hx rfl (hb hby at_178) rfl rfl kt)) ?_
              obtain ⟨T28, X28, e28, st28⟩ := getS2 XL hx hZ hown (host := "") (Or.inl (hw _ (List.mem_of_getElem? (i := 153) rfl))) Via.refl eL (S_k3.ext OL.2) (g := (mkF m 180 #[.val (.int p1), .val (.int p2), .val (.int v1), .val (.int v2), .val (.int v3), .val (.int v4), .val (.int (1 : Int32)), .val (.ref em), .val (.ref b6), .val (.int (0 : Int32)), .val (.int (-1 : Int32)), .val (.int (0 : Int32)), .unset, .unset, .unset] [(.ref b6)])) rfl (hb hby at_180)
              refine own_via (T' := T28) (g' := (mkF m 188 #[.val (.int p1), .val (.int p2), .val (.int v1), .val (.int v2), .val (.int v3), .val (.int v4), .val (.int (1 : Int32)), .val (.ref em), .val (.ref b6), .val (.int (0 : Int32)), .val (.int (-1 : Int32)), .val (.int (0 : Int32)), .unset, .unset, .unset] [.null, .null, .null, (.int (0 : Int32)), (.ref k3), (.ref b6)])) (fun _ kt => st28 _ (XS.iload X28.here hx rfl (hb hby at_183) rfl (XS.aconstNull X28.here hx rfl (hb hby at_185) (XS.aconstNull X28.here hx rfl (hb hby at_186) (XS.aconstNull X28.here hx rfl (hb hby at_187) kt))))) ?_
              obtain ⟨v29, T29, L29, X29, hQ29, st29⟩ := own_callV X28 hx hZ (y := (⟨"com/example/infoset/infoset/xdm/TreeBuffers", "add", "(Lcom/example/infoset/infoset/xdm/NodeKind;ILcom/example/infoset/infoset/xdm/QName;Ljava/lang/String;Lcom/example/infoset/infoset/xdm/NamespaceBindings;)I"⟩ : MethodName)) (z := (⟨"com/example/infoset/infoset/xdm/TreeBuffers", "add", "(Lcom/example/infoset/infoset/xdm/NodeKind;ILcom/example/infoset/infoset/xdm/QName;Ljava/lang/String;Lcom/example/infoset/infoset/xdm/NamespaceBindings;)I"⟩ : MethodName)) hown (hw _ (List.mem_of_getElem? (i := 100) rfl)) (hw _ (List.mem_of_getElem? (i := 101) rfl)) (notFace_of_selects (args := #[]) (mvT hZ (hw _ (List.mem_of_getElem? (i := 103) rfl)))) (hw _ (List.mem_of_getElem? (i := 103) rfl)) (hw _ (List.mem_of_getElem? (i := 102) rfl)) (hw _ (List.mem_of_getElem? (i := 6) rfl)) (hw _ (List.mem_of_getElem? (i := 104) rfl)) (by decide) (b := b6) (W := 0) (argsL := [(.ref k3), (.int (0 : Int32)), .null, .null, .null]) (rest := []) (rm7 l Z a0 hw [] b6 kd pa en nm vl ns fa op og pr 1 1 (own_up (fun _ => .int 0) 0 (.int (Int32.ofNat 1))) (own_up (fun _ => .int 0) 0 (.int (0 : Int32))) fg0 hh n0 zL gtb TL k3 (0 : Int32) 3 (by decide) (E_k3.ext OL.2) (F_k3.ext OL.2)) (by decide) (by decide) (by decide) (by decide) e28 TL.ob.exa (g := (mkF m 188 #[.val (.int p1), .val (.int p2), .val (.int v1), .val (.int v2), .val (.int v3), .val (.int v4), .val (.int (1 : Int32)), .val (.ref em), .val (.ref b6), .val (.int (0 : Int32)), .val (.int (-1 : Int32)), .val (.int (0 : Int32)), .unset, .unset, .unset] [.null, .null, .null, (.int (0 : Int32)), (.ref k3), (.ref b6)])) rfl (by rw [hml]; rfl) (lenOf pd_7 rfl) rfl (by show 2 * 0 + _ ≤ _; exact Nat.le_of_eq rfl) (hb hby at_188)
              obtain ⟨rfl, Nq29, Kq29, Tq29⟩ := hQ29
              replace Tq29 : own_TB Z T29.heap b6 kd pa en nm vl ns fa op og pr 2 1 (own_up (own_up (fun _ => .int 0) 0 (.int (Int32.ofNat 1))) 1 (.int (Int32.ofNat 2))) (own_up (fun _ => .int 0) 0 (.int (0 : Int32))) fg0 := Tq29
              have f30 := OL.keep Kq29 (allS (by omega) (allS (by omega) (allS (by omega) (allS (by omega) (allS (by omega) (allS (by omega) (allS (by omega) (allS (by omega) all0))))))))
              have z29 : n0 ≤ T29.heap.size := Nat.le_trans zL Kq29.1
              have N29 := Fr.app NL Nq29
              refine own_via (T' := T29) (g' := (mkF m 213 #[.val (.int p1), .val (.int p2), .val (.int v1), .val (.int v2), .val (.int v3), .val (.int v4), .val (.int (1 : Int32)), .val (.ref em), .val (.ref b6), .val (.int (0 : Int32)), .val (.int (-1 : Int32)), .val (.int (0 : Int32)), .unset, .unset, .unset] [(.int (1 : Int32))])) (fun _ kt => st29 _ (XS.pop X29.here hx rfl (hb hby at_191) rfl rfl (XS.iload X29.here hx rfl (hb hby at_192) rfl (XS.iconst X29.here hx rfl (hb hby at_194) (XS.icmpYes X29.here hx rfl (pc0 := 195) (pc' := 212) rfl (hb hby at_195) rfl (tlt (by decide : ((1 : Int32) < (2 : Int32)))).1 (by decide) (by decide) (XS.iconst X29.here hx rfl (hb hby at_212) kt)))))) ?_
              refine own_via (T' := T29) (g' := (mkF m 226 #[.val (.int p1), .val (.int p2), .val (.int v1), .val (.int v2), .val (.int v3), .val (.int v4), .val (.int (1 : Int32)), .val (.ref em), .val (.ref b6), .val (.int (0 : Int32)), .val (.int (-1 : Int32)), .val (.int (0 : Int32)), .unset, .unset, .unset] [(.int (2 : Int32))])) (fun _ kt => XS.iloadN X29.here hx rfl (hb hby at_213) rfl (XS.ifYes X29.here hx rfl (pc0 := 214) (pc' := 221) rfl (hb hby at_214) rfl ((if0 _ _).trans (teq hdp).1) (by decide) (by decide) (XS.iconst X29.here hx rfl (hb hby at_221) (XS.iadd X29.here hx rfl (hb hby at_222) rfl (XS.iload X29.here hx rfl (hb hby at_223) rfl (XS.iadd X29.here hx rfl (hb hby at_225) rfl kt)))))) ?_
              refine own_via (T' := T29) (g' := (mkF m 230 #[.val (.int p1), .val (.int p2), .val (.int v1), .val (.int v2), .val (.int v3), .val (.int v4), .val (.int (1 : Int32)), .val (.ref em), .val (.ref b6), .val (.int (0 : Int32)), .val (.int (-1 : Int32)), .val (.int (0 : Int32)), .val (.int (2 : Int32)), .unset, .unset] [(.ref b6)])) (fun _ kt => XS.istore X29.here hx rfl (hb hby at_226) rfl (l' := #[.val (.int p1), .val (.int p2), .val (.int v1), .val (.int v2), .val (.int v3), .val (.int v4), .val (.int (1 : Int32)), .val (.ref em), .val (.ref b6), .val (.int (0 : Int32)), .val (.int (-1 : Int32)), .val (.int (0 : Int32)), .val (.int (2 : Int32)), .unset, .unset]) rfl (XS.aload X29.here hx rfl (hb hby at_228) rfl rfl kt)) ?_
              obtain ⟨T31, X31, e31, st31⟩ := getF X29 hx hZ hown (host := "") (Or.inl (hw _ (List.mem_of_getElem? (i := 125) rfl))) Via.refl rfl Tq29.f_size (g := (mkF m 230 #[.val (.int p1), .val (.int p2), .val (.int v1), .val (.int v2), .val (.int v3), .val (.int v4), .val (.int (1 : Int32)), .val (.ref em), .val (.ref b6), .val (.int (0 : Int32)), .val (.int (-1 : Int32)), .val (.int (0 : Int32)), .val (.int (2 : Int32)), .unset, .unset] [(.ref b6)])) rfl rfl (hb hby at_230)
              refine own_via (T' := T31) (g' := (mkF m 245 #[.val (.int p1), .val (.int p2), .val (.int v1), .val (.int v2), .val (.int v3), .val (.int v4), .val (.int (1 : Int32)), .val (.ref em), .val (.ref b6), .val (.int (0 : Int32)), .val (.int (-1 : Int32)), .val (.int (0 : Int32)), .val (.int (2 : Int32)), .val (.int (1 : Int32)), .unset] [])) (fun _ kt => st31 _ (XS.iload X31.here hx rfl (hb hby at_233) rfl (XS.icmpNo X31.here hx rfl (hb hby at_235) rfl (teq (by decide : ((2 : Int32) = (2 : Int32)))).2 (XS.iconst X31.here hx rfl (hb hby at_238) (XS.goto X31.here hx rfl (pc0 := 239) (pc' := 243) rfl (hb hby at_239) (by decide) (by decide) (XS.istore X31.here hx rfl (hb hby at_243) rfl (l' := #[.val (.int p1), .val (.int p2), .val (.int v1), .val (.int v2), .val (.int v3), .val (.int v4), .val (.int (1 : Int32)), .val (.ref em), .val (.ref b6), .val (.int (0 : Int32)), .val (.int (-1 : Int32)), .val (.int (0 : Int32)), .val (.int (2 : Int32)), .val (.int (1 : Int32)), .unset]) rfl kt)))))) ?_
              refine own_via (T' := T31) (g' := (mkF m 247 #[.val (.int p1), .val (.int p2), .val (.int v1), .val (.int v2), .val (.int v3), .val (.int v4), .val (.int (1 : Int32)), .val (.ref em), .val (.ref b6), .val (.int (0 : Int32)), .val (.int (-1 : Int32)), .val (.int (0 : Int32)), .val (.int (2 : Int32)), .val (.int (1 : Int32)), .unset] [(.ref b6)])) (fun _ kt => XS.aload X31.here hx rfl (hb hby at_245) rfl rfl kt) ?_
              obtain ⟨v32, T32, L32, X32, hQ32, st32⟩ := own_callV X31 hx hZ (y := (⟨"com/example/infoset/infoset/xdm/TreeBuffers", "close", "()V"⟩ : MethodName)) (z := (⟨"com/example/infoset/infoset/xdm/TreeBuffers", "close", "()V"⟩ : MethodName)) hown (hw _ (List.mem_of_getElem? (i := 126) rfl)) (hw _ (List.mem_of_getElem? (i := 127) rfl)) (notFace_of_selects (args := #[]) (mvT hZ (hw _ (List.mem_of_getElem? (i := 129) rfl)))) (hw _ (List.mem_of_getElem? (i := 129) rfl)) (hw _ (List.mem_of_getElem? (i := 128) rfl)) (hw _ (List.mem_of_getElem? (i := 6) rfl)) (hw _ (List.mem_of_getElem? (i := 130) rfl)) (by decide) (b := b6) (W := 0) (argsL := []) (rest := []) (rm10 l Z a0 hw [] b6 kd pa en nm vl ns fa op og pr 2 0 (own_up (own_up (fun _ => .int 0) 0 (.int (Int32.ofNat 1))) 1 (.int (Int32.ofNat 2))) (own_up (fun _ => .int 0) 0 (.int (0 : Int32))) fg0 T29.heap n0 z29 gtb Tq29 0 (by decide) (by decide) rfl) (by decide) (by decide) (by decide) (by decide) e31 Tq29.ob.exa (g := (mkF m 247 #[.val (.int p1), .val (.int p2), .val (.int v1), .val (.int v2), .val (.int v3), .val (.int v4), .val (.int (1 : Int32)), .val (.ref em), .val (.ref b6), .val (.int (0 : Int32)), .val (.int (-1 : Int32)), .val (.int (0 : Int32)), .val (.int (2 : Int32)), .val (.int (1 : Int32)), .unset] [(.ref b6)])) rfl (by rw [hml]; rfl) (lenOf pd_0 rfl) rfl (by show 2 * 0 + _ ≤ _; exact Nat.le_of_eq rfl) (hb hby at_247)
              obtain ⟨rfl, Nq32, Kq32, Tq32⟩ := hQ32
              replace Tq32 : own_TB Z T32.heap b6 kd pa en nm vl ns fa op og pr 2 0 (own_up (own_up (own_up (fun _ => .int 0) 0 (.int (Int32.ofNat 1))) 1 (.int (Int32.ofNat 2))) 0 (.int (Int32.ofNat 2))) (own_up (fun _ => .int 0) 0 (.int (0 : Int32))) (own_up fg0 0 .null) := Tq32
              have f33 := f30.keep Kq32 (allS (by omega) (allS (by omega) (allS (by omega) all0)))
              have z32 : n0 ≤ T32.heap.size := Nat.le_trans z29 Kq32.1
              have N32 := Fr.app N29 Nq32
              refine own_via (T' := T32) (g' := (mkF m 257 #[.val (.int p1), .val (.int p2), .val (.int v1), .val (.int v2), .val (.int v3), .val (.int v4), .val (.int (1 : Int32)), .val (.ref em), .val (.ref b6), .val (.int (0 : Int32)), .val (.int (-1 : Int32)), .val (.int (0 : Int32)), .val (.int (2 : Int32)), .val (.int (1 : Int32)), .unset] [(.ref b6)])) (fun _ kt => st32 _ (XS.iload X32.here hx rfl (hb hby at_250) rfl (XS.ifNo X32.here hx rfl (hb hby at_252) rfl ((if0 _ _).trans (feq (by decide : ¬ ((1 : Int32) = (0 : Int32)))).1) (XS.aload X32.here hx rfl (hb hby at_255) rfl rfl kt)))) ?_
              obtain ⟨T34, X34, e34, st34⟩ := getF X32 hx hZ hown (host := "") (Or.inl (hw _ (List.mem_of_getElem? (i := 125) rfl))) Via.refl rfl Tq32.f_size (g := (mkF m 257 #[.val (.int p1), .val (.int p2), .val (.int v1), .val (.int v2), .val (.int v3), .val (.int v4), .val (.int (1 : Int32)), .val (.ref em), .val (.ref b6), .val (.int (0 : Int32)), .val (.int (-1 : Int32)), .val (.int (0 : Int32)), .val (.int (2 : Int32)), .val (.int (1 : Int32)), .unset] [(.ref b6)])) rfl rfl (hb hby at_257)
              refine own_via (T' := T34) (g' := (mkF m 267 #[.val (.int p1), .val (.int p2), .val (.int v1), .val (.int v2), .val (.int v3), .val (.int v4), .val (.int (1 : Int32)), .val (.ref em), .val (.ref b6), .val (.int (0 : Int32)), .val (.int (-1 : Int32)), .val (.int (0 : Int32)), .val (.int (2 : Int32)), .val (.int (1 : Int32)), .unset] [(.ref b6)])) (fun _ kt => st34 _ (XS.iload X34.here hx rfl (hb hby at_260) rfl (XS.icmpNo X34.here hx rfl (hb hby at_262) rfl (teq (by decide : ((2 : Int32) = (2 : Int32)))).2 (XS.aload X34.here hx rfl (hb hby at_265) rfl rfl kt)))) ?_
              obtain ⟨T35, X35, e35, st35⟩ := getF X34 hx hZ hown (host := "") (Or.inl (hw _ (List.mem_of_getElem? (i := 131) rfl))) Via.refl e34 Tq32.f_ends (g := (mkF m 267 #[.val (.int p1), .val (.int p2), .val (.int v1), .val (.int v2), .val (.int v3), .val (.int v4), .val (.int (1 : Int32)), .val (.ref em), .val (.ref b6), .val (.int (0 : Int32)), .val (.int (-1 : Int32)), .val (.int (0 : Int32)), .val (.int (2 : Int32)), .val (.int (1 : Int32)), .unset] [(.ref b6)])) rfl rfl (hb hby at_267)
              refine own_via (T' := T35) (g' := (mkF m 279 #[.val (.int p1), .val (.int p2), .val (.int v1), .val (.int v2), .val (.int v3), .val (.int v4), .val (.int (1 : Int32)), .val (.ref em), .val (.ref b6), .val (.int (0 : Int32)), .val (.int (-1 : Int32)), .val (.int (0 : Int32)), .val (.int (2 : Int32)), .val (.int (1 : Int32)), .unset] [(.int (1 : Int32))])) (fun _ kt => st35 _ (XS.iload X35.here hx rfl (hb hby at_270) rfl (own_iaload X35 hx hZ e35 Tq32.a_en (j := (0 : Int32)) (i := 0) rfl (by decide) (g := (mkF m 272 #[.val (.int p1), .val (.int p2), .val (.int v1), .val (.int v2), .val (.int v3), .val (.int v4), .val (.int (1 : Int32)), .val (.ref em), .val (.ref b6), .val (.int (0 : Int32)), .val (.int (-1 : Int32)), .val (.int (0 : Int32)), .val (.int (2 : Int32)), .val (.int (1 : Int32)), .unset] [(.int (0 : Int32)), (.ref en)])) rfl rfl (hb hby at_272) _ (XS.iload X35.here hx rfl (hb hby at_273) rfl (XS.icmpNo X35.here hx rfl (hb hby at_275) rfl (teq (by decide : ((2 : Int32) = (2 : Int32)))).2 (XS.iconst X35.here hx rfl (hb hby at_278) kt)))))) ?_
              refine own_via (T' := T35) (g' := (mkF m 358 #[.val (.int p1), .val (.int p2), .val (.int v1), .val (.int v2), .val (.int v3), .val (.int v4), .val (.int (1 : Int32)), .val (.ref em), .val (.ref b6), .val (.int (0 : Int32)), .val (.int (-1 : Int32)), .val (.int (0 : Int32)), .val (.int (2 : Int32)), .val (.int (1 : Int32)), .unset] [])) (fun _ kt => XS.goto X35.here hx rfl (pc0 := 279) (pc' := 283) rfl (hb hby at_279) (by decide) (by decide) (XS.istore X35.here hx rfl (hb hby at_283) rfl (l' := #[.val (.int p1), .val (.int p2), .val (.int v1), .val (.int v2), .val (.int v3), .val (.int v4), .val (.int (1 : Int32)), .val (.ref em), .val (.ref b6), .val (.int (0 : Int32)), .val (.int (-1 : Int32)), .val (.int (0 : Int32)), .val (.int (2 : Int32)), .val (.int (1 : Int32)), .unset]) rfl (XS.iloadN X35.here hx rfl (hb hby at_285) rfl (XS.ifYes X35.here hx rfl (pc0 := 286) (pc' := 353) rfl (hb hby at_286) rfl ((if0 _ _).trans (teq hdp).1) (by decide) (by decide) (XS.iload X35.here hx rfl (hb hby at_353) rfl (XS.ifNo X35.here hx rfl (hb hby at_355) rfl ((if0 _ _).trans (feq (by decide : ¬ ((1 : Int32) = (0 : Int32)))).1) kt)))))) ?_
              refine own_via (T' := T35) (g' := (mkF m 360 #[.val (.int p1), .val (.int p2), .val (.int v1), .val (.int v2), .val (.int v3), .val (.int v4), .val (.int (1 : Int32)), .val (.ref em), .val (.ref b6), .val (.int (0 : Int32)), .val (.int (-1 : Int32)), .val (.int (0 : Int32)), .val (.int (2 : Int32)), .val (.int (1 : Int32)), .unset] [(.ref b6)])) (fun _ kt => XS.aload X35.here hx rfl (hb hby at_358) rfl rfl kt) ?_
              obtain ⟨v36, T36, L36, X36, hQ36, st36⟩ := own_callV X35 hx hZ (y := (⟨"com/example/infoset/infoset/xdm/TreeBuffers", "depth", "()I"⟩ : MethodName)) (z := (⟨"com/example/infoset/infoset/xdm/TreeBuffers", "depth", "()I"⟩ : MethodName)) hown (hw _ (List.mem_of_getElem? (i := 132) rfl)) (hw _ (List.mem_of_getElem? (i := 133) rfl)) (notFace_of_selects (args := #[]) (mvT hZ (hw _ (List.mem_of_getElem? (i := 135) rfl)))) (hw _ (List.mem_of_getElem? (i := 135) rfl)) (hw _ (List.mem_of_getElem? (i := 134) rfl)) (hw _ (List.mem_of_getElem? (i := 6) rfl)) (hw _ (List.mem_of_getElem? (i := 136) rfl)) (by decide) (b := b6) (W := 0) (argsL := []) (rest := []) (rm11 l Z a0 hw [] b6 kd pa en nm vl ns fa op og pr 2 0 (own_up (own_up (own_up (fun _ => .int 0) 0 (.int (Int32.ofNat 1))) 1 (.int (Int32.ofNat 2))) 0 (.int (Int32.ofNat 2))) (own_up (fun _ => .int 0) 0 (.int (0 : Int32))) (own_up fg0 0 .null) T32.heap n0 z32 gtb Tq32) (by decide) (by decide) (by decide) (by decide) e35 Tq32.ob.exa (g := (mkF m 360 #[.val (.int p1), .val (.int p2), .val (.int v1), .val (.int v2), .val (.int v3), .val (.int v4), .val (.int (1 : Int32)), .val (.ref em), .val (.ref b6), .val (.int (0 : Int32)), .val (.int (-1 : Int32)), .val (.int (0 : Int32)), .val (.int (2 : Int32)), .val (.int (1 : Int32)), .unset] [(.ref b6)])) rfl (by rw [hml]; rfl) (lenOf pd_4 rfl) rfl (by show 2 * 0 + _ ≤ _; exact Nat.le_of_eq rfl) (hb hby at_360)
              obtain ⟨rfl, hL36, e36⟩ := hQ36
              replace X36 := own_pure (v := none) (r := none) X36 rfl rfl hL36
              refine own_via (T' := T36) (g' := (mkF m 368 #[.val (.int p1), .val (.int p2), .val (.int v1), .val (.int v2), .val (.int v3), .val (.int v4), .val (.int (1 : Int32)), .val (.ref em), .val (.ref b6), .val (.int (0 : Int32)), .val (.int (-1 : Int32)), .val (.int (0 : Int32)), .val (.int (2 : Int32)), .val (.int (1 : Int32)), .unset] [(.ref b6)])) (fun _ kt => st36 _ (XS.ifNo X36.here hx rfl (hb hby at_363) rfl ((if0 _ _).trans (teq (by decide : ((0 : Int32) = (0 : Int32)))).2) (XS.aload X36.here hx rfl (hb hby at_366) rfl rfl kt))) ?_
              obtain ⟨v37, T37, L37, X37, hQ37, st37⟩ := own_callV X36 hx hZ (y := (⟨"com/example/infoset/infoset/xdm/TreeBuffers", "innermost", "()I"⟩ : MethodName)) (z := (⟨"com/example/infoset/infoset/xdm/TreeBuffers", "innermost", "()I"⟩ : MethodName)) hown (hw _ (List.mem_of_getElem? (i := 137) rfl)) (hw _ (List.mem_of_getElem? (i := 138) rfl)) (notFace_of_selects (args := #[]) (mvT hZ (hw _ (List.mem_of_getElem? (i := 140) rfl)))) (hw _ (List.mem_of_getElem? (i := 140) rfl)) (hw _ (List.mem_of_getElem? (i := 139) rfl)) (hw _ (List.mem_of_getElem? (i := 6) rfl)) (hw _ (List.mem_of_getElem? (i := 141) rfl)) (by decide) (b := b6) (W := 0) (argsL := []) (rest := []) (rm12z l Z a0 hw [] b6 kd pa en nm vl ns fa op og pr 2 (own_up (own_up (own_up (fun _ => .int 0) 0 (.int (Int32.ofNat 1))) 1 (.int (Int32.ofNat 2))) 0 (.int (Int32.ofNat 2))) (own_up (fun _ => .int 0) 0 (.int (0 : Int32))) (own_up fg0 0 .null) T32.heap n0 z32 gtb Tq32) (by decide) (by decide) (by decide) (by decide) e36 Tq32.ob.exa (g := (mkF m 368 #[.val (.int p1), .val (.int p2), .val (.int v1), .val (.int v2), .val (.int v3), .val (.int v4), .val (.int (1 : Int32)), .val (.ref em), .val (.ref b6), .val (.int (0 : Int32)), .val (.int (-1 : Int32)), .val (.int (0 : Int32)), .val (.int (2 : Int32)), .val (.int (1 : Int32)), .unset] [(.ref b6)])) rfl (by rw [hml]; rfl) (lenOf pd_4 rfl) rfl (by show 2 * 0 + _ ≤ _; exact Nat.le_of_eq rfl) (hb hby at_368)
              obtain ⟨rfl, hL37, e37⟩ := hQ37
              replace X37 := own_pure (v := none) (r := none) X37 rfl rfl hL37
              refine own_via (T' := T37) (g' := (mkF m 377 #[.val (.int p1), .val (.int p2), .val (.int v1), .val (.int v2), .val (.int v3), .val (.int v4), .val (.int (1 : Int32)), .val (.ref em), .val (.ref b6), .val (.int (0 : Int32)), .val (.int (-1 : Int32)), .val (.int (0 : Int32)), .val (.int (2 : Int32)), .val (.int (1 : Int32)), .unset] [(.ref b6)])) (fun _ kt => st37 _ (XS.iconst X37.here hx rfl (hb hby at_371) (XS.icmpNo X37.here hx rfl (hb hby at_372) rfl (teq (by decide : ((-1 : Int32) = (-1 : Int32)))).2 (XS.aload X37.here hx rfl (hb hby at_375) rfl rfl kt)))) ?_
              obtain ⟨v38, T38, L38, X38, hQ38, st38⟩ := own_callV X37 hx hZ (y := (⟨"com/example/infoset/infoset/xdm/TreeBuffers", "innermostOriginal", "()Lcom/example/infoset/infoset/xdm/NamespaceBindings;"⟩ : MethodName)) (z := (⟨"com/example/infoset/infoset/xdm/TreeBuffers", "innermostOriginal", "()Lcom/example/infoset/infoset/xdm/NamespaceBindings;"⟩ : MethodName)) hown (hw _ (List.mem_of_getElem? (i := 142) rfl)) (hw _ (List.mem_of_getElem? (i := 143) rfl)) (notFace_of_selects (args := #[]) (mvT hZ (hw _ (List.mem_of_getElem? (i := 145) rfl)))) (hw _ (List.mem_of_getElem? (i := 145) rfl)) (hw _ (List.mem_of_getElem? (i := 144) rfl)) (hw _ (List.mem_of_getElem? (i := 6) rfl)) (hw _ (List.mem_of_getElem? (i := 146) rfl)) (by decide) (b := b6) (W := 0) (argsL := []) (rest := []) (rm13z l Z a0 hw [] b6 kd pa en nm vl ns fa op og pr 2 (own_up (own_up (own_up (fun _ => .int 0) 0 (.int (Int32.ofNat 1))) 1 (.int (Int32.ofNat 2))) 0 (.int (Int32.ofNat 2))) (own_up (fun _ => .int 0) 0 (.int (0 : Int32))) (own_up fg0 0 .null) T32.heap n0 z32 gtb Tq32) (by decide) (by decide) (by decide) (by decide) e37 Tq32.ob.exa (g := (mkF m 377 #[.val (.int p1), .val (.int p2), .val (.int v1), .val (.int v2), .val (.int v3), .val (.int v4), .val (.int (1 : Int32)), .val (.ref em), .val (.ref b6), .val (.int (0 : Int32)), .val (.int (-1 : Int32)), .val (.int (0 : Int32)), .val (.int (2 : Int32)), .val (.int (1 : Int32)), .unset] [(.ref b6)])) rfl (by rw [hml]; rfl) (lenOf pd_6 rfl) rfl (by show 2 * 0 + _ ≤ _; exact Nat.le_of_eq rfl) (hb hby at_377)
              obtain ⟨rfl, hL38, e38⟩ := hQ38
              replace X38 := own_pure (v := none) (r := none) X38 rfl rfl hL38
              refine own_via (T' := T38) (g' := (mkF m 392 #[.val (.int p1), .val (.int p2), .val (.int v1), .val (.int v2), .val (.int v3), .val (.int v4), .val (.int (1 : Int32)), .val (.ref em), .val (.ref b6), .val (.int (0 : Int32)), .val (.int (-1 : Int32)), .val (.int (0 : Int32)), .val (.int (2 : Int32)), .val (.int (1 : Int32)), .unset] [(.int (1 : Int32))])) (fun _ kt => st38 _ (XS.ifnonnullNo X38.here hx rfl (hb hby at_380) rfl (XS.iconst X38.here hx rfl (hb hby at_383) (XS.goto X38.here hx rfl (pc0 := 384) (pc' := 388) rfl (hb hby at_384) (by decide) (by decide) (XS.istore X38.here hx rfl (hb hby at_388) rfl (l' := #[.val (.int p1), .val (.int p2), .val (.int v1), .val (.int v2), .val (.int v3), .val (.int v4), .val (.int (1 : Int32)), .val (.ref em), .val (.ref b6), .val (.int (0 : Int32)), .val (.int (-1 : Int32)), .val (.int (0 : Int32)), .val (.int (2 : Int32)), .val (.int (1 : Int32)), .unset]) rfl (XS.iload X38.here hx rfl (hb hby at_390) rfl kt)))))) ?_
              refine own_via (T' := T38) (g' := (mkF m 403 #[.val (.int p1), .val (.int p2), .val (.int v1), .val (.int v2), .val (.int v3), .val (.int v4), .val (.int (1 : Int32)), .val (.ref em), .val (.ref b6), .val (.int (0 : Int32)), .val (.int (-1 : Int32)), .val (.int (0 : Int32)), .val (.int (2 : Int32)), .val (.int (1 : Int32)), .unset] [(.ref b6)])) (fun _ kt => XS.iconst X38.here hx rfl (hb hby at_392) (XS.icmpNo X38.here hx rfl (hb hby at_393) rfl (flt (by decide : ¬ ((1 : Int32) < (1 : Int32)))).1 (XS.iload X38.here hx rfl (hb hby at_396) rfl (XS.ifNo X38.here hx rfl (hb hby at_398) rfl ((if0 _ _).trans (feq (by decide : ¬ ((1 : Int32) = (0 : Int32)))).1) (XS.aload X38.here hx rfl (hb hby at_401) rfl rfl kt))))) ?_
              obtain ⟨T39, X39, e39, st39⟩ := getF X38 hx hZ hown (host := "") (Or.inl (hw _ (List.mem_of_getElem? (i := 131) rfl))) Via.refl e38 Tq32.f_ends (g := (mkF m 403 #[.val (.int p1), .val (.int p2), .val (.int v1), .val (.int v2), .val (.int v3), .val (.int v4), .val (.int (1 : Int32)), .val (.ref em), .val (.ref b6), .val (.int (0 : Int32)), .val (.int (-1 : Int32)), .val (.int (0 : Int32)), .val (.int (2 : Int32)), .val (.int (1 : Int32)), .unset] [(.ref b6)])) rfl rfl (hb hby at_403)
              refine own_via (T' := T39) (g' := (mkF m 413 #[.val (.int p1), .val (.int p2), .val (.int v1), .val (.int v2), .val (.int v3), .val (.int v4), .val (.int (1 : Int32)), .val (.ref em), .val (.ref b6), .val (.int (0 : Int32)), .val (.int (-1 : Int32)), .val (.int (0 : Int32)), .val (.int (2 : Int32)), .val (.int (1 : Int32)), .unset] [(.int (0 : Int32)), (.int (2 : Int32))])) (fun _ kt => st39 _ (XS.iload X39.here hx rfl (hb hby at_406) rfl (XS.iconst X39.here hx rfl (hb hby at_408) (XS.iadd X39.here hx rfl (hb hby at_409) rfl (own_iaload X39 hx hZ e39 Tq32.a_en (j := (1 : Int32)) (i := 1) rfl (by decide) (g := (mkF m 410 #[.val (.int p1), .val (.int p2), .val (.int v1), .val (.int v2), .val (.int v3), .val (.int v4), .val (.int (1 : Int32)), .val (.ref em), .val (.ref b6), .val (.int (0 : Int32)), .val (.int (-1 : Int32)), .val (.int (0 : Int32)), .val (.int (2 : Int32)), .val (.int (1 : Int32)), .unset] [(.int (1 : Int32)), (.ref en)])) rfl rfl (hb hby at_410) _ (XS.iload X39.here hx rfl (hb hby at_411) rfl kt)))))) ?_
              refine own_via (T' := T39) (g' := (mkF m 425 #[.val (.int p1), .val (.int p2), .val (.int v1), .val (.int v2), .val (.int v3), .val (.int v4), .val (.int (1 : Int32)), .val (.ref em), .val (.ref b6), .val (.int (0 : Int32)), .val (.int (-1 : Int32)), .val (.int (0 : Int32)), .val (.int (2 : Int32)), .val (.int (1 : Int32)), .unset] [])) (fun _ kt => XS.iconst X39.here hx rfl (hb hby at_413) (XS.iadd X39.here hx rfl (hb hby at_414) rfl (XS.icmpNo X39.here hx rfl (hb hby at_415) rfl (teq (by decide : ((2 : Int32) = (2 : Int32)))).2 (XS.iconst X39.here hx rfl (hb hby at_418) (XS.goto X39.here hx rfl (pc0 := 419) (pc' := 423) rfl (hb hby at_419) (by decide) (by decide) (XS.istore X39.here hx rfl (hb hby at_423) rfl (l' := #[.val (.int p1), .val (.int p2), .val (.int v1), .val (.int v2), .val (.int v3), .val (.int v4), .val (.int (1 : Int32)), .val (.ref em), .val (.ref b6), .val (.int (0 : Int32)), .val (.int (-1 : Int32)), .val (.int (0 : Int32)), .val (.int (2 : Int32)), .val (.int (1 : Int32)), .unset]) rfl kt)))))) ?_
              refine own_via (T' := T39) (g' := (mkF m 462 #[.val (.int p1), .val (.int p2), .val (.int v1), .val (.int v2), .val (.int v3), .val (.int v4), .val (.int (1 : Int32)), .val (.ref em), .val (.ref b6), .val (.int (0 : Int32)), .val (.int (-1 : Int32)), .val (.int (0 : Int32)), .val (.int (2 : Int32)), .val (.int (1 : Int32)), .unset] [(.ref b6)])) (fun _ kt => XS.iload X39.here hx rfl (hb hby at_425) rfl (XS.iconst X39.here hx rfl (hb hby at_427) (XS.icmpYes X39.here hx rfl (pc0 := 428) (pc' := 460) rfl (hb hby at_428) rfl (tlt (by decide : ((1 : Int32) < (2 : Int32)))).1 (by decide) (by decide) (XS.aload X39.here hx rfl (hb hby at_460) rfl rfl kt)))) ?_
              obtain ⟨T40, X40, e40, st40⟩ := getS2 X39 hx hZ hown (host := "") (Or.inl (hw _ (List.mem_of_getElem? (i := 97) rfl))) Via.refl e39 (S_k1.ext f33.2) (g := (mkF m 462 #[.val (.int p1), .val (.int p2), .val (.int v1), .val (.int v2), .val (.int v3), .val (.int v4), .val (.int (1 : Int32)), .val (.ref em), .val (.ref b6), .val (.int (0 : Int32)), .val (.int (-1 : Int32)), .val (.int (0 : Int32)), .val (.int (2 : Int32)), .val (.int (1 : Int32)), .unset] [(.ref b6)])) rfl (hb hby at_462)
              refine own_via (T' := T40) (g' := (mkF m 477 #[.val (.int p1), .val (.int p2), .val (.int v1), .val (.int v2), .val (.int v3), .val (.int v4), .val (.int (1 : Int32)), .val (.ref em), .val (.ref b6), .val (.int (0 : Int32)), .val (.int (-1 : Int32)), .val (.int (0 : Int32)), .val (.int (2 : Int32)), .val (.int (1 : Int32)), .unset] [.null, .null, (.int (-1 : Int32)), (.ref k1), (.ref b6)])) (fun _ kt => st40 _ (XS.iloadN X40.here hx rfl (hb hby at_465) rfl (XS.ifYes X40.here hx rfl (pc0 := 466) (pc' := 474) rfl (hb hby at_466) rfl ((if0 _ _).trans (teq hdp).1) (by decide) (by decide) (XS.iconst X40.here hx rfl (hb hby at_474) (XS.aconstNull X40.here hx rfl (hb hby at_475) (XS.aconstNull X40.here hx rfl (hb hby at_476) kt)))))) ?_
              refine own_via (T' := T40) (g' := (mkF m 478 #[.val (.int p1), .val (.int p2), .val (.int v1), .val (.int v2), .val (.int v3), .val (.int v4), .val (.int (1 : Int32)), .val (.ref em), .val (.ref b6), .val (.int (0 : Int32)), .val (.int (-1 : Int32)), .val (.int (0 : Int32)), .val (.int (2 : Int32)), .val (.int (1 : Int32)), .unset] [.null, .null, .null, (.int (-1 : Int32)), (.ref k1), (.ref b6)])) (fun _ kt => XS.aconstNull X40.here hx rfl (hb hby at_477) kt) ?_
              obtain ⟨v41, T41, L41, X41, hQ41, st41⟩ := own_callV X40 hx hZ (y := (⟨"com/example/infoset/infoset/xdm/TreeBuffers", "add", "(Lcom/example/infoset/infoset/xdm/NodeKind;ILcom/example/infoset/infoset/xdm/QName;Ljava/lang/String;Lcom/example/infoset/infoset/xdm/NamespaceBindings;)I"⟩ : MethodName)) (z := (⟨"com/example/infoset/infoset/xdm/TreeBuffers", "add", "(Lcom/example/infoset/infoset/xdm/NodeKind;ILcom/example/infoset/infoset/xdm/QName;Ljava/lang/String;Lcom/example/infoset/infoset/xdm/NamespaceBindings;)I"⟩ : MethodName)) hown (hw _ (List.mem_of_getElem? (i := 100) rfl)) (hw _ (List.mem_of_getElem? (i := 101) rfl)) (notFace_of_selects (args := #[]) (mvT hZ (hw _ (List.mem_of_getElem? (i := 103) rfl)))) (hw _ (List.mem_of_getElem? (i := 103) rfl)) (hw _ (List.mem_of_getElem? (i := 102) rfl)) (hw _ (List.mem_of_getElem? (i := 6) rfl)) (hw _ (List.mem_of_getElem? (i := 104) rfl)) (by decide) (b := b6) (W := 0) (argsL := [(.ref k1), (.int (-1 : Int32)), .null, .null, .null]) (rest := []) (rm7 l Z a0 hw [] b6 kd pa en nm vl ns fa op og pr 2 0 (own_up (own_up (own_up (fun _ => .int 0) 0 (.int (Int32.ofNat 1))) 1 (.int (Int32.ofNat 2))) 0 (.int (Int32.ofNat 2))) (own_up (fun _ => .int 0) 0 (.int (0 : Int32))) (own_up fg0 0 .null) T32.heap n0 z32 gtb Tq32 k1 (-1 : Int32) 1 (by decide) (E_k1.ext f33.2) (F_k1.ext f33.2)) (by decide) (by decide) (by decide) (by decide) e40 Tq32.ob.exa (g := (mkF m 478 #[.val (.int p1), .val (.int p2), .val (.int v1), .val (.int v2), .val (.int v3), .val (.int v4), .val (.int (1 : Int32)), .val (.ref em), .val (.ref b6), .val (.int (0 : Int32)), .val (.int (-1 : Int32)), .val (.int (0 : Int32)), .val (.int (2 : Int32)), .val (.int (1 : Int32)), .unset] [.null, .null, .null, (.int (-1 : Int32)), (.ref k1), (.ref b6)])) rfl (by rw [hml]; rfl) (lenOf pd_7 rfl) rfl (by show 2 * 0 + _ ≤ _; exact Nat.le_of_eq rfl) (hb hby at_478)
              obtain ⟨rfl, Nq41, Kq41, Tq41⟩ := hQ41
              replace Tq41 : own_TB Z T41.heap b6 kd pa en nm vl ns fa op og pr 3 0 (own_up (own_up (own_up (own_up (fun _ => .int 0) 0 (.int (Int32.ofNat 1))) 1 (.int (Int32.ofNat 2))) 0 (.int (Int32.ofNat 2))) 2 (.int (Int32.ofNat 3))) (own_up (fun _ => .int 0) 0 (.int (0 : Int32))) (own_up fg0 0 .null) := Tq41
              have f42 := f33.keep Kq41 (allS (by omega) (allS (by omega) (allS (by omega) (allS (by omega) (allS (by omega) (allS (by omega) (allS (by omega) (allS (by omega) all0))))))))
              have z41 : n0 ≤ T41.heap.size := Nat.le_trans z32 Kq41.1
              have N41 := Fr.app N32 Nq41
              refine own_via (T' := T41) (g' := (mkF m 487 #[.val (.int p1), .val (.int p2), .val (.int v1), .val (.int v2), .val (.int v3), .val (.int v4), .val (.int (1 : Int32)), .val (.ref em), .val (.ref b6), .val (.int (0 : Int32)), .val (.int (-1 : Int32)), .val (.int (0 : Int32)), .val (.int (2 : Int32)), .val (.int (1 : Int32)), .val (.int (2 : Int32))] [(.int (2 : Int32)), (.ref b6)])) (fun _ kt => st41 _ (XS.istore X41.here hx rfl (hb hby at_481) rfl (l' := #[.val (.int p1), .val (.int p2), .val (.int v1), .val (.int v2), .val (.int v3), .val (.int v4), .val (.int (1 : Int32)), .val (.ref em), .val (.ref b6), .val (.int (0 : Int32)), .val (.int (-1 : Int32)), .val (.int (0 : Int32)), .val (.int (2 : Int32)), .val (.int (1 : Int32)), .val (.int (2 : Int32))]) rfl (XS.aload X41.here hx rfl (hb hby at_483) rfl rfl (XS.iload X41.here hx rfl (hb hby at_485) rfl kt)))) ?_
              obtain ⟨v43, T43, L43, X43, hQ43, st43⟩ := own_callV X41 hx hZ (y := (⟨"com/example/infoset/infoset/xdm/TreeBuffers", "open", "(I)V"⟩ : MethodName)) (z := (⟨"com/example/infoset/infoset/xdm/TreeBuffers", "open", "(I)V"⟩ : MethodName)) hown (hw _ (List.mem_of_getElem? (i := 118) rfl)) (hw _ (List.mem_of_getElem? (i := 119) rfl)) (notFace_of_selects (args := #[]) (mvT hZ (hw _ (List.mem_of_getElem? (i := 121) rfl)))) (hw _ (List.mem_of_getElem? (i := 121) rfl)) (hw _ (List.mem_of_getElem? (i := 120) rfl)) (hw _ (List.mem_of_getElem? (i := 6) rfl)) (hw _ (List.mem_of_getElem? (i := 122) rfl)) (by decide) (b := b6) (W := 0) (argsL := [(.int (2 : Int32))]) (rest := []) (rm9 l Z a0 hw [] b6 kd pa en nm vl ns fa op og pr 3 0 (own_up (own_up (own_up (own_up (fun _ => .int 0) 0 (.int (Int32.ofNat 1))) 1 (.int (Int32.ofNat 2))) 0 (.int (Int32.ofNat 2))) 2 (.int (Int32.ofNat 3))) (own_up (fun _ => .int 0) 0 (.int (0 : Int32))) (own_up fg0 0 .null) T41.heap n0 z41 gtb Tq41 (2 : Int32) (by decide)) (by decide) (by decide) (by decide) (by decide) rfl Tq41.ob.exa (g := (mkF m 487 #[.val (.int p1), .val (.int p2), .val (.int v1), .val (.int v2), .val (.int v3), .val (.int v4), .val (.int (1 : Int32)), .val (.ref em), .val (.ref b6), .val (.int (0 : Int32)), .val (.int (-1 : Int32)), .val (.int (0 : Int32)), .val (.int (2 : Int32)), .val (.int (1 : Int32)), .val (.int (2 : Int32))] [(.int (2 : Int32)), (.ref b6)])) rfl (by rw [hml]; rfl) (lenOf pd_2 rfl) rfl (by show 2 * 0 + _ ≤ _; exact Nat.le_of_eq rfl) (hb hby at_487)
              obtain ⟨rfl, Nq43, Kq43, Tq43⟩ := hQ43
              replace Tq43 : own_TB Z T43.heap b6 kd pa en nm vl ns fa op og pr 3 1 (own_up (own_up (own_up (own_up (fun _ => .int 0) 0 (.int (Int32.ofNat 1))) 1 (.int (Int32.ofNat 2))) 0 (.int (Int32.ofNat 2))) 2 (.int (Int32.ofNat 3))) (own_up (own_up (fun _ => .int 0) 0 (.int (0 : Int32))) 0 (.int (2 : Int32))) (own_up fg0 0 .null) := Tq43
              have f44 := f42.keep Kq43 (allS (by omega) (allS (by omega) all0))
              have z43 : n0 ≤ T43.heap.size := Nat.le_trans z41 Kq43.1
              have N43 := Fr.app N41 Nq43
              refine own_via (T' := T43) (g' := (mkF m 497 #[.val (.int p1), .val (.int p2), .val (.int v1), .val (.int v2), .val (.int v3), .val (.int v4), .val (.int (1 : Int32)), .val (.ref em), .val (.ref b6), .val (.int (0 : Int32)), .val (.int (-1 : Int32)), .val (.int (0 : Int32)), .val (.int (2 : Int32)), .val (.int (1 : Int32)), .val (.int (2 : Int32))] [(.ref b6)])) (fun _ kt => st43 _ (XS.iload X43.here hx rfl (hb hby at_490) rfl (XS.ifNo X43.here hx rfl (hb hby at_492) rfl ((if0 _ _).trans (feq (by decide : ¬ ((1 : Int32) = (0 : Int32)))).1) (XS.aload X43.here hx rfl (hb hby at_495) rfl rfl kt)))) ?_
              obtain ⟨v45, T45, L45, X45, hQ45, st45⟩ := own_callV X43 hx hZ (y := (⟨"com/example/infoset/infoset/xdm/TreeBuffers", "innermostOriginal", "()Lcom/example/infoset/infoset/xdm/NamespaceBindings;"⟩ : MethodName)) (z := (⟨"com/example/infoset/infoset/xdm/TreeBuffers", "innermostOriginal", "()Lcom/example/infoset/infoset/xdm/NamespaceBindings;"⟩ : MethodName)) hown (hw _ (List.mem_of_getElem? (i := 142) rfl)) (hw _ (List.mem_of_getElem? (i := 143) rfl)) (notFace_of_selects (args := #[]) (mvT hZ (hw _ (List.mem_of_getElem? (i := 145) rfl)))) (hw _ (List.mem_of_getElem? (i := 145) rfl)) (hw _ (List.mem_of_getElem? (i := 144) rfl)) (hw _ (List.mem_of_getElem? (i := 6) rfl)) (hw _ (List.mem_of_getElem? (i := 146) rfl)) (by decide) (b := b6) (W := 0) (argsL := []) (rest := []) (rm13s l Z a0 hw [] b6 kd pa en nm vl ns fa op og pr 3 0 (own_up (own_up (own_up (own_up (fun _ => .int 0) 0 (.int (Int32.ofNat 1))) 1 (.int (Int32.ofNat 2))) 0 (.int (Int32.ofNat 2))) 2 (.int (Int32.ofNat 3))) (own_up (own_up (fun _ => .int 0) 0 (.int (0 : Int32))) 0 (.int (2 : Int32))) (own_up fg0 0 .null) T43.heap n0 z43 gtb Tq43 (by decide) rfl) (by decide) (by decide) (by decide) (by decide) rfl Tq43.ob.exa (g := (mkF m 497 #[.val (.int p1), .val (.int p2), .val (.int v1), .val (.int v2), .val (.int v3), .val (.int v4), .val (.int (1 : Int32)), .val (.ref em), .val (.ref b6), .val (.int (0 : Int32)), .val (.int (-1 : Int32)), .val (.int (0 : Int32)), .val (.int (2 : Int32)), .val (.int (1 : Int32)), .val (.int (2 : Int32))] [(.ref b6)])) rfl (by rw [hml]; rfl) (lenOf pd_6 rfl) rfl (by show 2 * 0 + _ ≤ _; exact Nat.le_of_eq rfl) (hb hby at_497)
              obtain ⟨rfl, hL45, e45⟩ := hQ45
              replace X45 := own_pure (v := none) (r := none) X45 rfl rfl hL45
              refine own_via (T' := T45) (g' := (mkF m 505 #[.val (.int p1), .val (.int p2), .val (.int v1), .val (.int v2), .val (.int v3), .val (.int v4), .val (.int (1 : Int32)), .val (.ref em), .val (.ref b6), .val (.int (0 : Int32)), .val (.int (-1 : Int32)), .val (.int (0 : Int32)), .val (.int (2 : Int32)), .val (.int (1 : Int32)), .val (.int (2 : Int32))] [(.ref b6)])) (fun _ kt => st45 _ (XS.ifnonnullNo X45.here hx rfl (hb hby at_500) rfl (XS.aload X45.here hx rfl (hb hby at_503) rfl rfl kt))) ?_
              obtain ⟨T46, X46, e46, st46⟩ := getF X45 hx hZ hown (host := "") (Or.inl (hw _ (List.mem_of_getElem? (i := 131) rfl))) Via.refl e45 Tq43.f_ends (g := (mkF m 505 #[.val (.int p1), .val (.int p2), .val (.int v1), .val (.int v2), .val (.int v3), .val (.int v4), .val (.int (1 : Int32)), .val (.ref em), .val (.ref b6), .val (.int (0 : Int32)), .val (.int (-1 : Int32)), .val (.int (0 : Int32)), .val (.int (2 : Int32)), .val (.int (1 : Int32)), .val (.int (2 : Int32))] [(.ref b6)])) rfl rfl (hb hby at_505)
              refine own_via (T' := T46) (g' := (mkF m 517 #[.val (.int p1), .val (.int p2), .val (.int v1), .val (.int v2), .val (.int v3), .val (.int v4), .val (.int (1 : Int32)), .val (.ref em), .val (.ref b6), .val (.int (0 : Int32)), .val (.int (-1 : Int32)), .val (.int (0 : Int32)), .val (.int (2 : Int32)), .val (.int (1 : Int32)), .val (.int (2 : Int32))] [(.int (1 : Int32))])) (fun _ kt => st46 _ (XS.iload X46.here hx rfl (hb hby at_508) rfl (own_iaload X46 hx hZ e46 Tq43.a_en (j := (0 : Int32)) (i := 0) rfl (by decide) (g := (mkF m 510 #[.val (.int p1), .val (.int p2), .val (.int v1), .val (.int v2), .val (.int v3), .val (.int v4), .val (.int (1 : Int32)), .val (.ref em), .val (.ref b6), .val (.int (0 : Int32)), .val (.int (-1 : Int32)), .val (.int (0 : Int32)), .val (.int (2 : Int32)), .val (.int (1 : Int32)), .val (.int (2 : Int32))] [(.int (0 : Int32)), (.ref en)])) rfl rfl (hb hby at_510) _ (XS.iload X46.here hx rfl (hb hby at_511) rfl (XS.icmpNo X46.here hx rfl (hb hby at_513) rfl (teq (by decide : ((2 : Int32) = (2 : Int32)))).2 (XS.iconst X46.here hx rfl (hb hby at_516) kt)))))) ?_
              refine own_via (T' := T46) (g' := (mkF m 525 #[.val (.int p1), .val (.int p2), .val (.int v1), .val (.int v2), .val (.int v3), .val (.int v4), .val (.int (1 : Int32)), .val (.ref em), .val (.ref b6), .val (.int (0 : Int32)), .val (.int (-1 : Int32)), .val (.int (0 : Int32)), .val (.int (2 : Int32)), .val (.int (1 : Int32)), .val (.int (2 : Int32))] [(.int (1 : Int32))])) (fun _ kt => XS.goto X46.here hx rfl (pc0 := 517) (pc' := 521) rfl (hb hby at_517) (by decide) (by decide) (XS.istore X46.here hx rfl (hb hby at_521) rfl (l' := #[.val (.int p1), .val (.int p2), .val (.int v1), .val (.int v2), .val (.int v3), .val (.int v4), .val (.int (1 : Int32)), .val (.ref em), .val (.ref b6), .val (.int (0 : Int32)), .val (.int (-1 : Int32)), .val (.int (0 : Int32)), .val (.int (2 : Int32)), .val (.int (1 : Int32)), .val (.int (2 : Int32))]) rfl (XS.iload X46.here hx rfl (hb hby at_523) rfl kt))) ?_
              exact own_retZ X46 hx hret hlk (hb hby at_525) (by decide) ⟨rfl, N43⟩ (by decide) (by decide)
            · refine own_via (T' := T) (g' := (mkF m 175 #[.val (.int p1), .val (.int p2), .val (.int v1), .val (.int v2), .val (.int v3), .val (.int v4), .val (.int (2 : Int32)), .val (.ref em), .val (.ref b6), .val (.int (0 : Int32)), .val (.int (-1 : Int32)), .val (.int (0 : Int32)), .unset, .unset, .unset] [(.int (1 : Int32)), (.int (2 : Int32))])) (fun _ kt => XS.iloadN XL.here hx rfl (hb hby at_159) rfl (XS.ifYes XL.here hx rfl (pc0 := 160) (pc' := 168) rfl (hb hby at_160) rfl ((if0 _ _).trans (teq hdp).1) (by decide) (by decide) (XS.iload XL.here hx rfl (hb hby at_168) rfl (XS.istore XL.here hx rfl (hb hby at_170) rfl (l' := #[.val (.int p1), .val (.int p2), .val (.int v1), .val (.int v2), .val (.int v3), .val (.int v4), .val (.int (2 : Int32)), .val (.ref em), .val (.ref b6), .val (.int (0 : Int32)), .val (.int (-1 : Int32)), .val (.int (0 : Int32)), .unset, .unset, .unset]) rfl (XS.iload XL.here hx rfl (hb hby at_172) rfl (XS.iconst XL.here hx rfl (hb hby at_174) kt)))))) ?_
              refine own_via (T' := T) (g' := (mkF m 180 #[.val (.int p1), .val (.int p2), .val (.int v1), .val (.int v2), .val (.int v3), .val (.int v4), .val (.int (2 : Int32)), .val (.ref em), .val (.ref b6), .val (.int (0 : Int32)), .val (.int (-1 : Int32)), .val (.int (0 : Int32)), .unset, .unset, .unset] [(.ref b6)])) (fun _ kt => XS.icmpNo XL.here hx rfl (hb hby at_175) rfl (flt (by decide : ¬ ((2 : Int32) < (1 : Int32)))).1 (XS.aload XL.here hx rfl (hb hby at_178) rfl rfl kt)) ?_
              obtain ⟨T47, X47, e47, st47⟩ := getS2 XL hx hZ hown (host := "") (Or.inl (hw _ (List.mem_of_getElem? (i := 153) rfl))) Via.refl eL (S_k3.ext OL.2) (g := (mkF m 180 #[.val (.int p1), .val (.int p2), .val (.int v1), .val (.int v2), .val (.int v3), .val (.int v4), .val (.int (2 : Int32)), .val (.ref em), .val (.ref b6), .val (.int (0 : Int32)), .val (.int (-1 : Int32)), .val (.int (0 : Int32)), .unset, .unset, .unset] [(.ref b6)])) rfl (hb hby at_180)
              refine own_via (T' := T47) (g' := (mkF m 188 #[.val (.int p1), .val (.int p2), .val (.int v1), .val (.int v2), .val (.int v3), .val (.int v4), .val (.int (2 : Int32)), .val (.ref em), .val (.ref b6), .val (.int (0 : Int32)), .val (.int (-1 : Int32)), .val (.int (0 : Int32)), .unset, .unset, .unset] [.null, .null, .null, (.int (0 : Int32)), (.ref k3), (.ref b6)])) (fun _ kt => st47 _ (XS.iload X47.here hx rfl (hb hby at_183) rfl (XS.aconstNull X47.here hx rfl (hb hby at_185) (XS.aconstNull X47.here hx rfl (hb hby at_186) (XS.aconstNull X47.here hx rfl (hb hby at_187) kt))))) ?_
              obtain ⟨v48, T48, L48, X48, hQ48, st48⟩ := own_callV X47 hx hZ (y := (⟨"com/example/infoset/infoset/xdm/TreeBuffers", "add", "(Lcom/example/infoset/infoset/xdm/NodeKind;ILcom/example/infoset/infoset/xdm/QName;Ljava/lang/String;Lcom/example/infoset/infoset/xdm/NamespaceBindings;)I"⟩ : MethodName)) (z := (⟨"com/example/infoset/infoset/xdm/TreeBuffers", "add", "(Lcom/example/infoset/infoset/xdm/NodeKind;ILcom/example/infoset/infoset/xdm/QName;Ljava/lang/String;Lcom/example/infoset/infoset/xdm/NamespaceBindings;)I"⟩ : MethodName)) hown (hw _ (List.mem_of_getElem? (i := 100) rfl)) (hw _ (List.mem_of_getElem? (i := 101) rfl)) (notFace_of_selects (args := #[]) (mvT hZ (hw _ (List.mem_of_getElem? (i := 103) rfl)))) (hw _ (List.mem_of_getElem? (i := 103) rfl)) (hw _ (List.mem_of_getElem? (i := 102) rfl)) (hw _ (List.mem_of_getElem? (i := 6) rfl)) (hw _ (List.mem_of_getElem? (i := 104) rfl)) (by decide) (b := b6) (W := 0) (argsL := [(.ref k3), (.int (0 : Int32)), .null, .null, .null]) (rest := []) (rm7 l Z a0 hw [] b6 kd pa en nm vl ns fa op og pr 1 1 (own_up (fun _ => .int 0) 0 (.int (Int32.ofNat 1))) (own_up (fun _ => .int 0) 0 (.int (0 : Int32))) fg0 hh n0 zL gtb TL k3 (0 : Int32) 3 (by decide) (E_k3.ext OL.2) (F_k3.ext OL.2)) (by decide) (by decide) (by decide) (by decide) e47 TL.ob.exa (g := (mkF m 188 #[.val (.int p1), .val (.int p2), .val (.int v1), .val (.int v2), .val (.int v3), .val (.int v4), .val (.int (2 : Int32)), .val (.ref em), .val (.ref b6), .val (.int (0 : Int32)), .val (.int (-1 : Int32)), .val (.int (0 : Int32)), .unset, .unset, .unset] [.null, .null, .null, (.int (0 : Int32)), (.ref k3), (.ref b6)])) rfl (by rw [hml]; rfl) (lenOf pd_7 rfl) rfl (by show 2 * 0 + _ ≤ _; exact Nat.le_of_eq rfl) (hb hby at_188)
              obtain ⟨rfl, Nq48, Kq48, Tq48⟩ := hQ48
              replace Tq48 : own_TB Z T48.heap b6 kd pa en nm vl ns fa op og pr 2 1 (own_up (own_up (fun _ => .int 0) 0 (.int (Int32.ofNat 1))) 1 (.int (Int32.ofNat 2))) (own_up (fun _ => .int 0) 0 (.int (0 : Int32))) fg0 := Tq48
              have f49 := OL.keep Kq48 (allS (by omega) (allS (by omega) (allS (by omega) (allS (by omega) (allS (by omega) (allS (by omega) (allS (by omega) (allS (by omega) all0))))))))
              have z48 : n0 ≤ T48.heap.size := Nat.le_trans zL Kq48.1
              have N48 := Fr.app NL Nq48
              refine own_via (T' := T48) (g' := (mkF m 200 #[.val (.int p1), .val (.int p2), .val (.int v1), .val (.int v2), .val (.int v3), .val (.int v4), .val (.int (2 : Int32)), .val (.ref em), .val (.ref b6), .val (.int (0 : Int32)), .val (.int (-1 : Int32)), .val (.int (0 : Int32)), .unset, .unset, .unset] [(.ref b6)])) (fun _ kt => st48 _ (XS.pop X48.here hx rfl (hb hby at_191) rfl rfl (XS.iload X48.here hx rfl (hb hby at_192) rfl (XS.iconst X48.here hx rfl (hb hby at_194) (XS.icmpNo X48.here hx rfl (hb hby at_195) rfl (flt (by decide : ¬ ((2 : Int32) < (2 : Int32)))).1 (XS.aload X48.here hx rfl (hb hby at_198) rfl rfl kt)))))) ?_
              obtain ⟨T50, X50, e50, st50⟩ := getS2 X48 hx hZ hown (host := "") (Or.inl (hw _ (List.mem_of_getElem? (i := 155) rfl))) Via.refl rfl (S_k4.ext f49.2) (g := (mkF m 200 #[.val (.int p1), .val (.int p2), .val (.int v1), .val (.int v2), .val (.int v3), .val (.int v4), .val (.int (2 : Int32)), .val (.ref em), .val (.ref b6), .val (.int (0 : Int32)), .val (.int (-1 : Int32)), .val (.int (0 : Int32)), .unset, .unset, .unset] [(.ref b6)])) rfl (hb hby at_200)
              refine own_via (T' := T50) (g' := (mkF m 208 #[.val (.int p1), .val (.int p2), .val (.int v1), .val (.int v2), .val (.int v3), .val (.int v4), .val (.int (2 : Int32)), .val (.ref em), .val (.ref b6), .val (.int (0 : Int32)), .val (.int (-1 : Int32)), .val (.int (0 : Int32)), .unset, .unset, .unset] [.null, .null, .null, (.int (0 : Int32)), (.ref k4), (.ref b6)])) (fun _ kt => st50 _ (XS.iload X50.here hx rfl (hb hby at_203) rfl (XS.aconstNull X50.here hx rfl (hb hby at_205) (XS.aconstNull X50.here hx rfl (hb hby at_206) (XS.aconstNull X50.here hx rfl (hb hby at_207) kt))))) ?_
              obtain ⟨v51, T51, L51, X51, hQ51, st51⟩ := own_callV X50 hx hZ (y := (⟨"com/example/infoset/infoset/xdm/TreeBuffers", "add", "(Lcom/example/infoset/infoset/xdm/NodeKind;ILcom/example/infoset/infoset/xdm/QName;Ljava/lang/String;Lcom/example/infoset/infoset/xdm/NamespaceBindings;)I"⟩ : MethodName)) (z := (⟨"com/example/infoset/infoset/xdm/TreeBuffers", "add", "(Lcom/example/infoset/infoset/xdm/NodeKind;ILcom/example/infoset/infoset/xdm/QName;Ljava/lang/String;Lcom/example/infoset/infoset/xdm/NamespaceBindings;)I"⟩ : MethodName)) hown (hw _ (List.mem_of_getElem? (i := 100) rfl)) (hw _ (List.mem_of_getElem? (i := 101) rfl)) (notFace_of_selects (args := #[]) (mvT hZ (hw _ (List.mem_of_getElem? (i := 103) rfl)))) (hw _ (List.mem_of_getElem? (i := 103) rfl)) (hw _ (List.mem_of_getElem? (i := 102) rfl)) (hw _ (List.mem_of_getElem? (i := 6) rfl)) (hw _ (List.mem_of_getElem? (i := 104) rfl)) (by decide) (b := b6) (W := 0) (argsL := [(.ref k4), (.int (0 : Int32)), .null, .null, .null]) (rest := []) (rm7 l Z a0 hw [] b6 kd pa en nm vl ns fa op og pr 2 1 (own_up (own_up (fun _ => .int 0) 0 (.int (Int32.ofNat 1))) 1 (.int (Int32.ofNat 2))) (own_up (fun _ => .int 0) 0 (.int (0 : Int32))) fg0 T48.heap n0 z48 gtb Tq48 k4 (0 : Int32) 4 (by decide) (E_k4.ext f49.2) (F_k4.ext f49.2)) (by decide) (by decide) (by decide) (by decide) e50 Tq48.ob.exa (g := (mkF m 208 #[.val (.int p1), .val (.int p2), .val (.int v1), .val (.int v2), .val (.int v3), .val (.int v4), .val (.int (2 : Int32)), .val (.ref em), .val (.ref b6), .val (.int (0 : Int32)), .val (.int (-1 : Int32)), .val (.int (0 : Int32)), .unset, .unset, .unset] [.null, .null, .null, (.int (0 : Int32)), (.ref k4), (.ref b6)])) rfl (by rw [hml]; rfl) (lenOf pd_7 rfl) rfl (by show 2 * 0 + _ ≤ _; exact Nat.le_of_eq rfl) (hb hby at_208)
              obtain ⟨rfl, Nq51, Kq51, Tq51⟩ := hQ51
              replace Tq51 : own_TB Z T51.heap b6 kd pa en nm vl ns fa op og pr 3 1 (own_up (own_up (own_up (fun _ => .int 0) 0 (.int (Int32.ofNat 1))) 1 (.int (Int32.ofNat 2))) 2 (.int (Int32.ofNat 3))) (own_up (fun _ => .int 0) 0 (.int (0 : Int32))) fg0 := Tq51
              have f52 := f49.keep Kq51 (allS (by omega) (allS (by omega) (allS (by omega) (allS (by omega) (allS (by omega) (allS (by omega) (allS (by omega) (allS (by omega) all0))))))))
              have z51 : n0 ≤ T51.heap.size := Nat.le_trans z48 Kq51.1
              have N51 := Fr.app N48 Nq51
              refine own_via (T' := T51) (g' := (mkF m 222 #[.val (.int p1), .val (.int p2), .val (.int v1), .val (.int v2), .val (.int v3), .val (.int v4), .val (.int (2 : Int32)), .val (.ref em), .val (.ref b6), .val (.int (0 : Int32)), .val (.int (-1 : Int32)), .val (.int (0 : Int32)), .unset, .unset, .unset] [(.int (0 : Int32)), (.int (1 : Int32))])) (fun _ kt => st51 _ (XS.pop X51.here hx rfl (hb hby at_211) rfl rfl (XS.iconst X51.here hx rfl (hb hby at_212) (XS.iloadN X51.here hx rfl (hb hby at_213) rfl (XS.ifYes X51.here hx rfl (pc0 := 214) (pc' := 221) rfl (hb hby at_214) rfl ((if0 _ _).trans (teq hdp).1) (by decide) (by decide) (XS.iconst X51.here hx rfl (hb hby at_221) kt)))))) ?_
              refine own_via (T' := T51) (g' := (mkF m 230 #[.val (.int p1), .val (.int p2), .val (.int v1), .val (.int v2), .val (.int v3), .val (.int v4), .val (.int (2 : Int32)), .val (.ref em), .val (.ref b6), .val (.int (0 : Int32)), .val (.int (-1 : Int32)), .val (.int (0 : Int32)), .val (.int (3 : Int32)), .unset, .unset] [(.ref b6)])) (fun _ kt => XS.iadd X51.here hx rfl (hb hby at_222) rfl (XS.iload X51.here hx rfl (hb hby at_223) rfl (XS.iadd X51.here hx rfl (hb hby at_225) rfl (XS.istore X51.here hx rfl (hb hby at_226) rfl (l' := #[.val (.int p1), .val (.int p2), .val (.int v1), .val (.int v2), .val (.int v3), .val (.int v4), .val (.int (2 : Int32)), .val (.ref em), .val (.ref b6), .val (.int (0 : Int32)), .val (.int (-1 : Int32)), .val (.int (0 : Int32)), .val (.int (3 : Int32)), .unset, .unset]) rfl (XS.aload X51.here hx rfl (hb hby at_228) rfl rfl kt))))) ?_
              obtain ⟨T53, X53, e53, st53⟩ := getF X51 hx hZ hown (host := "") (Or.inl (hw _ (List.mem_of_getElem? (i := 125) rfl))) Via.refl rfl Tq51.f_size (g := (mkF m 230 #[.val (.int p1), .val (.int p2), .val (.int v1), .val (.int v2), .val (.int v3), .val (.int v4), .val (.int (2 : Int32)), .val (.ref em), .val (.ref b6), .val (.int (0 : Int32)), .val (.int (-1 : Int32)), .val (.int (0 : Int32)), .val (.int (3 : Int32)), .unset, .unset] [(.ref b6)])) rfl rfl (hb hby at_230)
              refine own_via (T' := T53) (g' := (mkF m 245 #[.val (.int p1), .val (.int p2), .val (.int v1), .val (.int v2), .val (.int v3), .val (.int v4), .val (.int (2 : Int32)), .val (.ref em), .val (.ref b6), .val (.int (0 : Int32)), .val (.int (-1 : Int32)), .val (.int (0 : Int32)), .val (.int (3 : Int32)), .val (.int (1 : Int32)), .unset] [])) (fun _ kt => st53 _ (XS.iload X53.here hx rfl (hb hby at_233) rfl (XS.icmpNo X53.here hx rfl (hb hby at_235) rfl (teq (by decide : ((3 : Int32) = (3 : Int32)))).2 (XS.iconst X53.here hx rfl (hb hby at_238) (XS.goto X53.here hx rfl (pc0 := 239) (pc' := 243) rfl (hb hby at_239) (by decide) (by decide) (XS.istore X53.here hx rfl (hb hby at_243) rfl (l' := #[.val (.int p1), .val (.int p2), .val (.int v1), .val (.int v2), .val (.int v3), .val (.int v4), .val (.int (2 : Int32)), .val (.ref em), .val (.ref b6), .val (.int (0 : Int32)), .val (.int (-1 : Int32)), .val (.int (0 : Int32)), .val (.int (3 : Int32)), .val (.int (1 : Int32)), .unset]) rfl kt)))))) ?_
              refine own_via (T' := T53) (g' := (mkF m 247 #[.val (.int p1), .val (.int p2), .val (.int v1), .val (.int v2), .val (.int v3), .val (.int v4), .val (.int (2 : Int32)), .val (.ref em), .val (.ref b6), .val (.int (0 : Int32)), .val (.int (-1 : Int32)), .val (.int (0 : Int32)), .val (.int (3 : Int32)), .val (.int (1 : Int32)), .unset] [(.ref b6)])) (fun _ kt => XS.aload X53.here hx rfl (hb hby at_245) rfl rfl kt) ?_
              obtain ⟨v54, T54, L54, X54, hQ54, st54⟩ := own_callV X53 hx hZ (y := (⟨"com/example/infoset/infoset/xdm/TreeBuffers", "close", "()V"⟩ : MethodName)) (z := (⟨"com/example/infoset/infoset/xdm/TreeBuffers", "close", "()V"⟩ : MethodName)) hown (hw _ (List.mem_of_getElem? (i := 126) rfl)) (hw _ (List.mem_of_getElem? (i := 127) rfl)) (notFace_of_selects (args := #[]) (mvT hZ (hw _ (List.mem_of_getElem? (i := 129) rfl)))) (hw _ (List.mem_of_getElem? (i := 129) rfl)) (hw _ (List.mem_of_getElem? (i := 128) rfl)) (hw _ (List.mem_of_getElem? (i := 6) rfl)) (hw _ (List.mem_of_getElem? (i := 130) rfl)) (by decide) (b := b6) (W := 0) (argsL := []) (rest := []) (rm10 l Z a0 hw [] b6 kd pa en nm vl ns fa op og pr 3 0 (own_up (own_up (own_up (fun _ => .int 0) 0 (.int (Int32.ofNat 1))) 1 (.int (Int32.ofNat 2))) 2 (.int (Int32.ofNat 3))) (own_up (fun _ => .int 0) 0 (.int (0 : Int32))) fg0 T51.heap n0 z51 gtb Tq51 0 (by decide) (by decide) rfl) (by decide) (by decide) (by decide) (by decide) e53 Tq51.ob.exa (g := (mkF m 247 #[.val (.int p1), .val (.int p2), .val (.int v1), .val (.int v2), .val (.int v3), .val (.int v4), .val (.int (2 : Int32)), .val (.ref em), .val (.ref b6), .val (.int (0 : Int32)), .val (.int (-1 : Int32)), .val (.int (0 : Int32)), .val (.int (3 : Int32)), .val (.int (1 : Int32)), .unset] [(.ref b6)])) rfl (by rw [hml]; rfl) (lenOf pd_0 rfl) rfl (by show 2 * 0 + _ ≤ _; exact Nat.le_of_eq rfl) (hb hby at_247)
              obtain ⟨rfl, Nq54, Kq54, Tq54⟩ := hQ54
              replace Tq54 : own_TB Z T54.heap b6 kd pa en nm vl ns fa op og pr 3 0 (own_up (own_up (own_up (own_up (fun _ => .int 0) 0 (.int (Int32.ofNat 1))) 1 (.int (Int32.ofNat 2))) 2 (.int (Int32.ofNat 3))) 0 (.int (Int32.ofNat 3))) (own_up (fun _ => .int 0) 0 (.int (0 : Int32))) (own_up fg0 0 .null) := Tq54
              have f55 := f52.keep Kq54 (allS (by omega) (allS (by omega) (allS (by omega) all0)))
              have z54 : n0 ≤ T54.heap.size := Nat.le_trans z51 Kq54.1
              have N54 := Fr.app N51 Nq54
              refine own_via (T' := T54) (g' := (mkF m 257 #[.val (.int p1), .val (.int p2), .val (.int v1), .val (.int v2), .val (.int v3), .val (.int v4), .val (.int (2 : Int32)), .val (.ref em), .val (.ref b6), .val (.int (0 : Int32)), .val (.int (-1 : Int32)), .val (.int (0 : Int32)), .val (.int (3 : Int32)), .val (.int (1 : Int32)), .unset] [(.ref b6)])) (fun _ kt => st54 _ (XS.iload X54.here hx rfl (hb hby at_250) rfl (XS.ifNo X54.here hx rfl (hb hby at_252) rfl ((if0 _ _).trans (feq (by decide : ¬ ((1 : Int32) = (0 : Int32)))).1) (XS.aload X54.here hx rfl (hb hby at_255) rfl rfl kt)))) ?_
              obtain ⟨T56, X56, e56, st56⟩ := getF X54 hx hZ hown (host := "") (Or.inl (hw _ (List.mem_of_getElem? (i := 125) rfl))) Via.refl rfl Tq54.f_size (g := (mkF m 257 #[.val (.int p1), .val (.int p2), .val (.int v1), .val (.int v2), .val (.int v3), .val (.int v4), .val (.int (2 : Int32)), .val (.ref em), .val (.ref b6), .val (.int (0 : Int32)), .val (.int (-1 : Int32)), .val (.int (0 : Int32)), .val (.int (3 : Int32)), .val (.int (1 : Int32)), .unset] [(.ref b6)])) rfl rfl (hb hby at_257)
              refine own_via (T' := T56) (g' := (mkF m 267 #[.val (.int p1), .val (.int p2), .val (.int v1), .val (.int v2), .val (.int v3), .val (.int v4), .val (.int (2 : Int32)), .val (.ref em), .val (.ref b6), .val (.int (0 : Int32)), .val (.int (-1 : Int32)), .val (.int (0 : Int32)), .val (.int (3 : Int32)), .val (.int (1 : Int32)), .unset] [(.ref b6)])) (fun _ kt => st56 _ (XS.iload X56.here hx rfl (hb hby at_260) rfl (XS.icmpNo X56.here hx rfl (hb hby at_262) rfl (teq (by decide : ((3 : Int32) = (3 : Int32)))).2 (XS.aload X56.here hx rfl (hb hby at_265) rfl rfl kt)))) ?_
              obtain ⟨T57, X57, e57, st57⟩ := getF X56 hx hZ hown (host := "") (Or.inl (hw _ (List.mem_of_getElem? (i := 131) rfl))) Via.refl e56 Tq54.f_ends (g := (mkF m 267 #[.val (.int p1), .val (.int p2), .val (.int v1), .val (.int v2), .val (.int v3), .val (.int v4), .val (.int (2 : Int32)), .val (.ref em), .val (.ref b6), .val (.int (0 : Int32)), .val (.int (-1 : Int32)), .val (.int (0 : Int32)), .val (.int (3 : Int32)), .val (.int (1 : Int32)), .unset] [(.ref b6)])) rfl rfl (hb hby at_267)
              refine own_via (T' := T57) (g' := (mkF m 279 #[.val (.int p1), .val (.int p2), .val (.int v1), .val (.int v2), .val (.int v3), .val (.int v4), .val (.int (2 : Int32)), .val (.ref em), .val (.ref b6), .val (.int (0 : Int32)), .val (.int (-1 : Int32)), .val (.int (0 : Int32)), .val (.int (3 : Int32)), .val (.int (1 : Int32)), .unset] [(.int (1 : Int32))])) (fun _ kt => st57 _ (XS.iload X57.here hx rfl (hb hby at_270) rfl (own_iaload X57 hx hZ e57 Tq54.a_en (j := (0 : Int32)) (i := 0) rfl (by decide) (g := (mkF m 272 #[.val (.int p1), .val (.int p2), .val (.int v1), .val (.int v2), .val (.int v3), .val (.int v4), .val (.int (2 : Int32)), .val (.ref em), .val (.ref b6), .val (.int (0 : Int32)), .val (.int (-1 : Int32)), .val (.int (0 : Int32)), .val (.int (3 : Int32)), .val (.int (1 : Int32)), .unset] [(.int (0 : Int32)), (.ref en)])) rfl rfl (hb hby at_272) _ (XS.iload X57.here hx rfl (hb hby at_273) rfl (XS.icmpNo X57.here hx rfl (hb hby at_275) rfl (teq (by decide : ((3 : Int32) = (3 : Int32)))).2 (XS.iconst X57.here hx rfl (hb hby at_278) kt)))))) ?_
              refine own_via (T' := T57) (g' := (mkF m 358 #[.val (.int p1), .val (.int p2), .val (.int v1), .val (.int v2), .val (.int v3), .val (.int v4), .val (.int (2 : Int32)), .val (.ref em), .val (.ref b6), .val (.int (0 : Int32)), .val (.int (-1 : Int32)), .val (.int (0 : Int32)), .val (.int (3 : Int32)), .val (.int (1 : Int32)), .unset] [])) (fun _ kt => XS.goto X57.here hx rfl (pc0 := 279) (pc' := 283) rfl (hb hby at_279) (by decide) (by decide) (XS.istore X57.here hx rfl (hb hby at_283) rfl (l' := #[.val (.int p1), .val (.int p2), .val (.int v1), .val (.int v2), .val (.int v3), .val (.int v4), .val (.int (2 : Int32)), .val (.ref em), .val (.ref b6), .val (.int (0 : Int32)), .val (.int (-1 : Int32)), .val (.int (0 : Int32)), .val (.int (3 : Int32)), .val (.int (1 : Int32)), .unset]) rfl (XS.iloadN X57.here hx rfl (hb hby at_285) rfl (XS.ifYes X57.here hx rfl (pc0 := 286) (pc' := 353) rfl (hb hby at_286) rfl ((if0 _ _).trans (teq hdp).1) (by decide) (by decide) (XS.iload X57.here hx rfl (hb hby at_353) rfl (XS.ifNo X57.here hx rfl (hb hby at_355) rfl ((if0 _ _).trans (feq (by decide : ¬ ((1 : Int32) = (0 : Int32)))).1) kt)))))) ?_
              refine own_via (T' := T57) (g' := (mkF m 360 #[.val (.int p1), .val (.int p2), .val (.int v1), .val (.int v2), .val (.int v3), .val (.int v4), .val (.int (2 : Int32)), .val (.ref em), .val (.ref b6), .val (.int (0 : Int32)), .val (.int (-1 : Int32)), .val (.int (0 : Int32)), .val (.int (3 : Int32)), .val (.int (1 : Int32)), .unset] [(.ref b6)])) (fun _ kt => XS.aload X57.here hx rfl (hb hby at_358) rfl rfl kt) ?_
              obtain ⟨v58, T58, L58, X58, hQ58, st58⟩ := own_callV X57 hx hZ (y := (⟨"com/example/infoset/infoset/xdm/TreeBuffers", "depth", "()I"⟩ : MethodName)) (z := (⟨"com/example/infoset/infoset/xdm/TreeBuffers", "depth", "()I"⟩ : MethodName)) hown (hw _ (List.mem_of_getElem? (i := 132) rfl)) (hw _ (List.mem_of_getElem? (i := 133) rfl)) (notFace_of_selects (args := #[]) (mvT hZ (hw _ (List.mem_of_getElem? (i := 135) rfl)))) (hw _ (List.mem_of_getElem? (i := 135) rfl)) (hw _ (List.mem_of_getElem? (i := 134) rfl)) (hw _ (List.mem_of_getElem? (i := 6) rfl)) (hw _ (List.mem_of_getElem? (i := 136) rfl)) (by decide) (b := b6) (W := 0) (argsL := []) (rest := []) (rm11 l Z a0 hw [] b6 kd pa en nm vl ns fa op og pr 3 0 (own_up (own_up (own_up (own_up (fun _ => .int 0) 0 (.int (Int32.ofNat 1))) 1 (.int (Int32.ofNat 2))) 2 (.int (Int32.ofNat 3))) 0 (.int (Int32.ofNat 3))) (own_up (fun _ => .int 0) 0 (.int (0 : Int32))) (own_up fg0 0 .null) T54.heap n0 z54 gtb Tq54) (by decide) (by decide) (by decide) (by decide) e57 Tq54.ob.exa (g := (mkF m 360 #[.val (.int p1), .val (.int p2), .val (.int v1), .val (.int v2), .val (.int v3), .val (.int v4), .val (.int (2 : Int32)), .val (.ref em), .val (.ref b6), .val (.int (0 : Int32)), .val (.int (-1 : Int32)), .val (.int (0 : Int32)), .val (.int (3 : Int32)), .val (.int (1 : Int32)), .unset] [(.ref b6)])) rfl (by rw [hml]; rfl) (lenOf pd_4 rfl) rfl (by show 2 * 0 + _ ≤ _; exact Nat.le_of_eq rfl) (hb hby at_360)
              obtain ⟨rfl, hL58, e58⟩ := hQ58
              replace X58 := own_pure (v := none) (r := none) X58 rfl rfl hL58
              refine own_via (T' := T58) (g' := (mkF m 368 #[.val (.int p1), .val (.int p2), .val (.int v1), .val (.int v2), .val (.int v3), .val (.int v4), .val (.int (2 : Int32)), .val (.ref em), .val (.ref b6), .val (.int (0 : Int32)), .val (.int (-1 : Int32)), .val (.int (0 : Int32)), .val (.int (3 : Int32)), .val (.int (1 : Int32)), .unset] [(.ref b6)])) (fun _ kt => st58 _ (XS.ifNo X58.here hx rfl (hb hby at_363) rfl ((if0 _ _).trans (teq (by decide : ((0 : Int32) = (0 : Int32)))).2) (XS.aload X58.here hx rfl (hb hby at_366) rfl rfl kt))) ?_
              obtain ⟨v59, T59, L59, X59, hQ59, st59⟩ := own_callV X58 hx hZ (y := (⟨"com/example/infoset/infoset/xdm/TreeBuffers", "innermost", "()I"⟩ : MethodName)) (z := (⟨"com/example/infoset/infoset/xdm/TreeBuffers", "innermost", "()I"⟩ : MethodName)) hown (hw _ (List.mem_of_getElem? (i := 137) rfl)) (hw _ (List.mem_of_getElem? (i := 138) rfl)) (notFace_of_selects (args := #[]) (mvT hZ (hw _ (List.mem_of_getElem? (i := 140) rfl)))) (hw _ (List.mem_of_getElem? (i := 140) rfl)) (hw _ (List.mem_of_getElem? (i := 139) rfl)) (hw _ (List.mem_of_getElem? (i := 6) rfl)) (hw _ (List.mem_of_getElem? (i := 141) rfl)) (by decide) (b := b6) (W := 0) (argsL := []) (rest := []) (rm12z l Z a0 hw [] b6 kd pa en nm vl ns fa op og pr 3 (own_up (own_up (own_up (own_up (fun _ => .int 0) 0 (.int (Int32.ofNat 1))) 1 (.int (Int32.ofNat 2))) 2 (.int (Int32.ofNat 3))) 0 (.int (Int32.ofNat 3))) (own_up (fun _ => .int 0) 0 (.int (0 : Int32))) (own_up fg0 0 .null) T54.heap n0 z54 gtb Tq54) (by decide) (by decide) (by decide) (by decide) e58 Tq54.ob.exa (g := (mkF m 368 #[.val (.int p1), .val (.int p2), .val (.int v1), .val (.int v2), .val (.int v3), .val (.int v4), .val (.int (2 : Int32)), .val (.ref em), .val (.ref b6), .val (.int (0 : Int32)), .val (.int (-1 : Int32)), .val (.int (0 : Int32)), .val (.int (3 : Int32)), .val (.int (1 : Int32)), .unset] [(.ref b6)])) rfl (by rw [hml]; rfl) (lenOf pd_4 rfl) rfl (by show 2 * 0 + _ ≤ _; exact Nat.le_of_eq rfl) (hb hby at_368)
              obtain ⟨rfl, hL59, e59⟩ := hQ59
              replace X59 := own_pure (v := none) (r := none) X59 rfl rfl hL59
              refine own_via (T' := T59) (g' := (mkF m 377 #[.val (.int p1), .val (.int p2), .val (.int v1), .val (.int v2), .val (.int v3), .val (.int v4), .val (.int (2 : Int32)), .val (.ref em), .val (.ref b6), .val (.int (0 : Int32)), .val (.int (-1 : Int32)), .val (.int (0 : Int32)), .val (.int (3 : Int32)), .val (.int (1 : Int32)), .unset] [(.ref b6)])) (fun _ kt => st59 _ (XS.iconst X59.here hx rfl (hb hby at_371) (XS.icmpNo X59.here hx rfl (hb hby at_372) rfl (teq (by decide : ((-1 : Int32) = (-1 : Int32)))).2 (XS.aload X59.here hx rfl (hb hby at_375) rfl rfl kt)))) ?_
              obtain ⟨v60, T60, L60, X60, hQ60, st60⟩ := own_callV X59 hx hZ (y := (⟨"com/example/infoset/infoset/xdm/TreeBuffers", "innermostOriginal", "()Lcom/example/infoset/infoset/xdm/NamespaceBindings;"⟩ : MethodName)) (z := (⟨"com/example/infoset/infoset/xdm/TreeBuffers", "innermostOriginal", "()Lcom/example/infoset/infoset/xdm/NamespaceBindings;"⟩ : MethodName)) hown (hw _ (List.mem_of_getElem? (i := 142) rfl)) (hw _ (List.mem_of_getElem? (i := 143) rfl)) (notFace_of_selects (args := #[]) (mvT hZ (hw _ (List.mem_of_getElem? (i := 145) rfl)))) (hw _ (List.mem_of_getElem? (i := 145) rfl)) (hw _ (List.mem_of_getElem? (i := 144) rfl)) (hw _ (List.mem_of_getElem? (i := 6) rfl)) (hw _ (List.mem_of_getElem? (i := 146) rfl)) (by decide) (b := b6) (W := 0) (argsL := []) (rest := []) (rm13z l Z a0 hw [] b6 kd pa en nm vl ns fa op og pr 3 (own_up (own_up (own_up (own_up (fun _ => .int 0) 0 (.int (Int32.ofNat 1))) 1 (.int (Int32.ofNat 2))) 2 (.int (Int32.ofNat 3))) 0 (.int (Int32.ofNat 3))) (own_up (fun _ => .int 0) 0 (.int (0 : Int32))) (own_up fg0 0 .null) T54.heap n0 z54 gtb Tq54) (by decide) (by decide) (by decide) (by decide) e59 Tq54.ob.exa (g := (mkF m 377 #[.val (.int p1), .val (.int p2), .val (.int v1), .val (.int v2), .val (.int v3), .val (.int v4), .val (.int (2 : Int32)), .val (.ref em), .val (.ref b6), .val (.int (0 : Int32)), .val (.int (-1 : Int32)), .val (.int (0 : Int32)), .val (.int (3 : Int32)), .val (.int (1 : Int32)), .unset] [(.ref b6)])) rfl (by rw [hml]; rfl) (lenOf pd_6 rfl) rfl (by show 2 * 0 + _ ≤ _; exact Nat.le_of_eq rfl) (hb hby at_377)
              obtain ⟨rfl, hL60, e60⟩ := hQ60
              replace X60 := own_pure (v := none) (r := none) X60 rfl rfl hL60
              refine own_via (T' := T60) (g' := (mkF m 392 #[.val (.int p1), .val (.int p2), .val (.int v1), .val (.int v2), .val (.int v3), .val (.int v4), .val (.int (2 : Int32)), .val (.ref em), .val (.ref b6), .val (.int (0 : Int32)), .val (.int (-1 : Int32)), .val (.int (0 : Int32)), .val (.int (3 : Int32)), .val (.int (1 : Int32)), .unset] [(.int (2 : Int32))])) (fun _ kt => st60 _ (XS.ifnonnullNo X60.here hx rfl (hb hby at_380) rfl (XS.iconst X60.here hx rfl (hb hby at_383) (XS.goto X60.here hx rfl (pc0 := 384) (pc' := 388) rfl (hb hby at_384) (by decide) (by decide) (XS.istore X60.here hx rfl (hb hby at_388) rfl (l' := #[.val (.int p1), .val (.int p2), .val (.int v1), .val (.int v2), .val (.int v3), .val (.int v4), .val (.int (2 : Int32)), .val (.ref em), .val (.ref b6), .val (.int (0 : Int32)), .val (.int (-1 : Int32)), .val (.int (0 : Int32)), .val (.int (3 : Int32)), .val (.int (1 : Int32)), .unset]) rfl (XS.iload X60.here hx rfl (hb hby at_390) rfl kt)))))) ?_
              refine own_via (T' := T60) (g' := (mkF m 403 #[.val (.int p1), .val (.int p2), .val (.int v1), .val (.int v2), .val (.int v3), .val (.int v4), .val (.int (2 : Int32)), .val (.ref em), .val (.ref b6), .val (.int (0 : Int32)), .val (.int (-1 : Int32)), .val (.int (0 : Int32)), .val (.int (3 : Int32)), .val (.int (1 : Int32)), .unset] [(.ref b6)])) (fun _ kt => XS.iconst X60.here hx rfl (hb hby at_392) (XS.icmpNo X60.here hx rfl (hb hby at_393) rfl (flt (by decide : ¬ ((2 : Int32) < (1 : Int32)))).1 (XS.iload X60.here hx rfl (hb hby at_396) rfl (XS.ifNo X60.here hx rfl (hb hby at_398) rfl ((if0 _ _).trans (feq (by decide : ¬ ((1 : Int32) = (0 : Int32)))).1) (XS.aload X60.here hx rfl (hb hby at_401) rfl rfl kt))))) ?_
              obtain ⟨T61, X61, e61, st61⟩ := getF X60 hx hZ hown (host := "") (Or.inl (hw _ (List.mem_of_getElem? (i := 131) rfl))) Via.refl e60 Tq54.f_ends (g := (mkF m 403 #[.val (.int p1), .val (.int p2), .val (.int v1), .val (.int v2), .val (.int v3), .val (.int v4), .val (.int (2 : Int32)), .val (.ref em), .val (.ref b6), .val (.int (0 : Int32)), .val (.int (-1 : Int32)), .val (.int (0 : Int32)), .val (.int (3 : Int32)), .val (.int (1 : Int32)), .unset] [(.ref b6)])) rfl rfl (hb hby at_403)
              refine own_via (T' := T61) (g' := (mkF m 413 #[.val (.int p1), .val (.int p2), .val (.int v1), .val (.int v2), .val (.int v3), .val (.int v4), .val (.int (2 : Int32)), .val (.ref em), .val (.ref b6), .val (.int (0 : Int32)), .val (.int (-1 : Int32)), .val (.int (0 : Int32)), .val (.int (3 : Int32)), .val (.int (1 : Int32)), .unset] [(.int (0 : Int32)), (.int (2 : Int32))])) (fun _ kt => st61 _ (XS.iload X61.here hx rfl (hb hby at_406) rfl (XS.iconst X61.here hx rfl (hb hby at_408) (XS.iadd X61.here hx rfl (hb hby at_409) rfl (own_iaload X61 hx hZ e61 Tq54.a_en (j := (1 : Int32)) (i := 1) rfl (by decide) (g := (mkF m 410 #[.val (.int p1), .val (.int p2), .val (.int v1), .val (.int v2), .val (.int v3), .val (.int v4), .val (.int (2 : Int32)), .val (.ref em), .val (.ref b6), .val (.int (0 : Int32)), .val (.int (-1 : Int32)), .val (.int (0 : Int32)), .val (.int (3 : Int32)), .val (.int (1 : Int32)), .unset] [(.int (1 : Int32)), (.ref en)])) rfl rfl (hb hby at_410) _ (XS.iload X61.here hx rfl (hb hby at_411) rfl kt)))))) ?_
              refine own_via (T' := T61) (g' := (mkF m 425 #[.val (.int p1), .val (.int p2), .val (.int v1), .val (.int v2), .val (.int v3), .val (.int v4), .val (.int (2 : Int32)), .val (.ref em), .val (.ref b6), .val (.int (0 : Int32)), .val (.int (-1 : Int32)), .val (.int (0 : Int32)), .val (.int (3 : Int32)), .val (.int (1 : Int32)), .unset] [])) (fun _ kt => XS.iconst X61.here hx rfl (hb hby at_413) (XS.iadd X61.here hx rfl (hb hby at_414) rfl (XS.icmpNo X61.here hx rfl (hb hby at_415) rfl (teq (by decide : ((2 : Int32) = (2 : Int32)))).2 (XS.iconst X61.here hx rfl (hb hby at_418) (XS.goto X61.here hx rfl (pc0 := 419) (pc' := 423) rfl (hb hby at_419) (by decide) (by decide) (XS.istore X61.here hx rfl (hb hby at_423) rfl (l' := #[.val (.int p1), .val (.int p2), .val (.int v1), .val (.int v2), .val (.int v3), .val (.int v4), .val (.int (2 : Int32)), .val (.ref em), .val (.ref b6), .val (.int (0 : Int32)), .val (.int (-1 : Int32)), .val (.int (0 : Int32)), .val (.int (3 : Int32)), .val (.int (1 : Int32)), .unset]) rfl kt)))))) ?_
              refine own_via (T' := T61) (g' := (mkF m 438 #[.val (.int p1), .val (.int p2), .val (.int v1), .val (.int v2), .val (.int v3), .val (.int v4), .val (.int (2 : Int32)), .val (.ref em), .val (.ref b6), .val (.int (0 : Int32)), .val (.int (-1 : Int32)), .val (.int (0 : Int32)), .val (.int (3 : Int32)), .val (.int (1 : Int32)), .unset] [(.ref b6)])) (fun _ kt => XS.iload X61.here hx rfl (hb hby at_425) rfl (XS.iconst X61.here hx rfl (hb hby at_427) (XS.icmpNo X61.here hx rfl (hb hby at_428) rfl (flt (by decide : ¬ ((2 : Int32) < (2 : Int32)))).1 (XS.iload X61.here hx rfl (hb hby at_431) rfl (XS.ifNo X61.here hx rfl (hb hby at_433) rfl ((if0 _ _).trans (feq (by decide : ¬ ((1 : Int32) = (0 : Int32)))).1) (XS.aload X61.here hx rfl (hb hby at_436) rfl rfl kt)))))) ?_
              obtain ⟨T62, X62, e62, st62⟩ := getF X61 hx hZ hown (host := "") (Or.inl (hw _ (List.mem_of_getElem? (i := 131) rfl))) Via.refl e61 Tq54.f_ends (g := (mkF m 438 #[.val (.int p1), .val (.int p2), .val (.int v1), .val (.int v2), .val (.int v3), .val (.int v4), .val (.int (2 : Int32)), .val (.ref em), .val (.ref b6), .val (.int (0 : Int32)), .val (.int (-1 : Int32)), .val (.int (0 : Int32)), .val (.int (3 : Int32)), .val (.int (1 : Int32)), .unset] [(.ref b6)])) rfl rfl (hb hby at_438)
              refine own_via (T' := T62) (g' := (mkF m 448 #[.val (.int p1), .val (.int p2), .val (.int v1), .val (.int v2), .val (.int v3), .val (.int v4), .val (.int (2 : Int32)), .val (.ref em), .val (.ref b6), .val (.int (0 : Int32)), .val (.int (-1 : Int32)), .val (.int (0 : Int32)), .val (.int (3 : Int32)), .val (.int (1 : Int32)), .unset] [(.int (0 : Int32)), (.int (3 : Int32))])) (fun _ kt => st62 _ (XS.iload X62.here hx rfl (hb hby at_441) rfl (XS.iconst X62.here hx rfl (hb hby at_443) (XS.iadd X62.here hx rfl (hb hby at_444) rfl (own_iaload X62 hx hZ e62 Tq54.a_en (j := (2 : Int32)) (i := 2) rfl (by decide) (g := (mkF m 445 #[.val (.int p1), .val (.int p2), .val (.int v1), .val (.int v2), .val (.int v3), .val (.int v4), .val (.int (2 : Int32)), .val (.ref em), .val (.ref b6), .val (.int (0 : Int32)), .val (.int (-1 : Int32)), .val (.int (0 : Int32)), .val (.int (3 : Int32)), .val (.int (1 : Int32)), .unset] [(.int (2 : Int32)), (.ref en)])) rfl rfl (hb hby at_445) _ (XS.iload X62.here hx rfl (hb hby at_446) rfl kt)))))) ?_
              refine own_via (T' := T62) (g' := (mkF m 460 #[.val (.int p1), .val (.int p2), .val (.int v1), .val (.int v2), .val (.int v3), .val (.int v4), .val (.int (2 : Int32)), .val (.ref em), .val (.ref b6), .val (.int (0 : Int32)), .val (.int (-1 : Int32)), .val (.int (0 : Int32)), .val (.int (3 : Int32)), .val (.int (1 : Int32)), .unset] [])) (fun _ kt => XS.iconst X62.here hx rfl (hb hby at_448) (XS.iadd X62.here hx rfl (hb hby at_449) rfl (XS.icmpNo X62.here hx rfl (hb hby at_450) rfl (teq (by decide : ((3 : Int32) = (3 : Int32)))).2 (XS.iconst X62.here hx rfl (hb hby at_453) (XS.goto X62.here hx rfl (pc0 := 454) (pc' := 458) rfl (hb hby at_454) (by decide) (by decide) (XS.istore X62.here hx rfl (hb hby at_458) rfl (l' := #[.val (.int p1), .val (.int p2), .val (.int v1), .val (.int v2), .val (.int v3), .val (.int v4), .val (.int (2 : Int32)), .val (.ref em), .val (.ref b6), .val (.int (0 : Int32)), .val (.int (-1 : Int32)), .val (.int (0 : Int32)), .val (.int (3 : Int32)), .val (.int (1 : Int32)), .unset]) rfl kt)))))) ?_
              refine own_via (T' := T62) (g' := (mkF m 462 #[.val (.int p1), .val (.int p2), .val (.int v1), .val (.int v2), .val (.int v3), .val (.int v4), .val (.int (2 : Int32)), .val (.ref em), .val (.ref b6), .val (.int (0 : Int32)), .val (.int (-1 : Int32)), .val (.int (0 : Int32)), .val (.int (3 : Int32)), .val (.int (1 : Int32)), .unset] [(.ref b6)])) (fun _ kt => XS.aload X62.here hx rfl (hb hby at_460) rfl rfl kt) ?_
              obtain ⟨T63, X63, e63, st63⟩ := getS2 X62 hx hZ hown (host := "") (Or.inl (hw _ (List.mem_of_getElem? (i := 97) rfl))) Via.refl e62 (S_k1.ext f55.2) (g := (mkF m 462 #[.val (.int p1), .val (.int p2), .val (.int v1), .val (.int v2), .val (.int v3), .val (.int v4), .val (.int (2 : Int32)), .val (.ref em), .val (.ref b6), .val (.int (0 : Int32)), .val (.int (-1 : Int32)), .val (.int (0 : Int32)), .val (.int (3 : Int32)), .val (.int (1 : Int32)), .unset] [(.ref b6)])) rfl (hb hby at_462)
              refine own_via (T' := T63) (g' := (mkF m 477 #[.val (.int p1), .val (.int p2), .val (.int v1), .val (.int v2), .val (.int v3), .val (.int v4), .val (.int (2 : Int32)), .val (.ref em), .val (.ref b6), .val (.int (0 : Int32)), .val (.int (-1 : Int32)), .val (.int (0 : Int32)), .val (.int (3 : Int32)), .val (.int (1 : Int32)), .unset] [.null, .null, (.int (-1 : Int32)), (.ref k1), (.ref b6)])) (fun _ kt => st63 _ (XS.iloadN X63.here hx rfl (hb hby at_465) rfl (XS.ifYes X63.here hx rfl (pc0 := 466) (pc' := 474) rfl (hb hby at_466) rfl ((if0 _ _).trans (teq hdp).1) (by decide) (by decide) (XS.iconst X63.here hx rfl (hb hby at_474) (XS.aconstNull X63.here hx rfl (hb hby at_475) (XS.aconstNull X63.here hx rfl (hb hby at_476) kt)))))) ?_
              refine own_via (T' := T63) (g' := (mkF m 478 #[.val (.int p1), .val (.int p2), .val (.int v1), .val (.int v2), .val (.int v3), .val (.int v4), .val (.int (2 : Int32)), .val (.ref em), .val (.ref b6), .val (.int (0 : Int32)), .val (.int (-1 : Int32)), .val (.int (0 : Int32)), .val (.int (3 : Int32)), .val (.int (1 : Int32)), .unset] [.null, .null, .null, (.int (-1 : Int32)), (.ref k1), (.ref b6)])) (fun _ kt => XS.aconstNull X63.here hx rfl (hb hby at_477) kt) ?_
              obtain ⟨v64, T64, L64, X64, hQ64, st64⟩ := own_callV X63 hx hZ (y := (⟨"com/example/infoset/infoset/xdm/TreeBuffers", "add", "(Lcom/example/infoset/infoset/xdm/NodeKind;ILcom/example/infoset/infoset/xdm/QName;Ljava/lang/String;Lcom/example/infoset/infoset/xdm/NamespaceBindings;)I"⟩ : MethodName)) (z := (⟨"com/example/infoset/infoset/xdm/TreeBuffers", "add", "(Lcom/example/infoset/infoset/xdm/NodeKind;ILcom/example/infoset/infoset/xdm/QName;Ljava/lang/String;Lcom/example/infoset/infoset/xdm/NamespaceBindings;)I"⟩ : MethodName)) hown (hw _ (List.mem_of_getElem? (i := 100) rfl)) (hw _ (List.mem_of_getElem? (i := 101) rfl)) (notFace_of_selects (args := #[]) (mvT hZ (hw _ (List.mem_of_getElem? (i := 103) rfl)))) (hw _ (List.mem_of_getElem? (i := 103) rfl)) (hw _ (List.mem_of_getElem? (i := 102) rfl)) (hw _ (List.mem_of_getElem? (i := 6) rfl)) (hw _ (List.mem_of_getElem? (i := 104) rfl)) (by decide) (b := b6) (W := 0) (argsL := [(.ref k1), (.int (-1 : Int32)), .null, .null, .null]) (rest := []) (rm7 l Z a0 hw [] b6 kd pa en nm vl ns fa op og pr 3 0 (own_up (own_up (own_up (own_up (fun _ => .int 0) 0 (.int (Int32.ofNat 1))) 1 (.int (Int32.ofNat 2))) 2 (.int (Int32.ofNat 3))) 0 (.int (Int32.ofNat 3))) (own_up (fun _ => .int 0) 0 (.int (0 : Int32))) (own_up fg0 0 .null) T54.heap n0 z54 gtb Tq54 k1 (-1 : Int32) 1 (by decide) (E_k1.ext f55.2) (F_k1.ext f55.2)) (by decide) (by decide) (by decide) (by decide) e63 Tq54.ob.exa (g := (mkF m 478 #[.val (.int p1), .val (.int p2), .val (.int v1), .val (.int v2), .val (.int v3), .val (.int v4), .val (.int (2 : Int32)), .val (.ref em), .val (.ref b6), .val (.int (0 : Int32)), .val (.int (-1 : Int32)), .val (.int (0 : Int32)), .val (.int (3 : Int32)), .val (.int (1 : Int32)), .unset] [.null, .null, .null, (.int (-1 : Int32)), (.ref k1), (.ref b6)])) rfl (by rw [hml]; rfl) (lenOf pd_7 rfl) rfl (by show 2 * 0 + _ ≤ _; exact Nat.le_of_eq rfl) (hb hby at_478)
              obtain ⟨rfl, Nq64, Kq64, Tq64⟩ := hQ64
              replace Tq64 : own_TB Z T64.heap b6 kd pa en nm vl ns fa op og pr 4 0 (own_up (own_up (own_up (own_up (own_up (fun _ => .int 0) 0 (.int (Int32.ofNat 1))) 1 (.int (Int32.ofNat 2))) 2 (.int (Int32.ofNat 3))) 0 (.int (Int32.ofNat 3))) 3 (.int (Int32.ofNat 4))) (own_up (fun _ => .int 0) 0 (.int (0 : Int32))) (own_up fg0 0 .null) := Tq64
              have f65 := f55.keep Kq64 (allS (by omega) (allS (by omega) (allS (by omega) (allS (by omega) (allS (by omega) (allS (by omega) (allS (by omega) (allS (by omega) all0))))))))
              have z64 : n0 ≤ T64.heap.size := Nat.le_trans z54 Kq64.1
              have N64 := Fr.app N54 Nq64
              refine own_via (T' := T64) (g' := (mkF m 487 #[.val (.int p1), .val (.int p2), .val (.int v1), .val (.int v2), .val (.int v3), .val (.int v4), .val (.int (2 : Int32)), .val (.ref em), .val (.ref b6), .val (.int (0 : Int32)), .val (.int (-1 : Int32)), .val (.int (0 : Int32)), .val (.int (3 : Int32)), .val (.int (1 : Int32)), .val (.int (3 : Int32))] [(.int (3 : Int32)), (.ref b6)])) (fun _ kt => st64 _ (XS.istore X64.here hx rfl (hb hby at_481) rfl (l' := #[.val (.int p1), .val (.int p2), .val (.int v1), .val (.int v2), .val (.int v3), .val (.int v4), .val (.int (2 : Int32)), .val (.ref em), .val (.ref b6), .val (.int (0 : Int32)), .val (.int (-1 : Int32)), .val (.int (0 : Int32)), .val (.int (3 : Int32)), .val (.int (1 : Int32)), .val (.int (3 : Int32))]) rfl (XS.aload X64.here hx rfl (hb hby at_483) rfl rfl (XS.iload X64.here hx rfl (hb hby at_485) rfl kt)))) ?_
              obtain ⟨v66, T66, L66, X66, hQ66, st66⟩ := own_callV X64 hx hZ (y := (⟨"com/example/infoset/infoset/xdm/TreeBuffers", "open", "(I)V"⟩ : MethodName)) (z := (⟨"com/example/infoset/infoset/xdm/TreeBuffers", "open", "(I)V"⟩ : MethodName)) hown (hw _ (List.mem_of_getElem? (i := 118) rfl)) (hw _ (List.mem_of_getElem? (i := 119) rfl)) (notFace_of_selects (args := #[]) (mvT hZ (hw _ (List.mem_of_getElem? (i := 121) rfl)))) (hw _ (List.mem_of_getElem? (i := 121) rfl)) (hw _ (List.mem_of_getElem? (i := 120) rfl)) (hw _ (List.mem_of_getElem? (i := 6) rfl)) (hw _ (List.mem_of_getElem? (i := 122) rfl)) (by decide) (b := b6) (W := 0) (argsL := [(.int (3 : Int32))]) (rest := []) (rm9 l Z a0 hw [] b6 kd pa en nm vl ns fa op og pr 4 0 (own_up (own_up (own_up (own_up (own_up (fun _ => .int 0) 0 (.int (Int32.ofNat 1))) 1 (.int (Int32.ofNat 2))) 2 (.int (Int32.ofNat 3))) 0 (.int (Int32.ofNat 3))) 3 (.int (Int32.ofNat 4))) (own_up (fun _ => .int 0) 0 (.int (0 : Int32))) (own_up fg0 0 .null) T64.heap n0 z64 gtb Tq64 (3 : Int32) (by decide)) (by decide) (by decide) (by decide) (by decide) rfl Tq64.ob.exa (g := (mkF m 487 #[.val (.int p1), .val (.int p2), .val (.int v1), .val (.int v2), .val (.int v3), .val (.int v4), .val (.int (2 : Int32)), .val (.ref em), .val (.ref b6), .val (.int (0 : Int32)), .val (.int (-1 : Int32)), .val (.int (0 : Int32)), .val (.int (3 : Int32)), .val (.int (1 : Int32)), .val (.int (3 : Int32))] [(.int (3 : Int32)), (.ref b6)])) rfl (by rw [hml]; rfl) (lenOf pd_2 rfl) rfl (by show 2 * 0 + _ ≤ _; exact Nat.le_of_eq rfl) (hb hby at_487)
              obtain ⟨rfl, Nq66, Kq66, Tq66⟩ := hQ66
              replace Tq66 : own_TB Z T66.heap b6 kd pa en nm vl ns fa op og pr 4 1 (own_up (own_up (own_up (own_up (own_up (fun _ => .int 0) 0 (.int (Int32.ofNat 1))) 1 (.int (Int32.ofNat 2))) 2 (.int (Int32.ofNat 3))) 0 (.int (Int32.ofNat 3))) 3 (.int (Int32.ofNat 4))) (own_up (own_up (fun _ => .int 0) 0 (.int (0 : Int32))) 0 (.int (3 : Int32))) (own_up fg0 0 .null) := Tq66
              have f67 := f65.keep Kq66 (allS (by omega) (allS (by omega) all0))
              have z66 : n0 ≤ T66.heap.size := Nat.le_trans z64 Kq66.1
              have N66 := Fr.app N64 Nq66
              refine own_via (T' := T66) (g' := (mkF m 497 #[.val (.int p1), .val (.int p2), .val (.int v1), .val (.int v2), .val (.int v3), .val (.int v4), .val (.int (2 : Int32)), .val (.ref em), .val (.ref b6), .val (.int (0 : Int32)), .val (.int (-1 : Int32)), .val (.int (0 : Int32)), .val (.int (3 : Int32)), .val (.int (1 : Int32)), .val (.int (3 : Int32))] [(.ref b6)])) (fun _ kt => st66 _ (XS.iload X66.here hx rfl (hb hby at_490) rfl (XS.ifNo X66.here hx rfl (hb hby at_492) rfl ((if0 _ _).trans (feq (by decide : ¬ ((1 : Int32) = (0 : Int32)))).1) (XS.aload X66.here hx rfl (hb hby at_495) rfl rfl kt)))) ?_
              obtain ⟨v68, T68, L68, X68, hQ68, st68⟩ := own_callV X66 hx hZ (y := (⟨"com/example/infoset/infoset/xdm/TreeBuffers", "innermostOriginal", "()Lcom/example/infoset/infoset/xdm/NamespaceBindings;"⟩ : MethodName)) (z := (⟨"com/example/infoset/infoset/xdm/TreeBuffers", "innermostOriginal", "()Lcom/example/infoset/infoset/xdm/NamespaceBindings;"⟩ : MethodName)) hown (hw _ (List.mem_of_getElem? (i := 142) rfl)) (hw _ (List.mem_of_getElem? (i := 143) rfl)) (notFace_of_selects (args := #[]) (mvT hZ (hw _ (List.mem_of_getElem? (i := 145) rfl)))) (hw _ (List.mem_of_getElem? (i := 145) rfl)) (hw _ (List.mem_of_getElem? (i := 144) rfl)) (hw _ (List.mem_of_getElem? (i := 6) rfl)) (hw _ (List.mem_of_getElem? (i := 146) rfl)) (by decide) (b := b6) (W := 0) (argsL := []) (rest := []) (rm13s l Z a0 hw [] b6 kd pa en nm vl ns fa op og pr 4 0 (own_up (own_up (own_up (own_up (own_up (fun _ => .int 0) 0 (.int (Int32.ofNat 1))) 1 (.int (Int32.ofNat 2))) 2 (.int (Int32.ofNat 3))) 0 (.int (Int32.ofNat 3))) 3 (.int (Int32.ofNat 4))) (own_up (own_up (fun _ => .int 0) 0 (.int (0 : Int32))) 0 (.int (3 : Int32))) (own_up fg0 0 .null) T66.heap n0 z66 gtb Tq66 (by decide) rfl) (by decide) (by decide) (by decide) (by decide) rfl Tq66.ob.exa (g := (mkF m 497 #[.val (.int p1), .val (.int p2), .val (.int v1), .val (.int v2), .val (.int v3), .val (.int v4), .val (.int (2 : Int32)), .val (.ref em), .val (.ref b6), .val (.int (0 : Int32)), .val (.int (-1 : Int32)), .val (.int (0 : Int32)), .val (.int (3 : Int32)), .val (.int (1 : Int32)), .val (.int (3 : Int32))] [(.ref b6)])) rfl (by rw [hml]; rfl) (lenOf pd_6 rfl) rfl (by show 2 * 0 + _ ≤ _; exact Nat.le_of_eq rfl) (hb hby at_497)
              obtain ⟨rfl, hL68, e68⟩ := hQ68
              replace X68 := own_pure (v := none) (r := none) X68 rfl rfl hL68
              refine own_via (T' := T68) (g' := (mkF m 505 #[.val (.int p1), .val (.int p2), .val (.int v1), .val (.int v2), .val (.int v3), .val (.int v4), .val (.int (2 : Int32)), .val (.ref em), .val (.ref b6), .val (.int (0 : Int32)), .val (.int (-1 : Int32)), .val (.int (0 : Int32)), .val (.int (3 : Int32)), .val (.int (1 : Int32)), .val (.int (3 : Int32))] [(.ref b6)])) (fun _ kt => st68 _ (XS.ifnonnullNo X68.here hx rfl (hb hby at_500) rfl (XS.aload X68.here hx rfl (hb hby at_503) rfl rfl kt))) ?_
              obtain ⟨T69, X69, e69, st69⟩ := getF X68 hx hZ hown (host := "") (Or.inl (hw _ (List.mem_of_getElem? (i := 131) rfl))) Via.refl e68 Tq66.f_ends (g := (mkF m 505 #[.val (.int p1), .val (.int p2), .val (.int v1), .val (.int v2), .val (.int v3), .val (.int v4), .val (.int (2 : Int32)), .val (.ref em), .val (.ref b6), .val (.int (0 : Int32)), .val (.int (-1 : Int32)), .val (.int (0 : Int32)), .val (.int (3 : Int32)), .val (.int (1 : Int32)), .val (.int (3 : Int32))] [(.ref b6)])) rfl rfl (hb hby at_505)
              refine own_via (T' := T69) (g' := (mkF m 517 #[.val (.int p1), .val (.int p2), .val (.int v1), .val (.int v2), .val (.int v3), .val (.int v4), .val (.int (2 : Int32)), .val (.ref em), .val (.ref b6), .val (.int (0 : Int32)), .val (.int (-1 : Int32)), .val (.int (0 : Int32)), .val (.int (3 : Int32)), .val (.int (1 : Int32)), .val (.int (3 : Int32))] [(.int (1 : Int32))])) (fun _ kt => st69 _ (XS.iload X69.here hx rfl (hb hby at_508) rfl (own_iaload X69 hx hZ e69 Tq66.a_en (j := (0 : Int32)) (i := 0) rfl (by decide) (g := (mkF m 510 #[.val (.int p1), .val (.int p2), .val (.int v1), .val (.int v2), .val (.int v3), .val (.int v4), .val (.int (2 : Int32)), .val (.ref em), .val (.ref b6), .val (.int (0 : Int32)), .val (.int (-1 : Int32)), .val (.int (0 : Int32)), .val (.int (3 : Int32)), .val (.int (1 : Int32)), .val (.int (3 : Int32))] [(.int (0 : Int32)), (.ref en)])) rfl rfl (hb hby at_510) _ (XS.iload X69.here hx rfl (hb hby at_511) rfl (XS.icmpNo X69.here hx rfl (hb hby at_513) rfl (teq (by decide : ((3 : Int32) = (3 : Int32)))).2 (XS.iconst X69.here hx rfl (hb hby at_516) kt)))))) ?_
              refine own_via (T' := T69) (g' := (mkF m 525 #[.val (.int p1), .val (.int p2), .val (.int v1), .val (.int v2), .val (.int v3), .val (.int v4), .val (.int (2 : Int32)), .val (.ref em), .val (.ref b6), .val (.int (0 : Int32)), .val (.int (-1 : Int32)), .val (.int (0 : Int32)), .val (.int (3 : Int32)), .val (.int (1 : Int32)), .val (.int (3 : Int32))] [(.int (1 : Int32))])) (fun _ kt => XS.goto X69.here hx rfl (pc0 := 517) (pc' := 521) rfl (hb hby at_517) (by decide) (by decide) (XS.istore X69.here hx rfl (hb hby at_521) rfl (l' := #[.val (.int p1), .val (.int p2), .val (.int v1), .val (.int v2), .val (.int v3), .val (.int v4), .val (.int (2 : Int32)), .val (.ref em), .val (.ref b6), .val (.int (0 : Int32)), .val (.int (-1 : Int32)), .val (.int (0 : Int32)), .val (.int (3 : Int32)), .val (.int (1 : Int32)), .val (.int (3 : Int32))]) rfl (XS.iload X69.here hx rfl (hb hby at_523) rfl kt))) ?_
              exact own_retZ X69 hx hret hlk (hb hby at_525) (by decide) ⟨rfl, N66⟩ (by decide) (by decide)
          have Tail2 : ¬ v1 = 0 → ∀ (T : State) (hh : Heap) (locs : List Loc) (fg0 : Nat → Value), Stand p l e room_1 s m #[(.int p1), (.int p2)] below meth c T locs 17 313 → T.heap = hh → n0 ≤ hh.size → Fr n0 locs → Old Z n0 hh → (fg0 0).isRef = true → (v2 = 0 → fg0 0 = .null) → (¬ v2 = 0 → fg0 0 = .ref em) → own_TB Z hh b6 kd pa en nm vl ns fa op og pr 2 2 (own_up (own_up (fun _ => .int 0) 0 (.int (Int32.ofNat 1))) 1 (.int (Int32.ofNat 2))) (own_up (own_up (fun _ => .int 0) 0 (.int (0 : Int32))) 1 (.int (1 : Int32))) fg0 → own_Ends p e below (own_Fin below s room_1.cells room_1.slots (fun v h L => v = some (.int 1) ∧ Fr n0 L)) T (mkF m 159 #[.val (.int p1), .val (.int p2), .val (.int v1), .val (.int v2), .val (.int v3), .val (.int v4), .val (.int (Int32.ofNat ev)), .val (.ref em), .val (.ref b6), .val (.int (0 : Int32)), .val (.int (1 : Int32)), .unset, .unset, .unset, .unset] []) := by
            intro hdp T hh locs fg0 XL eL zL NL OL hgr hg0 hg1 TL
            rcases (by omega : ev = 0 ∨ ev = 1 ∨ ev = 2) with rfl | rfl | rfl
            · refine own_via (T' := T) (g' := (mkF m 174 #[.val (.int p1), .val (.int p2), .val (.int v1), .val (.int v2), .val (.int v3), .val (.int v4), .val (.int (0 : Int32)), .val (.ref em), .val (.ref b6), .val (.int (0 : Int32)), .val (.int (1 : Int32)), .val (.int (1 : Int32)), .unset, .unset, .unset] [(.int (0 : Int32))])) (fun _ kt => XS.iloadN XL.here hx rfl (hb hby at_159) rfl (XS.ifNo XL.here hx rfl (hb hby at_160) rfl ((if0 _ _).trans (feq hdp).1) (XS.iload XL.here hx rfl (hb hby at_163) rfl (XS.goto XL.here hx rfl (pc0 := 165) (pc' := 170) rfl (hb hby at_165) (by decide) (by decide) (XS.istore XL.here hx rfl (hb hby at_170) rfl (l' := #[.val (.int p1), .val (.int p2), .val (.int v1), .val (.int v2), .val (.int v3), .val (.int v4), .val (.int (0 : Int32)), .val (.ref em), .val (.ref b6), .val (.int (0 : Int32)), .val (.int (1 : Int32)), .val (.int (1 : Int32)), .unset, .unset, .unset]) rfl (XS.iload XL.here hx rfl (hb hby at_172) rfl kt)))))) ?_
              refine own_via (T' := T) (g' := (mkF m 213 #[.val (.int p1), .val (.int p2), .val (.int v1), .val (.int v2), .val (.int v3), .val (.int v4), .val (.int (0 : Int32)), .val (.ref em), .val (.ref b6), .val (.int (0 : Int32)), .val (.int (1 : Int32)), .val (.int (1 : Int32)), .unset, .unset, .unset] [(.int (1 : Int32))])) (fun _ kt => XS.iconst XL.here hx rfl (hb hby at_174) (XS.icmpYes XL.here hx rfl (pc0 := 175) (pc' := 192) rfl (hb hby at_175) rfl (tlt (by decide : ((0 : Int32) < (1 : Int32)))).1 (by decide) (by decide) (XS.iload XL.here hx rfl (hb hby at_192) rfl (XS.iconst XL.here hx rfl (hb hby at_194) (XS.icmpYes XL.here hx rfl (pc0 := 195) (pc' := 212) rfl (hb hby at_195) rfl (tlt (by decide : ((0 : Int32) < (2 : Int32)))).1 (by decide) (by decide) (XS.iconst XL.here hx rfl (hb hby at_212) kt)))))) ?_
              refine own_via (T' := T) (g' := (mkF m 225 #[.val (.int p1), .val (.int p2), .val (.int v1), .val (.int v2), .val (.int v3), .val (.int v4), .val (.int (0 : Int32)), .val (.ref em), .val (.ref b6), .val (.int (0 : Int32)), .val (.int (1 : Int32)), .val (.int (1 : Int32)), .unset, .unset, .unset] [(.int (0 : Int32)), (.int (2 : Int32))])) (fun _ kt => XS.iloadN XL.here hx rfl (hb hby at_213) rfl (XS.ifNo XL.here hx rfl (hb hby at_214) rfl ((if0 _ _).trans (feq hdp).1) (XS.iconst XL.here hx rfl (hb hby at_217) (XS.goto XL.here hx rfl (pc0 := 218) (pc' := 222) rfl (hb hby at_218) (by decide) (by decide) (XS.iadd XL.here hx rfl (hb hby at_222) rfl (XS.iload XL.here hx rfl (hb hby at_223) rfl kt)))))) ?_
              refine own_via (T' := T) (g' := (mkF m 230 #[.val (.int p1), .val (.int p2), .val (.int v1), .val (.int v2), .val (.int v3), .val (.int v4), .val (.int (0 : Int32)), .val (.ref em), .val (.ref b6), .val (.int (0 : Int32)), .val (.int (1 : Int32)), .val (.int (1 : Int32)), .val (.int (2 : Int32)), .unset, .unset] [(.ref b6)])) (fun _ kt => XS.iadd XL.here hx rfl (hb hby at_225) rfl (XS.istore XL.here hx rfl (hb hby at_226) rfl (l' := #[.val (.int p1), .val (.int p2), .val (.int v1), .val (.int v2), .val (.int v3), .val (.int v4), .val (.int (0 : Int32)), .val (.ref em), .val (.ref b6), .val (.int (0 : Int32)), .val (.int (1 : Int32)), .val (.int (1 : Int32)), .val (.int (2 : Int32)), .unset, .unset]) rfl (XS.aload XL.here hx rfl (hb hby at_228) rfl rfl kt))) ?_
              obtain ⟨T70, X70, e70, st70⟩ := getF XL hx hZ hown (host := "") (Or.inl (hw _ (List.mem_of_getElem? (i := 125) rfl))) Via.refl eL TL.f_size (g := (mkF m 230 #[.val (.int p1), .val (.int p2), .val (.int v1), .val (.int v2), .val (.int v3), .val (.int v4), .val (.int (0 : Int32)), .val (.ref em), .val (.ref b6), .val (.int (0 : Int32)), .val (.int (1 : Int32)), .val (.int (1 : Int32)), .val (.int (2 : Int32)), .unset, .unset] [(.ref b6)])) rfl rfl (hb hby at_230)
              refine own_via (T' := T70) (g' := (mkF m 245 #[.val (.int p1), .val (.int p2), .val (.int v1), .val (.int v2), .val (.int v3), .val (.int v4), .val (.int (0 : Int32)), .val (.ref em), .val (.ref b6), .val (.int (0 : Int32)), .val (.int (1 : Int32)), .val (.int (1 : Int32)), .val (.int (2 : Int32)), .val (.int (1 : Int32)), .unset] [])) (fun _ kt => st70 _ (XS.iload X70.here hx rfl (hb hby at_233) rfl (XS.icmpNo X70.here hx rfl (hb hby at_235) rfl (teq (by decide : ((2 : Int32) = (2 : Int32)))).2 (XS.iconst X70.here hx rfl (hb hby at_238) (XS.goto X70.here hx rfl (pc0 := 239) (pc' := 243) rfl (hb hby at_239) (by decide) (by decide) (XS.istore X70.here hx rfl (hb hby at_243) rfl (l' := #[.val (.int p1), .val (.int p2), .val (.int v1), .val (.int v2), .val (.int v3), .val (.int v4), .val (.int (0 : Int32)), .val (.ref em), .val (.ref b6), .val (.int (0 : Int32)), .val (.int (1 : Int32)), .val (.int (1 : Int32)), .val (.int (2 : Int32)), .val (.int (1 : Int32)), .unset]) rfl kt)))))) ?_
              refine own_via (T' := T70) (g' := (mkF m 247 #[.val (.int p1), .val (.int p2), .val (.int v1), .val (.int v2), .val (.int v3), .val (.int v4), .val (.int (0 : Int32)), .val (.ref em), .val (.ref b6), .val (.int (0 : Int32)), .val (.int (1 : Int32)), .val (.int (1 : Int32)), .val (.int (2 : Int32)), .val (.int (1 : Int32)), .unset] [(.ref b6)])) (fun _ kt => XS.aload X70.here hx rfl (hb hby at_245) rfl rfl kt) ?_
              obtain ⟨v71, T71, L71, X71, hQ71, st71⟩ := own_callV X70 hx hZ (y := (⟨"com/example/infoset/infoset/xdm/TreeBuffers", "close", "()V"⟩ : MethodName)) (z := (⟨"com/example/infoset/infoset/xdm/TreeBuffers", "close", "()V"⟩ : MethodName)) hown (hw _ (List.mem_of_getElem? (i := 126) rfl)) (hw _ (List.mem_of_getElem? (i := 127) rfl)) (notFace_of_selects (args := #[]) (mvT hZ (hw _ (List.mem_of_getElem? (i := 129) rfl)))) (hw _ (List.mem_of_getElem? (i := 129) rfl)) (hw _ (List.mem_of_getElem? (i := 128) rfl)) (hw _ (List.mem_of_getElem? (i := 6) rfl)) (hw _ (List.mem_of_getElem? (i := 130) rfl)) (by decide) (b := b6) (W := 0) (argsL := []) (rest := []) (rm10 l Z a0 hw [] b6 kd pa en nm vl ns fa op og pr 2 1 (own_up (own_up (fun _ => .int 0) 0 (.int (Int32.ofNat 1))) 1 (.int (Int32.ofNat 2))) (own_up (own_up (fun _ => .int 0) 0 (.int (0 : Int32))) 1 (.int (1 : Int32))) fg0 hh n0 zL gtb TL 1 (by decide) (by decide) rfl) (by decide) (by decide) (by decide) (by decide) e70 TL.ob.exa (g := (mkF m 247 #[.val (.int p1), .val (.int p2), .val (.int v1), .val (.int v2), .val (.int v3), .val (.int v4), .val (.int (0 : Int32)), .val (.ref em), .val (.ref b6), .val (.int (0 : Int32)), .val (.int (1 : Int32)), .val (.int (1 : Int32)), .val (.int (2 : Int32)), .val (.int (1 : Int32)), .unset] [(.ref b6)])) rfl (by rw [hml]; rfl) (lenOf pd_0 rfl) rfl (by show 2 * 0 + _ ≤ _; exact Nat.le_of_eq rfl) (hb hby at_247)
              obtain ⟨rfl, Nq71, Kq71, Tq71⟩ := hQ71
              replace Tq71 : own_TB Z T71.heap b6 kd pa en nm vl ns fa op og pr 2 1 (own_up (own_up (own_up (fun _ => .int 0) 0 (.int (Int32.ofNat 1))) 1 (.int (Int32.ofNat 2))) 1 (.int (Int32.ofNat 2))) (own_up (own_up (fun _ => .int 0) 0 (.int (0 : Int32))) 1 (.int (1 : Int32))) (own_up fg0 1 .null) := Tq71
              have f72 := OL.keep Kq71 (allS (by omega) (allS (by omega) (allS (by omega) all0)))
              have z71 : n0 ≤ T71.heap.size := Nat.le_trans zL Kq71.1
              have N71 := Fr.app NL Nq71
              refine own_via (T' := T71) (g' := (mkF m 257 #[.val (.int p1), .val (.int p2), .val (.int v1), .val (.int v2), .val (.int v3), .val (.int v4), .val (.int (0 : Int32)), .val (.ref em), .val (.ref b6), .val (.int (0 : Int32)), .val (.int (1 : Int32)), .val (.int (1 : Int32)), .val (.int (2 : Int32)), .val (.int (1 : Int32)), .unset] [(.ref b6)])) (fun _ kt => st71 _ (XS.iload X71.here hx rfl (hb hby at_250) rfl (XS.ifNo X71.here hx rfl (hb hby at_252) rfl ((if0 _ _).trans (feq (by decide : ¬ ((1 : Int32) = (0 : Int32)))).1) (XS.aload X71.here hx rfl (hb hby at_255) rfl rfl kt)))) ?_
              obtain ⟨T73, X73, e73, st73⟩ := getF X71 hx hZ hown (host := "") (Or.inl (hw _ (List.mem_of_getElem? (i := 125) rfl))) Via.refl rfl Tq71.f_size (g := (mkF m 257 #[.val (.int p1), .val (.int p2), .val (.int v1), .val (.int v2), .val (.int v3), .val (.int v4), .val (.int (0 : Int32)), .val (.ref em), .val (.ref b6), .val (.int (0 : Int32)), .val (.int (1 : Int32)), .val (.int (1 : Int32)), .val (.int (2 : Int32)), .val (.int (1 : Int32)), .unset] [(.ref b6)])) rfl rfl (hb hby at_257)
              refine own_via (T' := T73) (g' := (mkF m 267 #[.val (.int p1), .val (.int p2), .val (.int v1), .val (.int v2), .val (.int v3), .val (.int v4), .val (.int (0 : Int32)), .val (.ref em), .val (.ref b6), .val (.int (0 : Int32)), .val (.int (1 : Int32)), .val (.int (1 : Int32)), .val (.int (2 : Int32)), .val (.int (1 : Int32)), .unset] [(.ref b6)])) (fun _ kt => st73 _ (XS.iload X73.here hx rfl (hb hby at_260) rfl (XS.icmpNo X73.here hx rfl (hb hby at_262) rfl (teq (by decide : ((2 : Int32) = (2 : Int32)))).2 (XS.aload X73.here hx rfl (hb hby at_265) rfl rfl kt)))) ?_
              obtain ⟨T74, X74, e74, st74⟩ := getF X73 hx hZ hown (host := "") (Or.inl (hw _ (List.mem_of_getElem? (i := 131) rfl))) Via.refl e73 Tq71.f_ends (g := (mkF m 267 #[.val (.int p1), .val (.int p2), .val (.int v1), .val (.int v2), .val (.int v3), .val (.int v4), .val (.int (0 : Int32)), .val (.ref em), .val (.ref b6), .val (.int (0 : Int32)), .val (.int (1 : Int32)), .val (.int (1 : Int32)), .val (.int (2 : Int32)), .val (.int (1 : Int32)), .unset] [(.ref b6)])) rfl rfl (hb hby at_267)
              refine own_via (T' := T74) (g' := (mkF m 279 #[.val (.int p1), .val (.int p2), .val (.int v1), .val (.int v2), .val (.int v3), .val (.int v4), .val (.int (0 : Int32)), .val (.ref em), .val (.ref b6), .val (.int (0 : Int32)), .val (.int (1 : Int32)), .val (.int (1 : Int32)), .val (.int (2 : Int32)), .val (.int (1 : Int32)), .unset] [(.int (1 : Int32))])) (fun _ kt => st74 _ (XS.iload X74.here hx rfl (hb hby at_270) rfl (own_iaload X74 hx hZ e74 Tq71.a_en (j := (1 : Int32)) (i := 1) rfl (by decide) (g := (mkF m 272 #[.val (.int p1), .val (.int p2), .val (.int v1), .val (.int v2), .val (.int v3), .val (.int v4), .val (.int (0 : Int32)), .val (.ref em), .val (.ref b6), .val (.int (0 : Int32)), .val (.int (1 : Int32)), .val (.int (1 : Int32)), .val (.int (2 : Int32)), .val (.int (1 : Int32)), .unset] [(.int (1 : Int32)), (.ref en)])) rfl rfl (hb hby at_272) _ (XS.iload X74.here hx rfl (hb hby at_273) rfl (XS.icmpNo X74.here hx rfl (hb hby at_275) rfl (teq (by decide : ((2 : Int32) = (2 : Int32)))).2 (XS.iconst X74.here hx rfl (hb hby at_278) kt)))))) ?_
              refine own_via (T' := T74) (g' := (mkF m 294 #[.val (.int p1), .val (.int p2), .val (.int v1), .val (.int v2), .val (.int v3), .val (.int v4), .val (.int (0 : Int32)), .val (.ref em), .val (.ref b6), .val (.int (0 : Int32)), .val (.int (1 : Int32)), .val (.int (1 : Int32)), .val (.int (2 : Int32)), .val (.int (1 : Int32)), .unset] [])) (fun _ kt => XS.goto X74.here hx rfl (pc0 := 279) (pc' := 283) rfl (hb hby at_279) (by decide) (by decide) (XS.istore X74.here hx rfl (hb hby at_283) rfl (l' := #[.val (.int p1), .val (.int p2), .val (.int v1), .val (.int v2), .val (.int v3), .val (.int v4), .val (.int (0 : Int32)), .val (.ref em), .val (.ref b6), .val (.int (0 : Int32)), .val (.int (1 : Int32)), .val (.int (1 : Int32)), .val (.int (2 : Int32)), .val (.int (1 : Int32)), .unset]) rfl (XS.iloadN X74.here hx rfl (hb hby at_285) rfl (XS.ifNo X74.here hx rfl (hb hby at_286) rfl ((if0 _ _).trans (feq hdp).1) (XS.iload X74.here hx rfl (hb hby at_289) rfl (XS.ifNo X74.here hx rfl (hb hby at_291) rfl ((if0 _ _).trans (feq (by decide : ¬ ((1 : Int32) = (0 : Int32)))).1) kt)))))) ?_
              refine own_via (T' := T74) (g' := (mkF m 296 #[.val (.int p1), .val (.int p2), .val (.int v1), .val (.int v2), .val (.int v3), .val (.int v4), .val (.int (0 : Int32)), .val (.ref em), .val (.ref b6), .val (.int (0 : Int32)), .val (.int (1 : Int32)), .val (.int (1 : Int32)), .val (.int (2 : Int32)), .val (.int (1 : Int32)), .unset] [(.ref b6)])) (fun _ kt => XS.aload X74.here hx rfl (hb hby at_294) rfl rfl kt) ?_
              obtain ⟨T75, X75, e75, st75⟩ := getF X74 hx hZ hown (host := "") (Or.inl (hw _ (List.mem_of_getElem? (i := 131) rfl))) Via.refl e74 Tq71.f_ends (g := (mkF m 296 #[.val (.int p1), .val (.int p2), .val (.int v1), .val (.int v2), .val (.int v3), .val (.int v4), .val (.int (0 : Int32)), .val (.ref em), .val (.ref b6), .val (.int (0 : Int32)), .val (.int (1 : Int32)), .val (.int (1 : Int32)), .val (.int (2 : Int32)), .val (.int (1 : Int32)), .unset] [(.ref b6)])) rfl rfl (hb hby at_296)
              refine own_via (T' := T75) (g' := (mkF m 308 #[.val (.int p1), .val (.int p2), .val (.int v1), .val (.int v2), .val (.int v3), .val (.int v4), .val (.int (0 : Int32)), .val (.ref em), .val (.ref b6), .val (.int (0 : Int32)), .val (.int (1 : Int32)), .val (.int (1 : Int32)), .val (.int (2 : Int32)), .val (.int (1 : Int32)), .unset] [(.ref b6)])) (fun _ kt => st75 _ (XS.iload X75.here hx rfl (hb hby at_299) rfl (own_iaload X75 hx hZ e75 Tq71.a_en (j := (0 : Int32)) (i := 0) rfl (by decide) (g := (mkF m 301 #[.val (.int p1), .val (.int p2), .val (.int v1), .val (.int v2), .val (.int v3), .val (.int v4), .val (.int (0 : Int32)), .val (.ref em), .val (.ref b6), .val (.int (0 : Int32)), .val (.int (1 : Int32)), .val (.int (1 : Int32)), .val (.int (2 : Int32)), .val (.int (1 : Int32)), .unset] [(.int (0 : Int32)), (.ref en)])) rfl rfl (hb hby at_301) _ (XS.iconst X75.here hx rfl (hb hby at_302) (XS.icmpNo X75.here hx rfl (hb hby at_303) rfl (teq (by decide : ((1 : Int32) = (1 : Int32)))).2 (XS.aload X75.here hx rfl (hb hby at_306) rfl rfl kt)))))) ?_
              obtain ⟨v76, T76, L76, X76, hQ76, st76⟩ := own_callV X75 hx hZ (y := (⟨"com/example/infoset/infoset/xdm/TreeBuffers", "depth", "()I"⟩ : MethodName)) (z := (⟨"com/example/infoset/infoset/xdm/TreeBuffers", "depth", "()I"⟩ : MethodName)) hown (hw _ (List.mem_of_getElem? (i := 132) rfl)) (hw _ (List.mem_of_getElem? (i := 133) rfl)) (notFace_of_selects (args := #[]) (mvT hZ (hw _ (List.mem_of_getElem? (i := 135) rfl)))) (hw _ (List.mem_of_getElem? (i := 135) rfl)) (hw _ (List.mem_of_getElem? (i := 134) rfl)) (hw _ (List.mem_of_getElem? (i := 6) rfl)) (hw _ (List.mem_of_getElem? (i := 136) rfl)) (by decide) (b := b6) (W := 0) (argsL := []) (rest := []) (rm11 l Z a0 hw [] b6 kd pa en nm vl ns fa op og pr 2 1 (own_up (own_up (own_up (fun _ => .int 0) 0 (.int (Int32.ofNat 1))) 1 (.int (Int32.ofNat 2))) 1 (.int (Int32.ofNat 2))) (own_up (own_up (fun _ => .int 0) 0 (.int (0 : Int32))) 1 (.int (1 : Int32))) (own_up fg0 1 .null) T71.heap n0 z71 gtb Tq71) (by decide) (by decide) (by decide) (by decide) e75 Tq71.ob.exa (g := (mkF m 308 #[.val (.int p1), .val (.int p2), .val (.int v1), .val (.int v2), .val (.int v3), .val (.int v4), .val (.int (0 : Int32)), .val (.ref em), .val (.ref b6), .val (.int (0 : Int32)), .val (.int (1 : Int32)), .val (.int (1 : Int32)), .val (.int (2 : Int32)), .val (.int (1 : Int32)), .unset] [(.ref b6)])) rfl (by rw [hml]; rfl) (lenOf pd_4 rfl) rfl (by show 2 * 0 + _ ≤ _; exact Nat.le_of_eq rfl) (hb hby at_308)
              obtain ⟨rfl, hL76, e76⟩ := hQ76
              replace X76 := own_pure (v := none) (r := none) X76 rfl rfl hL76
              refine own_via (T' := T76) (g' := (mkF m 317 #[.val (.int p1), .val (.int p2), .val (.int v1), .val (.int v2), .val (.int v3), .val (.int v4), .val (.int (0 : Int32)), .val (.ref em), .val (.ref b6), .val (.int (0 : Int32)), .val (.int (1 : Int32)), .val (.int (1 : Int32)), .val (.int (2 : Int32)), .val (.int (1 : Int32)), .unset] [(.ref b6)])) (fun _ kt => st76 _ (XS.iconst X76.here hx rfl (hb hby at_311) (XS.icmpNo X76.here hx rfl (hb hby at_312) rfl (teq (by decide : ((1 : Int32) = (1 : Int32)))).2 (XS.aload X76.here hx rfl (hb hby at_315) rfl rfl kt)))) ?_
              obtain ⟨v77, T77, L77, X77, hQ77, st77⟩ := own_callV X76 hx hZ (y := (⟨"com/example/infoset/infoset/xdm/TreeBuffers", "innermost", "()I"⟩ : MethodName)) (z := (⟨"com/example/infoset/infoset/xdm/TreeBuffers", "innermost", "()I"⟩ : MethodName)) hown (hw _ (List.mem_of_getElem? (i := 137) rfl)) (hw _ (List.mem_of_getElem? (i := 138) rfl)) (notFace_of_selects (args := #[]) (mvT hZ (hw _ (List.mem_of_getElem? (i := 140) rfl)))) (hw _ (List.mem_of_getElem? (i := 140) rfl)) (hw _ (List.mem_of_getElem? (i := 139) rfl)) (hw _ (List.mem_of_getElem? (i := 6) rfl)) (hw _ (List.mem_of_getElem? (i := 141) rfl)) (by decide) (b := b6) (W := 0) (argsL := []) (rest := []) (rm12s l Z a0 hw [] b6 kd pa en nm vl ns fa op og pr 2 0 (own_up (own_up (own_up (fun _ => .int 0) 0 (.int (Int32.ofNat 1))) 1 (.int (Int32.ofNat 2))) 1 (.int (Int32.ofNat 2))) (own_up (own_up (fun _ => .int 0) 0 (.int (0 : Int32))) 1 (.int (1 : Int32))) (own_up fg0 1 .null) T71.heap n0 z71 gtb Tq71 0 (by decide) rfl) (by decide) (by decide) (by decide) (by decide) e76 Tq71.ob.exa (g := (mkF m 317 #[.val (.int p1), .val (.int p2), .val (.int v1), .val (.int v2), .val (.int v3), .val (.int v4), .val (.int (0 : Int32)), .val (.ref em), .val (.ref b6), .val (.int (0 : Int32)), .val (.int (1 : Int32)), .val (.int (1 : Int32)), .val (.int (2 : Int32)), .val (.int (1 : Int32)), .unset] [(.ref b6)])) rfl (by rw [hml]; rfl) (lenOf pd_4 rfl) rfl (by show 2 * 0 + _ ≤ _; exact Nat.le_of_eq rfl) (hb hby at_317)
              obtain ⟨rfl, hL77, e77⟩ := hQ77
              replace X77 := own_pure (v := none) (r := none) X77 rfl rfl hL77
              refine own_via (T' := T77) (g' := (mkF m 327 #[.val (.int p1), .val (.int p2), .val (.int v1), .val (.int v2), .val (.int v3), .val (.int v4), .val (.int (0 : Int32)), .val (.ref em), .val (.ref b6), .val (.int (0 : Int32)), .val (.int (1 : Int32)), .val (.int (1 : Int32)), .val (.int (2 : Int32)), .val (.int (1 : Int32)), .unset] [(.ref b6)])) (fun _ kt => st77 _ (XS.iload X77.here hx rfl (hb hby at_320) rfl (XS.icmpNo X77.here hx rfl (hb hby at_322) rfl (teq (by decide : ((0 : Int32) = (0 : Int32)))).2 (XS.aload X77.here hx rfl (hb hby at_325) rfl rfl kt)))) ?_
              obtain ⟨v78, T78, L78, X78, hQ78, st78⟩ := own_callV X77 hx hZ (y := (⟨"com/example/infoset/infoset/xdm/TreeBuffers", "innermostOriginal", "()Lcom/example/infoset/infoset/xdm/NamespaceBindings;"⟩ : MethodName)) (z := (⟨"com/example/infoset/infoset/xdm/TreeBuffers", "innermostOriginal", "()Lcom/example/infoset/infoset/xdm/NamespaceBindings;"⟩ : MethodName)) hown (hw _ (List.mem_of_getElem? (i := 142) rfl)) (hw _ (List.mem_of_getElem? (i := 143) rfl)) (notFace_of_selects (args := #[]) (mvT hZ (hw _ (List.mem_of_getElem? (i := 145) rfl)))) (hw _ (List.mem_of_getElem? (i := 145) rfl)) (hw _ (List.mem_of_getElem? (i := 144) rfl)) (hw _ (List.mem_of_getElem? (i := 6) rfl)) (hw _ (List.mem_of_getElem? (i := 146) rfl)) (by decide) (b := b6) (W := 0) (argsL := []) (rest := []) (rm13s l Z a0 hw [] b6 kd pa en nm vl ns fa op og pr 2 0 (own_up (own_up (own_up (fun _ => .int 0) 0 (.int (Int32.ofNat 1))) 1 (.int (Int32.ofNat 2))) 1 (.int (Int32.ofNat 2))) (own_up (own_up (fun _ => .int 0) 0 (.int (0 : Int32))) 1 (.int (1 : Int32))) (own_up fg0 1 .null) T71.heap n0 z71 gtb Tq71 (by decide) hgr) (by decide) (by decide) (by decide) (by decide) e77 Tq71.ob.exa (g := (mkF m 327 #[.val (.int p1), .val (.int p2), .val (.int v1), .val (.int v2), .val (.int v3), .val (.int v4), .val (.int (0 : Int32)), .val (.ref em), .val (.ref b6), .val (.int (0 : Int32)), .val (.int (1 : Int32)), .val (.int (1 : Int32)), .val (.int (2 : Int32)), .val (.int (1 : Int32)), .unset] [(.ref b6)])) rfl (by rw [hml]; rfl) (lenOf pd_6 rfl) rfl (by show 2 * 0 + _ ≤ _; exact Nat.le_of_eq rfl) (hb hby at_327)
              obtain ⟨rfl, hL78, e78⟩ := hQ78
              replace X78 := own_pure (v := none) (r := none) X78 rfl rfl hL78
              refine own_via (T' := T78) (g' := (mkF m 331 #[.val (.int p1), .val (.int p2), .val (.int v1), .val (.int v2), .val (.int v3), .val (.int v4), .val (.int (0 : Int32)), .val (.ref em), .val (.ref b6), .val (.int (0 : Int32)), .val (.int (1 : Int32)), .val (.int (1 : Int32)), .val (.int (2 : Int32)), .val (.int (1 : Int32)), .unset] [(.int v2), (fg0 0)])) (fun _ kt => st78 _ (XS.iloadN X78.here hx rfl (hb hby at_330) rfl kt)) ?_
              by_cases hc331_79 : v2 = (0 : Int32)
              · refine own_via (T' := T78) (g' := (mkF m 340 #[.val (.int p1), .val (.int p2), .val (.int v1), .val (.int v2), .val (.int v3), .val (.int v4), .val (.int (0 : Int32)), .val (.ref em), .val (.ref b6), .val (.int (0 : Int32)), .val (.int (1 : Int32)), .val (.int (1 : Int32)), .val (.int (2 : Int32)), .val (.int (1 : Int32)), .unset] [.null, (fg0 0)])) (fun _ kt => XS.ifYes X78.here hx rfl (pc0 := 331) (pc' := 339) rfl (hb hby at_331) rfl ((if0 _ _).trans (teq hc331_79).1) (by decide) (by decide) (XS.aconstNull X78.here hx rfl (hb hby at_339) kt)) ?_
                rw [hg0 hc331_79]
                refine own_via (T' := T78) (g' := (mkF m 392 #[.val (.int p1), .val (.int p2), .val (.int v1), .val (.int v2), .val (.int v3), .val (.int v4), .val (.int (0 : Int32)), .val (.ref em), .val (.ref b6), .val (.int (0 : Int32)), .val (.int (1 : Int32)), .val (.int (1 : Int32)), .val (.int (2 : Int32)), .val (.int (1 : Int32)), .unset] [(.int (0 : Int32))])) (fun _ kt => Jvm.RoadKit.acmp (g := (mkF m 340 #[.val (.int p1), .val (.int p2), .val (.int v1), .val (.int v2), .val (.int v3), .val (.int v4), .val (.int (0 : Int32)), .val (.ref em), .val (.ref b6), .val (.int (0 : Int32)), .val (.int (1 : Int32)), .val (.int (1 : Int32)), .val (.int (2 : Int32)), .val (.int (1 : Int32)), .unset] [.null, .null])) X78 hx rfl rfl rfl (pc0 := 340) (pc' := 343) (same := true) rfl (hb hby at_340) rfl (decide_eq_true rfl) (by decide) (by decide) (XS.iconst X78.here hx rfl (hb hby at_343) (XS.goto X78.here hx rfl (pc0 := 344) (pc' := 348) rfl (hb hby at_344) (by decide) (by decide) (XS.istore X78.here hx rfl (hb hby at_348) rfl (l' := #[.val (.int p1), .val (.int p2), .val (.int v1), .val (.int v2), .val (.int v3), .val (.int v4), .val (.int (0 : Int32)), .val (.ref em), .val (.ref b6), .val (.int (0 : Int32)), .val (.int (1 : Int32)), .val (.int (1 : Int32)), .val (.int (2 : Int32)), .val (.int (1 : Int32)), .unset]) rfl (XS.goto X78.here hx rfl (pc0 := 350) (pc' := 390) rfl (hb hby at_350) (by decide) (by decide) (XS.iload X78.here hx rfl (hb hby at_390) rfl kt)))))) ?_
                refine own_via (T' := T78) (g' := (mkF m 462 #[.val (.int p1), .val (.int p2), .val (.int v1), .val (.int v2), .val (.int v3), .val (.int v4), .val (.int (0 : Int32)), .val (.ref em), .val (.ref b6), .val (.int (0 : Int32)), .val (.int (1 : Int32)), .val (.int (1 : Int32)), .val (.int (2 : Int32)), .val (.int (1 : Int32)), .unset] [(.ref b6)])) (fun _ kt => XS.iconst X78.here hx rfl (hb hby at_392) (XS.icmpYes X78.here hx rfl (pc0 := 393) (pc' := 425) rfl (hb hby at_393) rfl (tlt (by decide : ((0 : Int32) < (1 : Int32)))).1 (by decide) (by decide) (XS.iload X78.here hx rfl (hb hby at_425) rfl (XS.iconst X78.here hx rfl (hb hby at_427) (XS.icmpYes X78.here hx rfl (pc0 := 428) (pc' := 460) rfl (hb hby at_428) rfl (tlt (by decide : ((0 : Int32) < (2 : Int32)))).1 (by decide) (by decide) (XS.aload X78.here hx rfl (hb hby at_460) rfl rfl kt)))))) ?_
                obtain ⟨T80, X80, e80, st80⟩ := getS2 X78 hx hZ hown (host := "") (Or.inl (hw _ (List.mem_of_getElem? (i := 97) rfl))) Via.refl e78 (S_k1.ext f72.2) (g := (mkF m 462 #[.val (.int p1), .val (.int p2), .val (.int v1), .val (.int v2), .val (.int v3), .val (.int v4), .val (.int (0 : Int32)), .val (.ref em), .val (.ref b6), .val (.int (0 : Int32)), .val (.int (1 : Int32)), .val (.int (1 : Int32)), .val (.int (2 : Int32)), .val (.int (1 : Int32)), .unset] [(.ref b6)])) rfl (hb hby at_462)
                refine own_via (T' := T80) (g' := (mkF m 476 #[.val (.int p1), .val (.int p2), .val (.int v1), .val (.int v2), .val (.int v3), .val (.int v4), .val (.int (0 : Int32)), .val (.ref em), .val (.ref b6), .val (.int (0 : Int32)), .val (.int (1 : Int32)), .val (.int (1 : Int32)), .val (.int (2 : Int32)), .val (.int (1 : Int32)), .unset] [.null, (.int (0 : Int32)), (.ref k1), (.ref b6)])) (fun _ kt => st80 _ (XS.iloadN X80.here hx rfl (hb hby at_465) rfl (XS.ifNo X80.here hx rfl (hb hby at_466) rfl ((if0 _ _).trans (feq hdp).1) (XS.iload X80.here hx rfl (hb hby at_469) rfl (XS.goto X80.here hx rfl (pc0 := 471) (pc' := 475) rfl (hb hby at_471) (by decide) (by decide) (XS.aconstNull X80.here hx rfl (hb hby at_475) kt)))))) ?_
                refine own_via (T' := T80) (g' := (mkF m 478 #[.val (.int p1), .val (.int p2), .val (.int v1), .val (.int v2), .val (.int v3), .val (.int v4), .val (.int (0 : Int32)), .val (.ref em), .val (.ref b6), .val (.int (0 : Int32)), .val (.int (1 : Int32)), .val (.int (1 : Int32)), .val (.int (2 : Int32)), .val (.int (1 : Int32)), .unset] [.null, .null, .null, (.int (0 : Int32)), (.ref k1), (.ref b6)])) (fun _ kt => XS.aconstNull X80.here hx rfl (hb hby at_476) (XS.aconstNull X80.here hx rfl (hb hby at_477) kt)) ?_
                obtain ⟨v81, T81, L81, X81, hQ81, st81⟩ := own_callV X80 hx hZ (y := (⟨"com/example/infoset/infoset/xdm/TreeBuffers", "add", "(Lcom/example/infoset/infoset/xdm/NodeKind;ILcom/example/infoset/infoset/xdm/QName;Ljava/lang/String;Lcom/example/infoset/infoset/xdm/NamespaceBindings;)I"⟩ : MethodName)) (z := (⟨"com/example/infoset/infoset/xdm/TreeBuffers", "add", "(Lcom/example/infoset/infoset/xdm/NodeKind;ILcom/example/infoset/infoset/xdm/QName;Ljava/lang/String;Lcom/example/infoset/infoset/xdm/NamespaceBindings;)I"⟩ : MethodName)) hown (hw _ (List.mem_of_getElem? (i := 100) rfl)) (hw _ (List.mem_of_getElem? (i := 101) rfl)) (notFace_of_selects (args := #[]) (mvT hZ (hw _ (List.mem_of_getElem? (i := 103) rfl)))) (hw _ (List.mem_of_getElem? (i := 103) rfl)) (hw _ (List.mem_of_getElem? (i := 102) rfl)) (hw _ (List.mem_of_getElem? (i := 6) rfl)) (hw _ (List.mem_of_getElem? (i := 104) rfl)) (by decide) (b := b6) (W := 0) (argsL := [(.ref k1), (.int (0 : Int32)), .null, .null, .null]) (rest := []) (rm7 l Z a0 hw [] b6 kd pa en nm vl ns fa op og pr 2 1 (own_up (own_up (own_up (fun _ => .int 0) 0 (.int (Int32.ofNat 1))) 1 (.int (Int32.ofNat 2))) 1 (.int (Int32.ofNat 2))) (own_up (own_up (fun _ => .int 0) 0 (.int (0 : Int32))) 1 (.int (1 : Int32))) (own_up fg0 1 .null) T71.heap n0 z71 gtb Tq71 k1 (0 : Int32) 1 (by decide) (E_k1.ext f72.2) (F_k1.ext f72.2)) (by decide) (by decide) (by decide) (by decide) e80 Tq71.ob.exa (g := (mkF m 478 #[.val (.int p1), .val (.int p2), .val (.int v1), .val (.int v2), .val (.int v3), .val (.int v4), .val (.int (0 : Int32)), .val (.ref em), .val (.ref b6), .val (.int (0 : Int32)), .val (.int (1 : Int32)), .val (.int (1 : Int32)), .val (.int (2 : Int32)), .val (.int (1 : Int32)), .unset] [.null, .null, .null, (.int (0 : Int32)), (.ref k1), (.ref b6)])) rfl (by rw [hml]; rfl) (lenOf pd_7 rfl) rfl (by show 2 * 0 + _ ≤ _; exact Nat.le_of_eq rfl) (hb hby at_478)
                obtain ⟨rfl, Nq81, Kq81, Tq81⟩ := hQ81
                replace Tq81 : own_TB Z T81.heap b6 kd pa en nm vl ns fa op og pr 3 1 (own_up (own_up (own_up (own_up (fun _ => .int 0) 0 (.int (Int32.ofNat 1))) 1 (.int (Int32.ofNat 2))) 1 (.int (Int32.ofNat 2))) 2 (.int (Int32.ofNat 3))) (own_up (own_up (fun _ => .int 0) 0 (.int (0 : Int32))) 1 (.int (1 : Int32))) (own_up fg0 1 .null) := Tq81
                have f82 := f72.keep Kq81 (allS (by omega) (allS (by omega) (allS (by omega) (allS (by omega) (allS (by omega) (allS (by omega) (allS (by omega) (allS (by omega) all0))))))))
                have z81 : n0 ≤ T81.heap.size := Nat.le_trans z71 Kq81.1
                have N81 := Fr.app N71 Nq81
                refine own_via (T' := T81) (g' := (mkF m 487 #[.val (.int p1), .val (.int p2), .val (.int v1), .val (.int v2), .val (.int v3), .val (.int v4), .val (.int (0 : Int32)), .val (.ref em), .val (.ref b6), .val (.int (0 : Int32)), .val (.int (1 : Int32)), .val (.int (1 : Int32)), .val (.int (2 : Int32)), .val (.int (1 : Int32)), .val (.int (2 : Int32))] [(.int (2 : Int32)), (.ref b6)])) (fun _ kt => st81 _ (XS.istore X81.here hx rfl (hb hby at_481) rfl (l' := #[.val (.int p1), .val (.int p2), .val (.int v1), .val (.int v2), .val (.int v3), .val (.int v4), .val (.int (0 : Int32)), .val (.ref em), .val (.ref b6), .val (.int (0 : Int32)), .val (.int (1 : Int32)), .val (.int (1 : Int32)), .val (.int (2 : Int32)), .val (.int (1 : Int32)), .val (.int (2 : Int32))]) rfl (XS.aload X81.here hx rfl (hb hby at_483) rfl rfl (XS.iload X81.here hx rfl (hb hby at_485) rfl kt)))) ?_
                obtain ⟨v83, T83, L83, X83, hQ83, st83⟩ := own_callV X81 hx hZ (y := (⟨"com/example/infoset/infoset/xdm/TreeBuffers", "open", "(I)V"⟩ : MethodName)) (z := (⟨"com/example/infoset/infoset/xdm/TreeBuffers", "open", "(I)V"⟩ : MethodName)) hown (hw _ (List.mem_of_getElem? (i := 118) rfl)) (hw _ (List.mem_of_getElem? (i := 119) rfl)) (notFace_of_selects (args := #[]) (mvT hZ (hw _ (List.mem_of_getElem? (i := 121) rfl)))) (hw _ (List.mem_of_getElem? (i := 121) rfl)) (hw _ (List.mem_of_getElem? (i := 120) rfl)) (hw _ (List.mem_of_getElem? (i := 6) rfl)) (hw _ (List.mem_of_getElem? (i := 122) rfl)) (by decide) (b := b6) (W := 0) (argsL := [(.int (2 : Int32))]) (rest := []) (rm9 l Z a0 hw [] b6 kd pa en nm vl ns fa op og pr 3 1 (own_up (own_up (own_up (own_up (fun _ => .int 0) 0 (.int (Int32.ofNat 1))) 1 (.int (Int32.ofNat 2))) 1 (.int (Int32.ofNat 2))) 2 (.int (Int32.ofNat 3))) (own_up (own_up (fun _ => .int 0) 0 (.int (0 : Int32))) 1 (.int (1 : Int32))) (own_up fg0 1 .null) T81.heap n0 z81 gtb Tq81 (2 : Int32) (by decide)) (by decide) (by decide) (by decide) (by decide) rfl Tq81.ob.exa (g := (mkF m 487 #[.val (.int p1), .val (.int p2), .val (.int v1), .val (.int v2), .val (.int v3), .val (.int v4), .val (.int (0 : Int32)), .val (.ref em), .val (.ref b6), .val (.int (0 : Int32)), .val (.int (1 : Int32)), .val (.int (1 : Int32)), .val (.int (2 : Int32)), .val (.int (1 : Int32)), .val (.int (2 : Int32))] [(.int (2 : Int32)), (.ref b6)])) rfl (by rw [hml]; rfl) (lenOf pd_2 rfl) rfl (by show 2 * 0 + _ ≤ _; exact Nat.le_of_eq rfl) (hb hby at_487)
                obtain ⟨rfl, Nq83, Kq83, Tq83⟩ := hQ83
                replace Tq83 : own_TB Z T83.heap b6 kd pa en nm vl ns fa op og pr 3 2 (own_up (own_up (own_up (own_up (fun _ => .int 0) 0 (.int (Int32.ofNat 1))) 1 (.int (Int32.ofNat 2))) 1 (.int (Int32.ofNat 2))) 2 (.int (Int32.ofNat 3))) (own_up (own_up (own_up (fun _ => .int 0) 0 (.int (0 : Int32))) 1 (.int (1 : Int32))) 1 (.int (2 : Int32))) (own_up fg0 1 .null) := Tq83
                have f84 := f82.keep Kq83 (allS (by omega) (allS (by omega) all0))
                have z83 : n0 ≤ T83.heap.size := Nat.le_trans z81 Kq83.1
                have N83 := Fr.app N81 Nq83
                refine own_via (T' := T83) (g' := (mkF m 497 #[.val (.int p1), .val (.int p2), .val (.int v1), .val (.int v2), .val (.int v3), .val (.int v4), .val (.int (0 : Int32)), .val (.ref em), .val (.ref b6), .val (.int (0 : Int32)), .val (.int (1 : Int32)), .val (.int (1 : Int32)), .val (.int (2 : Int32)), .val (.int (1 : Int32)), .val (.int (2 : Int32))] [(.ref b6)])) (fun _ kt => st83 _ (XS.iload X83.here hx rfl (hb hby at_490) rfl (XS.ifNo X83.here hx rfl (hb hby at_492) rfl ((if0 _ _).trans (feq (by decide : ¬ ((1 : Int32) = (0 : Int32)))).1) (XS.aload X83.here hx rfl (hb hby at_495) rfl rfl kt)))) ?_
                obtain ⟨v85, T85, L85, X85, hQ85, st85⟩ := own_callV X83 hx hZ (y := (⟨"com/example/infoset/infoset/xdm/TreeBuffers", "innermostOriginal", "()Lcom/example/infoset/infoset/xdm/NamespaceBindings;"⟩ : MethodName)) (z := (⟨"com/example/infoset/infoset/xdm/TreeBuffers", "innermostOriginal", "()Lcom/example/infoset/infoset/xdm/NamespaceBindings;"⟩ : MethodName)) hown (hw _ (List.mem_of_getElem? (i := 142) rfl)) (hw _ (List.mem_of_getElem? (i := 143) rfl)) (notFace_of_selects (args := #[]) (mvT hZ (hw _ (List.mem_of_getElem? (i := 145) rfl)))) (hw _ (List.mem_of_getElem? (i := 145) rfl)) (hw _ (List.mem_of_getElem? (i := 144) rfl)) (hw _ (List.mem_of_getElem? (i := 6) rfl)) (hw _ (List.mem_of_getElem? (i := 146) rfl)) (by decide) (b := b6) (W := 0) (argsL := []) (rest := []) (rm13s l Z a0 hw [] b6 kd pa en nm vl ns fa op og pr 3 1 (own_up (own_up (own_up (own_up (fun _ => .int 0) 0 (.int (Int32.ofNat 1))) 1 (.int (Int32.ofNat 2))) 1 (.int (Int32.ofNat 2))) 2 (.int (Int32.ofNat 3))) (own_up (own_up (own_up (fun _ => .int 0) 0 (.int (0 : Int32))) 1 (.int (1 : Int32))) 1 (.int (2 : Int32))) (own_up fg0 1 .null) T83.heap n0 z83 gtb Tq83 (by decide) rfl) (by decide) (by decide) (by decide) (by decide) rfl Tq83.ob.exa (g := (mkF m 497 #[.val (.int p1), .val (.int p2), .val (.int v1), .val (.int v2), .val (.int v3), .val (.int v4), .val (.int (0 : Int32)), .val (.ref em), .val (.ref b6), .val (.int (0 : Int32)), .val (.int (1 : Int32)), .val (.int (1 : Int32)), .val (.int (2 : Int32)), .val (.int (1 : Int32)), .val (.int (2 : Int32))] [(.ref b6)])) rfl (by rw [hml]; rfl) (lenOf pd_6 rfl) rfl (by show 2 * 0 + _ ≤ _; exact Nat.le_of_eq rfl) (hb hby at_497)
                obtain ⟨rfl, hL85, e85⟩ := hQ85
                replace X85 := own_pure (v := none) (r := none) X85 rfl rfl hL85
                refine own_via (T' := T85) (g' := (mkF m 505 #[.val (.int p1), .val (.int p2), .val (.int v1), .val (.int v2), .val (.int v3), .val (.int v4), .val (.int (0 : Int32)), .val (.ref em), .val (.ref b6), .val (.int (0 : Int32)), .val (.int (1 : Int32)), .val (.int (1 : Int32)), .val (.int (2 : Int32)), .val (.int (1 : Int32)), .val (.int (2 : Int32))] [(.ref b6)])) (fun _ kt => st85 _ (XS.ifnonnullNo X85.here hx rfl (hb hby at_500) rfl (XS.aload X85.here hx rfl (hb hby at_503) rfl rfl kt))) ?_
                obtain ⟨T86, X86, e86, st86⟩ := getF X85 hx hZ hown (host := "") (Or.inl (hw _ (List.mem_of_getElem? (i := 131) rfl))) Via.refl e85 Tq83.f_ends (g := (mkF m 505 #[.val (.int p1), .val (.int p2), .val (.int v1), .val (.int v2), .val (.int v3), .val (.int v4), .val (.int (0 : Int32)), .val (.ref em), .val (.ref b6), .val (.int (0 : Int32)), .val (.int (1 : Int32)), .val (.int (1 : Int32)), .val (.int (2 : Int32)), .val (.int (1 : Int32)), .val (.int (2 : Int32))] [(.ref b6)])) rfl rfl (hb hby at_505)
                refine own_via (T' := T86) (g' := (mkF m 517 #[.val (.int p1), .val (.int p2), .val (.int v1), .val (.int v2), .val (.int v3), .val (.int v4), .val (.int (0 : Int32)), .val (.ref em), .val (.ref b6), .val (.int (0 : Int32)), .val (.int (1 : Int32)), .val (.int (1 : Int32)), .val (.int (2 : Int32)), .val (.int (1 : Int32)), .val (.int (2 : Int32))] [(.int (1 : Int32))])) (fun _ kt => st86 _ (XS.iload X86.here hx rfl (hb hby at_508) rfl (own_iaload X86 hx hZ e86 Tq83.a_en (j := (1 : Int32)) (i := 1) rfl (by decide) (g := (mkF m 510 #[.val (.int p1), .val (.int p2), .val (.int v1), .val (.int v2), .val (.int v3), .val (.int v4), .val (.int (0 : Int32)), .val (.ref em), .val (.ref b6), .val (.int (0 : Int32)), .val (.int (1 : Int32)), .val (.int (1 : Int32)), .val (.int (2 : Int32)), .val (.int (1 : Int32)), .val (.int (2 : Int32))] [(.int (1 : Int32)), (.ref en)])) rfl rfl (hb hby at_510) _ (XS.iload X86.here hx rfl (hb hby at_511) rfl (XS.icmpNo X86.here hx rfl (hb hby at_513) rfl (teq (by decide : ((2 : Int32) = (2 : Int32)))).2 (XS.iconst X86.here hx rfl (hb hby at_516) kt)))))) ?_
                refine own_via (T' := T86) (g' := (mkF m 525 #[.val (.int p1), .val (.int p2), .val (.int v1), .val (.int v2), .val (.int v3), .val (.int v4), .val (.int (0 : Int32)), .val (.ref em), .val (.ref b6), .val (.int (0 : Int32)), .val (.int (1 : Int32)), .val (.int (1 : Int32)), .val (.int (2 : Int32)), .val (.int (1 : Int32)), .val (.int (2 : Int32))] [(.int (1 : Int32))])) (fun _ kt => XS.goto X86.here hx rfl (pc0 := 517) (pc' := 521) rfl (hb hby at_517) (by decide) (by decide) (XS.istore X86.here hx rfl (hb hby at_521) rfl (l' := #[.val (.int p1), .val (.int p2), .val (.int v1), .val (.int v2), .val (.int v3), .val (.int v4), .val (.int (0 : Int32)), .val (.ref em), .val (.ref b6), .val (.int (0 : Int32)), .val (.int (1 : Int32)), .val (.int (1 : Int32)), .val (.int (2 : Int32)), .val (.int (1 : Int32)), .val (.int (2 : Int32))]) rfl (XS.iload X86.here hx rfl (hb hby at_523) rfl kt))) ?_
                exact own_retZ X86 hx hret hlk (hb hby at_525) (by decide) ⟨rfl, N83⟩ (by decide) (by decide)
              · refine own_via (T' := T78) (g' := (mkF m 340 #[.val (.int p1), .val (.int p2), .val (.int v1), .val (.int v2), .val (.int v3), .val (.int v4), .val (.int (0 : Int32)), .val (.ref em), .val (.ref b6), .val (.int (0 : Int32)), .val (.int (1 : Int32)), .val (.int (1 : Int32)), .val (.int (2 : Int32)), .val (.int (1 : Int32)), .unset] [(.ref em), (fg0 0)])) (fun _ kt => XS.ifNo X78.here hx rfl (hb hby at_331) rfl ((if0 _ _).trans (feq hc331_79).1) (XS.aload X78.here hx rfl (hb hby at_334) rfl rfl (XS.goto X78.here hx rfl (pc0 := 336) (pc' := 340) rfl (hb hby at_336) (by decide) (by decide) kt))) ?_
                rw [hg1 hc331_79]
                refine own_via (T' := T78) (g' := (mkF m 392 #[.val (.int p1), .val (.int p2), .val (.int v1), .val (.int v2), .val (.int v3), .val (.int v4), .val (.int (0 : Int32)), .val (.ref em), .val (.ref b6), .val (.int (0 : Int32)), .val (.int (1 : Int32)), .val (.int (1 : Int32)), .val (.int (2 : Int32)), .val (.int (1 : Int32)), .unset] [(.int (0 : Int32))])) (fun _ kt => Jvm.RoadKit.acmp (g := (mkF m 340 #[.val (.int p1), .val (.int p2), .val (.int v1), .val (.int v2), .val (.int v3), .val (.int v4), .val (.int (0 : Int32)), .val (.ref em), .val (.ref b6), .val (.int (0 : Int32)), .val (.int (1 : Int32)), .val (.int (1 : Int32)), .val (.int (2 : Int32)), .val (.int (1 : Int32)), .unset] [(.ref em), (.ref em)])) X78 hx rfl rfl rfl (pc0 := 340) (pc' := 343) (same := true) rfl (hb hby at_340) rfl (decide_eq_true rfl) (by decide) (by decide) (XS.iconst X78.here hx rfl (hb hby at_343) (XS.goto X78.here hx rfl (pc0 := 344) (pc' := 348) rfl (hb hby at_344) (by decide) (by decide) (XS.istore X78.here hx rfl (hb hby at_348) rfl (l' := #[.val (.int p1), .val (.int p2), .val (.int v1), .val (.int v2), .val (.int v3), .val (.int v4), .val (.int (0 : Int32)), .val (.ref em), .val (.ref b6), .val (.int (0 : Int32)), .val (.int (1 : Int32)), .val (.int (1 : Int32)), .val (.int (2 : Int32)), .val (.int (1 : Int32)), .unset]) rfl (XS.goto X78.here hx rfl (pc0 := 350) (pc' := 390) rfl (hb hby at_350) (by decide) (by decide) (XS.iload X78.here hx rfl (hb hby at_390) rfl kt)))))) ?_
                refine own_via (T' := T78) (g' := (mkF m 462 #[.val (.int p1), .val (.int p2), .val (.int v1), .val (.int v2), .val (.int v3), .val (.int v4), .val (.int (0 : Int32)), .val (.ref em), .val (.ref b6), .val (.int (0 : Int32)), .val (.int (1 : Int32)), .val (.int (1 : Int32)), .val (.int (2 : Int32)), .val (.int (1 : Int32)), .unset] [(.ref b6)])) (fun _ kt => XS.iconst X78.here hx rfl (hb hby at_392) (XS.icmpYes X78.here hx rfl (pc0 := 393) (pc' := 425) rfl (hb hby at_393) rfl (tlt (by decide : ((0 : Int32) < (1 : Int32)))).1 (by decide) (by decide) (XS.iload X78.here hx rfl (hb hby at_425) rfl (XS.iconst X78.here hx rfl (hb hby at_427) (XS.icmpYes X78.here hx rfl (pc0 := 428) (pc' := 460) rfl (hb hby at_428) rfl (tlt (by decide : ((0 : Int32) < (2 : Int32)))).1 (by decide) (by decide) (XS.aload X78.here hx rfl (hb hby at_460) rfl rfl kt)))))) ?_
                obtain ⟨T87, X87, e87, st87⟩ := getS2 X78 hx hZ hown (host := "") (Or.inl (hw _ (List.mem_of_getElem? (i := 97) rfl))) Via.refl e78 (S_k1.ext f72.2) (g := (mkF m 462 #[.val (.int p1), .val (.int p2), .val (.int v1), .val (.int v2), .val (.int v3), .val (.int v4), .val (.int (0 : Int32)), .val (.ref em), .val (.ref b6), .val (.int (0 : Int32)), .val (.int (1 : Int32)), .val (.int (1 : Int32)), .val (.int (2 : Int32)), .val (.int (1 : Int32)), .unset] [(.ref b6)])) rfl (hb hby at_462)
                refine own_via (T' := T87) (g' := (mkF m 476 #[.val (.int p1), .val (.int p2), .val (.int v1), .val (.int v2), .val (.int v3), .val (.int v4), .val (.int (0 : Int32)), .val (.ref em), .val (.ref b6), .val (.int (0 : Int32)), .val (.int (1 : Int32)), .val (.int (1 : Int32)), .val (.int (2 : Int32)), .val (.int (1 : Int32)), .unset] [.null, (.int (0 : Int32)), (.ref k1), (.ref b6)])) (fun _ kt => st87 _ (XS.iloadN X87.here hx rfl (hb hby at_465) rfl (XS.ifNo X87.here hx rfl (hb hby at_466) rfl ((if0 _ _).trans (feq hdp).1) (XS.iload X87.here hx rfl (hb hby at_469) rfl (XS.goto X87.here hx rfl (pc0 := 471) (pc' := 475) rfl (hb hby at_471) (by decide) (by decide) (XS.aconstNull X87.here hx rfl (hb hby at_475) kt)))))) ?_
                refine own_via (T' := T87) (g' := (mkF m 478 #[.val (.int p1), .val (.int p2), .val (.int v1), .val (.int v2), .val (.int v3), .val (.int v4), .val (.int (0 : Int32)), .val (.ref em), .val (.ref b6), .val (.int (0 : Int32)), .val (.int (1 : Int32)), .val (.int (1 : Int32)), .val (.int (2 : Int32)), .val (.int (1 : Int32)), .unset] [.null, .null, .null, (.int (0 : Int32)), (.ref k1), (.ref b6)])) (fun _ kt => XS.aconstNull X87.here hx rfl (hb hby at_476) (XS.aconstNull X87.here hx rfl (hb hby at_477) kt)) ?_
                obtain ⟨v88, T88, L88, X88, hQ88, st88⟩ := own_callV X87 hx hZ (y := (⟨"com/example/infoset/infoset/xdm/TreeBuffers", "add", "(Lcom/example/infoset/infoset/xdm/NodeKind;ILcom/example/infoset/infoset/xdm/QName;Ljava/lang/String;Lcom/example/infoset/infoset/xdm/NamespaceBindings;)I"⟩ : MethodName)) (z := (⟨"com/example/infoset/infoset/xdm/TreeBuffers", "add", "(Lcom/example/infoset/infoset/xdm/NodeKind;ILcom/example/infoset/infoset/xdm/QName;Ljava/lang/String;Lcom/example/infoset/infoset/xdm/NamespaceBindings;)I"⟩ : MethodName)) hown (hw _ (List.mem_of_getElem? (i := 100) rfl)) (hw _ (List.mem_of_getElem? (i := 101) rfl)) (notFace_of_selects (args := #[]) (mvT hZ (hw _ (List.mem_of_getElem? (i := 103) rfl)))) (hw _ (List.mem_of_getElem? (i := 103) rfl)) (hw _ (List.mem_of_getElem? (i := 102) rfl)) (hw _ (List.mem_of_getElem? (i := 6) rfl)) (hw _ (List.mem_of_getElem? (i := 104) rfl)) (by decide) (b := b6) (W := 0) (argsL := [(.ref k1), (.int (0 : Int32)), .null, .null, .null]) (rest := []) (rm7 l Z a0 hw [] b6 kd pa en nm vl ns fa op og pr 2 1 (own_up (own_up (own_up (fun _ => .int 0) 0 (.int (Int32.ofNat 1))) 1 (.int (Int32.ofNat 2))) 1 (.int (Int32.ofNat 2))) (own_up (own_up (fun _ => .int 0) 0 (.int (0 : Int32))) 1 (.int (1 : Int32))) (own_up fg0 1 .null) T71.heap n0 z71 gtb Tq71 k1 (0 : Int32) 1 (by decide) (E_k1.ext f72.2) (F_k1.ext f72.2)) (by decide) (by decide) (by decide) (by decide) e87 Tq71.ob.exa (g := (mkF m 478 #[.val (.int p1), .val (.int p2), .val (.int v1), .val (.int v2), .val (.int v3), .val (.int v4), .val (.int (0 : Int32)), .val (.ref em), .val (.ref b6), .val (.int (0 : Int32)), .val (.int (1 : Int32)), .val (.int (1 : Int32)), .val (.int (2 : Int32)), .val (.int (1 : Int32)), .unset] [.null, .null, .null, (.int (0 : Int32)), (.ref k1), (.ref b6)])) rfl (by rw [hml]; rfl) (lenOf pd_7 rfl) rfl (by show 2 * 0 + _ ≤ _; exact Nat.le_of_eq rfl) (hb hby at_478)
                obtain ⟨rfl, Nq88, Kq88, Tq88⟩ := hQ88
                replace Tq88 : own_TB Z T88.heap b6 kd pa en nm vl ns fa op og pr 3 1 (own_up (own_up (own_up (own_up (fun _ => .int 0) 0 (.int (Int32.ofNat 1))) 1 (.int (Int32.ofNat 2))) 1 (.int (Int32.ofNat 2))) 2 (.int (Int32.ofNat 3))) (own_up (own_up (fun _ => .int 0) 0 (.int (0 : Int32))) 1 (.int (1 : Int32))) (own_up fg0 1 .null) := Tq88
                have f89 := f72.keep Kq88 (allS (by omega) (allS (by omega) (allS (by omega) (allS (by omega) (allS (by omega) (allS (by omega) (allS (by omega) (allS (by omega) all0))))))))
                have z88 : n0 ≤ T88.heap.size := Nat.le_trans z71 Kq88.1
                have N88 := Fr.app N71 Nq88
                refine own_via (T' := T88) (g' := (mkF m 487 #[.val (.int p1), .val (.int p2), .val (.int v1), .val (.int v2), .val (.int v3), .val (.int v4), .val (.int (0 : Int32)), .val (.ref em), .val (.ref b6), .val (.int (0 : Int32)), .val (.int (1 : Int32)), .val (.int (1 : Int32)), .val (.int (2 : Int32)), .val (.int (1 : Int32)), .val (.int (2 : Int32))] [(.int (2 : Int32)), (.ref b6)])) (fun _ kt => st88 _ (XS.istore X88.here hx rfl (hb hby at_481) rfl (l' := #[.val (.int p1), .val (.int p2), .val (.int v1), .val (.int v2), .val (.int v3), .val (.int v4), .val (.int (0 : Int32)), .val (.ref em), .val (.ref b6), .val (.int (0 : Int32)), .val (.int (1 : Int32)), .val (.int (1 : Int32)), .val (.int (2 : Int32)), .val (.int (1 : Int32)), .val (.int (2 : Int32))]) rfl (XS.aload X88.here hx rfl (hb hby at_483) rfl rfl (XS.iload X88.here hx rfl (hb hby at_485) rfl kt)))) ?_
                obtain ⟨v90, T90, L90, X90, hQ90, st90⟩ := own_callV X88 hx hZ (y := (⟨"com/example/infoset/infoset/xdm/TreeBuffers", "open", "(I)V"⟩ : MethodName)) (z := (⟨"com/example/infoset/infoset/xdm/TreeBuffers", "open", "(I)V"⟩ : MethodName)) hown (hw _ (List.mem_of_getElem? (i := 118) rfl)) (hw _ (List.mem_of_getElem? (i := 119) rfl)) (notFace_of_selects (args := #[]) (mvT hZ (hw _ (List.mem_of_getElem? (i := 121) rfl)))) (hw _ (List.mem_of_getElem? (i := 121) rfl)) (hw _ (List.mem_of_getElem? (i := 120) rfl)) (hw _ (List.mem_of_getElem? (i := 6) rfl)) (hw _ (List.mem_of_getElem? (i := 122) rfl)) (by decide) (b := b6) (W := 0) (argsL := [(.int (2 : Int32))]) (rest := []) (rm9 l Z a0 hw [] b6 kd pa en nm vl ns fa op og pr 3 1 (own_up (own_up (own_up (own_up (fun _ => .int 0) 0 (.int (Int32.ofNat 1))) 1 (.int (Int32.ofNat 2))) 1 (.int (Int32.ofNat 2))) 2 (.int (Int32.ofNat 3))) (own_up (own_up (fun _ => .int 0) 0 (.int (0 : Int32))) 1 (.int (1 : Int32))) (own_up fg0 1 .null) T88.heap n0 z88 gtb Tq88 (2 : Int32) (by decide)) (by decide) (by decide) (by decide) (by decide) rfl Tq88.ob.exa (g := (mkF m 487 #[.val (.int p1), .val (.int p2), .val (.int v1), .val (.int v2), .val (.int v3), .val (.int v4), .val (.int (0 : Int32)), .val (.ref em), .val (.ref b6), .val (.int (0 : Int32)), .val (.int (1 : Int32)), .val (.int (1 : Int32)), .val (.int (2 : Int32)), .val (.int (1 : Int32)), .val (.int (2 : Int32))] [(.int (2 : Int32)), (.ref b6)])) rfl (by rw [hml]; rfl) (lenOf pd_2 rfl) rfl (by show 2 * 0 + _ ≤ _; exact Nat.le_of_eq rfl) (hb hby at_487)
                obtain ⟨rfl, Nq90, Kq90, Tq90⟩ := hQ90
                replace Tq90 : own_TB Z T90.heap b6 kd pa en nm vl ns fa op og pr 3 2 (own_up (own_up (own_up (own_up (fun _ => .int 0) 0 (.int (Int32.ofNat 1))) 1 (.int (Int32.ofNat 2))) 1 (.int (Int32.ofNat 2))) 2 (.int (Int32.ofNat 3))) (own_up (own_up (own_up (fun _ => .int 0) 0 (.int (0 : Int32))) 1 (.int (1 : Int32))) 1 (.int (2 : Int32))) (own_up fg0 1 .null) := Tq90
                have f91 := f89.keep Kq90 (allS (by omega) (allS (by omega) all0))
                have z90 : n0 ≤ T90.heap.size := Nat.le_trans z88 Kq90.1
                have N90 := Fr.app N88 Nq90
                refine own_via (T' := T90) (g' := (mkF m 497 #[.val (.int p1), .val (.int p2), .val (.int v1), .val (.int v2), .val (.int v3), .val (.int v4), .val (.int (0 : Int32)), .val (.ref em), .val (.ref b6), .val (.int (0 : Int32)), .val (.int (1 : Int32)), .val (.int (1 : Int32)), .val (.int (2 : Int32)), .val (.int (1 : Int32)), .val (.int (2 : Int32))] [(.ref b6)])) (fun _ kt => st90 _ (XS.iload X90.here hx rfl (hb hby at_490) rfl (XS.ifNo X90.here hx rfl (hb hby at_492) rfl ((if0 _ _).trans (feq (by decide : ¬ ((1 : Int32) = (0 : Int32)))).1) (XS.aload X90.here hx rfl (hb hby at_495) rfl rfl kt)))) ?_
                obtain ⟨v92, T92, L92, X92, hQ92, st92⟩ := own_callV X90 hx hZ (y := (⟨"com/example/infoset/infoset/xdm/TreeBuffers", "innermostOriginal", "()Lcom/example/infoset/infoset/xdm/NamespaceBindings;"⟩ : MethodName)) (z := (⟨"com/example/infoset/infoset/xdm/TreeBuffers", "innermostOriginal", "()Lcom/example/infoset/infoset/xdm/NamespaceBindings;"⟩ : MethodName)) hown (hw _ (List.mem_of_getElem? (i := 142) rfl)) (hw _ (List.mem_of_getElem? (i := 143) rfl)) (notFace_of_selects (args := #[]) (mvT hZ (hw _ (List.mem_of_getElem? (i := 145) rfl)))) (hw _ (List.mem_of_getElem? (i := 145) rfl)) (hw _ (List.mem_of_getElem? (i := 144) rfl)) (hw _ (List.mem_of_getElem? (i := 6) rfl)) (hw _ (List.mem_of_getElem? (i := 146) rfl)) (by decide) (b := b6) (W := 0) (argsL := []) (rest := []) (rm13s l Z a0 hw [] b6 kd pa en nm vl ns fa op og pr 3 1 (own_up (own_up (own_up (own_up (fun _ => .int 0) 0 (.int (Int32.ofNat 1))) 1 (.int (Int32.ofNat 2))) 1 (.int (Int32.ofNat 2))) 2 (.int (Int32.ofNat 3))) (own_up (own_up (own_up (fun _ => .int 0) 0 (.int (0 : Int32))) 1 (.int (1 : Int32))) 1 (.int (2 : Int32))) (own_up fg0 1 .null) T90.heap n0 z90 gtb Tq90 (by decide) rfl) (by decide) (by decide) (by decide) (by decide) rfl Tq90.ob.exa (g := (mkF m 497 #[.val (.int p1), .val (.int p2), .val (.int v1), .val (.int v2), .val (.int v3), .val (.int v4), .val (.int (0 : Int32)), .val (.ref em), .val (.ref b6), .val (.int (0 : Int32)), .val (.int (1 : Int32)), .val (.int (1 : Int32)), .val (.int (2 : Int32)), .val (.int (1 : Int32)), .val (.int (2 : Int32))] [(.ref b6)])) rfl (by rw [hml]; rfl) (lenOf pd_6 rfl) rfl (by show 2 * 0 + _ ≤ _; exact Nat.le_of_eq rfl) (hb hby at_497)
                obtain ⟨rfl, hL92, e92⟩ := hQ92
                replace X92 := own_pure (v := none) (r := none) X92 rfl rfl hL92
                refine own_via (T' := T92) (g' := (mkF m 505 #[.val (.int p1), .val (.int p2), .val (.int v1), .val (.int v2), .val (.int v3), .val (.int v4), .val (.int (0 : Int32)), .val (.ref em), .val (.ref b6), .val (.int (0 : Int32)), .val (.int (1 : Int32)), .val (.int (1 : Int32)), .val (.int (2 : Int32)), .val (.int (1 : Int32)), .val (.int (2 : Int32))] [(.ref b6)])) (fun _ kt => st92 _ (XS.ifnonnullNo X92.here hx rfl (hb hby at_500) rfl (XS.aload X92.here hx rfl (hb hby at_503) rfl rfl kt))) ?_
                obtain ⟨T93, X93, e93, st93⟩ := getF X92 hx hZ hown (host := "") (Or.inl (hw _ (List.mem_of_getElem? (i := 131) rfl))) Via.refl e92 Tq90.f_ends (g := (mkF m 505 #[.val (.int p1), .val (.int p2), .val (.int v1), .val (.int v2), .val (.int v3), .val (.int v4), .val (.int (0 : Int32)), .val (.ref em), .val (.ref b6), .val (.int (0 : Int32)), .val (.int (1 : Int32)), .val (.int (1 : Int32)), .val (.int (2 : Int32)), .val (.int (1 : Int32)), .val (.int (2 : Int32))] [(.ref b6)])) rfl rfl (hb hby at_505)
                refine own_via (T' := T93) (g' := (mkF m 517 #[.val (.int p1), .val (.int p2), .val (.int v1), .val (.int v2), .val (.int v3), .val (.int v4), .val (.int (0 : Int32)), .val (.ref em), .val (.ref b6), .val (.int (0 : Int32)), .val (.int (1 : Int32)), .val (.int (1 : Int32)), .val (.int (2 : Int32)), .val (.int (1 : Int32)), .val (.int (2 : Int32))] [(.int (1 : Int32))])) (fun _ kt => st93 _ (XS.iload X93.here hx rfl (hb hby at_508) rfl (own_iaload X93 hx hZ e93 Tq90.a_en (j := (1 : Int32)) (i := 1) rfl (by decide) (g := (mkF m 510 #[.val (.int p1), .val (.int p2), .val (.int v1), .val (.int v2), .val (.int v3), .val (.int v4), .val (.int (0 : Int32)), .val (.ref em), .val (.ref b6), .val (.int (0 : Int32)), .val (.int (1 : Int32)), .val (.int (1 : Int32)), .val (.int (2 : Int32)), .val (.int (1 : Int32)), .val (.int (2 : Int32))] [(.int (1 : Int32)), (.ref en)])) rfl rfl (hb hby at_510) _ (XS.iload X93.here hx rfl (hb hby at_511) rfl (XS.icmpNo X93.here hx rfl (hb hby at_513) rfl (teq (by decide : ((2 : Int32) = (2 : Int32)))).2 (XS.iconst X93.here hx rfl (hb hby at_516) kt)))))) ?_
                refine own_via (T' := T93) (g' := (mkF m 525 #[.val (.int p1), .val (.int p2), .val (.int v1), .val (.int v2), .val (.int v3), .val (.int v4), .val (.int (0 : Int32)), .val (.ref em), .val (.ref b6), .val (.int (0 : Int32)), .val (.int (1 : Int32)), .val (.int (1 : Int32)), .val (.int (2 : Int32)), .val (.int (1 : Int32)), .val (.int (2 : Int32))] [(.int (1 : Int32))])) (fun _ kt => XS.goto X93.here hx rfl (pc0 := 517) (pc' := 521) rfl (hb hby at_517) (by decide) (by decide) (XS.istore X93.here hx rfl (hb hby at_521) rfl (l' := #[.val (.int p1), .val (.int p2), .val (.int v1), .val (.int v2), .val (.int v3), .val (.int v4), .val (.int (0 : Int32)), .val (.ref em), .val (.ref b6), .val (.int (0 : Int32)), .val (.int (1 : Int32)), .val (.int (1 : Int32)), .val (.int (2 : Int32)), .val (.int (1 : Int32)), .val (.int (2 : Int32))]) rfl (XS.iload X93.here hx rfl (hb hby at_523) rfl kt))) ?_
                exact own_retZ X93 hx hret hlk (hb hby at_525) (by decide) ⟨rfl, N90⟩ (by decide) (by decide)
            · refine own_via (T' := T) (g' := (mkF m 174 #[.val (.int p1), .val (.int p2), .val (.int v1), .val (.int v2), .val (.int v3), .val (.int v4), .val (.int (1 : Int32)), .val (.ref em), .val (.ref b6), .val (.int (0 : Int32)), .val (.int (1 : Int32)), .val (.int (1 : Int32)), .unset, .unset, .unset] [(.int (1 : Int32))])) (fun _ kt => XS.iloadN XL.here hx rfl (hb hby at_159) rfl (XS.ifNo XL.here hx rfl (hb hby at_160) rfl ((if0 _ _).trans (feq hdp).1) (XS.iload XL.here hx rfl (hb hby at_163) rfl (XS.goto XL.here hx rfl (pc0 := 165) (pc' := 170) rfl (hb hby at_165) (by decide) (by decide) (XS.istore XL.here hx rfl (hb hby at_170) rfl (l' := #[.val (.int p1), .val (.int p2), .val (.int v1), .val (.int v2), .val (.int v3), .val (.int v4), .val (.int (1 : Int32)), .val (.ref em), .val (.ref b6), .val (.int (0 : Int32)), .val (.int (1 : Int32)), .val (.int (1 : Int32)), .unset, .unset, .unset]) rfl (XS.iload XL.here hx rfl (hb hby at_172) rfl kt)))))) ?_
              refine own_via (T' := T) (g' := (mkF m 180 #[.val (.int p1), .val (.int p2), .val (.int v1), .val (.int v2), .val (.int v3), .val (.int v4), .val (.int (1 : Int32)), .val (.ref em), .val (.ref b6), .val (.int (0 : Int32)), .val (.int (1 : Int32)), .val (.int (1 : Int32)), .unset, .unset, .unset] [(.ref b6)])) (fun _ kt => XS.iconst XL.here hx rfl (hb hby at_174) (XS.icmpNo XL.here hx rfl (hb hby at_175) rfl (flt (by decide : ¬ ((1 : Int32) < (1 : Int32)))).1 (XS.aload XL.here hx rfl (hb hby at_178) rfl rfl kt))) ?_
              obtain ⟨T94, X94, e94, st94⟩ := getS2 XL hx hZ hown (host := "") (Or.inl (hw _ (List.mem_of_getElem? (i := 153) rfl))) Via.refl eL (S_k3.ext OL.2) (g := (mkF m 180 #[.val (.int p1), .val (.int p2), .val (.int v1), .val (.int v2), .val (.int v3), .val (.int v4), .val (.int (1 : Int32)), .val (.ref em), .val (.ref b6), .val (.int (0 : Int32)), .val (.int (1 : Int32)), .val (.int (1 : Int32)), .unset, .unset, .unset] [(.ref b6)])) rfl (hb hby at_180)
              refine own_via (T' := T94) (g' := (mkF m 188 #[.val (.int p1), .val (.int p2), .val (.int v1), .val (.int v2), .val (.int v3), .val (.int v4), .val (.int (1 : Int32)), .val (.ref em), .val (.ref b6), .val (.int (0 : Int32)), .val (.int (1 : Int32)), .val (.int (1 : Int32)), .unset, .unset, .unset] [.null, .null, .null, (.int (1 : Int32)), (.ref k3), (.ref b6)])) (fun _ kt => st94 _ (XS.iload X94.here hx rfl (hb hby at_183) rfl (XS.aconstNull X94.here hx rfl (hb hby at_185) (XS.aconstNull X94.here hx rfl (hb hby at_186) (XS.aconstNull X94.here hx rfl (hb hby at_187) kt))))) ?_
              obtain ⟨v95, T95, L95, X95, hQ95, st95⟩ := own_callV X94 hx hZ (y := (⟨"com/example/infoset/infoset/xdm/TreeBuffers", "add", "(Lcom/example/infoset/infoset/xdm/NodeKind;ILcom/example/infoset/infoset/xdm/QName;Ljava/lang/String;Lcom/example/infoset/infoset/xdm/NamespaceBindings;)I"⟩ : MethodName)) (z := (⟨"com/example/infoset/infoset/xdm/TreeBuffers", "add", "(Lcom/example/infoset/infoset/xdm/NodeKind;ILcom/example/infoset/infoset/xdm/QName;Ljava/lang/String;Lcom/example/infoset/infoset/xdm/NamespaceBindings;)I"⟩ : MethodName)) hown (hw _ (List.mem_of_getElem? (i := 100) rfl)) (hw _ (List.mem_of_getElem? (i := 101) rfl)) (notFace_of_selects (args := #[]) (mvT hZ (hw _ (List.mem_of_getElem? (i := 103) rfl)))) (hw _ (List.mem_of_getElem? (i := 103) rfl)) (hw _ (List.mem_of_getElem? (i := 102) rfl)) (hw _ (List.mem_of_getElem? (i := 6) rfl)) (hw _ (List.mem_of_getElem? (i := 104) rfl)) (by decide) (b := b6) (W := 0) (argsL := [(.ref k3), (.int (1 : Int32)), .null, .null, .null]) (rest := []) (rm7 l Z a0 hw [] b6 kd pa en nm vl ns fa op og pr 2 2 (own_up (own_up (fun _ => .int 0) 0 (.int (Int32.ofNat 1))) 1 (.int (Int32.ofNat 2))) (own_up (own_up (fun _ => .int 0) 0 (.int (0 : Int32))) 1 (.int (1 : Int32))) fg0 hh n0 zL gtb TL k3 (1 : Int32) 3 (by decide) (E_k3.ext OL.2) (F_k3.ext OL.2)) (by decide) (by decide) (by decide) (by decide) e94 TL.ob.exa (g := (mkF m 188 #[.val (.int p1), .val (.int p2), .val (.int v1), .val (.int v2), .val (.int v3), .val (.int v4), .val (.int (1 : Int32)), .val (.ref em), .val (.ref b6), .val (.int (0 : Int32)), .val (.int (1 : Int32)), .val (.int (1 : Int32)), .unset, .unset, .unset] [.null, .null, .null, (.int (1 : Int32)), (.ref k3), (.ref b6)])) rfl (by rw [hml]; rfl) (lenOf pd_7 rfl) rfl (by show 2 * 0 + _ ≤ _; exact Nat.le_of_eq rfl) (hb hby at_188)
              obtain ⟨rfl, Nq95, Kq95, Tq95⟩ := hQ95
              replace Tq95 : own_TB Z T95.heap b6 kd pa en nm vl ns fa op og pr 3 2 (own_up (own_up (own_up (fun _ => .int 0) 0 (.int (Int32.ofNat 1))) 1 (.int (Int32.ofNat 2))) 2 (.int (Int32.ofNat 3))) (own_up (own_up (fun _ => .int 0) 0 (.int (0 : Int32))) 1 (.int (1 : Int32))) fg0 := Tq95
              have f96 := OL.keep Kq95 (allS (by omega) (allS (by omega) (allS (by omega) (allS (by omega) (allS (by omega) (allS (by omega) (allS (by omega) (allS (by omega) all0))))))))
              have z95 : n0 ≤ T95.heap.size := Nat.le_trans zL Kq95.1
              have N95 := Fr.app NL Nq95
              refine own_via (T' := T95) (g' := (mkF m 213 #[.val (.int p1), .val (.int p2), .val (.int v1), .val (.int v2), .val (.int v3), .val (.int v4), .val (.int (1 : Int32)), .val (.ref em), .val (.ref b6), .val (.int (0 : Int32)), .val (.int (1 : Int32)), .val (.int (1 : Int32)), .unset, .unset, .unset] [(.int (1 : Int32))])) (fun _ kt => st95 _ (XS.pop X95.here hx rfl (hb hby at_191) rfl rfl (XS.iload X95.here hx rfl (hb hby at_192) rfl (XS.iconst X95.here hx rfl (hb hby at_194) (XS.icmpYes X95.here hx rfl (pc0 := 195) (pc' := 212) rfl (hb hby at_195) rfl (tlt (by decide : ((1 : Int32) < (2 : Int32)))).1 (by decide) (by decide) (XS.iconst X95.here hx rfl (hb hby at_212) kt)))))) ?_
              refine own_via (T' := T95) (g' := (mkF m 225 #[.val (.int p1), .val (.int p2), .val (.int v1), .val (.int v2), .val (.int v3), .val (.int v4), .val (.int (1 : Int32)), .val (.ref em), .val (.ref b6), .val (.int (0 : Int32)), .val (.int (1 : Int32)), .val (.int (1 : Int32)), .unset, .unset, .unset] [(.int (1 : Int32)), (.int (2 : Int32))])) (fun _ kt => XS.iloadN X95.here hx rfl (hb hby at_213) rfl (XS.ifNo X95.here hx rfl (hb hby at_214) rfl ((if0 _ _).trans (feq hdp).1) (XS.iconst X95.here hx rfl (hb hby at_217) (XS.goto X95.here hx rfl (pc0 := 218) (pc' := 222) rfl (hb hby at_218) (by decide) (by decide) (XS.iadd X95.here hx rfl (hb hby at_222) rfl (XS.iload X95.here hx rfl (hb hby at_223) rfl kt)))))) ?_
              refine own_via (T' := T95) (g' := (mkF m 230 #[.val (.int p1), .val (.int p2), .val (.int v1), .val (.int v2), .val (.int v3), .val (.int v4), .val (.int (1 : Int32)), .val (.ref em), .val (.ref b6), .val (.int (0 : Int32)), .val (.int (1 : Int32)), .val (.int (1 : Int32)), .val (.int (3 : Int32)), .unset, .unset] [(.ref b6)])) (fun _ kt => XS.iadd X95.here hx rfl (hb hby at_225) rfl (XS.istore X95.here hx rfl (hb hby at_226) rfl (l' := #[.val (.int p1), .val (.int p2), .val (.int v1), .val (.int v2), .val (.int v3), .val (.int v4), .val (.int (1 : Int32)), .val (.ref em), .val (.ref b6), .val (.int (0 : Int32)), .val (.int (1 : Int32)), .val (.int (1 : Int32)), .val (.int (3 : Int32)), .unset, .unset]) rfl (XS.aload X95.here hx rfl (hb hby at_228) rfl rfl kt))) ?_
              obtain ⟨T97, X97, e97, st97⟩ := getF X95 hx hZ hown (host := "") (Or.inl (hw _ (List.mem_of_getElem? (i := 125) rfl))) Via.refl rfl Tq95.f_size (g := (mkF m 230 #[.val (.int p1), .val (.int p2), .val (.int v1), .val (.int v2), .val (.int v3), .val (.int v4), .val (.int (1 : Int32)), .val (.ref em), .val (.ref b6), .val (.int (0 : Int32)), .val (.int (1 : Int32)), .val (.int (1 : Int32)), .val (.int (3 : Int32)), .unset, .unset] [(.ref b6)])) rfl rfl (hb hby at_230)
              refine own_via (T' := T97) (g' := (mkF m 245 #[.val (.int p1), .val (.int p2), .val (.int v1), .val (.int v2), .val (.int v3), .val (.int v4), .val (.int (1 : Int32)), .val (.ref em), .val (.ref b6), .val (.int (0 : Int32)), .val (.int (1 : Int32)), .val (.int (1 : Int32)), .val (.int (3 : Int32)), .val (.int (1 : Int32)), .unset] [])) (fun _ kt => st97 _ (XS.iload X97.here hx rfl (hb hby at_233) rfl (XS.icmpNo X97.here hx rfl (hb hby at_235) rfl (teq (by decide : ((3 : Int32) = (3 : Int32)))).2 (XS.iconst X97.here hx rfl (hb hby at_238) (XS.goto X97.here hx rfl (pc0 := 239) (pc' := 243) rfl (hb hby at_239) (by decide) (by decide) (XS.istore X97.here hx rfl (hb hby at_243) rfl (l' := #[.val (.int p1), .val (.int p2), .val (.int v1), .val (.int v2), .val (.int v3), .val (.int v4), .val (.int (1 : Int32)), .val (.ref em), .val (.ref b6), .val (.int (0 : Int32)), .val (.int (1 : Int32)), .val (.int (1 : Int32)), .val (.int (3 : Int32)), .val (.int (1 : Int32)), .unset]) rfl kt)))))) ?_
              refine own_via (T' := T97) (g' := (mkF m 247 #[.val (.int p1), .val (.int p2), .val (.int v1), .val (.int v2), .val (.int v3), .val (.int v4), .val (.int (1 : Int32)), .val (.ref em), .val (.ref b6), .val (.int (0 : Int32)), .val (.int (1 : Int32)), .val (.int (1 : Int32)), .val (.int (3 : Int32)), .val (.int (1 : Int32)), .unset] [(.ref b6)])) (fun _ kt => XS.aload X97.here hx rfl (hb hby at_245) rfl rfl kt) ?_
              obtain ⟨v98, T98, L98, X98, hQ98, st98⟩ := own_callV X97 hx hZ (y := (⟨"com/example/infoset/infoset/xdm/TreeBuffers", "close", "()V"⟩ : MethodName)) (z := (⟨"com/example/infoset/infoset/xdm/TreeBuffers", "close", "()V"⟩ : MethodName)) hown (hw _ (List.mem_of_getElem? (i := 126) rfl)) (hw _ (List.mem_of_getElem? (i := 127) rfl)) (notFace_of_selects (args := #[]) (mvT hZ (hw _ (List.mem_of_getElem? (i := 129) rfl)))) (hw _ (List.mem_of_getElem? (i := 129) rfl)) (hw _ (List.mem_of_getElem? (i := 128) rfl)) (hw _ (List.mem_of_getElem? (i := 6) rfl)) (hw _ (List.mem_of_getElem? (i := 130) rfl)) (by decide) (b := b6) (W := 0) (argsL := []) (rest := []) (rm10 l Z a0 hw [] b6 kd pa en nm vl ns fa op og pr 3 1 (own_up (own_up (own_up (fun _ => .int 0) 0 (.int (Int32.ofNat 1))) 1 (.int (Int32.ofNat 2))) 2 (.int (Int32.ofNat 3))) (own_up (own_up (fun _ => .int 0) 0 (.int (0 : Int32))) 1 (.int (1 : Int32))) fg0 T95.heap n0 z95 gtb Tq95 1 (by decide) (by decide) rfl) (by decide) (by decide) (by decide) (by decide) e97 Tq95.ob.exa (g := (mkF m 247 #[.val (.int p1), .val (.int p2), .val (.int v1), .val (.int v2), .val (.int v3), .val (.int v4), .val (.int (1 : Int32)), .val (.ref em), .val (.ref b6), .val (.int (0 : Int32)), .val (.int (1 : Int32)), .val (.int (1 : Int32)), .val (.int (3 : Int32)), .val (.int (1 : Int32)), .unset] [(.ref b6)])) rfl (by rw [hml]; rfl) (lenOf pd_0 rfl) rfl (by show 2 * 0 + _ ≤ _; exact Nat.le_of_eq rfl) (hb hby at_247)
              obtain ⟨rfl, Nq98, Kq98, Tq98⟩ := hQ98
              replace Tq98 : own_TB Z T98.heap b6 kd pa en nm vl ns fa op og pr 3 1 (own_up (own_up (own_up (own_up (fun _ => .int 0) 0 (.int (Int32.ofNat 1))) 1 (.int (Int32.ofNat 2))) 2 (.int (Int32.ofNat 3))) 1 (.int (Int32.ofNat 3))) (own_up (own_up (fun _ => .int 0) 0 (.int (0 : Int32))) 1 (.int (1 : Int32))) (own_up fg0 1 .null) := Tq98
              have f99 := f96.keep Kq98 (allS (by omega) (allS (by omega) (allS (by omega) all0)))
              have z98 : n0 ≤ T98.heap.size := Nat.le_trans z95 Kq98.1
              have N98 := Fr.app N95 Nq98
              refine own_via (T' := T98) (g' := (mkF m 257 #[.val (.int p1), .val (.int p2), .val (.int v1), .val (.int v2), .val (.int v3), .val (.int v4), .val (.int (1 : Int32)), .val (.ref em), .val (.ref b6), .val (.int (0 : Int32)), .val (.int (1 : Int32)), .val (.int (1 : Int32)), .val (.int (3 : Int32)), .val (.int (1 : Int32)), .unset] [(.ref b6)])) (fun _ kt => st98 _ (XS.iload X98.here hx rfl (hb hby at_250) rfl (XS.ifNo X98.here hx rfl (hb hby at_252) rfl ((if0 _ _).trans (feq (by decide : ¬ ((1 : Int32) = (0 : Int32)))).1) (XS.aload X98.here hx rfl (hb hby at_255) rfl rfl kt)))) ?_
              obtain ⟨T100, X100, e100, st100⟩ := getF X98 hx hZ hown (host := "") (Or.inl (hw _ (List.mem_of_getElem? (i := 125) rfl))) Via.refl rfl Tq98.f_size (g := (mkF m 257 #[.val (.int p1), .val (.int p2), .val (.int v1), .val (.int v2), .val (.int v3), .val (.int v4), .val (.int (1 : Int32)), .val (.ref em), .val (.ref b6), .val (.int (0 : Int32)), .val (.int (1 : Int32)), .val (.int (1 : Int32)), .val (.int (3 : Int32)), .val (.int (1 : Int32)), .unset] [(.ref b6)])) rfl rfl (hb hby at_257)
              refine own_via (T' := T100) (g' := (mkF m 267 #[.val (.int p1), .val (.int p2), .val (.int v1), .val (.int v2), .val (.int v3), .val (.int v4), .val (.int (1 : Int32)), .val (.ref em), .val (.ref b6), .val (.int (0 : Int32)), .val (.int (1 : Int32)), .val (.int (1 : Int32)), .val (.int (3 : Int32)), .val (.int (1 : Int32)), .unset] [(.ref b6)])) (fun _ kt => st100 _ (XS.iload X100.here hx rfl (hb hby at_260) rfl (XS.icmpNo X100.here hx rfl (hb hby at_262) rfl (teq (by decide : ((3 : Int32) = (3 : Int32)))).2 (XS.aload X100.here hx rfl (hb hby at_265) rfl rfl kt)))) ?_
              obtain ⟨T101, X101, e101, st101⟩ := getF X100 hx hZ hown (host := "") (Or.inl (hw _ (List.mem_of_getElem? (i := 131) rfl))) Via.refl e100 Tq98.f_ends (g := (mkF m 267 #[.val (.int p1), .val (.int p2), .val (.int v1), .val (.int v2), .val (.int v3), .val (.int v4), .val (.int (1 : Int32)), .val (.ref em), .val (.ref b6), .val (.int (0 : Int32)), .val (.int (1 : Int32)), .val (.int (1 : Int32)), .val (.int (3 : Int32)), .val (.int (1 : Int32)), .unset] [(.ref b6)])) rfl rfl (hb hby at_267)
              refine own_via (T' := T101) (g' := (mkF m 279 #[.val (.int p1), .val (.int p2), .val (.int v1), .val (.int v2), .val (.int v3), .val (.int v4), .val (.int (1 : Int32)), .val (.ref em), .val (.ref b6), .val (.int (0 : Int32)), .val (.int (1 : Int32)), .val (.int (1 : Int32)), .val (.int (3 : Int32)), .val (.int (1 : Int32)), .unset] [(.int (1 : Int32))])) (fun _ kt => st101 _ (XS.iload X101.here hx rfl (hb hby at_270) rfl (own_iaload X101 hx hZ e101 Tq98.a_en (j := (1 : Int32)) (i := 1) rfl (by decide) (g := (mkF m 272 #[.val (.int p1), .val (.int p2), .val (.int v1), .val (.int v2), .val (.int v3), .val (.int v4), .val (.int (1 : Int32)), .val (.ref em), .val (.ref b6), .val (.int (0 : Int32)), .val (.int (1 : Int32)), .val (.int (1 : Int32)), .val (.int (3 : Int32)), .val (.int (1 : Int32)), .unset] [(.int (1 : Int32)), (.ref en)])) rfl rfl (hb hby at_272) _ (XS.iload X101.here hx rfl (hb hby at_273) rfl (XS.icmpNo X101.here hx rfl (hb hby at_275) rfl (teq (by decide : ((3 : Int32) = (3 : Int32)))).2 (XS.iconst X101.here hx rfl (hb hby at_278) kt)))))) ?_
              refine own_via (T' := T101) (g' := (mkF m 294 #[.val (.int p1), .val (.int p2), .val (.int v1), .val (.int v2), .val (.int v3), .val (.int v4), .val (.int (1 : Int32)), .val (.ref em), .val (.ref b6), .val (.int (0 : Int32)), .val (.int (1 : Int32)), .val (.int (1 : Int32)), .val (.int (3 : Int32)), .val (.int (1 : Int32)), .unset] [])) (fun _ kt => XS.goto X101.here hx rfl (pc0 := 279) (pc' := 283) rfl (hb hby at_279) (by decide) (by decide) (XS.istore X101.here hx rfl (hb hby at_283) rfl (l' := #[.val (.int p1), .val (.int p2), .val (.int v1), .val (.int v2), .val (.int v3), .val (.int v4), .val (.int (1 : Int32)), .val (.ref em), .val (.ref b6), .val (.int (0 : Int32)), .val (.int (1 : Int32)), .val (.int (1 : Int32)), .val (.int (3 : Int32)), .val (.int (1 : Int32)), .unset]) rfl (XS.iloadN X101.here hx rfl (hb hby at_285) rfl (XS.ifNo X101.here hx rfl (hb hby at_286) rfl ((if0 _ _).trans (feq hdp).1) (XS.iload X101.here hx rfl (hb hby at_289) rfl (XS.ifNo X101.here hx rfl (hb hby at_291) rfl ((if0 _ _).trans (feq (by decide : ¬ ((1 : Int32) = (0 : Int32)))).1) kt)))))) ?_
              refine own_via (T' := T101) (g' := (mkF m 296 #[.val (.int p1), .val (.int p2), .val (.int v1), .val (.int v2), .val (.int v3), .val (.int v4), .val (.int (1 : Int32)), .val (.ref em), .val (.ref b6), .val (.int (0 : Int32)), .val (.int (1 : Int32)), .val (.int (1 : Int32)), .val (.int (3 : Int32)), .val (.int (1 : Int32)), .unset] [(.ref b6)])) (fun _ kt => XS.aload X101.here hx rfl (hb hby at_294) rfl rfl kt) ?_
              obtain ⟨T102, X102, e102, st102⟩ := getF X101 hx hZ hown (host := "") (Or.inl (hw _ (List.mem_of_getElem? (i := 131) rfl))) Via.refl e101 Tq98.f_ends (g := (mkF m 296 #[.val (.int p1), .val (.int p2), .val (.int v1), .val (.int v2), .val (.int v3), .val (.int v4), .val (.int (1 : Int32)), .val (.ref em), .val (.ref b6), .val (.int (0 : Int32)), .val (.int (1 : Int32)), .val (.int (1 : Int32)), .val (.int (3 : Int32)), .val (.int (1 : Int32)), .unset] [(.ref b6)])) rfl rfl (hb hby at_296)
              refine own_via (T' := T102) (g' := (mkF m 308 #[.val (.int p1), .val (.int p2), .val (.int v1), .val (.int v2), .val (.int v3), .val (.int v4), .val (.int (1 : Int32)), .val (.ref em), .val (.ref b6), .val (.int (0 : Int32)), .val (.int (1 : Int32)), .val (.int (1 : Int32)), .val (.int (3 : Int32)), .val (.int (1 : Int32)), .unset] [(.ref b6)])) (fun _ kt => st102 _ (XS.iload X102.here hx rfl (hb hby at_299) rfl (own_iaload X102 hx hZ e102 Tq98.a_en (j := (0 : Int32)) (i := 0) rfl (by decide) (g := (mkF m 301 #[.val (.int p1), .val (.int p2), .val (.int v1), .val (.int v2), .val (.int v3), .val (.int v4), .val (.int (1 : Int32)), .val (.ref em), .val (.ref b6), .val (.int (0 : Int32)), .val (.int (1 : Int32)), .val (.int (1 : Int32)), .val (.int (3 : Int32)), .val (.int (1 : Int32)), .unset] [(.int (0 : Int32)), (.ref en)])) rfl rfl (hb hby at_301) _ (XS.iconst X102.here hx rfl (hb hby at_302) (XS.icmpNo X102.here hx rfl (hb hby at_303) rfl (teq (by decide : ((1 : Int32) = (1 : Int32)))).2 (XS.aload X102.here hx rfl (hb hby at_306) rfl rfl kt)))))) ?_
              obtain ⟨v103, T103, L103, X103, hQ103, st103⟩ := own_callV X102 hx hZ (y := (⟨"com/example/infoset/infoset/xdm/TreeBuffers", "depth", "()I"⟩ : MethodName)) (z := (⟨"com/example/infoset/infoset/xdm/TreeBuffers", "depth", "()I"⟩ : MethodName)) hown (hw _ (List.mem_of_getElem? (i := 132) rfl)) (hw _ (List.mem_of_getElem? (i := 133) rfl)) (notFace_of_selects (args := #[]) (mvT hZ (hw _ (List.mem_of_getElem? (i := 135) rfl)))) (hw _ (List.mem_of_getElem? (i := 135) rfl)) (hw _ (List.mem_of_getElem? (i := 134) rfl)) (hw _ (List.mem_of_getElem? (i := 6) rfl)) (hw _ (List.mem_of_getElem? (i := 136) rfl)) (by decide) (b := b6) (W := 0) (argsL := []) (rest := []) (rm11 l Z a0 hw [] b6 kd pa en nm vl ns fa op og pr 3 1 (own_up (own_up (own_up (own_up (fun _ => .int 0) 0 (.int (Int32.ofNat 1))) 1 (.int (Int32.ofNat 2))) 2 (.int (Int32.ofNat 3))) 1 (.int (Int32.ofNat 3))) (own_up (own_up (fun _ => .int 0) 0 (.int (0 : Int32))) 1 (.int (1 : Int32))) (own_up fg0 1 .null) T98.heap n0 z98 gtb Tq98) (by decide) (by decide) (by decide) (by decide) e102 Tq98.ob.exa (g := (mkF m 308 #[.val (.int p1), .val (.int p2), .val (.int v1), .val (.int v2), .val (.int v3), .val (.int v4), .val (.int (1 : Int32)), .val (.ref em), .val (.ref b6), .val (.int (0 : Int32)), .val (.int (1 : Int32)), .val (.int (1 : Int32)), .val (.int (3 : Int32)), .val (.int (1 : Int32)), .unset] [(.ref b6)])) rfl (by rw [hml]; rfl) (lenOf pd_4 rfl) rfl (by show 2 * 0 + _ ≤ _; exact Nat.le_of_eq rfl) (hb hby at_308)
              obtain ⟨rfl, hL103, e103⟩ := hQ103
              replace X103 := own_pure (v := none) (r := none) X103 rfl rfl hL103
              refine own_via (T' := T103) (g' := (mkF m 317 #[.val (.int p1), .val (.int p2), .val (.int v1), .val (.int v2), .val (.int v3), .val (.int v4), .val (.int (1 : Int32)), .val (.ref em), .val (.ref b6), .val (.int (0 : Int32)), .val (.int (1 : Int32)), .val (.int (1 : Int32)), .val (.int (3 : Int32)), .val (.int (1 : Int32)), .unset] [(.ref b6)])) (fun _ kt => st103 _ (XS.iconst X103.here hx rfl (hb hby at_311) (XS.icmpNo X103.here hx rfl (hb hby at_312) rfl (teq (by decide : ((1 : Int32) = (1 : Int32)))).2 (XS.aload X103.here hx rfl (hb hby at_315) rfl rfl kt)))) ?_
              obtain ⟨v104, T104, L104, X104, hQ104, st104⟩ := own_callV X103 hx hZ (y := (⟨"com/example/infoset/infoset/xdm/TreeBuffers", "innermost", "()I"⟩ : MethodName)) (z := (⟨"com/example/infoset/infoset/xdm/TreeBuffers", "innermost", "()I"⟩ : MethodName)) hown (hw _ (List.mem_of_getElem? (i := 137) rfl)) (hw _ (List.mem_of_getElem? (i := 138) rfl)) (notFace_of_selects (args := #[]) (mvT hZ (hw _ (List.mem_of_getElem? (i := 140) rfl)))) (hw _ (List.mem_of_getElem? (i := 140) rfl)) (hw _ (List.mem_of_getElem? (i := 139) rfl)) (hw _ (List.mem_of_getElem? (i := 6) rfl)) (hw _ (List.mem_of_getElem? (i := 141) rfl)) (by decide) (b := b6) (W := 0) (argsL := []) (rest := []) (rm12s l Z a0 hw [] b6 kd pa en nm vl ns fa op og pr 3 0 (own_up (own_up (own_up (own_up (fun _ => .int 0) 0 (.int (Int32.ofNat 1))) 1 (.int (Int32.ofNat 2))) 2 (.int (Int32.ofNat 3))) 1 (.int (Int32.ofNat 3))) (own_up (own_up (fun _ => .int 0) 0 (.int (0 : Int32))) 1 (.int (1 : Int32))) (own_up fg0 1 .null) T98.heap n0 z98 gtb Tq98 0 (by decide) rfl) (by decide) (by decide) (by decide) (by decide) e103 Tq98.ob.exa (g := (mkF m 317 #[.val (.int p1), .val (.int p2), .val (.int v1), .val (.int v2), .val (.int v3), .val (.int v4), .val (.int (1 : Int32)), .val (.ref em), .val (.ref b6), .val (.int (0 : Int32)), .val (.int (1 : Int32)), .val (.int (1 : Int32)), .val (.int (3 : Int32)), .val (.int (1 : Int32)), .unset] [(.ref b6)])) rfl (by rw [hml]; rfl) (lenOf pd_4 rfl) rfl (by show 2 * 0 + _ ≤ _; exact Nat.le_of_eq rfl) (hb hby at_317)
              obtain ⟨rfl, hL104, e104⟩ := hQ104
              replace X104 := own_pure (v := none) (r := none) X104 rfl rfl hL104
              refine own_via (T' := T104) (g' := (mkF m 327 #[.val (.int p1), .val (.int p2), .val (.int v1), .val (.int v2), .val (.int v3), .val (.int v4), .val (.int (1 : Int32)), .val (.ref em), .val (.ref b6), .val (.int (0 : Int32)), .val (.int (1 : Int32)), .val (.int (1 : Int32)), .val (.int (3 : Int32)), .val (.int (1 : Int32)), .unset] [(.ref b6)])) (fun _ kt => st104 _ (XS.iload X104.here hx rfl (hb hby at_320) rfl (XS.icmpNo X104.here hx rfl (hb hby at_322) rfl (teq (by decide : ((0 : Int32) = (0 : Int32)))).2 (XS.aload X104.here hx rfl (hb hby at_325) rfl rfl kt)))) ?_
              obtain ⟨v105, T105, L105, X105, hQ105, st105⟩ := own_callV X104 hx hZ (y := (⟨"com/example/infoset/infoset/xdm/TreeBuffers", "innermostOriginal", "()Lcom/example/infoset/infoset/xdm/NamespaceBindings;"⟩ : MethodName)) (z := (⟨"com/example/infoset/infoset/xdm/TreeBuffers", "innermostOriginal", "()Lcom/example/infoset/infoset/xdm/NamespaceBindings;"⟩ : MethodName)) hown (hw _ (List.mem_of_getElem? (i := 142) rfl)) (hw _ (List.mem_of_getElem? (i := 143) rfl)) (notFace_of_selects (args := #[]) (mvT hZ (hw _ (List.mem_of_getElem? (i := 145) rfl)))) (hw _ (List.mem_of_getElem? (i := 145) rfl)) (hw _ (List.mem_of_getElem? (i := 144) rfl)) (hw _ (List.mem_of_getElem? (i := 6) rfl)) (hw _ (List.mem_of_getElem? (i := 146) rfl)) (by decide) (b := b6) (W := 0) (argsL := []) (rest := []) (rm13s l Z a0 hw [] b6 kd pa en nm vl ns fa op og pr 3 0 (own_up (own_up (own_up (own_up (fun _ => .int 0) 0 (.int (Int32.ofNat 1))) 1 (.int (Int32.ofNat 2))) 2 (.int (Int32.ofNat 3))) 1 (.int (Int32.ofNat 3))) (own_up (own_up (fun _ => .int 0) 0 (.int (0 : Int32))) 1 (.int (1 : Int32))) (own_up fg0 1 .null) T98.heap n0 z98 gtb Tq98 (by decide) hgr) (by decide) (by decide) (by decide) (by decide) e104 Tq98.ob.exa (g := (mkF m 327 #[.val (.int p1), .val (.int p2), .val (.int v1), .val (.int v2), .val (.int v3), .val (.int v4), .val (.int (1 : Int32)), .val (.ref em), .val (.ref b6), .val (.int (0 : Int32)), .val (.int (1 : Int32)), .val (.int (1 : Int32)), .val (.int (3 : Int32)), .val (.int (1 : Int32)), .unset] [(.ref b6)])) rfl (by rw [hml]; rfl) (lenOf pd_6 rfl) rfl (by show 2 * 0 + _ ≤ _; exact Nat.le_of_eq rfl) (hb hby at_327)
              obtain ⟨rfl, hL105, e105⟩ := hQ105
              replace X105 := own_pure (v := none) (r := none) X105 rfl rfl hL105
              refine own_via (T' := T105) (g' := (mkF m 331 #[.val (.int p1), .val (.int p2), .val (.int v1), .val (.int v2), .val (.int v3), .val (.int v4), .val (.int (1 : Int32)), .val (.ref em), .val (.ref b6), .val (.int (0 : Int32)), .val (.int (1 : Int32)), .val (.int (1 : Int32)), .val (.int (3 : Int32)), .val (.int (1 : Int32)), .unset] [(.int v2), (fg0 0)])) (fun _ kt => st105 _ (XS.iloadN X105.here hx rfl (hb hby at_330) rfl kt)) ?_
              by_cases hc331_106 : v2 = (0 : Int32)
              · refine own_via (T' := T105) (g' := (mkF m 340 #[.val (.int p1), .val (.int p2), .val (.int v1), .val (.int v2), .val (.int v3), .val (.int v4), .val (.int (1 : Int32)), .val (.ref em), .val (.ref b6), .val (.int (0 : Int32)), .val (.int (1 : Int32)), .val (.int (1 : Int32)), .val (.int (3 : Int32)), .val (.int (1 : Int32)), .unset] [.null, (fg0 0)])) (fun _ kt => XS.ifYes X105.here hx rfl (pc0 := 331) (pc' := 339) rfl (hb hby at_331) rfl ((if0 _ _).trans (teq hc331_106).1) (by decide) (by decide) (XS.aconstNull X105.here hx rfl (hb hby at_339) kt)) ?_
                rw [hg0 hc331_106]
                refine own_via (T' := T105) (g' := (mkF m 392 #[.val (.int p1), .val (.int p2), .val (.int v1), .val (.int v2), .val (.int v3), .val (.int v4), .val (.int (1 : Int32)), .val (.ref em), .val (.ref b6), .val (.int (0 : Int32)), .val (.int (1 : Int32)), .val (.int (1 : Int32)), .val (.int (3 : Int32)), .val (.int (1 : Int32)), .unset] [(.int (1 : Int32))])) (fun _ kt => Jvm.RoadKit.acmp (g := (mkF m 340 #[.val (.int p1), .val (.int p2), .val (.int v1), .val (.int v2), .val (.int v3), .val (.int v4), .val (.int (1 : Int32)), .val (.ref em), .val (.ref b6), .val (.int (0 : Int32)), .val (.int (1 : Int32)), .val (.int (1 : Int32)), .val (.int (3 : Int32)), .val (.int (1 : Int32)), .unset] [.null, .null])) X105 hx rfl rfl rfl (pc0 := 340) (pc' := 343) (same := true) rfl (hb hby at_340) rfl (decide_eq_true rfl) (by decide) (by decide) (XS.iconst X105.here hx rfl (hb hby at_343) (XS.goto X105.here hx rfl (pc0 := 344) (pc' := 348) rfl (hb hby at_344) (by decide) (by decide) (XS.istore X105.here hx rfl (hb hby at_348) rfl (l' := #[.val (.int p1), .val (.int p2), .val (.int v1), .val (.int v2), .val (.int v3), .val (.int v4), .val (.int (1 : Int32)), .val (.ref em), .val (.ref b6), .val (.int (0 : Int32)), .val (.int (1 : Int32)), .val (.int (1 : Int32)), .val (.int (3 : Int32)), .val (.int (1 : Int32)), .unset]) rfl (XS.goto X105.here hx rfl (pc0 := 350) (pc' := 390) rfl (hb hby at_350) (by decide) (by decide) (XS.iload X105.here hx rfl (hb hby at_390) rfl kt)))))) ?_
                refine own_via (T' := T105) (g' := (mkF m 403 #[.val (.int p1), .val (.int p2), .val (.int v1), .val (.int v2), .val (.int v3), .val (.int v4), .val (.int (1 : Int32)), .val (.ref em), .val (.ref b6), .val (.int (0 : Int32)), .val (.int (1 : Int32)), .val (.int (1 : Int32)), .val (.int (3 : Int32)), .val (.int (1 : Int32)), .unset] [(.ref b6)])) (fun _ kt => XS.iconst X105.here hx rfl (hb hby at_392) (XS.icmpNo X105.here hx rfl (hb hby at_393) rfl (flt (by decide : ¬ ((1 : Int32) < (1 : Int32)))).1 (XS.iload X105.here hx rfl (hb hby at_396) rfl (XS.ifNo X105.here hx rfl (hb hby at_398) rfl ((if0 _ _).trans (feq (by decide : ¬ ((1 : Int32) = (0 : Int32)))).1) (XS.aload X105.here hx rfl (hb hby at_401) rfl rfl kt))))) ?_
                obtain ⟨T107, X107, e107, st107⟩ := getF X105 hx hZ hown (host := "") (Or.inl (hw _ (List.mem_of_getElem? (i := 131) rfl))) Via.refl e105 Tq98.f_ends (g := (mkF m 403 #[.val (.int p1), .val (.int p2), .val (.int v1), .val (.int v2), .val (.int v3), .val (.int v4), .val (.int (1 : Int32)), .val (.ref em), .val (.ref b6), .val (.int (0 : Int32)), .val (.int (1 : Int32)), .val (.int (1 : Int32)), .val (.int (3 : Int32)), .val (.int (1 : Int32)), .unset] [(.ref b6)])) rfl rfl (hb hby at_403)
                refine own_via (T' := T107) (g' := (mkF m 413 #[.val (.int p1), .val (.int p2), .val (.int v1), .val (.int v2), .val (.int v3), .val (.int v4), .val (.int (1 : Int32)), .val (.ref em), .val (.ref b6), .val (.int (0 : Int32)), .val (.int (1 : Int32)), .val (.int (1 : Int32)), .val (.int (3 : Int32)), .val (.int (1 : Int32)), .unset] [(.int (1 : Int32)), (.int (3 : Int32))])) (fun _ kt => st107 _ (XS.iload X107.here hx rfl (hb hby at_406) rfl (XS.iconst X107.here hx rfl (hb hby at_408) (XS.iadd X107.here hx rfl (hb hby at_409) rfl (own_iaload X107 hx hZ e107 Tq98.a_en (j := (2 : Int32)) (i := 2) rfl (by decide) (g := (mkF m 410 #[.val (.int p1), .val (.int p2), .val (.int v1), .val (.int v2), .val (.int v3), .val (.int v4), .val (.int (1 : Int32)), .val (.ref em), .val (.ref b6), .val (.int (0 : Int32)), .val (.int (1 : Int32)), .val (.int (1 : Int32)), .val (.int (3 : Int32)), .val (.int (1 : Int32)), .unset] [(.int (2 : Int32)), (.ref en)])) rfl rfl (hb hby at_410) _ (XS.iload X107.here hx rfl (hb hby at_411) rfl kt)))))) ?_
                refine own_via (T' := T107) (g' := (mkF m 425 #[.val (.int p1), .val (.int p2), .val (.int v1), .val (.int v2), .val (.int v3), .val (.int v4), .val (.int (1 : Int32)), .val (.ref em), .val (.ref b6), .val (.int (0 : Int32)), .val (.int (1 : Int32)), .val (.int (1 : Int32)), .val (.int (3 : Int32)), .val (.int (1 : Int32)), .unset] [])) (fun _ kt => XS.iconst X107.here hx rfl (hb hby at_413) (XS.iadd X107.here hx rfl (hb hby at_414) rfl (XS.icmpNo X107.here hx rfl (hb hby at_415) rfl (teq (by decide : ((3 : Int32) = (3 : Int32)))).2 (XS.iconst X107.here hx rfl (hb hby at_418) (XS.goto X107.here hx rfl (pc0 := 419) (pc' := 423) rfl (hb hby at_419) (by decide) (by decide) (XS.istore X107.here hx rfl (hb hby at_423) rfl (l' := #[.val (.int p1), .val (.int p2), .val (.int v1), .val (.int v2), .val (.int v3), .val (.int v4), .val (.int (1 : Int32)), .val (.ref em), .val (.ref b6), .val (.int (0 : Int32)), .val (.int (1 : Int32)), .val (.int (1 : Int32)), .val (.int (3 : Int32)), .val (.int (1 : Int32)), .unset]) rfl kt)))))) ?_
                refine own_via (T' := T107) (g' := (mkF m 462 #[.val (.int p1), .val (.int p2), .val (.int v1), .val (.int v2), .val (.int v3), .val (.int v4), .val (.int (1 : Int32)), .val (.ref em), .val (.ref b6), .val (.int (0 : Int32)), .val (.int (1 : Int32)), .val (.int (1 : Int32)), .val (.int (3 : Int32)), .val (.int (1 : Int32)), .unset] [(.ref b6)])) (fun _ kt => XS.iload X107.here hx rfl (hb hby at_425) rfl (XS.iconst X107.here hx rfl (hb hby at_427) (XS.icmpYes X107.here hx rfl (pc0 := 428) (pc' := 460) rfl (hb hby at_428) rfl (tlt (by decide : ((1 : Int32) < (2 : Int32)))).1 (by decide) (by decide) (XS.aload X107.here hx rfl (hb hby at_460) rfl rfl kt)))) ?_
                obtain ⟨T108, X108, e108, st108⟩ := getS2 X107 hx hZ hown (host := "") (Or.inl (hw _ (List.mem_of_getElem? (i := 97) rfl))) Via.refl e107 (S_k1.ext f99.2) (g := (mkF m 462 #[.val (.int p1), .val (.int p2), .val (.int v1), .val (.int v2), .val (.int v3), .val (.int v4), .val (.int (1 : Int32)), .val (.ref em), .val (.ref b6), .val (.int (0 : Int32)), .val (.int (1 : Int32)), .val (.int (1 : Int32)), .val (.int (3 : Int32)), .val (.int (1 : Int32)), .unset] [(.ref b6)])) rfl (hb hby at_462)
                refine own_via (T' := T108) (g' := (mkF m 476 #[.val (.int p1), .val (.int p2), .val (.int v1), .val (.int v2), .val (.int v3), .val (.int v4), .val (.int (1 : Int32)), .val (.ref em), .val (.ref b6), .val (.int (0 : Int32)), .val (.int (1 : Int32)), .val (.int (1 : Int32)), .val (.int (3 : Int32)), .val (.int (1 : Int32)), .unset] [.null, (.int (0 : Int32)), (.ref k1), (.ref b6)])) (fun _ kt => st108 _ (XS.iloadN X108.here hx rfl (hb hby at_465) rfl (XS.ifNo X108.here hx rfl (hb hby at_466) rfl ((if0 _ _).trans (feq hdp).1) (XS.iload X108.here hx rfl (hb hby at_469) rfl (XS.goto X108.here hx rfl (pc0 := 471) (pc' := 475) rfl (hb hby at_471) (by decide) (by decide) (XS.aconstNull X108.here hx rfl (hb hby at_475) kt)))))) ?_
                refine own_via (T' := T108) (g' := (mkF m 478 #[.val (.int p1), .val (.int p2), .val (.int v1), .val (.int v2), .val (.int v3), .val (.int v4), .val (.int (1 : Int32)), .val (.ref em), .val (.ref b6), .val (.int (0 : Int32)), .val (.int (1 : Int32)), .val (.int (1 : Int32)), .val (.int (3 : Int32)), .val (.int (1 : Int32)), .unset] [.null, .null, .null, (.int (0 : Int32)), (.ref k1), (.ref b6)])) (fun _ kt => XS.aconstNull X108.here hx rfl (hb hby at_476) (XS.aconstNull X108.here hx rfl (hb hby at_477) kt)) ?_
                obtain ⟨v109, T109, L109, X109, hQ109, st109⟩ := own_callV X108 hx hZ (y := (⟨"com/example/infoset/infoset/xdm/TreeBuffers", "add", "(Lcom/example/infoset/infoset/xdm/NodeKind;ILcom/example/infoset/infoset/xdm/QName;Ljava/lang/String;Lcom/example/infoset/infoset/xdm/NamespaceBindings;)I"⟩ : MethodName)) (z := (⟨"com/example/infoset/infoset/xdm/TreeBuffers", "add", "(Lcom/example/infoset/infoset/xdm/NodeKind;ILcom/example/infoset/infoset/xdm/QName;Ljava/lang/String;Lcom/example/infoset/infoset/xdm/NamespaceBindings;)I"⟩ : MethodName)) hown (hw _ (List.mem_of_getElem? (i := 100) rfl)) (hw _ (List.mem_of_getElem? (i := 101) rfl)) (notFace_of_selects (args := #[]) (mvT hZ (hw _ (List.mem_of_getElem? (i := 103) rfl)))) (hw _ (List.mem_of_getElem? (i := 103) rfl)) (hw _ (List.mem_of_getElem? (i := 102) rfl)) (hw _ (List.mem_of_getElem? (i := 6) rfl)) (hw _ (List.mem_of_getElem? (i := 104) rfl)) (by decide) (b := b6) (W := 0) (argsL := [(.ref k1), (.int (0 : Int32)), .null, .null, .null]) (rest := []) (rm7 l Z a0 hw [] b6 kd pa en nm vl ns fa op og pr 3 1 (own_up (own_up (own_up (own_up (fun _ => .int 0) 0 (.int (Int32.ofNat 1))) 1 (.int (Int32.ofNat 2))) 2 (.int (Int32.ofNat 3))) 1 (.int (Int32.ofNat 3))) (own_up (own_up (fun _ => .int 0) 0 (.int (0 : Int32))) 1 (.int (1 : Int32))) (own_up fg0 1 .null) T98.heap n0 z98 gtb Tq98 k1 (0 : Int32) 1 (by decide) (E_k1.ext f99.2) (F_k1.ext f99.2)) (by decide) (by decide) (by decide) (by decide) e108 Tq98.ob.exa (g := (mkF m 478 #[.val (.int p1), .val (.int p2), .val (.int v1), .val (.int v2), .val (.int v3), .val (.int v4), .val (.int (1 : Int32)), .val (.ref em), .val (.ref b6), .val (.int (0 : Int32)), .val (.int (1 : Int32)), .val (.int (1 : Int32)), .val (.int (3 : Int32)), .val (.int (1 : Int32)), .unset] [.null, .null, .null, (.int (0 : Int32)), (.ref k1), (.ref b6)])) rfl (by rw [hml]; rfl) (lenOf pd_7 rfl) rfl (by show 2 * 0 + _ ≤ _; exact Nat.le_of_eq rfl) (hb hby at_478)
                obtain ⟨rfl, Nq109, Kq109, Tq109⟩ := hQ109
                replace Tq109 : own_TB Z T109.heap b6 kd pa en nm vl ns fa op og pr 4 1 (own_up (own_up (own_up (own_up (own_up (fun _ => .int 0) 0 (.int (Int32.ofNat 1))) 1 (.int (Int32.ofNat 2))) 2 (.int (Int32.ofNat 3))) 1 (.int (Int32.ofNat 3))) 3 (.int (Int32.ofNat 4))) (own_up (own_up (fun _ => .int 0) 0 (.int (0 : Int32))) 1 (.int (1 : Int32))) (own_up fg0 1 .null) := Tq109
                have f110 := f99.keep Kq109 (allS (by omega) (allS (by omega) (allS (by omega) (allS (by omega) (allS (by omega) (allS (by omega) (allS (by omega) (allS (by omega) all0))))))))
                have z109 : n0 ≤ T109.heap.size := Nat.le_trans z98 Kq109.1
                have N109 := Fr.app N98 Nq109
                refine own_via (T' := T109) (g' := (mkF m 487 #[.val (.int p1), .val (.int p2), .val (.int v1), .val (.int v2), .val (.int v3), .val (.int v4), .val (.int (1 : Int32)), .val (.ref em), .val (.ref b6), .val (.int (0 : Int32)), .val (.int (1 : Int32)), .val (.int (1 : Int32)), .val (.int (3 : Int32)), .val (.int (1 : Int32)), .val (.int (3 : Int32))] [(.int (3 : Int32)), (.ref b6)])) (fun _ kt => st109 _ (XS.istore X109.here hx rfl (hb hby at_481) rfl (l' := #[.val (.int p1), .val (.int p2), .val (.int v1), .val (.int v2), .val (.int v3), .val (.int v4), .val (.int (1 : Int32)), .val (.ref em), .val (.ref b6), .val (.int (0 : Int32)), .val (.int (1 : Int32)), .val (.int (1 : Int32)), .val (.int (3 : Int32)), .val (.int (1 : Int32)), .val (.int (3 : Int32))]) rfl (XS.aload X109.here hx rfl (hb hby at_483) rfl rfl (XS.iload X109.here hx rfl (hb hby at_485) rfl kt)))) ?_
                obtain ⟨v111, T111, L111, X111, hQ111, st111⟩ := own_callV X109 hx hZ (y := (⟨"com/example/infoset/infoset/xdm/TreeBuffers", "open", "(I)V"⟩ : MethodName)) (z := (⟨"com/example/infoset/infoset/xdm/TreeBuffers", "open", "(I)V"⟩ : MethodName)) hown (hw _ (List.mem_of_getElem? (i := 118) rfl)) (hw _ (List.mem_of_getElem? (i := 119) rfl)) (notFace_of_selects (args := #[]) (mvT hZ (hw _ (List.mem_of_getElem? (i := 121) rfl)))) (hw _ (List.mem_of_getElem? (i := 121) rfl)) (hw _ (List.mem_of_getElem? (i := 120) rfl)) (hw _ (List.mem_of_getElem? (i := 6) rfl)) (hw _ (List.mem_of_getElem? (i := 122) rfl)) (by decide) (b := b6) (W := 0) (argsL := [(.int (3 : Int32))]) (rest := []) (rm9 l Z a0 hw [] b6 kd pa en nm vl ns fa op og pr 4 1 (own_up (own_up (own_up (own_up (own_up (fun _ => .int 0) 0 (.int (Int32.ofNat 1))) 1 (.int (Int32.ofNat 2))) 2 (.int (Int32.ofNat 3))) 1 (.int (Int32.ofNat 3))) 3 (.int (Int32.ofNat 4))) (own_up (own_up (fun _ => .int 0) 0 (.int (0 : Int32))) 1 (.int (1 : Int32))) (own_up fg0 1 .null) T109.heap n0 z109 gtb Tq109 (3 : Int32) (by decide)) (by decide) (by decide) (by decide) (by decide) rfl Tq109.ob.exa (g := (mkF m 487 #[.val (.int p1), .val (.int p2), .val (.int v1), .val (.int v2), .val (.int v3), .val (.int v4), .val (.int (1 : Int32)), .val (.ref em), .val (.ref b6), .val (.int (0 : Int32)), .val (.int (1 : Int32)), .val (.int (1 : Int32)), .val (.int (3 : Int32)), .val (.int (1 : Int32)), .val (.int (3 : Int32))] [(.int (3 : Int32)), (.ref b6)])) rfl (by rw [hml]; rfl) (lenOf pd_2 rfl) rfl (by show 2 * 0 + _ ≤ _; exact Nat.le_of_eq rfl) (hb hby at_487)
                obtain ⟨rfl, Nq111, Kq111, Tq111⟩ := hQ111
                replace Tq111 : own_TB Z T111.heap b6 kd pa en nm vl ns fa op og pr 4 2 (own_up (own_up (own_up (own_up (own_up (fun _ => .int 0) 0 (.int (Int32.ofNat 1))) 1 (.int (Int32.ofNat 2))) 2 (.int (Int32.ofNat 3))) 1 (.int (Int32.ofNat 3))) 3 (.int (Int32.ofNat 4))) (own_up (own_up (own_up (fun _ => .int 0) 0 (.int (0 : Int32))) 1 (.int (1 : Int32))) 1 (.int (3 : Int32))) (own_up fg0 1 .null) := Tq111
                have f112 := f110.keep Kq111 (allS (by omega) (allS (by omega) all0))
                have z111 : n0 ≤ T111.heap.size := Nat.le_trans z109 Kq111.1
                have N111 := Fr.app N109 Nq111
                refine own_via (T' := T111) (g' := (mkF m 497 #[.val (.int p1), .val (.int p2), .val (.int v1), .val (.int v2), .val (.int v3), .val (.int v4), .val (.int (1 : Int32)), .val (.ref em), .val (.ref b6), .val (.int (0 : Int32)), .val (.int (1 : Int32)), .val (.int (1 : Int32)), .val (.int (3 : Int32)), .val (.int (1 : Int32)), .val (.int (3 : Int32))] [(.ref b6)])) (fun _ kt => st111 _ (XS.iload X111.here hx rfl (hb hby at_490) rfl (XS.ifNo X111.here hx rfl (hb hby at_492) rfl ((if0 _ _).trans (feq (by decide : ¬ ((1 : Int32) = (0 : Int32)))).1) (XS.aload X111.here hx rfl (hb hby at_495) rfl rfl kt)))) ?_
                obtain ⟨v113, T113, L113, X113, hQ113, st113⟩ := own_callV X111 hx hZ (y := (⟨"com/example/infoset/infoset/xdm/TreeBuffers", "innermostOriginal", "()Lcom/example/infoset/infoset/xdm/NamespaceBindings;"⟩ : MethodName)) (z := (⟨"com/example/infoset/infoset/xdm/TreeBuffers", "innermostOriginal", "()Lcom/example/infoset/infoset/xdm/NamespaceBindings;"⟩ : MethodName)) hown (hw _ (List.mem_of_getElem? (i := 142) rfl)) (hw _ (List.mem_of_getElem? (i := 143) rfl)) (notFace_of_selects (args := #[]) (mvT hZ (hw _ (List.mem_of_getElem? (i := 145) rfl)))) (hw _ (List.mem_of_getElem? (i := 145) rfl)) (hw _ (List.mem_of_getElem? (i := 144) rfl)) (hw _ (List.mem_of_getElem? (i := 6) rfl)) (hw _ (List.mem_of_getElem? (i := 146) rfl)) (by decide) (b := b6) (W := 0) (argsL := []) (rest := []) (rm13s l Z a0 hw [] b6 kd pa en nm vl ns fa op og pr 4 1 (own_up (own_up (own_up (own_up (own_up (fun _ => .int 0) 0 (.int (Int32.ofNat 1))) 1 (.int (Int32.ofNat 2))) 2 (.int (Int32.ofNat 3))) 1 (.int (Int32.ofNat 3))) 3 (.int (Int32.ofNat 4))) (own_up (own_up (own_up (fun _ => .int 0) 0 (.int (0 : Int32))) 1 (.int (1 : Int32))) 1 (.int (3 : Int32))) (own_up fg0 1 .null) T111.heap n0 z111 gtb Tq111 (by decide) rfl) (by decide) (by decide) (by decide) (by decide) rfl Tq111.ob.exa (g := (mkF m 497 #[.val (.int p1), .val (.int p2), .val (.int v1), .val (.int v2), .val (.int v3), .val (.int v4), .val (.int (1 : Int32)), .val (.ref em), .val (.ref b6), .val (.int (0 : Int32)), .val (.int (1 : Int32)), .val (.int (1 : Int32)), .val (.int (3 : Int32)), .val (.int (1 : Int32)), .val (.int (3 : Int32))] [(.ref b6)])) rfl (by rw [hml]; rfl) (lenOf pd_6 rfl) rfl (by show 2 * 0 + _ ≤ _; exact Nat.le_of_eq rfl) (hb hby at_497)
                obtain ⟨rfl, hL113, e113⟩ := hQ113
                replace X113 := own_pure (v := none) (r := none) X113 rfl rfl hL113
                refine own_via (T' := T113) (g' := (mkF m 505 #[.val (.int p1), .val (.int p2), .val (.int v1), .val (.int v2), .val (.int v3), .val (.int v4), .val (.int (1 : Int32)), .val (.ref em), .val (.ref b6), .val (.int (0 : Int32)), .val (.int (1 : Int32)), .val (.int (1 : Int32)), .val (.int (3 : Int32)), .val (.int (1 : Int32)), .val (.int (3 : Int32))] [(.ref b6)])) (fun _ kt => st113 _ (XS.ifnonnullNo X113.here hx rfl (hb hby at_500) rfl (XS.aload X113.here hx rfl (hb hby at_503) rfl rfl kt))) ?_
                obtain ⟨T114, X114, e114, st114⟩ := getF X113 hx hZ hown (host := "") (Or.inl (hw _ (List.mem_of_getElem? (i := 131) rfl))) Via.refl e113 Tq111.f_ends (g := (mkF m 505 #[.val (.int p1), .val (.int p2), .val (.int v1), .val (.int v2), .val (.int v3), .val (.int v4), .val (.int (1 : Int32)), .val (.ref em), .val (.ref b6), .val (.int (0 : Int32)), .val (.int (1 : Int32)), .val (.int (1 : Int32)), .val (.int (3 : Int32)), .val (.int (1 : Int32)), .val (.int (3 : Int32))] [(.ref b6)])) rfl rfl (hb hby at_505)
                refine own_via (T' := T114) (g' := (mkF m 517 #[.val (.int p1), .val (.int p2), .val (.int v1), .val (.int v2), .val (.int v3), .val (.int v4), .val (.int (1 : Int32)), .val (.ref em), .val (.ref b6), .val (.int (0 : Int32)), .val (.int (1 : Int32)), .val (.int (1 : Int32)), .val (.int (3 : Int32)), .val (.int (1 : Int32)), .val (.int (3 : Int32))] [(.int (1 : Int32))])) (fun _ kt => st114 _ (XS.iload X114.here hx rfl (hb hby at_508) rfl (own_iaload X114 hx hZ e114 Tq111.a_en (j := (1 : Int32)) (i := 1) rfl (by decide) (g := (mkF m 510 #[.val (.int p1), .val (.int p2), .val (.int v1), .val (.int v2), .val (.int v3), .val (.int v4), .val (.int (1 : Int32)), .val (.ref em), .val (.ref b6), .val (.int (0 : Int32)), .val (.int (1 : Int32)), .val (.int (1 : Int32)), .val (.int (3 : Int32)), .val (.int (1 : Int32)), .val (.int (3 : Int32))] [(.int (1 : Int32)), (.ref en)])) rfl rfl (hb hby at_510) _ (XS.iload X114.here hx rfl (hb hby at_511) rfl (XS.icmpNo X114.here hx rfl (hb hby at_513) rfl (teq (by decide : ((3 : Int32) = (3 : Int32)))).2 (XS.iconst X114.here hx rfl (hb hby at_516) kt)))))) ?_
                refine own_via (T' := T114) (g' := (mkF m 525 #[.val (.int p1), .val (.int p2), .val (.int v1), .val (.int v2), .val (.int v3), .val (.int v4), .val (.int (1 : Int32)), .val (.ref em), .val (.ref b6), .val (.int (0 : Int32)), .val (.int (1 : Int32)), .val (.int (1 : Int32)), .val (.int (3 : Int32)), .val (.int (1 : Int32)), .val (.int (3 : Int32))] [(.int (1 : Int32))])) (fun _ kt => XS.goto X114.here hx rfl (pc0 := 517) (pc' := 521) rfl (hb hby at_517) (by decide) (by decide) (XS.istore X114.here hx rfl (hb hby at_521) rfl (l' := #[.val (.int p1), .val (.int p2), .val (.int v1), .val (.int v2), .val (.int v3), .val (.int v4), .val (.int (1 : Int32)), .val (.ref em), .val (.ref b6), .val (.int (0 : Int32)), .val (.int (1 : Int32)), .val (.int (1 : Int32)), .val (.int (3 : Int32)), .val (.int (1 : Int32)), .val (.int (3 : Int32))]) rfl (XS.iload X114.here hx rfl (hb hby at_523) rfl kt))) ?_
                exact own_retZ X114 hx hret hlk (hb hby at_525) (by decide) ⟨rfl, N111⟩ (by decide) (by decide)
              · refine own_via (T' := T105) (g' := (mkF m 340 #[.val (.int p1), .val (.int p2), .val (.int v1), .val (.int v2), .val (.int v3), .val (.int v4), .val (.int (1 : Int32)), .val (.ref em), .val (.ref b6), .val (.int (0 : Int32)), .val (.int (1 : Int32)), .val (.int (1 : Int32)), .val (.int (3 : Int32)), .val (.int (1 : Int32)), .unset] [(.ref em), (fg0 0)])) (fun _ kt => XS.ifNo X105.here hx rfl (hb hby at_331) rfl ((if0 _ _).trans (feq hc331_106).1) (XS.aload X105.here hx rfl (hb hby at_334) rfl rfl (XS.goto X105.here hx rfl (pc0 := 336) (pc' := 340) rfl (hb hby at_336) (by decide) (by decide) kt))) ?_
                rw [hg1 hc331_106]
                refine own_via (T' := T105) (g' := (mkF m 392 #[.val (.int p1), .val (.int p2), .val (.int v1), .val (.int v2), .val (.int v3), .val (.int v4), .val (.int (1 : Int32)), .val (.ref em), .val (.ref b6), .val (.int (0 : Int32)), .val (.int (1 : Int32)), .val (.int (1 : Int32)), .val (.int (3 : Int32)), .val (.int (1 : Int32)), .unset] [(.int (1 : Int32))])) (fun _ kt => Jvm.RoadKit.acmp (g := (mkF m 340 #[.val (.int p1), .val (.int p2), .val (.int v1), .val (.int v2), .val (.int v3), .val (.int v4), .val (.int (1 : Int32)), .val (.ref em), .val (.ref b6), .val (.int (0 : Int32)), .val (.int (1 : Int32)), .val (.int (1 : Int32)), .val (.int (3 : Int32)), .val (.int (1 : Int32)), .unset] [(.ref em), (.ref em)])) X105 hx rfl rfl rfl (pc0 := 340) (pc' := 343) (same := true) rfl (hb hby at_340) rfl (decide_eq_true rfl) (by decide) (by decide) (XS.iconst X105.here hx rfl (hb hby at_343) (XS.goto X105.here hx rfl (pc0 := 344) (pc' := 348) rfl (hb hby at_344) (by decide) (by decide) (XS.istore X105.here hx rfl (hb hby at_348) rfl (l' := #[.val (.int p1), .val (.int p2), .val (.int v1), .val (.int v2), .val (.int v3), .val (.int v4), .val (.int (1 : Int32)), .val (.ref em), .val (.ref b6), .val (.int (0 : Int32)), .val (.int (1 : Int32)), .val (.int (1 : Int32)), .val (.int (3 : Int32)), .val (.int (1 : Int32)), .unset]) rfl (XS.goto X105.here hx rfl (pc0 := 350) (pc' := 390) rfl (hb hby at_350) (by decide) (by decide) (XS.iload X105.here hx rfl (hb hby at_390) rfl kt)))))) ?_
                refine own_via (T' := T105) (g' := (mkF m 403 #[.val (.int p1), .val (.int p2), .val (.int v1), .val (.int v2), .val (.int v3), .val (.int v4), .val (.int (1 : Int32)), .val (.ref em), .val (.ref b6), .val (.int (0 : Int32)), .val (.int (1 : Int32)), .val (.int (1 : Int32)), .val (.int (3 : Int32)), .val (.int (1 : Int32)), .unset] [(.ref b6)])) (fun _ kt => XS.iconst X105.here hx rfl (hb hby at_392) (XS.icmpNo X105.here hx rfl (hb hby at_393) rfl (flt (by decide : ¬ ((1 : Int32) < (1 : Int32)))).1 (XS.iload X105.here hx rfl (hb hby at_396) rfl (XS.ifNo X105.here hx rfl (hb hby at_398) rfl ((if0 _ _).trans (feq (by decide : ¬ ((1 : Int32) = (0 : Int32)))).1) (XS.aload X105.here hx rfl (hb hby at_401) rfl rfl kt))))) ?_
                obtain ⟨T115, X115, e115, st115⟩ := getF X105 hx hZ hown (host := "") (Or.inl (hw _ (List.mem_of_getElem? (i := 131) rfl))) Via.refl e105 Tq98.f_ends (g := (mkF m 403 #[.val (.int p1), .val (.int p2), .val (.int v1), .val (.int v2), .val (.int v3), .val (.int v4), .val (.int (1 : Int32)), .val (.ref em), .val (.ref b6), .val (.int (0 : Int32)), .val (.int (1 : Int32)), .val (.int (1 : Int32)), .val (.int (3 : Int32)), .val (.int (1 : Int32)), .unset] [(.ref b6)])) rfl rfl (hb hby at_403)
                refine own_via (T' := T115) (g' := (mkF m 413 #[.val (.int p1), .val (.int p2), .val (.int v1), .val (.int v2), .val (.int v3), .val (.int v4), .val (.int (1 : Int32)), .val (.ref em), .val (.ref b6), .val (.int (0 : Int32)), .val (.int (1 : Int32)), .val (.int (1 : Int32)), .val (.int (3 : Int32)), .val (.int (1 : Int32)), .unset] [(.int (1 : Int32)), (.int (3 : Int32))])) (fun _ kt => st115 _ (XS.iload X115.here hx rfl (hb hby at_406) rfl (XS.iconst X115.here hx rfl (hb hby at_408) (XS.iadd X115.here hx rfl (hb hby at_409) rfl (own_iaload X115 hx hZ e115 Tq98.a_en (j := (2 : Int32)) (i := 2) rfl (by decide) (g := (mkF m 410 #[.val (.int p1), .val (.int p2), .val (.int v1), .val (.int v2), .val (.int v3), .val (.int v4), .val (.int (1 : Int32)), .val (.ref em), .val (.ref b6), .val (.int (0 : Int32)), .val (.int (1 : Int32)), .val (.int (1 : Int32)), .val (.int (3 : Int32)), .val (.int (1 : Int32)), .unset] [(.int (2 : Int32)), (.ref en)])) rfl rfl (hb hby at_410) _ (XS.iload X115.here hx rfl (hb hby at_411) rfl kt)))))) ?_
                refine own_via (T' := T115) (g' := (mkF m 425 #[.val (.int p1), .val (.int p2), .val (.int v1), .val (.int v2), .val (.int v3), .val (.int v4), .val (.int (1 : Int32)), .val (.ref em), .val (.ref b6), .val (.int (0 : Int32)), .val (.int (1 : Int32)), .val (.int (1 : Int32)), .val (.int (3 : Int32)), .val (.int (1 : Int32)), .unset] [])) (fun _ kt => XS.iconst X115.here hx rfl (hb hby at_413) (XS.iadd X115.here hx rfl (hb hby at_414) rfl (XS.icmpNo X115.here hx rfl (hb hby at_415) rfl (teq (by decide : ((3 : Int32) = (3 : Int32)))).2 (XS.iconst X115.here hx rfl (hb hby at_418) (XS.goto X115.here hx rfl (pc0 := 419) (pc' := 423) rfl (hb hby at_419) (by decide) (by decide) (XS.istore X115.here hx rfl (hb hby at_423) rfl (l' := #[.val (.int p1), .val (.int p2), .val (.int v1), .val (.int v2), .val (.int v3), .val (.int v4), .val (.int (1 : Int32)), .val (.ref em), .val (.ref b6), .val (.int (0 : Int32)), .val (.int (1 : Int32)), .val (.int (1 : Int32)), .val (.int (3 : Int32)), .val (.int (1 : Int32)), .unset]) rfl kt)))))) ?_
                refine own_via (T' := T115) (g' := (mkF m 462 #[.val (.int p1), .val (.int p2), .val (.int v1), .val (.int v2), .val (.int v3), .val (.int v4), .val (.int (1 : Int32)), .val (.ref em), .val (.ref b6), .val (.int (0 : Int32)), .val (.int (1 : Int32)), .val (.int (1 : Int32)), .val (.int (3 : Int32)), .val (.int (1 : Int32)), .unset] [(.ref b6)])) (fun _ kt => XS.iload X115.here hx rfl (hb hby at_425) rfl (XS.iconst X115.here hx rfl (hb hby at_427) (XS.icmpYes X115.here hx rfl (pc0 := 428) (pc' := 460) rfl (hb hby at_428) rfl (tlt (by decide : ((1 : Int32) < (2 : Int32)))).1 (by decide) (by decide) (XS.aload X115.here hx rfl (hb hby at_460) rfl rfl kt)))) ?_
                obtain ⟨T116, X116, e116, st116⟩ := getS2 X115 hx hZ hown (host := "") (Or.inl (hw _ (List.mem_of_getElem? (i := 97) rfl))) Via.refl e115 (S_k1.ext f99.2) (g := (mkF m 462 #[.val (.int p1), .val (.int p2), .val (.int v1), .val (.int v2), .val (.int v3), .val (.int v4), .val (.int (1 : Int32)), .val (.ref em), .val (.ref b6), .val (.int (0 : Int32)), .val (.int (1 : Int32)), .val (.int (1 : Int32)), .val (.int (3 : Int32)), .val (.int (1 : Int32)), .unset] [(.ref b6)])) rfl (hb hby at_462)
                refine own_via (T' := T116) (g' := (mkF m 476 #[.val (.int p1), .val (.int p2), .val (.int v1), .val (.int v2), .val (.int v3), .val (.int v4), .val (.int (1 : Int32)), .val (.ref em), .val (.ref b6), .val (.int (0 : Int32)), .val (.int (1 : Int32)), .val (.int (1 : Int32)), .val (.int (3 : Int32)), .val (.int (1 : Int32)), .unset] [.null, (.int (0 : Int32)), (.ref k1), (.ref b6)])) (fun _ kt => st116 _ (XS.iloadN X116.here hx rfl (hb hby at_465) rfl (XS.ifNo X116.here hx rfl (hb hby at_466) rfl ((if0 _ _).trans (feq hdp).1) (XS.iload X116.here hx rfl (hb hby at_469) rfl (XS.goto X116.here hx rfl (pc0 := 471) (pc' := 475) rfl (hb hby at_471) (by decide) (by decide) (XS.aconstNull X116.here hx rfl (hb hby at_475) kt)))))) ?_
                refine own_via (T' := T116) (g' := (mkF m 478 #[.val (.int p1), .val (.int p2), .val (.int v1), .val (.int v2), .val (.int v3), .val (.int v4), .val (.int (1 : Int32)), .val (.ref em), .val (.ref b6), .val (.int (0 : Int32)), .val (.int (1 : Int32)), .val (.int (1 : Int32)), .val (.int (3 : Int32)), .val (.int (1 : Int32)), .unset] [.null, .null, .null, (.int (0 : Int32)), (.ref k1), (.ref b6)])) (fun _ kt => XS.aconstNull X116.here hx rfl (hb hby at_476) (XS.aconstNull X116.here hx rfl (hb hby at_477) kt)) ?_
                obtain ⟨v117, T117, L117, X117, hQ117, st117⟩ := own_callV X116 hx hZ (y := (⟨"com/example/infoset/infoset/xdm/TreeBuffers", "add", "(Lcom/example/infoset/infoset/xdm/NodeKind;ILcom/example/infoset/infoset/xdm/QName;Ljava/lang/String;Lcom/example/infoset/infoset/xdm/NamespaceBindings;)I"⟩ : MethodName)) (z := (⟨"com/example/infoset/infoset/xdm/TreeBuffers", "add", "(Lcom/example/infoset/infoset/xdm/NodeKind;ILcom/example/infoset/infoset/xdm/QName;Ljava/lang/String;Lcom/example/infoset/infoset/xdm/NamespaceBindings;)I"⟩ : MethodName)) hown (hw _ (List.mem_of_getElem? (i := 100) rfl)) (hw _ (List.mem_of_getElem? (i := 101) rfl)) (notFace_of_selects (args := #[]) (mvT hZ (hw _ (List.mem_of_getElem? (i := 103) rfl)))) (hw _ (List.mem_of_getElem? (i := 103) rfl)) (hw _ (List.mem_of_getElem? (i := 102) rfl)) (hw _ (List.mem_of_getElem? (i := 6) rfl)) (hw _ (List.mem_of_getElem? (i := 104) rfl)) (by decide) (b := b6) (W := 0) (argsL := [(.ref k1), (.int (0 : Int32)), .null, .null, .null]) (rest := []) (rm7 l Z a0 hw [] b6 kd pa en nm vl ns fa op og pr 3 1 (own_up (own_up (own_up (own_up (fun _ => .int 0) 0 (.int (Int32.ofNat 1))) 1 (.int (Int32.ofNat 2))) 2 (.int (Int32.ofNat 3))) 1 (.int (Int32.ofNat 3))) (own_up (own_up (fun _ => .int 0) 0 (.int (0 : Int32))) 1 (.int (1 : Int32))) (own_up fg0 1 .null) T98.heap n0 z98 gtb Tq98 k1 (0 : Int32) 1 (by decide) (E_k1.ext f99.2) (F_k1.ext f99.2)) (by decide) (by decide) (by decide) (by decide) e116 Tq98.ob.exa (g := (mkF m 478 #[.val (.int p1), .val (.int p2), .val (.int v1), .val (.int v2), .val (.int v3), .val (.int v4), .val (.int (1 : Int32)), .val (.ref em), .val (.ref b6), .val (.int (0 : Int32)), .val (.int (1 : Int32)), .val (.int (1 : Int32)), .val (.int (3 : Int32)), .val (.int (1 : Int32)), .unset] [.null, .null, .null, (.int (0 : Int32)), (.ref k1), (.ref b6)])) rfl (by rw [hml]; rfl) (lenOf pd_7 rfl) rfl (by show 2 * 0 + _ ≤ _; exact Nat.le_of_eq rfl) (hb hby at_478)
                obtain ⟨rfl, Nq117, Kq117, Tq117⟩ := hQ117
                replace Tq117 : own_TB Z T117.heap b6 kd pa en nm vl ns fa op og pr 4 1 (own_up (own_up (own_up (own_up (own_up (fun _ => .int 0) 0 (.int (Int32.ofNat 1))) 1 (.int (Int32.ofNat 2))) 2 (.int (Int32.ofNat 3))) 1 (.int (Int32.ofNat 3))) 3 (.int (Int32.ofNat 4))) (own_up (own_up (fun _ => .int 0) 0 (.int (0 : Int32))) 1 (.int (1 : Int32))) (own_up fg0 1 .null) := Tq117
                have f118 := f99.keep Kq117 (allS (by omega) (allS (by omega) (allS (by omega) (allS (by omega) (allS (by omega) (allS (by omega) (allS (by omega) (allS (by omega) all0))))))))
                have z117 : n0 ≤ T117.heap.size := Nat.le_trans z98 Kq117.1
                have N117 := Fr.app N98 Nq117
                refine own_via (T' := T117) (g' := (mkF m 487 #[.val (.int p1), .val (.int p2), .val (.int v1), .val (.int v2), .val (.int v3), .val (.int v4), .val (.int (1 : Int32)), .val (.ref em), .val (.ref b6), .val (.int (0 : Int32)), .val (.int (1 : Int32)), .val (.int (1 : Int32)), .val (.int (3 : Int32)), .val (.int (1 : Int32)), .val (.int (3 : Int32))] [(.int (3 : Int32)), (.ref b6)])) (fun _ kt => st117 _ (XS.istore X117.here hx rfl (hb hby at_481) rfl (l' := #[.val (.int p1), .val (.int p2), .val (.int v1), .val (.int v2), .val (.int v3), .val (.int v4), .val (.int (1 : Int32)), .val (.ref em), .val (.ref b6), .val (.int (0 : Int32)), .val (.int (1 : Int32)), .val (.int (1 : Int32)), .val (.int (3 : Int32)), .val (.int (1 : Int32)), .val (.int (3 : Int32))]) rfl (XS.aload X117.here hx rfl (hb hby at_483) rfl rfl (XS.iload X117.here hx rfl (hb hby at_485) rfl kt)))) ?_
                obtain ⟨v119, T119, L119, X119, hQ119, st119⟩ := own_callV X117 hx hZ (y := (⟨"com/example/infoset/infoset/xdm/TreeBuffers", "open", "(I)V"⟩ : MethodName)) (z := (⟨"com/example/infoset/infoset/xdm/TreeBuffers", "open", "(I)V"⟩ : MethodName)) hown (hw _ (List.mem_of_getElem? (i := 118) rfl)) (hw _ (List.mem_of_getElem? (i := 119) rfl)) (notFace_of_selects (args := #[]) (mvT hZ (hw _ (List.mem_of_getElem? (i := 121) rfl)))) (hw _ (List.mem_of_getElem? (i := 121) rfl)) (hw _ (List.mem_of_getElem? (i := 120) rfl)) (hw _ (List.mem_of_getElem? (i := 6) rfl)) (hw _ (List.mem_of_getElem? (i := 122) rfl)) (by decide) (b := b6) (W := 0) (argsL := [(.int (3 : Int32))]) (rest := []) (rm9 l Z a0 hw [] b6 kd pa en nm vl ns fa op og pr 4 1 (own_up (own_up (own_up (own_up (own_up (fun _ => .int 0) 0 (.int (Int32.ofNat 1))) 1 (.int (Int32.ofNat 2))) 2 (.int (Int32.ofNat 3))) 1 (.int (Int32.ofNat 3))) 3 (.int (Int32.ofNat 4))) (own_up (own_up (fun _ => .int 0) 0 (.int (0 : Int32))) 1 (.int (1 : Int32))) (own_up fg0 1 .null) T117.heap n0 z117 gtb Tq117 (3 : Int32) (by decide)) (by decide) (by decide) (by decide) (by decide) rfl Tq117.ob.exa (g := (mkF m 487 #[.val (.int p1), .val (.int p2), .val (.int v1), .val (.int v2), .val (.int v3), .val (.int v4), .val (.int (1 : Int32)), .val (.ref em), .val (.ref b6), .val (.int (0 : Int32)), .val (.int (1 : Int32)), .val (.int (1 : Int32)), .val (.int (3 : Int32)), .val (.int (1 : Int32)), .val (.int (3 : Int32))] [(.int (3 : Int32)), (.ref b6)])) rfl (by rw [hml]; rfl) (lenOf pd_2 rfl) rfl (by show 2 * 0 + _ ≤ _; exact Nat.le_of_eq rfl) (hb hby at_487)
                obtain ⟨rfl, Nq119, Kq119, Tq119⟩ := hQ119
                replace Tq119 : own_TB Z T119.heap b6 kd pa en nm vl ns fa op og pr 4 2 (own_up (own_up (own_up (own_up (own_up (fun _ => .int 0) 0 (.int (Int32.ofNat 1))) 1 (.int (Int32.ofNat 2))) 2 (.int (Int32.ofNat 3))) 1 (.int (Int32.ofNat 3))) 3 (.int (Int32.ofNat 4))) (own_up (own_up (own_up (fun _ => .int 0) 0 (.int (0 : Int32))) 1 (.int (1 : Int32))) 1 (.int (3 : Int32))) (own_up fg0 1 .null) := Tq119
                have f120 := f118.keep Kq119 (allS (by omega) (allS (by omega) all0))
                have z119 : n0 ≤ T119.heap.size := Nat.le_trans z117 Kq119.1
                have N119 := Fr.app N117 Nq119
                refine own_via (T' := T119) (g' := (mkF m 497 #[.val (.int p1), .val (.int p2), .val (.int v1), .val (.int v2), .val (.int v3), .val (.int v4), .val (.int (1 : Int32)), .val (.ref em), .val (.ref b6), .val (.int (0 : Int32)), .val (.int (1 : Int32)), .val (.int (1 : Int32)), .val (.int (3 : Int32)), .val (.int (1 : Int32)), .val (.int (3 : Int32))] [(.ref b6)])) (fun _ kt => st119 _ (XS.iload X119.here hx rfl (hb hby at_490) rfl (XS.ifNo X119.here hx rfl (hb hby at_492) rfl ((if0 _ _).trans (feq (by decide : ¬ ((1 : Int32) = (0 : Int32)))).1) (XS.aload X119.here hx rfl (hb hby at_495) rfl rfl kt)))) ?_
                obtain ⟨v121, T121, L121, X121, hQ121, st121⟩ := own_callV X119 hx hZ (y := (⟨"com/example/infoset/infoset/xdm/TreeBuffers", "innermostOriginal", "()Lcom/example/infoset/infoset/xdm/NamespaceBindings;"⟩ : MethodName)) (z := (⟨"com/example/infoset/infoset/xdm/TreeBuffers", "innermostOriginal", "()Lcom/example/infoset/infoset/xdm/NamespaceBindings;"⟩ : MethodName)) hown (hw _ (List.mem_of_getElem? (i := 142) rfl)) (hw _ (List.mem_of_getElem? (i := 143) rfl)) (notFace_of_selects (args := #[]) (mvT hZ (hw _ (List.mem_of_getElem? (i := 145) rfl)))) (hw _ (List.mem_of_getElem? (i := 145) rfl)) (hw _ (List.mem_of_getElem? (i := 144) rfl)) (hw _ (List.mem_of_getElem? (i := 6) rfl)) (hw _ (List.mem_of_getElem? (i := 146) rfl)) (by decide) (b := b6) (W := 0) (argsL := []) (rest := []) (rm13s l Z a0 hw [] b6 kd pa en nm vl ns fa op og pr 4 1 (own_up (own_up (own_up (own_up (own_up (fun _ => .int 0) 0 (.int (Int32.ofNat 1))) 1 (.int (Int32.ofNat 2))) 2 (.int (Int32.ofNat 3))) 1 (.int (Int32.ofNat 3))) 3 (.int (Int32.ofNat 4))) (own_up (own_up (own_up (fun _ => .int 0) 0 (.int (0 : Int32))) 1 (.int (1 : Int32))) 1 (.int (3 : Int32))) (own_up fg0 1 .null) T119.heap n0 z119 gtb Tq119 (by decide) rfl) (by decide) (by decide) (by decide) (by decide) rfl Tq119.ob.exa (g := (mkF m 497 #[.val (.int p1), .val (.int p2), .val (.int v1), .val (.int v2), .val (.int v3), .val (.int v4), .val (.int (1 : Int32)), .val (.ref em), .val (.ref b6), .val (.int (0 : Int32)), .val (.int (1 : Int32)), .val (.int (1 : Int32)), .val (.int (3 : Int32)), .val (.int (1 : Int32)), .val (.int (3 : Int32))] [(.ref b6)])) rfl (by rw [hml]; rfl) (lenOf pd_6 rfl) rfl (by show 2 * 0 + _ ≤ _; exact Nat.le_of_eq rfl) (hb hby at_497)
                obtain ⟨rfl, hL121, e121⟩ := hQ121
                replace X121 := own_pure (v := none) (r := none) X121 rfl rfl hL121
                refine own_via (T' := T121) (g' := (mkF m 505 #[.val (.int p1), .val (.int p2), .val (.int v1), .val (.int v2), .val (.int v3), .val (.int v4), .val (.int (1 : Int32)), .val (.ref em), .val (.ref b6), .val (.int (0 : Int32)), .val (.int (1 : Int32)), .val (.int (1 : Int32)), .val (.int (3 : Int32)), .val (.int (1 : Int32)), .val (.int (3 : Int32))] [(.ref b6)])) (fun _ kt => st121 _ (XS.ifnonnullNo X121.here hx rfl (hb hby at_500) rfl (XS.aload X121.here hx rfl (hb hby at_503) rfl rfl kt))) ?_
                obtain ⟨T122, X122, e122, st122⟩ := getF X121 hx hZ hown (host := "") (Or.inl (hw _ (List.mem_of_getElem? (i := 131) rfl))) Via.refl e121 Tq119.f_ends (g := (mkF m 505 #[.val (.int p1), .val (.int p2), .val (.int v1), .val (.int v2), .val (.int v3), .val (.int v4), .val (.int (1 : Int32)), .val (.ref em), .val (.ref b6), .val (.int (0 : Int32)), .val (.int (1 : Int32)), .val (.int (1 : Int32)), .val (.int (3 : Int32)), .val (.int (1 : Int32)), .val (.int (3 : Int32))] [(.ref b6)])) rfl rfl (hb hby at_505)
                refine own_via (T' := T122) (g' := (mkF m 517 #[.val (.int p1), .val (.int p2), .val (.int v1), .val (.int v2), .val (.int v3), .val (.int v4), .val (.int (1 : Int32)), .val (.ref em), .val (.ref b6), .val (.int (0 : Int32)), .val (.int (1 : Int32)), .val (.int (1 : Int32)), .val (.int (3 : Int32)), .val (.int (1 : Int32)), .val (.int (3 : Int32))] [(.int (1 : Int32))])) (fun _ kt => st122 _ (XS.iload X122.here hx rfl (hb hby at_508) rfl (own_iaload X122 hx hZ e122 Tq119.a_en (j := (1 : Int32)) (i := 1) rfl (by decide) (g := (mkF m 510 #[.val (.int p1), .val (.int p2), .val (.int v1), .val (.int v2), .val (.int v3), .val (.int v4), .val (.int (1 : Int32)), .val (.ref em), .val (.ref b6), .val (.int (0 : Int32)), .val (.int (1 : Int32)), .val (.int (1 : Int32)), .val (.int (3 : Int32)), .val (.int (1 : Int32)), .val (.int (3 : Int32))] [(.int (1 : Int32)), (.ref en)])) rfl rfl (hb hby at_510) _ (XS.iload X122.here hx rfl (hb hby at_511) rfl (XS.icmpNo X122.here hx rfl (hb hby at_513) rfl (teq (by decide : ((3 : Int32) = (3 : Int32)))).2 (XS.iconst X122.here hx rfl (hb hby at_516) kt)))))) ?_
                refine own_via (T' := T122) (g' := (mkF m 525 #[.val (.int p1), .val (.int p2), .val (.int v1), .val (.int v2), .val (.int v3), .val (.int v4), .val (.int (1 : Int32)), .val (.ref em), .val (.ref b6), .val (.int (0 : Int32)), .val (.int (1 : Int32)), .val (.int (1 : Int32)), .val (.int (3 : Int32)), .val (.int (1 : Int32)), .val (.int (3 : Int32))] [(.int (1 : Int32))])) (fun _ kt => XS.goto X122.here hx rfl (pc0 := 517) (pc' := 521) rfl (hb hby at_517) (by decide) (by decide) (XS.istore X122.here hx rfl (hb hby at_521) rfl (l' := #[.val (.int p1), .val (.int p2), .val (.int v1), .val (.int v2), .val (.int v3), .val (.int v4), .val (.int (1 : Int32)), .val (.ref em), .val (.ref b6), .val (.int (0 : Int32)), .val (.int (1 : Int32)), .val (.int (1 : Int32)), .val (.int (3 : Int32)), .val (.int (1 : Int32)), .val (.int (3 : Int32))]) rfl (XS.iload X122.here hx rfl (hb hby at_523) rfl kt))) ?_
                exact own_retZ X122 hx hret hlk (hb hby at_525) (by decide) ⟨rfl, N119⟩ (by decide) (by decide)
            · refine own_via (T' := T) (g' := (mkF m 174 #[.val (.int p1), .val (.int p2), .val (.int v1), .val (.int v2), .val (.int v3), .val (.int v4), .val (.int (2 : Int32)), .val (.ref em), .val (.ref b6), .val (.int (0 : Int32)), .val (.int (1 : Int32)), .val (.int (1 : Int32)), .unset, .unset, .unset] [(.int (2 : Int32))])) (fun _ kt => XS.iloadN XL.here hx rfl (hb hby at_159) rfl (XS.ifNo XL.here hx rfl (hb hby at_160) rfl ((if0 _ _).trans (feq hdp).1) (XS.iload XL.here hx rfl (hb hby at_163) rfl (XS.goto XL.here hx rfl (pc0 := 165) (pc' := 170) rfl (hb hby at_165) (by decide) (by decide) (XS.istore XL.here hx rfl (hb hby at_170) rfl (l' := #[.val (.int p1), .val (.int p2), .val (.int v1), .val (.int v2), .val (.int v3), .val (.int v4), .val (.int (2 : Int32)), .val (.ref em), .val (.ref b6), .val (.int (0 : Int32)), .val (.int (1 : Int32)), .val (.int (1 : Int32)), .unset, .unset, .unset]) rfl (XS.iload XL.here hx rfl (hb hby at_172) rfl kt)))))) ?_
              refine own_via (T' := T) (g' := (mkF m 180 #[.val (.int p1), .val (.int p2), .val (.int v1), .val (.int v2), .val (.int v3), .val (.int v4), .val (.int (2 : Int32)), .val (.ref em), .val (.ref b6), .val (.int (0 : Int32)), .val (.int (1 : Int32)), .val (.int (1 : Int32)), .unset, .unset, .unset] [(.ref b6)])) (fun _ kt => XS.iconst XL.here hx rfl (hb hby at_174) (XS.icmpNo XL.here hx rfl (hb hby at_175) rfl (flt (by decide : ¬ ((2 : Int32) < (1 : Int32)))).1 (XS.aload XL.here hx rfl (hb hby at_178) rfl rfl kt))) ?_
              obtain ⟨T123, X123, e123, st123⟩ := getS2 XL hx hZ hown (host := "") (Or.inl (hw _ (List.mem_of_getElem? (i := 153) rfl))) Via.refl eL (S_k3.ext OL.2) (g := (mkF m 180 #[.val (.int p1), .val (.int p2), .val (.int v1), .val (.int v2), .val (.int v3), .val (.int v4), .val (.int (2 : Int32)), .val (.ref em), .val (.ref b6), .val (.int (0 : Int32)), .val (.int (1 : Int32)), .val (.int (1 : Int32)), .unset, .unset, .unset] [(.ref b6)])) rfl (hb hby at_180)
              refine own_via (T' := T123) (g' := (mkF m 188 #[.val (.int p1), .val (.int p2), .val (.int v1), .val (.int v2), .val (.int v3), .val (.int v4), .val (.int (2 : Int32)), .val (.ref em), .val (.ref b6), .val (.int (0 : Int32)), .val (.int (1 : Int32)), .val (.int (1 : Int32)), .unset, .unset, .unset] [.null, .null, .null, (.int (1 : Int32)), (.ref k3), (.ref b6)])) (fun _ kt => st123 _ (XS.iload X123.here hx rfl (hb hby at_183) rfl (XS.aconstNull X123.here hx rfl (hb hby at_185) (XS.aconstNull X123.here hx rfl (hb hby at_186) (XS.aconstNull X123.here hx rfl (hb hby at_187) kt))))) ?_
              obtain ⟨v124, T124, L124, X124, hQ124, st124⟩ := own_callV X123 hx hZ (y := (⟨"com/example/infoset/infoset/xdm/TreeBuffers", "add", "(Lcom/example/infoset/infoset/xdm/NodeKind;ILcom/example/infoset/infoset/xdm/QName;Ljava/lang/String;Lcom/example/infoset/infoset/xdm/NamespaceBindings;)I"⟩ : MethodName)) (z := (⟨"com/example/infoset/infoset/xdm/TreeBuffers", "add", "(Lcom/example/infoset/infoset/xdm/NodeKind;ILcom/example/infoset/infoset/xdm/QName;Ljava/lang/String;Lcom/example/infoset/infoset/xdm/NamespaceBindings;)I"⟩ : MethodName)) hown (hw _ (List.mem_of_getElem? (i := 100) rfl)) (hw _ (List.mem_of_getElem? (i := 101) rfl)) (notFace_of_selects (args := #[]) (mvT hZ (hw _ (List.mem_of_getElem? (i := 103) rfl)))) (hw _ (List.mem_of_getElem? (i := 103) rfl)) (hw _ (List.mem_of_getElem? (i := 102) rfl)) (hw _ (List.mem_of_getElem? (i := 6) rfl)) (hw _ (List.mem_of_getElem? (i := 104) rfl)) (by decide) (b := b6) (W := 0) (argsL := [(.ref k3), (.int (1 : Int32)), .null, .null, .null]) (rest := []) (rm7 l Z a0 hw [] b6 kd pa en nm vl ns fa op og pr 2 2 (own_up (own_up (fun _ => .int 0) 0 (.int (Int32.ofNat 1))) 1 (.int (Int32.ofNat 2))) (own_up (own_up (fun _ => .int 0) 0 (.int (0 : Int32))) 1 (.int (1 : Int32))) fg0 hh n0 zL gtb TL k3 (1 : Int32) 3 (by decide) (E_k3.ext OL.2) (F_k3.ext OL.2)) (by decide) (by decide) (by decide) (by decide) e123 TL.ob.exa (g := (mkF m 188 #[.val (.int p1), .val (.int p2), .val (.int v1), .val (.int v2), .val (.int v3), .val (.int v4), .val (.int (2 : Int32)), .val (.ref em), .val (.ref b6), .val (.int (0 : Int32)), .val (.int (1 : Int32)), .val (.int (1 : Int32)), .unset, .unset, .unset] [.null, .null, .null, (.int (1 : Int32)), (.ref k3), (.ref b6)])) rfl (by rw [hml]; rfl) (lenOf pd_7 rfl) rfl (by show 2 * 0 + _ ≤ _; exact Nat.le_of_eq rfl) (hb hby at_188)
              obtain ⟨rfl, Nq124, Kq124, Tq124⟩ := hQ124
              replace Tq124 : own_TB Z T124.heap b6 kd pa en nm vl ns fa op og pr 3 2 (own_up (own_up (own_up (fun _ => .int 0) 0 (.int (Int32.ofNat 1))) 1 (.int (Int32.ofNat 2))) 2 (.int (Int32.ofNat 3))) (own_up (own_up (fun _ => .int 0) 0 (.int (0 : Int32))) 1 (.int (1 : Int32))) fg0 := Tq124
              have f125 := OL.keep Kq124 (allS (by omega) (allS (by omega) (allS (by omega) (allS (by omega) (allS (by omega) (allS (by omega) (allS (by omega) (allS (by omega) all0))))))))
              have z124 : n0 ≤ T124.heap.size := Nat.le_trans zL Kq124.1
              have N124 := Fr.app NL Nq124
              refine own_via (T' := T124) (g' := (mkF m 200 #[.val (.int p1), .val (.int p2), .val (.int v1), .val (.int v2), .val (.int v3), .val (.int v4), .val (.int (2 : Int32)), .val (.ref em), .val (.ref b6), .val (.int (0 : Int32)), .val (.int (1 : Int32)), .val (.int (1 : Int32)), .unset, .unset, .unset] [(.ref b6)])) (fun _ kt => st124 _ (XS.pop X124.here hx rfl (hb hby at_191) rfl rfl (XS.iload X124.here hx rfl (hb hby at_192) rfl (XS.iconst X124.here hx rfl (hb hby at_194) (XS.icmpNo X124.here hx rfl (hb hby at_195) rfl (flt (by decide : ¬ ((2 : Int32) < (2 : Int32)))).1 (XS.aload X124.here hx rfl (hb hby at_198) rfl rfl kt)))))) ?_
              obtain ⟨T126, X126, e126, st126⟩ := getS2 X124 hx hZ hown (host := "") (Or.inl (hw _ (List.mem_of_getElem? (i := 155) rfl))) Via.refl rfl (S_k4.ext f125.2) (g := (mkF m 200 #[.val (.int p1), .val (.int p2), .val (.int v1), .val (.int v2), .val (.int v3), .val (.int v4), .val (.int (2 : Int32)), .val (.ref em), .val (.ref b6), .val (.int (0 : Int32)), .val (.int (1 : Int32)), .val (.int (1 : Int32)), .unset, .unset, .unset] [(.ref b6)])) rfl (hb hby at_200)
              refine own_via (T' := T126) (g' := (mkF m 208 #[.val (.int p1), .val (.int p2), .val (.int v1), .val (.int v2), .val (.int v3), .val (.int v4), .val (.int (2 : Int32)), .val (.ref em), .val (.ref b6), .val (.int (0 : Int32)), .val (.int (1 : Int32)), .val (.int (1 : Int32)), .unset, .unset, .unset] [.null, .null, .null, (.int (1 : Int32)), (.ref k4), (.ref b6)])) (fun _ kt => st126 _ (XS.iload X126.here hx rfl (hb hby at_203) rfl (XS.aconstNull X126.here hx rfl (hb hby at_205) (XS.aconstNull X126.here hx rfl (hb hby at_206) (XS.aconstNull X126.here hx rfl (hb hby at_207) kt))))) ?_
              obtain ⟨v127, T127, L127, X127, hQ127, st127⟩ := own_callV X126 hx hZ (y := (⟨"com/example/infoset/infoset/xdm/TreeBuffers", "add", "(Lcom/example/infoset/infoset/xdm/NodeKind;ILcom/example/infoset/infoset/xdm/QName;Ljava/lang/String;Lcom/example/infoset/infoset/xdm/NamespaceBindings;)I"⟩ : MethodName)) (z := (⟨"com/example/infoset/infoset/xdm/TreeBuffers", "add", "(Lcom/example/infoset/infoset/xdm/NodeKind;ILcom/example/infoset/infoset/xdm/QName;Ljava/lang/String;Lcom/example/infoset/infoset/xdm/NamespaceBindings;)I"⟩ : MethodName)) hown (hw _ (List.mem_of_getElem? (i := 100) rfl)) (hw _ (List.mem_of_getElem? (i := 101) rfl)) (notFace_of_selects (args := #[]) (mvT hZ (hw _ (List.mem_of_getElem? (i := 103) rfl)))) (hw _ (List.mem_of_getElem? (i := 103) rfl)) (hw _ (List.mem_of_getElem? (i := 102) rfl)) (hw _ (List.mem_of_getElem? (i := 6) rfl)) (hw _ (List.mem_of_getElem? (i := 104) rfl)) (by decide) (b := b6) (W := 0) (argsL := [(.ref k4), (.int (1 : Int32)), .null, .null, .null]) (rest := []) (rm7 l Z a0 hw [] b6 kd pa en nm vl ns fa op og pr 3 2 (own_up (own_up (own_up (fun _ => .int 0) 0 (.int (Int32.ofNat 1))) 1 (.int (Int32.ofNat 2))) 2 (.int (Int32.ofNat 3))) (own_up (own_up (fun _ => .int 0) 0 (.int (0 : Int32))) 1 (.int (1 : Int32))) fg0 T124.heap n0 z124 gtb Tq124 k4 (1 : Int32) 4 (by decide) (E_k4.ext f125.2) (F_k4.ext f125.2)) (by decide) (by decide) (by decide) (by decide) e126 Tq124.ob.exa (g := (mkF m 208 #[.val (.int p1), .val (.int p2), .val (.int v1), .val (.int v2), .val (.int v3), .val (.int v4), .val (.int (2 : Int32)), .val (.ref em), .val (.ref b6), .val (.int (0 : Int32)), .val (.int (1 : Int32)), .val (.int (1 : Int32)), .unset, .unset, .unset] [.null, .null, .null, (.int (1 : Int32)), (.ref k4), (.ref b6)])) rfl (by rw [hml]; rfl) (lenOf pd_7 rfl) rfl (by show 2 * 0 + _ ≤ _; exact Nat.le_of_eq rfl) (hb hby at_208)
              obtain ⟨rfl, Nq127, Kq127, Tq127⟩ := hQ127
              replace Tq127 : own_TB Z T127.heap b6 kd pa en nm vl ns fa op og pr 4 2 (own_up (own_up (own_up (own_up (fun _ => .int 0) 0 (.int (Int32.ofNat 1))) 1 (.int (Int32.ofNat 2))) 2 (.int (Int32.ofNat 3))) 3 (.int (Int32.ofNat 4))) (own_up (own_up (fun _ => .int 0) 0 (.int (0 : Int32))) 1 (.int (1 : Int32))) fg0 := Tq127
              have f128 := f125.keep Kq127 (allS (by omega) (allS (by omega) (allS (by omega) (allS (by omega) (allS (by omega) (allS (by omega) (allS (by omega) (allS (by omega) all0))))))))
              have z127 : n0 ≤ T127.heap.size := Nat.le_trans z124 Kq127.1
              have N127 := Fr.app N124 Nq127
              refine own_via (T' := T127) (g' := (mkF m 218 #[.val (.int p1), .val (.int p2), .val (.int v1), .val (.int v2), .val (.int v3), .val (.int v4), .val (.int (2 : Int32)), .val (.ref em), .val (.ref b6), .val (.int (0 : Int32)), .val (.int (1 : Int32)), .val (.int (1 : Int32)), .unset, .unset, .unset] [(.int (1 : Int32)), (.int (1 : Int32))])) (fun _ kt => st127 _ (XS.pop X127.here hx rfl (hb hby at_211) rfl rfl (XS.iconst X127.here hx rfl (hb hby at_212) (XS.iloadN X127.here hx rfl (hb hby at_213) rfl (XS.ifNo X127.here hx rfl (hb hby at_214) rfl ((if0 _ _).trans (feq hdp).1) (XS.iconst X127.here hx rfl (hb hby at_217) kt)))))) ?_
              refine own_via (T' := T127) (g' := (mkF m 230 #[.val (.int p1), .val (.int p2), .val (.int v1), .val (.int v2), .val (.int v3), .val (.int v4), .val (.int (2 : Int32)), .val (.ref em), .val (.ref b6), .val (.int (0 : Int32)), .val (.int (1 : Int32)), .val (.int (1 : Int32)), .val (.int (4 : Int32)), .unset, .unset] [(.ref b6)])) (fun _ kt => XS.goto X127.here hx rfl (pc0 := 218) (pc' := 222) rfl (hb hby at_218) (by decide) (by decide) (XS.iadd X127.here hx rfl (hb hby at_222) rfl (XS.iload X127.here hx rfl (hb hby at_223) rfl (XS.iadd X127.here hx rfl (hb hby at_225) rfl (XS.istore X127.here hx rfl (hb hby at_226) rfl (l' := #[.val (.int p1), .val (.int p2), .val (.int v1), .val (.int v2), .val (.int v3), .val (.int v4), .val (.int (2 : Int32)), .val (.ref em), .val (.ref b6), .val (.int (0 : Int32)), .val (.int (1 : Int32)), .val (.int (1 : Int32)), .val (.int (4 : Int32)), .unset, .unset]) rfl (XS.aload X127.here hx rfl (hb hby at_228) rfl rfl kt)))))) ?_
              obtain ⟨T129, X129, e129, st129⟩ := getF X127 hx hZ hown (host := "") (Or.inl (hw _ (List.mem_of_getElem? (i := 125) rfl))) Via.refl rfl Tq127.f_size (g := (mkF m 230 #[.val (.int p1), .val (.int p2), .val (.int v1), .val (.int v2), .val (.int v3), .val (.int v4), .val (.int (2 : Int32)), .val (.ref em), .val (.ref b6), .val (.int (0 : Int32)), .val (.int (1 : Int32)), .val (.int (1 : Int32)), .val (.int (4 : Int32)), .unset, .unset] [(.ref b6)])) rfl rfl (hb hby at_230)
              refine own_via (T' := T129) (g' := (mkF m 245 #[.val (.int p1), .val (.int p2), .val (.int v1), .val (.int v2), .val (.int v3), .val (.int v4), .val (.int (2 : Int32)), .val (.ref em), .val (.ref b6), .val (.int (0 : Int32)), .val (.int (1 : Int32)), .val (.int (1 : Int32)), .val (.int (4 : Int32)), .val (.int (1 : Int32)), .unset] [])) (fun _ kt => st129 _ (XS.iload X129.here hx rfl (hb hby at_233) rfl (XS.icmpNo X129.here hx rfl (hb hby at_235) rfl (teq (by decide : ((4 : Int32) = (4 : Int32)))).2 (XS.iconst X129.here hx rfl (hb hby at_238) (XS.goto X129.here hx rfl (pc0 := 239) (pc' := 243) rfl (hb hby at_239) (by decide) (by decide) (XS.istore X129.here hx rfl (hb hby at_243) rfl (l' := #[.val (.int p1), .val (.int p2), .val (.int v1), .val (.int v2), .val (.int v3), .val (.int v4), .val (.int (2 : Int32)), .val (.ref em), .val (.ref b6), .val (.int (0 : Int32)), .val (.int (1 : Int32)), .val (.int (1 : Int32)), .val (.int (4 : Int32)), .val (.int (1 : Int32)), .unset]) rfl kt)))))) ?_
              refine own_via (T' := T129) (g' := (mkF m 247 #[.val (.int p1), .val (.int p2), .val (.int v1), .val (.int v2), .val (.int v3), .val (.int v4), .val (.int (2 : Int32)), .val (.ref em), .val (.ref b6), .val (.int (0 : Int32)), .val (.int (1 : Int32)), .val (.int (1 : Int32)), .val (.int (4 : Int32)), .val (.int (1 : Int32)), .unset] [(.ref b6)])) (fun _ kt => XS.aload X129.here hx rfl (hb hby at_245) rfl rfl kt) ?_
              obtain ⟨v130, T130, L130, X130, hQ130, st130⟩ := own_callV X129 hx hZ (y := (⟨"com/example/infoset/infoset/xdm/TreeBuffers", "close", "()V"⟩ : MethodName)) (z := (⟨"com/example/infoset/infoset/xdm/TreeBuffers", "close", "()V"⟩ : MethodName)) hown (hw _ (List.mem_of_getElem? (i := 126) rfl)) (hw _ (List.mem_of_getElem? (i := 127) rfl)) (notFace_of_selects (args := #[]) (mvT hZ (hw _ (List.mem_of_getElem? (i := 129) rfl)))) (hw _ (List.mem_of_getElem? (i := 129) rfl)) (hw _ (List.mem_of_getElem? (i := 128) rfl)) (hw _ (List.mem_of_getElem? (i := 6) rfl)) (hw _ (List.mem_of_getElem? (i := 130) rfl)) (by decide) (b := b6) (W := 0) (argsL := []) (rest := []) (rm10 l Z a0 hw [] b6 kd pa en nm vl ns fa op og pr 4 1 (own_up (own_up (own_up (own_up (fun _ => .int 0) 0 (.int (Int32.ofNat 1))) 1 (.int (Int32.ofNat 2))) 2 (.int (Int32.ofNat 3))) 3 (.int (Int32.ofNat 4))) (own_up (own_up (fun _ => .int 0) 0 (.int (0 : Int32))) 1 (.int (1 : Int32))) fg0 T127.heap n0 z127 gtb Tq127 1 (by decide) (by decide) rfl) (by decide) (by decide) (by decide) (by decide) e129 Tq127.ob.exa (g := (mkF m 247 #[.val (.int p1), .val (.int p2), .val (.int v1), .val (.int v2), .val (.int v3), .val (.int v4), .val (.int (2 : Int32)), .val (.ref em), .val (.ref b6), .val (.int (0 : Int32)), .val (.int (1 : Int32)), .val (.int (1 : Int32)), .val (.int (4 : Int32)), .val (.int (1 : Int32)), .unset] [(.ref b6)])) rfl (by rw [hml]; rfl) (lenOf pd_0 rfl) rfl (by show 2 * 0 + _ ≤ _; exact Nat.le_of_eq rfl) (hb hby at_247)
              obtain ⟨rfl, Nq130, Kq130, Tq130⟩ := hQ130
              replace Tq130 : own_TB Z T130.heap b6 kd pa en nm vl ns fa op og pr 4 1 (own_up (own_up (own_up (own_up (own_up (fun _ => .int 0) 0 (.int (Int32.ofNat 1))) 1 (.int (Int32.ofNat 2))) 2 (.int (Int32.ofNat 3))) 3 (.int (Int32.ofNat 4))) 1 (.int (Int32.ofNat 4))) (own_up (own_up (fun _ => .int 0) 0 (.int (0 : Int32))) 1 (.int (1 : Int32))) (own_up fg0 1 .null) := Tq130
              have f131 := f128.keep Kq130 (allS (by omega) (allS (by omega) (allS (by omega) all0)))
              have z130 : n0 ≤ T130.heap.size := Nat.le_trans z127 Kq130.1
              have N130 := Fr.app N127 Nq130
              refine own_via (T' := T130) (g' := (mkF m 257 #[.val (.int p1), .val (.int p2), .val (.int v1), .val (.int v2), .val (.int v3), .val (.int v4), .val (.int (2 : Int32)), .val (.ref em), .val (.ref b6), .val (.int (0 : Int32)), .val (.int (1 : Int32)), .val (.int (1 : Int32)), .val (.int (4 : Int32)), .val (.int (1 : Int32)), .unset] [(.ref b6)])) (fun _ kt => st130 _ (XS.iload X130.here hx rfl (hb hby at_250) rfl (XS.ifNo X130.here hx rfl (hb hby at_252) rfl ((if0 _ _).trans (feq (by decide : ¬ ((1 : Int32) = (0 : Int32)))).1) (XS.aload X130.here hx rfl (hb hby at_255) rfl rfl kt)))) ?_
              obtain ⟨T132, X132, e132, st132⟩ := getF X130 hx hZ hown (host := "") (Or.inl (hw _ (List.mem_of_getElem? (i := 125) rfl))) Via.refl rfl Tq130.f_size (g := (mkF m 257 #[.val (.int p1), .val (.int p2), .val (.int v1), .val (.int v2), .val (.int v3), .val (.int v4), .val (.int (2 : Int32)), .val (.ref em), .val (.ref b6), .val (.int (0 : Int32)), .val (.int (1 : Int32)), .val (.int (1 : Int32)), .val (.int (4 : Int32)), .val (.int (1 : Int32)), .unset] [(.ref b6)])) rfl rfl (hb hby at_257)
              refine own_via (T' := T132) (g' := (mkF m 267 #[.val (.int p1), .val (.int p2), .val (.int v1), .val (.int v2), .val (.int v3), .val (.int v4), .val (.int (2 : Int32)), .val (.ref em), .val (.ref b6), .val (.int (0 : Int32)), .val (.int (1 : Int32)), .val (.int (1 : Int32)), .val (.int (4 : Int32)), .val (.int (1 : Int32)), .unset] [(.ref b6)])) (fun _ kt => st132 _ (XS.iload X132.here hx rfl (hb hby at_260) rfl (XS.icmpNo X132.here hx rfl (hb hby at_262) rfl (teq (by decide : ((4 : Int32) = (4 : Int32)))).2 (XS.aload X132.here hx rfl (hb hby at_265) rfl rfl kt)))) ?_
              obtain ⟨T133, X133, e133, st133⟩ := getF X132 hx hZ hown (host := "") (Or.inl (hw _ (List.mem_of_getElem? (i := 131) rfl))) Via.refl e132 Tq130.f_ends (g := (mkF m 267 #[.val (.int p1), .val (.int p2), .val (.int v1), .val (.int v2), .val (.int v3), .val (.int v4), .val (.int (2 : Int32)), .val (.ref em), .val (.ref b6), .val (.int (0 : Int32)), .val (.int (1 : Int32)), .val (.int (1 : Int32)), .val (.int (4 : Int32)), .val (.int (1 : Int32)), .unset] [(.ref b6)])) rfl rfl (hb hby at_267)
              refine own_via (T' := T133) (g' := (mkF m 279 #[.val (.int p1), .val (.int p2), .val (.int v1), .val (.int v2), .val (.int v3), .val (.int v4), .val (.int (2 : Int32)), .val (.ref em), .val (.ref b6), .val (.int (0 : Int32)), .val (.int (1 : Int32)), .val (.int (1 : Int32)), .val (.int (4 : Int32)), .val (.int (1 : Int32)), .unset] [(.int (1 : Int32))])) (fun _ kt => st133 _ (XS.iload X133.here hx rfl (hb hby at_270) rfl (own_iaload X133 hx hZ e133 Tq130.a_en (j := (1 : Int32)) (i := 1) rfl (by decide) (g := (mkF m 272 #[.val (.int p1), .val (.int p2), .val (.int v1), .val (.int v2), .val (.int v3), .val (.int v4), .val (.int (2 : Int32)), .val (.ref em), .val (.ref b6), .val (.int (0 : Int32)), .val (.int (1 : Int32)), .val (.int (1 : Int32)), .val (.int (4 : Int32)), .val (.int (1 : Int32)), .unset] [(.int (1 : Int32)), (.ref en)])) rfl rfl (hb hby at_272) _ (XS.iload X133.here hx rfl (hb hby at_273) rfl (XS.icmpNo X133.here hx rfl (hb hby at_275) rfl (teq (by decide : ((4 : Int32) = (4 : Int32)))).2 (XS.iconst X133.here hx rfl (hb hby at_278) kt)))))) ?_
              refine own_via (T' := T133) (g' := (mkF m 294 #[.val (.int p1), .val (.int p2), .val (.int v1), .val (.int v2), .val (.int v3), .val (.int v4), .val (.int (2 : Int32)), .val (.ref em), .val (.ref b6), .val (.int (0 : Int32)), .val (.int (1 : Int32)), .val (.int (1 : Int32)), .val (.int (4 : Int32)), .val (.int (1 : Int32)), .unset] [])) (fun _ kt => XS.goto X133.here hx rfl (pc0 := 279) (pc' := 283) rfl (hb hby at_279) (by decide) (by decide) (XS.istore X133.here hx rfl (hb hby at_283) rfl (l' := #[.val (.int p1), .val (.int p2), .val (.int v1), .val (.int v2), .val (.int v3), .val (.int v4), .val (.int (2 : Int32)), .val (.ref em), .val (.ref b6), .val (.int (0 : Int32)), .val (.int (1 : Int32)), .val (.int (1 : Int32)), .val (.int (4 : Int32)), .val (.int (1 : Int32)), .unset]) rfl (XS.iloadN X133.here hx rfl (hb hby at_285) rfl (XS.ifNo X133.here hx rfl (hb hby at_286) rfl ((if0 _ _).trans (feq hdp).1) (XS.iload X133.here hx rfl (hb hby at_289) rfl (XS.ifNo X133.here hx rfl (hb hby at_291) rfl ((if0 _ _).trans (feq (by decide : ¬ ((1 : Int32) = (0 : Int32)))).1) kt)))))) ?_
              refine own_via (T' := T133) (g' := (mkF m 296 #[.val (.int p1), .val (.int p2), .val (.int v1), .val (.int v2), .val (.int v3), .val (.int v4), .val (.int (2 : Int32)), .val (.ref em), .val (.ref b6), .val (.int (0 : Int32)), .val (.int (1 : Int32)), .val (.int (1 : Int32)), .val (.int (4 : Int32)), .val (.int (1 : Int32)), .unset] [(.ref b6)])) (fun _ kt => XS.aload X133.here hx rfl (hb hby at_294) rfl rfl kt) ?_
              obtain ⟨T134, X134, e134, st134⟩ := getF X133 hx hZ hown (host := "") (Or.inl (hw _ (List.mem_of_getElem? (i := 131) rfl))) Via.refl e133 Tq130.f_ends (g := (mkF m 296 #[.val (.int p1), .val (.int p2), .val (.int v1), .val (.int v2), .val (.int v3), .val (.int v4), .val (.int (2 : Int32)), .val (.ref em), .val (.ref b6), .val (.int (0 : Int32)), .val (.int (1 : Int32)), .val (.int (1 : Int32)), .val (.int (4 : Int32)), .val (.int (1 : Int32)), .unset] [(.ref b6)])) rfl rfl (hb hby at_296)
              refine own_via (T' := T134) (g' := (mkF m 308 #[.val (.int p1), .val (.int p2), .val (.int v1), .val (.int v2), .val (.int v3), .val (.int v4), .val (.int (2 : Int32)), .val (.ref em), .val (.ref b6), .val (.int (0 : Int32)), .val (.int (1 : Int32)), .val (.int (1 : Int32)), .val (.int (4 : Int32)), .val (.int (1 : Int32)), .unset] [(.ref b6)])) (fun _ kt => st134 _ (XS.iload X134.here hx rfl (hb hby at_299) rfl (own_iaload X134 hx hZ e134 Tq130.a_en (j := (0 : Int32)) (i := 0) rfl (by decide) (g := (mkF m 301 #[.val (.int p1), .val (.int p2), .val (.int v1), .val (.int v2), .val (.int v3), .val (.int v4), .val (.int (2 : Int32)), .val (.ref em), .val (.ref b6), .val (.int (0 : Int32)), .val (.int (1 : Int32)), .val (.int (1 : Int32)), .val (.int (4 : Int32)), .val (.int (1 : Int32)), .unset] [(.int (0 : Int32)), (.ref en)])) rfl rfl (hb hby at_301) _ (XS.iconst X134.here hx rfl (hb hby at_302) (XS.icmpNo X134.here hx rfl (hb hby at_303) rfl (teq (by decide : ((1 : Int32) = (1 : Int32)))).2 (XS.aload X134.here hx rfl (hb hby at_306) rfl rfl kt)))))) ?_
              obtain ⟨v135, T135, L135, X135, hQ135, st135⟩ := own_callV X134 hx hZ (y := (⟨"com/example/infoset/infoset/xdm/TreeBuffers", "depth", "()I"⟩ : MethodName)) (z := (⟨"com/example/infoset/infoset/xdm/TreeBuffers", "depth", "()I"⟩ : MethodName)) hown (hw _ (List.mem_of_getElem? (i := 132) rfl)) (hw _ (List.mem_of_getElem? (i := 133) rfl)) (notFace_of_selects (args := #[]) (mvT hZ (hw _ (List.mem_of_getElem? (i := 135) rfl)))) (hw _ (List.mem_of_getElem? (i := 135) rfl)) (hw _ (List.mem_of_getElem? (i := 134) rfl)) (hw _ (List.mem_of_getElem? (i := 6) rfl)) (hw _ (List.mem_of_getElem? (i := 136) rfl)) (by decide) (b := b6) (W := 0) (argsL := []) (rest := []) (rm11 l Z a0 hw [] b6 kd pa en nm vl ns fa op og pr 4 1 (own_up (own_up (own_up (own_up (own_up (fun _ => .int 0) 0 (.int (Int32.ofNat 1))) 1 (.int (Int32.ofNat 2))) 2 (.int (Int32.ofNat 3))) 3 (.int (Int32.ofNat 4))) 1 (.int (Int32.ofNat 4))) (own_up (own_up (fun _ => .int 0) 0 (.int (0 : Int32))) 1 (.int (1 : Int32))) (own_up fg0 1 .null) T130.heap n0 z130 gtb Tq130) (by decide) (by decide) (by decide) (by decide) e134 Tq130.ob.exa (g := (mkF m 308 #[.val (.int p1), .val (.int p2), .val (.int v1), .val (.int v2), .val (.int v3), .val (.int v4), .val (.int (2 : Int32)), .val (.ref em), .val (.ref b6), .val (.int (0 : Int32)), .val (.int (1 : Int32)), .val (.int (1 : Int32)), .val (.int (4 : Int32)), .val (.int (1 : Int32)), .unset] [(.ref b6)])) rfl (by rw [hml]; rfl) (lenOf pd_4 rfl) rfl (by show 2 * 0 + _ ≤ _; exact Nat.le_of_eq rfl) (hb hby at_308)
              obtain ⟨rfl, hL135, e135⟩ := hQ135
              replace X135 := own_pure (v := none) (r := none) X135 rfl rfl hL135
              refine own_via (T' := T135) (g' := (mkF m 317 #[.val (.int p1), .val (.int p2), .val (.int v1), .val (.int v2), .val (.int v3), .val (.int v4), .val (.int (2 : Int32)), .val (.ref em), .val (.ref b6), .val (.int (0 : Int32)), .val (.int (1 : Int32)), .val (.int (1 : Int32)), .val (.int (4 : Int32)), .val (.int (1 : Int32)), .unset] [(.ref b6)])) (fun _ kt => st135 _ (XS.iconst X135.here hx rfl (hb hby at_311) (XS.icmpNo X135.here hx rfl (hb hby at_312) rfl (teq (by decide : ((1 : Int32) = (1 : Int32)))).2 (XS.aload X135.here hx rfl (hb hby at_315) rfl rfl kt)))) ?_
              obtain ⟨v136, T136, L136, X136, hQ136, st136⟩ := own_callV X135 hx hZ (y := (⟨"com/example/infoset/infoset/xdm/TreeBuffers", "innermost", "()I"⟩ : MethodName)) (z := (⟨"com/example/infoset/infoset/xdm/TreeBuffers", "innermost", "()I"⟩ : MethodName)) hown (hw _ (List.mem_of_getElem? (i := 137) rfl)) (hw _ (List.mem_of_getElem? (i := 138) rfl)) (notFace_of_selects (args := #[]) (mvT hZ (hw _ (List.mem_of_getElem? (i := 140) rfl)))) (hw _ (List.mem_of_getElem? (i := 140) rfl)) (hw _ (List.mem_of_getElem? (i := 139) rfl)) (hw _ (List.mem_of_getElem? (i := 6) rfl)) (hw _ (List.mem_of_getElem? (i := 141) rfl)) (by decide) (b := b6) (W := 0) (argsL := []) (rest := []) (rm12s l Z a0 hw [] b6 kd pa en nm vl ns fa op og pr 4 0 (own_up (own_up (own_up (own_up (own_up (fun _ => .int 0) 0 (.int (Int32.ofNat 1))) 1 (.int (Int32.ofNat 2))) 2 (.int (Int32.ofNat 3))) 3 (.int (Int32.ofNat 4))) 1 (.int (Int32.ofNat 4))) (own_up (own_up (fun _ => .int 0) 0 (.int (0 : Int32))) 1 (.int (1 : Int32))) (own_up fg0 1 .null) T130.heap n0 z130 gtb Tq130 0 (by decide) rfl) (by decide) (by decide) (by decide) (by decide) e135 Tq130.ob.exa (g := (mkF m 317 #[.val (.int p1), .val (.int p2), .val (.int v1), .val (.int v2), .val (.int v3), .val (.int v4), .val (.int (2 : Int32)), .val (.ref em), .val (.ref b6), .val (.int (0 : Int32)), .val (.int (1 : Int32)), .val (.int (1 : Int32)), .val (.int (4 : Int32)), .val (.int (1 : Int32)), .unset] [(.ref b6)])) rfl (by rw [hml]; rfl) (lenOf pd_4 rfl) rfl (by show 2 * 0 + _ ≤ _; exact Nat.le_of_eq rfl) (hb hby at_317)
              obtain ⟨rfl, hL136, e136⟩ := hQ136
              replace X136 := own_pure (v := none) (r := none) X136 rfl rfl hL136
              refine own_via (T' := T136) (g' := (mkF m 327 #[.val (.int p1), .val (.int p2), .val (.int v1), .val (.int v2), .val (.int v3), .val (.int v4), .val (.int (2 : Int32)), .val (.ref em), .val (.ref b6), .val (.int (0 : Int32)), .val (.int (1 : Int32)), .val (.int (1 : Int32)), .val (.int (4 : Int32)), .val (.int (1 : Int32)), .unset] [(.ref b6)])) (fun _ kt => st136 _ (XS.iload X136.here hx rfl (hb hby at_320) rfl (XS.icmpNo X136.here hx rfl (hb hby at_322) rfl (teq (by decide : ((0 : Int32) = (0 : Int32)))).2 (XS.aload X136.here hx rfl (hb hby at_325) rfl rfl kt)))) ?_
              obtain ⟨v137, T137, L137, X137, hQ137, st137⟩ := own_callV X136 hx hZ (y := (⟨"com/example/infoset/infoset/xdm/TreeBuffers", "innermostOriginal", "()Lcom/example/infoset/infoset/xdm/NamespaceBindings;"⟩ : MethodName)) (z := (⟨"com/example/infoset/infoset/xdm/TreeBuffers", "innermostOriginal", "()Lcom/example/infoset/infoset/xdm/NamespaceBindings;"⟩ : MethodName)) hown (hw _ (List.mem_of_getElem? (i := 142) rfl)) (hw _ (List.mem_of_getElem? (i := 143) rfl)) (notFace_of_selects (args := #[]) (mvT hZ (hw _ (List.mem_of_getElem? (i := 145) rfl)))) (hw _ (List.mem_of_getElem? (i := 145) rfl)) (hw _ (List.mem_of_getElem? (i := 144) rfl)) (hw _ (List.mem_of_getElem? (i := 6) rfl)) (hw _ (List.mem_of_getElem? (i := 146) rfl)) (by decide) (b := b6) (W := 0) (argsL := []) (rest := []) (rm13s l Z a0 hw [] b6 kd pa en nm vl ns fa op og pr 4 0 (own_up (own_up (own_up (own_up (own_up (fun _ => .int 0) 0 (.int (Int32.ofNat 1))) 1 (.int (Int32.ofNat 2))) 2 (.int (Int32.ofNat 3))) 3 (.int (Int32.ofNat 4))) 1 (.int (Int32.ofNat 4))) (own_up (own_up (fun _ => .int 0) 0 (.int (0 : Int32))) 1 (.int (1 : Int32))) (own_up fg0 1 .null) T130.heap n0 z130 gtb Tq130 (by decide) hgr) (by decide) (by decide) (by decide) (by decide) e136 Tq130.ob.exa (g := (mkF m 327 #[.val (.int p1), .val (.int p2), .val (.int v1), .val (.int v2), .val (.int v3), .val (.int v4), .val (.int (2 : Int32)), .val (.ref em), .val (.ref b6), .val (.int (0 : Int32)), .val (.int (1 : Int32)), .val (.int (1 : Int32)), .val (.int (4 : Int32)), .val (.int (1 : Int32)), .unset] [(.ref b6)])) rfl (by rw [hml]; rfl) (lenOf pd_6 rfl) rfl (by show 2 * 0 + _ ≤ _; exact Nat.le_of_eq rfl) (hb hby at_327)
              obtain ⟨rfl, hL137, e137⟩ := hQ137
              replace X137 := own_pure (v := none) (r := none) X137 rfl rfl hL137
              refine own_via (T' := T137) (g' := (mkF m 331 #[.val (.int p1), .val (.int p2), .val (.int v1), .val (.int v2), .val (.int v3), .val (.int v4), .val (.int (2 : Int32)), .val (.ref em), .val (.ref b6), .val (.int (0 : Int32)), .val (.int (1 : Int32)), .val (.int (1 : Int32)), .val (.int (4 : Int32)), .val (.int (1 : Int32)), .unset] [(.int v2), (fg0 0)])) (fun _ kt => st137 _ (XS.iloadN X137.here hx rfl (hb hby at_330) rfl kt)) ?_
              by_cases hc331_138 : v2 = (0 : Int32)
              · refine own_via (T' := T137) (g' := (mkF m 340 #[.val (.int p1), .val (.int p2), .val (.int v1), .val (.int v2), .val (.int v3), .val (.int v4), .val (.int (2 : Int32)), .val (.ref em), .val (.ref b6), .val (.int (0 : Int32)), .val (.int (1 : Int32)), .val (.int (1 : Int32)), .val (.int (4 : Int32)), .val (.int (1 : Int32)), .unset] [.null, (fg0 0)])) (fun _ kt => XS.ifYes X137.here hx rfl (pc0 := 331) (pc' := 339) rfl (hb hby at_331) rfl ((if0 _ _).trans (teq hc331_138).1) (by decide) (by decide) (XS.aconstNull X137.here hx rfl (hb hby at_339) kt)) ?_
                rw [hg0 hc331_138]
                refine own_via (T' := T137) (g' := (mkF m 392 #[.val (.int p1), .val (.int p2), .val (.int v1), .val (.int v2), .val (.int v3), .val (.int v4), .val (.int (2 : Int32)), .val (.ref em), .val (.ref b6), .val (.int (0 : Int32)), .val (.int (1 : Int32)), .val (.int (1 : Int32)), .val (.int (4 : Int32)), .val (.int (1 : Int32)), .unset] [(.int (2 : Int32))])) (fun _ kt => Jvm.RoadKit.acmp (g := (mkF m 340 #[.val (.int p1), .val (.int p2), .val (.int v1), .val (.int v2), .val (.int v3), .val (.int v4), .val (.int (2 : Int32)), .val (.ref em), .val (.ref b6), .val (.int (0 : Int32)), .val (.int (1 : Int32)), .val (.int (1 : Int32)), .val (.int (4 : Int32)), .val (.int (1 : Int32)), .unset] [.null, .null])) X137 hx rfl rfl rfl (pc0 := 340) (pc' := 343) (same := true) rfl (hb hby at_340) rfl (decide_eq_true rfl) (by decide) (by decide) (XS.iconst X137.here hx rfl (hb hby at_343) (XS.goto X137.here hx rfl (pc0 := 344) (pc' := 348) rfl (hb hby at_344) (by decide) (by decide) (XS.istore X137.here hx rfl (hb hby at_348) rfl (l' := #[.val (.int p1), .val (.int p2), .val (.int v1), .val (.int v2), .val (.int v3), .val (.int v4), .val (.int (2 : Int32)), .val (.ref em), .val (.ref b6), .val (.int (0 : Int32)), .val (.int (1 : Int32)), .val (.int (1 : Int32)), .val (.int (4 : Int32)), .val (.int (1 : Int32)), .unset]) rfl (XS.goto X137.here hx rfl (pc0 := 350) (pc' := 390) rfl (hb hby at_350) (by decide) (by decide) (XS.iload X137.here hx rfl (hb hby at_390) rfl kt)))))) ?_
                refine own_via (T' := T137) (g' := (mkF m 403 #[.val (.int p1), .val (.int p2), .val (.int v1), .val (.int v2), .val (.int v3), .val (.int v4), .val (.int (2 : Int32)), .val (.ref em), .val (.ref b6), .val (.int (0 : Int32)), .val (.int (1 : Int32)), .val (.int (1 : Int32)), .val (.int (4 : Int32)), .val (.int (1 : Int32)), .unset] [(.ref b6)])) (fun _ kt => XS.iconst X137.here hx rfl (hb hby at_392) (XS.icmpNo X137.here hx rfl (hb hby at_393) rfl (flt (by decide : ¬ ((2 : Int32) < (1 : Int32)))).1 (XS.iload X137.here hx rfl (hb hby at_396) rfl (XS.ifNo X137.here hx rfl (hb hby at_398) rfl ((if0 _ _).trans (feq (by decide : ¬ ((1 : Int32) = (0 : Int32)))).1) (XS.aload X137.here hx rfl (hb hby at_401) rfl rfl kt))))) ?_
                obtain ⟨T139, X139, e139, st139⟩ := getF X137 hx hZ hown (host := "") (Or.inl (hw _ (List.mem_of_getElem? (i := 131) rfl))) Via.refl e137 Tq130.f_ends (g := (mkF m 403 #[.val (.int p1), .val (.int p2), .val (.int v1), .val (.int v2), .val (.int v3), .val (.int v4), .val (.int (2 : Int32)), .val (.ref em), .val (.ref b6), .val (.int (0 : Int32)), .val (.int (1 : Int32)), .val (.int (1 : Int32)), .val (.int (4 : Int32)), .val (.int (1 : Int32)), .unset] [(.ref b6)])) rfl rfl (hb hby at_403)
                refine own_via (T' := T139) (g' := (mkF m 413 #[.val (.int p1), .val (.int p2), .val (.int v1), .val (.int v2), .val (.int v3), .val (.int v4), .val (.int (2 : Int32)), .val (.ref em), .val (.ref b6), .val (.int (0 : Int32)), .val (.int (1 : Int32)), .val (.int (1 : Int32)), .val (.int (4 : Int32)), .val (.int (1 : Int32)), .unset] [(.int (1 : Int32)), (.int (3 : Int32))])) (fun _ kt => st139 _ (XS.iload X139.here hx rfl (hb hby at_406) rfl (XS.iconst X139.here hx rfl (hb hby at_408) (XS.iadd X139.here hx rfl (hb hby at_409) rfl (own_iaload X139 hx hZ e139 Tq130.a_en (j := (2 : Int32)) (i := 2) rfl (by decide) (g := (mkF m 410 #[.val (.int p1), .val (.int p2), .val (.int v1), .val (.int v2), .val (.int v3), .val (.int v4), .val (.int (2 : Int32)), .val (.ref em), .val (.ref b6), .val (.int (0 : Int32)), .val (.int (1 : Int32)), .val (.int (1 : Int32)), .val (.int (4 : Int32)), .val (.int (1 : Int32)), .unset] [(.int (2 : Int32)), (.ref en)])) rfl rfl (hb hby at_410) _ (XS.iload X139.here hx rfl (hb hby at_411) rfl kt)))))) ?_
                refine own_via (T' := T139) (g' := (mkF m 425 #[.val (.int p1), .val (.int p2), .val (.int v1), .val (.int v2), .val (.int v3), .val (.int v4), .val (.int (2 : Int32)), .val (.ref em), .val (.ref b6), .val (.int (0 : Int32)), .val (.int (1 : Int32)), .val (.int (1 : Int32)), .val (.int (4 : Int32)), .val (.int (1 : Int32)), .unset] [])) (fun _ kt => XS.iconst X139.here hx rfl (hb hby at_413) (XS.iadd X139.here hx rfl (hb hby at_414) rfl (XS.icmpNo X139.here hx rfl (hb hby at_415) rfl (teq (by decide : ((3 : Int32) = (3 : Int32)))).2 (XS.iconst X139.here hx rfl (hb hby at_418) (XS.goto X139.here hx rfl (pc0 := 419) (pc' := 423) rfl (hb hby at_419) (by decide) (by decide) (XS.istore X139.here hx rfl (hb hby at_423) rfl (l' := #[.val (.int p1), .val (.int p2), .val (.int v1), .val (.int v2), .val (.int v3), .val (.int v4), .val (.int (2 : Int32)), .val (.ref em), .val (.ref b6), .val (.int (0 : Int32)), .val (.int (1 : Int32)), .val (.int (1 : Int32)), .val (.int (4 : Int32)), .val (.int (1 : Int32)), .unset]) rfl kt)))))) ?_
                refine own_via (T' := T139) (g' := (mkF m 438 #[.val (.int p1), .val (.int p2), .val (.int v1), .val (.int v2), .val (.int v3), .val (.int v4), .val (.int (2 : Int32)), .val (.ref em), .val (.ref b6), .val (.int (0 : Int32)), .val (.int (1 : Int32)), .val (.int (1 : Int32)), .val (.int (4 : Int32)), .val (.int (1 : Int32)), .unset] [(.ref b6)])) (fun _ kt => XS.iload X139.here hx rfl (hb hby at_425) rfl (XS.iconst X139.here hx rfl (hb hby at_427) (XS.icmpNo X139.here hx rfl (hb hby at_428) rfl (flt (by decide : ¬ ((2 : Int32) < (2 : Int32)))).1 (XS.iload X139.here hx rfl (hb hby at_431) rfl (XS.ifNo X139.here hx rfl (hb hby at_433) rfl ((if0 _ _).trans (feq (by decide : ¬ ((1 : Int32) = (0 : Int32)))).1) (XS.aload X139.here hx rfl (hb hby at_436) rfl rfl kt)))))) ?_
                obtain ⟨T140, X140, e140, st140⟩ := getF X139 hx hZ hown (host := "") (Or.inl (hw _ (List.mem_of_getElem? (i := 131) rfl))) Via.refl e139 Tq130.f_ends (g := (mkF m 438 #[.val (.int p1), .val (.int p2), .val (.int v1), .val (.int v2), .val (.int v3), .val (.int v4), .val (.int (2 : Int32)), .val (.ref em), .val (.ref b6), .val (.int (0 : Int32)), .val (.int (1 : Int32)), .val (.int (1 : Int32)), .val (.int (4 : Int32)), .val (.int (1 : Int32)), .unset] [(.ref b6)])) rfl rfl (hb hby at_438)
                refine own_via (T' := T140) (g' := (mkF m 448 #[.val (.int p1), .val (.int p2), .val (.int v1), .val (.int v2), .val (.int v3), .val (.int v4), .val (.int (2 : Int32)), .val (.ref em), .val (.ref b6), .val (.int (0 : Int32)), .val (.int (1 : Int32)), .val (.int (1 : Int32)), .val (.int (4 : Int32)), .val (.int (1 : Int32)), .unset] [(.int (1 : Int32)), (.int (4 : Int32))])) (fun _ kt => st140 _ (XS.iload X140.here hx rfl (hb hby at_441) rfl (XS.iconst X140.here hx rfl (hb hby at_443) (XS.iadd X140.here hx rfl (hb hby at_444) rfl (own_iaload X140 hx hZ e140 Tq130.a_en (j := (3 : Int32)) (i := 3) rfl (by decide) (g := (mkF m 445 #[.val (.int p1), .val (.int p2), .val (.int v1), .val (.int v2), .val (.int v3), .val (.int v4), .val (.int (2 : Int32)), .val (.ref em), .val (.ref b6), .val (.int (0 : Int32)), .val (.int (1 : Int32)), .val (.int (1 : Int32)), .val (.int (4 : Int32)), .val (.int (1 : Int32)), .unset] [(.int (3 : Int32)), (.ref en)])) rfl rfl (hb hby at_445) _ (XS.iload X140.here hx rfl (hb hby at_446) rfl kt)))))) ?_
                refine own_via (T' := T140) (g' := (mkF m 460 #[.val (.int p1), .val (.int p2), .val (.int v1), .val (.int v2), .val (.int v3), .val (.int v4), .val (.int (2 : Int32)), .val (.ref em), .val (.ref b6), .val (.int (0 : Int32)), .val (.int (1 : Int32)), .val (.int (1 : Int32)), .val (.int (4 : Int32)), .val (.int (1 : Int32)), .unset] [])) (fun _ kt => XS.iconst X140.here hx rfl (hb hby at_448) (XS.iadd X140.here hx rfl (hb hby at_449) rfl (XS.icmpNo X140.here hx rfl (hb hby at_450) rfl (teq (by decide : ((4 : Int32) = (4 : Int32)))).2 (XS.iconst X140.here hx rfl (hb hby at_453) (XS.goto X140.here hx rfl (pc0 := 454) (pc' := 458) rfl (hb hby at_454) (by decide) (by decide) (XS.istore X140.here hx rfl (hb hby at_458) rfl (l' := #[.val (.int p1), .val (.int p2), .val (.int v1), .val (.int v2), .val (.int v3), .val (.int v4), .val (.int (2 : Int32)), .val (.ref em), .val (.ref b6), .val (.int (0 : Int32)), .val (.int (1 : Int32)), .val (.int (1 : Int32)), .val (.int (4 : Int32)), .val (.int (1 : Int32)), .unset]) rfl kt)))))) ?_
                refine own_via (T' := T140) (g' := (mkF m 462 #[.val (.int p1), .val (.int p2), .val (.int v1), .val (.int v2), .val (.int v3), .val (.int v4), .val (.int (2 : Int32)), .val (.ref em), .val (.ref b6), .val (.int (0 : Int32)), .val (.int (1 : Int32)), .val (.int (1 : Int32)), .val (.int (4 : Int32)), .val (.int (1 : Int32)), .unset] [(.ref b6)])) (fun _ kt => XS.aload X140.here hx rfl (hb hby at_460) rfl rfl kt) ?_
                obtain ⟨T141, X141, e141, st141⟩ := getS2 X140 hx hZ hown (host := "") (Or.inl (hw _ (List.mem_of_getElem? (i := 97) rfl))) Via.refl e140 (S_k1.ext f131.2) (g := (mkF m 462 #[.val (.int p1), .val (.int p2), .val (.int v1), .val (.int v2), .val (.int v3), .val (.int v4), .val (.int (2 : Int32)), .val (.ref em), .val (.ref b6), .val (.int (0 : Int32)), .val (.int (1 : Int32)), .val (.int (1 : Int32)), .val (.int (4 : Int32)), .val (.int (1 : Int32)), .unset] [(.ref b6)])) rfl (hb hby at_462)
                refine own_via (T' := T141) (g' := (mkF m 476 #[.val (.int p1), .val (.int p2), .val (.int v1), .val (.int v2), .val (.int v3), .val (.int v4), .val (.int (2 : Int32)), .val (.ref em), .val (.ref b6), .val (.int (0 : Int32)), .val (.int (1 : Int32)), .val (.int (1 : Int32)), .val (.int (4 : Int32)), .val (.int (1 : Int32)), .unset] [.null, (.int (0 : Int32)), (.ref k1), (.ref b6)])) (fun _ kt => st141 _ (XS.iloadN X141.here hx rfl (hb hby at_465) rfl (XS.ifNo X141.here hx rfl (hb hby at_466) rfl ((if0 _ _).trans (feq hdp).1) (XS.iload X141.here hx rfl (hb hby at_469) rfl (XS.goto X141.here hx rfl (pc0 := 471) (pc' := 475) rfl (hb hby at_471) (by decide) (by decide) (XS.aconstNull X141.here hx rfl (hb hby at_475) kt)))))) ?_
                refine own_via (T' := T141) (g' := (mkF m 478 #[.val (.int p1), .val (.int p2), .val (.int v1), .val (.int v2), .val (.int v3), .val (.int v4), .val (.int (2 : Int32)), .val (.ref em), .val (.ref b6), .val (.int (0 : Int32)), .val (.int (1 : Int32)), .val (.int (1 : Int32)), .val (.int (4 : Int32)), .val (.int (1 : Int32)), .unset] [.null, .null, .null, (.int (0 : Int32)), (.ref k1), (.ref b6)])) (fun _ kt => XS.aconstNull X141.here hx rfl (hb hby at_476) (XS.aconstNull X141.here hx rfl (hb hby at_477) kt)) ?_
                obtain ⟨v142, T142, L142, X142, hQ142, st142⟩ := own_callV X141 hx hZ (y := (⟨"com/example/infoset/infoset/xdm/TreeBuffers", "add", "(Lcom/example/infoset/infoset/xdm/NodeKind;ILcom/example/infoset/infoset/xdm/QName;Ljava/lang/String;Lcom/example/infoset/infoset/xdm/NamespaceBindings;)I"⟩ : MethodName)) (z := (⟨"com/example/infoset/infoset/xdm/TreeBuffers", "add", "(Lcom/example/infoset/infoset/xdm/NodeKind;ILcom/example/infoset/infoset/xdm/QName;Ljava/lang/String;Lcom/example/infoset/infoset/xdm/NamespaceBindings;)I"⟩ : MethodName)) hown (hw _ (List.mem_of_getElem? (i := 100) rfl)) (hw _ (List.mem_of_getElem? (i := 101) rfl)) (notFace_of_selects (args := #[]) (mvT hZ (hw _ (List.mem_of_getElem? (i := 103) rfl)))) (hw _ (List.mem_of_getElem? (i := 103) rfl)) (hw _ (List.mem_of_getElem? (i := 102) rfl)) (hw _ (List.mem_of_getElem? (i := 6) rfl)) (hw _ (List.mem_of_getElem? (i := 104) rfl)) (by decide) (b := b6) (W := 0) (argsL := [(.ref k1), (.int (0 : Int32)), .null, .null, .null]) (rest := []) (rm7 l Z a0 hw [] b6 kd pa en nm vl ns fa op og pr 4 1 (own_up (own_up (own_up (own_up (own_up (fun _ => .int 0) 0 (.int (Int32.ofNat 1))) 1 (.int (Int32.ofNat 2))) 2 (.int (Int32.ofNat 3))) 3 (.int (Int32.ofNat 4))) 1 (.int (Int32.ofNat 4))) (own_up (own_up (fun _ => .int 0) 0 (.int (0 : Int32))) 1 (.int (1 : Int32))) (own_up fg0 1 .null) T130.heap n0 z130 gtb Tq130 k1 (0 : Int32) 1 (by decide) (E_k1.ext f131.2) (F_k1.ext f131.2)) (by decide) (by decide) (by decide) (by decide) e141 Tq130.ob.exa (g := (mkF m 478 #[.val (.int p1), .val (.int p2), .val (.int v1), .val (.int v2), .val (.int v3), .val (.int v4), .val (.int (2 : Int32)), .val (.ref em), .val (.ref b6), .val (.int (0 : Int32)), .val (.int (1 : Int32)), .val (.int (1 : Int32)), .val (.int (4 : Int32)), .val (.int (1 : Int32)), .unset] [.null, .null, .null, (.int (0 : Int32)), (.ref k1), (.ref b6)])) rfl (by rw [hml]; rfl) (lenOf pd_7 rfl) rfl (by show 2 * 0 + _ ≤ _; exact Nat.le_of_eq rfl) (hb hby at_478)
                obtain ⟨rfl, Nq142, Kq142, Tq142⟩ := hQ142
                replace Tq142 : own_TB Z T142.heap b6 kd pa en nm vl ns fa op og pr 5 1 (own_up (own_up (own_up (own_up (own_up (own_up (fun _ => .int 0) 0 (.int (Int32.ofNat 1))) 1 (.int (Int32.ofNat 2))) 2 (.int (Int32.ofNat 3))) 3 (.int (Int32.ofNat 4))) 1 (.int (Int32.ofNat 4))) 4 (.int (Int32.ofNat 5))) (own_up (own_up (fun _ => .int 0) 0 (.int (0 : Int32))) 1 (.int (1 : Int32))) (own_up fg0 1 .null) := Tq142
                have f143 := f131.keep Kq142 (allS (by omega) (allS (by omega) (allS (by omega) (allS (by omega) (allS (by omega) (allS (by omega) (allS (by omega) (allS (by omega) all0))))))))
                have z142 : n0 ≤ T142.heap.size := Nat.le_trans z130 Kq142.1
                have N142 := Fr.app N130 Nq142
                refine own_via (T' := T142) (g' := (mkF m 487 #[.val (.int p1), .val (.int p2), .val (.int v1), .val (.int v2), .val (.int v3), .val (.int v4), .val (.int (2 : Int32)), .val (.ref em), .val (.ref b6), .val (.int (0 : Int32)), .val (.int (1 : Int32)), .val (.int (1 : Int32)), .val (.int (4 : Int32)), .val (.int (1 : Int32)), .val (.int (4 : Int32))] [(.int (4 : Int32)), (.ref b6)])) (fun _ kt => st142 _ (XS.istore X142.here hx rfl (hb hby at_481) rfl (l' := #[.val (.int p1), .val (.int p2), .val (.int v1), .val (.int v2), .val (.int v3), .val (.int v4), .val (.int (2 : Int32)), .val (.ref em), .val (.ref b6), .val (.int (0 : Int32)), .val (.int (1 : Int32)), .val (.int (1 : Int32)), .val (.int (4 : Int32)), .val (.int (1 : Int32)), .val (.int (4 : Int32))]) rfl (XS.aload X142.here hx rfl (hb hby at_483) rfl rfl (XS.iload X142.here hx rfl (hb hby at_485) rfl kt)))) ?_
                obtain ⟨v144, T144, L144, X144, hQ144, st144⟩ := own_callV X142 hx hZ (y := (⟨"com/example/infoset/infoset/xdm/TreeBuffers", "open", "(I)V"⟩ : MethodName)) (z := (⟨"com/example/infoset/infoset/xdm/TreeBuffers", "open", "(I)V"⟩ : MethodName)) hown (hw _ (List.mem_of_getElem? (i := 118) rfl)) (hw _ (List.mem_of_getElem? (i := 119) rfl)) (notFace_of_selects (args := #[]) (mvT hZ (hw _ (List.mem_of_getElem? (i := 121) rfl)))) (hw _ (List.mem_of_getElem? (i := 121) rfl)) (hw _ (List.mem_of_getElem? (i := 120) rfl)) (hw _ (List.mem_of_getElem? (i := 6) rfl)) (hw _ (List.mem_of_getElem? (i := 122) rfl)) (by decide) (b := b6) (W := 0) (argsL := [(.int (4 : Int32))]) (rest := []) (rm9 l Z a0 hw [] b6 kd pa en nm vl ns fa op og pr 5 1 (own_up (own_up (own_up (own_up (own_up (own_up (fun _ => .int 0) 0 (.int (Int32.ofNat 1))) 1 (.int (Int32.ofNat 2))) 2 (.int (Int32.ofNat 3))) 3 (.int (Int32.ofNat 4))) 1 (.int (Int32.ofNat 4))) 4 (.int (Int32.ofNat 5))) (own_up (own_up (fun _ => .int 0) 0 (.int (0 : Int32))) 1 (.int (1 : Int32))) (own_up fg0 1 .null) T142.heap n0 z142 gtb Tq142 (4 : Int32) (by decide)) (by decide) (by decide) (by decide) (by decide) rfl Tq142.ob.exa (g := (mkF m 487 #[.val (.int p1), .val (.int p2), .val (.int v1), .val (.int v2), .val (.int v3), .val (.int v4), .val (.int (2 : Int32)), .val (.ref em), .val (.ref b6), .val (.int (0 : Int32)), .val (.int (1 : Int32)), .val (.int (1 : Int32)), .val (.int (4 : Int32)), .val (.int (1 : Int32)), .val (.int (4 : Int32))] [(.int (4 : Int32)), (.ref b6)])) rfl (by rw [hml]; rfl) (lenOf pd_2 rfl) rfl (by show 2 * 0 + _ ≤ _; exact Nat.le_of_eq rfl) (hb hby at_487)
                obtain ⟨rfl, Nq144, Kq144, Tq144⟩ := hQ144
                replace Tq144 : own_TB Z T144.heap b6 kd pa en nm vl ns fa op og pr 5 2 (own_up (own_up (own_up (own_up (own_up (own_up (fun _ => .int 0) 0 (.int (Int32.ofNat 1))) 1 (.int (Int32.ofNat 2))) 2 (.int (Int32.ofNat 3))) 3 (.int (Int32.ofNat 4))) 1 (.int (Int32.ofNat 4))) 4 (.int (Int32.ofNat 5))) (own_up (own_up (own_up (fun _ => .int 0) 0 (.int (0 : Int32))) 1 (.int (1 : Int32))) 1 (.int (4 : Int32))) (own_up fg0 1 .null) := Tq144
                have f145 := f143.keep Kq144 (allS (by omega) (allS (by omega) all0))
                have z144 : n0 ≤ T144.heap.size := Nat.le_trans z142 Kq144.1
                have N144 := Fr.app N142 Nq144
                refine own_via (T' := T144) (g' := (mkF m 497 #[.val (.int p1), .val (.int p2), .val (.int v1), .val (.int v2), .val (.int v3), .val (.int v4), .val (.int (2 : Int32)), .val (.ref em), .val (.ref b6), .val (.int (0 : Int32)), .val (.int (1 : Int32)), .val (.int (1 : Int32)), .val (.int (4 : Int32)), .val (.int (1 : Int32)), .val (.int (4 : Int32))] [(.ref b6)])) (fun _ kt => st144 _ (XS.iload X144.here hx rfl (hb hby at_490) rfl (XS.ifNo X144.here hx rfl (hb hby at_492) rfl ((if0 _ _).trans (feq (by decide : ¬ ((1 : Int32) = (0 : Int32)))).1) (XS.aload X144.here hx rfl (hb hby at_495) rfl rfl kt)))) ?_
                obtain ⟨v146, T146, L146, X146, hQ146, st146⟩ := own_callV X144 hx hZ (y := (⟨"com/example/infoset/infoset/xdm/TreeBuffers", "innermostOriginal", "()Lcom/example/infoset/infoset/xdm/NamespaceBindings;"⟩ : MethodName)) (z := (⟨"com/example/infoset/infoset/xdm/TreeBuffers", "innermostOriginal", "()Lcom/example/infoset/infoset/xdm/NamespaceBindings;"⟩ : MethodName)) hown (hw _ (List.mem_of_getElem? (i := 142) rfl)) (hw _ (List.mem_of_getElem? (i := 143) rfl)) (notFace_of_selects (args := #[]) (mvT hZ (hw _ (List.mem_of_getElem? (i := 145) rfl)))) (hw _ (List.mem_of_getElem? (i := 145) rfl)) (hw _ (List.mem_of_getElem? (i := 144) rfl)) (hw _ (List.mem_of_getElem? (i := 6) rfl)) (hw _ (List.mem_of_getElem? (i := 146) rfl)) (by decide) (b := b6) (W := 0) (argsL := []) (rest := []) (rm13s l Z a0 hw [] b6 kd pa en nm vl ns fa op og pr 5 1 (own_up (own_up (own_up (own_up (own_up (own_up (fun _ => .int 0) 0 (.int (Int32.ofNat 1))) 1 (.int (Int32.ofNat 2))) 2 (.int (Int32.ofNat 3))) 3 (.int (Int32.ofNat 4))) 1 (.int (Int32.ofNat 4))) 4 (.int (Int32.ofNat 5))) (own_up (own_up (own_up (fun _ => .int 0) 0 (.int (0 : Int32))) 1 (.int (1 : Int32))) 1 (.int (4 : Int32))) (own_up fg0 1 .null) T144.heap n0 z144 gtb Tq144 (by decide) rfl) (by decide) (by decide) (by decide) (by decide) rfl Tq144.ob.exa (g := (mkF m 497 #[.val (.int p1), .val (.int p2), .val (.int v1), .val (.int v2), .val (.int v3), .val (.int v4), .val (.int (2 : Int32)), .val (.ref em), .val (.ref b6), .val (.int (0 : Int32)), .val (.int (1 : Int32)), .val (.int (1 : Int32)), .val (.int (4 : Int32)), .val (.int (1 : Int32)), .val (.int (4 : Int32))] [(.ref b6)])) rfl (by rw [hml]; rfl) (lenOf pd_6 rfl) rfl (by show 2 * 0 + _ ≤ _; exact Nat.le_of_eq rfl) (hb hby at_497)
                obtain ⟨rfl, hL146, e146⟩ := hQ146
                replace X146 := own_pure (v := none) (r := none) X146 rfl rfl hL146
                refine own_via (T' := T146) (g' := (mkF m 505 #[.val (.int p1), .val (.int p2), .val (.int v1), .val (.int v2), .val (.int v3), .val (.int v4), .val (.int (2 : Int32)), .val (.ref em), .val (.ref b6), .val (.int (0 : Int32)), .val (.int (1 : Int32)), .val (.int (1 : Int32)), .val (.int (4 : Int32)), .val (.int (1 : Int32)), .val (.int (4 : Int32))] [(.ref b6)])) (fun _ kt => st146 _ (XS.ifnonnullNo X146.here hx rfl (hb hby at_500) rfl (XS.aload X146.here hx rfl (hb hby at_503) rfl rfl kt))) ?_
                obtain ⟨T147, X147, e147, st147⟩ := getF X146 hx hZ hown (host := "") (Or.inl (hw _ (List.mem_of_getElem? (i := 131) rfl))) Via.refl e146 Tq144.f_ends (g := (mkF m 505 #[.val (.int p1), .val (.int p2), .val (.int v1), .val (.int v2), .val (.int v3), .val (.int v4), .val (.int (2 : Int32)), .val (.ref em), .val (.ref b6), .val (.int (0 : Int32)), .val (.int (1 : Int32)), .val (.int (1 : Int32)), .val (.int (4 : Int32)), .val (.int (1 : Int32)), .val (.int (4 : Int32))] [(.ref b6)])) rfl rfl (hb hby at_505)
                refine own_via (T' := T147) (g' := (mkF m 517 #[.val (.int p1), .val (.int p2), .val (.int v1), .val (.int v2), .val (.int v3), .val (.int v4), .val (.int (2 : Int32)), .val (.ref em), .val (.ref b6), .val (.int (0 : Int32)), .val (.int (1 : Int32)), .val (.int (1 : Int32)), .val (.int (4 : Int32)), .val (.int (1 : Int32)), .val (.int (4 : Int32))] [(.int (1 : Int32))])) (fun _ kt => st147 _ (XS.iload X147.here hx rfl (hb hby at_508) rfl (own_iaload X147 hx hZ e147 Tq144.a_en (j := (1 : Int32)) (i := 1) rfl (by decide) (g := (mkF m 510 #[.val (.int p1), .val (.int p2), .val (.int v1), .val (.int v2), .val (.int v3), .val (.int v4), .val (.int (2 : Int32)), .val (.ref em), .val (.ref b6), .val (.int (0 : Int32)), .val (.int (1 : Int32)), .val (.int (1 : Int32)), .val (.int (4 : Int32)), .val (.int (1 : Int32)), .val (.int (4 : Int32))] [(.int (1 : Int32)), (.ref en)])) rfl rfl (hb hby at_510) _ (XS.iload X147.here hx rfl (hb hby at_511) rfl (XS.icmpNo X147.here hx rfl (hb hby at_513) rfl (teq (by decide : ((4 : Int32) = (4 : Int32)))).2 (XS.iconst X147.here hx rfl (hb hby at_516) kt)))))) ?_
                refine own_via (T' := T147) (g' := (mkF m 525 #[.val (.int p1), .val (.int p2), .val (.int v1), .val (.int v2), .val (.int v3), .val (.int v4), .val (.int (2 : Int32)), .val (.ref em), .val (.ref b6), .val (.int (0 : Int32)), .val (.int (1 : Int32)), .val (.int (1 : Int32)), .val (.int (4 : Int32)), .val (.int (1 : Int32)), .val (.int (4 : Int32))] [(.int (1 : Int32))])) (fun _ kt => XS.goto X147.here hx rfl (pc0 := 517) (pc' := 521) rfl (hb hby at_517) (by decide) (by decide) (XS.istore X147.here hx rfl (hb hby at_521) rfl (l' := #[.val (.int p1), .val (.int p2), .val (.int v1), .val (.int v2), .val (.int v3), .val (.int v4), .val (.int (2 : Int32)), .val (.ref em), .val (.ref b6), .val (.int (0 : Int32)), .val (.int (1 : Int32)), .val (.int (1 : Int32)), .val (.int (4 : Int32)), .val (.int (1 : Int32)), .val (.int (4 : Int32))]) rfl (XS.iload X147.here hx rfl (hb hby at_523) rfl kt))) ?_
                exact own_retZ X147 hx hret hlk (hb hby at_525) (by decide) ⟨rfl, N144⟩ (by decide) (by decide)
              · refine own_via (T' := T137) (g' := (mkF m 340 #[.val (.int p1), .val (.int p2), .val (.int v1), .val (.int v2), .val (.int v3), .val (.int v4), .val (.int (2 : Int32)), .val (.ref em), .val (.ref b6), .val (.int (0 : Int32)), .val (.int (1 : Int32)), .val (.int (1 : Int32)), .val (.int (4 : Int32)), .val (.int (1 : Int32)), .unset] [(.ref em), (fg0 0)])) (fun _ kt => XS.ifNo X137.here hx rfl (hb hby at_331) rfl ((if0 _ _).trans (feq hc331_138).1) (XS.aload X137.here hx rfl (hb hby at_334) rfl rfl (XS.goto X137.here hx rfl (pc0 := 336) (pc' := 340) rfl (hb hby at_336) (by decide) (by decide) kt))) ?_
                rw [hg1 hc331_138]
                refine own_via (T' := T137) (g' := (mkF m 392 #[.val (.int p1), .val (.int p2), .val (.int v1), .val (.int v2), .val (.int v3), .val (.int v4), .val (.int (2 : Int32)), .val (.ref em), .val (.ref b6), .val (.int (0 : Int32)), .val (.int (1 : Int32)), .val (.int (1 : Int32)), .val (.int (4 : Int32)), .val (.int (1 : Int32)), .unset] [(.int (2 : Int32))])) (fun _ kt => Jvm.RoadKit.acmp (g := (mkF m 340 #[.val (.int p1), .val (.int p2), .val (.int v1), .val (.int v2), .val (.int v3), .val (.int v4), .val (.int (2 : Int32)), .val (.ref em), .val (.ref b6), .val (.int (0 : Int32)), .val (.int (1 : Int32)), .val (.int (1 : Int32)), .val (.int (4 : Int32)), .val (.int (1 : Int32)), .unset] [(.ref em), (.ref em)])) X137 hx rfl rfl rfl (pc0 := 340) (pc' := 343) (same := true) rfl (hb hby at_340) rfl (decide_eq_true rfl) (by decide) (by decide) (XS.iconst X137.here hx rfl (hb hby at_343) (XS.goto X137.here hx rfl (pc0 := 344) (pc' := 348) rfl (hb hby at_344) (by decide) (by decide) (XS.istore X137.here hx rfl (hb hby at_348) rfl (l' := #[.val (.int p1), .val (.int p2), .val (.int v1), .val (.int v2), .val (.int v3), .val (.int v4), .val (.int (2 : Int32)), .val (.ref em), .val (.ref b6), .val (.int (0 : Int32)), .val (.int (1 : Int32)), .val (.int (1 : Int32)), .val (.int (4 : Int32)), .val (.int (1 : Int32)), .unset]) rfl (XS.goto X137.here hx rfl (pc0 := 350) (pc' := 390) rfl (hb hby at_350) (by decide) (by decide) (XS.iload X137.here hx rfl (hb hby at_390) rfl kt)))))) ?_
                refine own_via (T' := T137) (g' := (mkF m 403 #[.val (.int p1), .val (.int p2), .val (.int v1), .val (.int v2), .val (.int v3), .val (.int v4), .val (.int (2 : Int32)), .val (.ref em), .val (.ref b6), .val (.int (0 : Int32)), .val (.int (1 : Int32)), .val (.int (1 : Int32)), .val (.int (4 : Int32)), .val (.int (1 : Int32)), .unset] [(.ref b6)])) (fun _ kt => XS.iconst X137.here hx rfl (hb hby at_392) (XS.icmpNo X137.here hx rfl (hb hby at_393) rfl (flt (by decide : ¬ ((2 : Int32) < (1 : Int32)))).1 (XS.iload X137.here hx rfl (hb hby at_396) rfl (XS.ifNo X137.here hx rfl (hb hby at_398) rfl ((if0 _ _).trans (feq (by decide : ¬ ((1 : Int32) = (0 : Int32)))).1) (XS.aload X137.here hx rfl (hb hby at_401) rfl rfl kt))))) ?_
                obtain ⟨T148, X148, e148, st148⟩ := getF X137 hx hZ hown (host := "") (Or.inl (hw _ (List.mem_of_getElem? (i := 131) rfl))) Via.refl e137 Tq130.f_ends (g := (mkF m 403 #[.val (.int p1), .val (.int p2), .val (.int v1), .val (.int v2), .val (.int v3), .val (.int v4), .val (.int (2 : Int32)), .val (.ref em), .val (.ref b6), .val (.int (0 : Int32)), .val (.int (1 : Int32)), .val (.int (1 : Int32)), .val (.int (4 : Int32)), .val (.int (1 : Int32)), .unset] [(.ref b6)])) rfl rfl (hb hby at_403)
                refine own_via (T' := T148) (g' := (mkF m 413 #[.val (.int p1), .val (.int p2), .val (.int v1), .val (.int v2), .val (.int v3), .val (.int v4), .val (.int (2 : Int32)), .val (.ref em), .val (.ref b6), .val (.int (0 : Int32)), .val (.int (1 : Int32)), .val (.int (1 : Int32)), .val (.int (4 : Int32)), .val (.int (1 : Int32)), .unset] [(.int (1 : Int32)), (.int (3 : Int32))])) (fun _ kt => st148 _ (XS.iload X148.here hx rfl (hb hby at_406) rfl (XS.iconst X148.here hx rfl (hb hby at_408) (XS.iadd X148.here hx rfl (hb hby at_409) rfl (own_iaload X148 hx hZ e148 Tq130.a_en (j := (2 : Int32)) (i := 2) rfl (by decide) (g := (mkF m 410 #[.val (.int p1), .val (.int p2), .val (.int v1), .val (.int v2), .val (.int v3), .val (.int v4), .val (.int (2 : Int32)), .val (.ref em), .val (.ref b6), .val (.int (0 : Int32)), .val (.int (1 : Int32)), .val (.int (1 : Int32)), .val (.int (4 : Int32)), .val (.int (1 : Int32)), .unset] [(.int (2 : Int32)), (.ref en)])) rfl rfl (hb hby at_410) _ (XS.iload X148.here hx rfl (hb hby at_411) rfl kt)))))) ?_
                refine own_via (T' := T148) (g' := (mkF m 425 #[.val (.int p1), .val (.int p2), .val (.int v1), .val (.int v2), .val (.int v3), .val (.int v4), .val (.int (2 : Int32)), .val (.ref em), .val (.ref b6), .val (.int (0 : Int32)), .val (.int (1 : Int32)), .val (.int (1 : Int32)), .val (.int (4 : Int32)), .val (.int (1 : Int32)), .unset] [])) (fun _ kt => XS.iconst X148.here hx rfl (hb hby at_413) (XS.iadd X148.here hx rfl (hb hby at_414) rfl (XS.icmpNo X148.here hx rfl (hb hby at_415) rfl (teq (by decide : ((3 : Int32) = (3 : Int32)))).2 (XS.iconst X148.here hx rfl (hb hby at_418) (XS.goto X148.here hx rfl (pc0 := 419) (pc' := 423) rfl (hb hby at_419) (by decide) (by decide) (XS.istore X148.here hx rfl (hb hby at_423) rfl (l' := #[.val (.int p1), .val (.int p2), .val (.int v1), .val (.int v2), .val (.int v3), .val (.int v4), .val (.int (2 : Int32)), .val (.ref em), .val (.ref b6), .val (.int (0 : Int32)), .val (.int (1 : Int32)), .val (.int (1 : Int32)), .val (.int (4 : Int32)), .val (.int (1 : Int32)), .unset]) rfl kt)))))) ?_
                refine own_via (T' := T148) (g' := (mkF m 438 #[.val (.int p1), .val (.int p2), .val (.int v1), .val (.int v2), .val (.int v3), .val (.int v4), .val (.int (2 : Int32)), .val (.ref em), .val (.ref b6), .val (.int (0 : Int32)), .val (.int (1 : Int32)), .val (.int (1 : Int32)), .val (.int (4 : Int32)), .val (.int (1 : Int32)), .unset] [(.ref b6)])) (fun _ kt => XS.iload X148.here hx rfl (hb hby at_425) rfl (XS.iconst X148.here hx rfl (hb hby at_427) (XS.icmpNo X148.here hx rfl (hb hby at_428) rfl (flt (by decide : ¬ ((2 : Int32) < (2 : Int32)))).1 (XS.iload X148.here hx rfl (hb hby at_431) rfl (XS.ifNo X148.here hx rfl (hb hby at_433) rfl ((if0 _ _).trans (feq (by decide : ¬ ((1 : Int32) = (0 : Int32)))).1) (XS.aload X148.here hx rfl (hb hby at_436) rfl rfl kt)))))) ?_
                obtain ⟨T149, X149, e149, st149⟩ := getF X148 hx hZ hown (host := "") (Or.inl (hw _ (List.mem_of_getElem? (i := 131) rfl))) Via.refl e148 Tq130.f_ends (g := (mkF m 438 #[.val (.int p1), .val (.int p2), .val (.int v1), .val (.int v2), .val (.int v3), .val (.int v4), .val (.int (2 : Int32)), .val (.ref em), .val (.ref b6), .val (.int (0 : Int32)), .val (.int (1 : Int32)), .val (.int (1 : Int32)), .val (.int (4 : Int32)), .val (.int (1 : Int32)), .unset] [(.ref b6)])) rfl rfl (hb hby at_438)
                refine own_via (T' := T149) (g' := (mkF m 448 #[.val (.int p1), .val (.int p2), .val (.int v1), .val (.int v2), .val (.int v3), .val (.int v4), .val (.int (2 : Int32)), .val (.ref em), .val (.ref b6), .val (.int (0 : Int32)), .val (.int (1 : Int32)), .val (.int (1 : Int32)), .val (.int (4 : Int32)), .val (.int (1 : Int32)), .unset] [(.int (1 : Int32)), (.int (4 : Int32))])) (fun _ kt => st149 _ (XS.iload X149.here hx rfl (hb hby at_441) rfl (XS.iconst X149.here hx rfl (hb hby at_443) (XS.iadd X149.here hx rfl (hb hby at_444) rfl (own_iaload X149 hx hZ e149 Tq130.a_en (j := (3 : Int32)) (i := 3) rfl (by decide) (g := (mkF m 445 #[.val (.int p1), .val (.int p2), .val (.int v1), .val (.int v2), .val (.int v3), .val (.int v4), .val (.int (2 : Int32)), .val (.ref em), .val (.ref b6), .val (.int (0 : Int32)), .val (.int (1 : Int32)), .val (.int (1 : Int32)), .val (.int (4 : Int32)), .val (.int (1 : Int32)), .unset] [(.int (3 : Int32)), (.ref en)])) rfl rfl (hb hby at_445) _ (XS.iload X149.here hx rfl (hb hby at_446) rfl kt)))))) ?_
                refine own_via (T' := T149) (g' := (mkF m 460 #[.val (.int p1), .val (.int p2), .val (.int v1), .val (.int v2), .val (.int v3), .val (.int v4), .val (.int (2 : Int32)), .val (.ref em), .val (.ref b6), .val (.int (0 : Int32)), .val (.int (1 : Int32)), .val (.int (1 : Int32)), .val (.int (4 : Int32)), .val (.int (1 : Int32)), .unset] [])) (fun _ kt => XS.iconst X149.here hx rfl (hb hby at_448) (XS.iadd X149.here hx rfl (hb hby at_449) rfl (XS.icmpNo X149.here hx rfl (hb hby at_450) rfl (teq (by decide : ((4 : Int32) = (4 : Int32)))).2 (XS.iconst X149.here hx rfl (hb hby at_453) (XS.goto X149.here hx rfl (pc0 := 454) (pc' := 458) rfl (hb hby at_454) (by decide) (by decide) (XS.istore X149.here hx rfl (hb hby at_458) rfl (l' := #[.val (.int p1), .val (.int p2), .val (.int v1), .val (.int v2), .val (.int v3), .val (.int v4), .val (.int (2 : Int32)), .val (.ref em), .val (.ref b6), .val (.int (0 : Int32)), .val (.int (1 : Int32)), .val (.int (1 : Int32)), .val (.int (4 : Int32)), .val (.int (1 : Int32)), .unset]) rfl kt)))))) ?_
                refine own_via (T' := T149) (g' := (mkF m 462 #[.val (.int p1), .val (.int p2), .val (.int v1), .val (.int v2), .val (.int v3), .val (.int v4), .val (.int (2 : Int32)), .val (.ref em), .val (.ref b6), .val (.int (0 : Int32)), .val (.int (1 : Int32)), .val (.int (1 : Int32)), .val (.int (4 : Int32)), .val (.int (1 : Int32)), .unset] [(.ref b6)])) (fun _ kt => XS.aload X149.here hx rfl (hb hby at_460) rfl rfl kt) ?_
                obtain ⟨T150, X150, e150, st150⟩ := getS2 X149 hx hZ hown (host := "") (Or.inl (hw _ (List.mem_of_getElem? (i := 97) rfl))) Via.refl e149 (S_k1.ext f131.2) (g := (mkF m 462 #[.val (.int p1), .val (.int p2), .val (.int v1), .val (.int v2), .val (.int v3), .val (.int v4), .val (.int (2 : Int32)), .val (.ref em), .val (.ref b6), .val (.int (0 : Int32)), .val (.int (1 : Int32)), .val (.int (1 : Int32)), .val (.int (4 : Int32)), .val (.int (1 : Int32)), .unset] [(.ref b6)])) rfl (hb hby at_462)
                refine own_via (T' := T150) (g' := (mkF m 476 #[.val (.int p1), .val (.int p2), .val (.int v1), .val (.int v2), .val (.int v3), .val (.int v4), .val (.int (2 : Int32)), .val (.ref em), .val (.ref b6), .val (.int (0 : Int32)), .val (.int (1 : Int32)), .val (.int (1 : Int32)), .val (.int (4 : Int32)), .val (.int (1 : Int32)), .unset] [.null, (.int (0 : Int32)), (.ref k1), (.ref b6)])) (fun _ kt => st150 _ (XS.iloadN X150.here hx rfl (hb hby at_465) rfl (XS.ifNo X150.here hx rfl (hb hby at_466) rfl ((if0 _ _).trans (feq hdp).1) (XS.iload X150.here hx rfl (hb hby at_469) rfl (XS.goto X150.here hx rfl (pc0 := 471) (pc' := 475) rfl (hb hby at_471) (by decide) (by decide) (XS.aconstNull X150.here hx rfl (hb hby at_475) kt)))))) ?_
                refine own_via (T' := T150) (g' := (mkF m 478 #[.val (.int p1), .val (.int p2), .val (.int v1), .val (.int v2), .val (.int v3), .val (.int v4), .val (.int (2 : Int32)), .val (.ref em), .val (.ref b6), .val (.int (0 : Int32)), .val (.int (1 : Int32)), .val (.int (1 : Int32)), .val (.int (4 : Int32)), .val (.int (1 : Int32)), .unset] [.null, .null, .null, (.int (0 : Int32)), (.ref k1), (.ref b6)])) (fun _ kt => XS.aconstNull X150.here hx rfl (hb hby at_476) (XS.aconstNull X150.here hx rfl (hb hby at_477) kt)) ?_
                obtain ⟨v151, T151, L151, X151, hQ151, st151⟩ := own_callV X150 hx hZ (y := (⟨"com/example/infoset/infoset/xdm/TreeBuffers", "add", "(Lcom/example/infoset/infoset/xdm/NodeKind;ILcom/example/infoset/infoset/xdm/QName;Ljava/lang/String;Lcom/example/infoset/infoset/xdm/NamespaceBindings;)I"⟩ : MethodName)) (z := (⟨"com/example/infoset/infoset/xdm/TreeBuffers", "add", "(Lcom/example/infoset/infoset/xdm/NodeKind;ILcom/example/infoset/infoset/xdm/QName;Ljava/lang/String;Lcom/example/infoset/infoset/xdm/NamespaceBindings;)I"⟩ : MethodName)) hown (hw _ (List.mem_of_getElem? (i := 100) rfl)) (hw _ (List.mem_of_getElem? (i := 101) rfl)) (notFace_of_selects (args := #[]) (mvT hZ (hw _ (List.mem_of_getElem? (i := 103) rfl)))) (hw _ (List.mem_of_getElem? (i := 103) rfl)) (hw _ (List.mem_of_getElem? (i := 102) rfl)) (hw _ (List.mem_of_getElem? (i := 6) rfl)) (hw _ (List.mem_of_getElem? (i := 104) rfl)) (by decide) (b := b6) (W := 0) (argsL := [(.ref k1), (.int (0 : Int32)), .null, .null, .null]) (rest := []) (rm7 l Z a0 hw [] b6 kd pa en nm vl ns fa op og pr 4 1 (own_up (own_up (own_up (own_up (own_up (fun _ => .int 0) 0 (.int (Int32.ofNat 1))) 1 (.int (Int32.ofNat 2))) 2 (.int (Int32.ofNat 3))) 3 (.int (Int32.ofNat 4))) 1 (.int (Int32.ofNat 4))) (own_up (own_up (fun _ => .int 0) 0 (.int (0 : Int32))) 1 (.int (1 : Int32))) (own_up fg0 1 .null) T130.heap n0 z130 gtb Tq130 k1 (0 : Int32) 1 (by decide) (E_k1.ext f131.2) (F_k1.ext f131.2)) (by decide) (by decide) (by decide) (by decide) e150 Tq130.ob.exa (g := (mkF m 478 #[.val (.int p1), .val (.int p2), .val (.int v1), .val (.int v2), .val (.int v3), .val (.int v4), .val (.int (2 : Int32)), .val (.ref em), .val (.ref b6), .val (.int (0 : Int32)), .val (.int (1 : Int32)), .val (.int (1 : Int32)), .val (.int (4 : Int32)), .val (.int (1 : Int32)), .unset] [.null, .null, .null, (.int (0 : Int32)), (.ref k1), (.ref b6)])) rfl (by rw [hml]; rfl) (lenOf pd_7 rfl) rfl (by show 2 * 0 + _ ≤ _; exact Nat.le_of_eq rfl) (hb hby at_478)
                obtain ⟨rfl, Nq151, Kq151, Tq151⟩ := hQ151
                replace Tq151 : own_TB Z T151.heap b6 kd pa en nm vl ns fa op og pr 5 1 (own_up (own_up (own_up (own_up (own_up (own_up (fun _ => .int 0) 0 (.int (Int32.ofNat 1))) 1 (.int (Int32.ofNat 2))) 2 (.int (Int32.ofNat 3))) 3 (.int (Int32.ofNat 4))) 1 (.int (Int32.ofNat 4))) 4 (.int (Int32.ofNat 5))) (own_up (own_up (fun _ => .int 0) 0 (.int (0 : Int32))) 1 (.int (1 : Int32))) (own_up fg0 1 .null) := Tq151
                have f152 := f131.keep Kq151 (allS (by omega) (allS (by omega) (allS (by omega) (allS (by omega) (allS (by omega) (allS (by omega) (allS (by omega) (allS (by omega) all0))))))))
                have z151 : n0 ≤ T151.heap.size := Nat.le_trans z130 Kq151.1
                have N151 := Fr.app N130 Nq151
                refine own_via (T' := T151) (g' := (mkF m 487 #[.val (.int p1), .val (.int p2), .val (.int v1), .val (.int v2), .val (.int v3), .val (.int v4), .val (.int (2 : Int32)), .val (.ref em), .val (.ref b6), .val (.int (0 : Int32)), .val (.int (1 : Int32)), .val (.int (1 : Int32)), .val (.int (4 : Int32)), .val (.int (1 : Int32)), .val (.int (4 : Int32))] [(.int (4 : Int32)), (.ref b6)])) (fun _ kt => st151 _ (XS.istore X151.here hx rfl (hb hby at_481) rfl (l' := #[.val (.int p1), .val (.int p2), .val (.int v1), .val (.int v2), .val (.int v3), .val (.int v4), .val (.int (2 : Int32)), .val (.ref em), .val (.ref b6), .val (.int (0 : Int32)), .val (.int (1 : Int32)), .val (.int (1 : Int32)), .val (.int (4 : Int32)), .val (.int (1 : Int32)), .val (.int (4 : Int32))]) rfl (XS.aload X151.here hx rfl (hb hby at_483) rfl rfl (XS.iload X151.here hx rfl (hb hby at_485) rfl kt)))) ?_
                obtain ⟨v153, T153, L153, X153, hQ153, st153⟩ := own_callV X151 hx hZ (y := (⟨"com/example/infoset/infoset/xdm/TreeBuffers", "open", "(I)V"⟩ : MethodName)) (z := (⟨"com/example/infoset/infoset/xdm/TreeBuffers", "open", "(I)V"⟩ : MethodName)) hown (hw _ (List.mem_of_getElem? (i := 118) rfl)) (hw _ (List.mem_of_getElem? (i := 119) rfl)) (notFace_of_selects (args := #[]) (mvT hZ (hw _ (List.mem_of_getElem? (i := 121) rfl)))) (hw _ (List.mem_of_getElem? (i := 121) rfl)) (hw _ (List.mem_of_getElem? (i := 120) rfl)) (hw _ (List.mem_of_getElem? (i := 6) rfl)) (hw _ (List.mem_of_getElem? (i := 122) rfl)) (by decide) (b := b6) (W := 0) (argsL := [(.int (4 : Int32))]) (rest := []) (rm9 l Z a0 hw [] b6 kd pa en nm vl ns fa op og pr 5 1 (own_up (own_up (own_up (own_up (own_up (own_up (fun _ => .int 0) 0 (.int (Int32.ofNat 1))) 1 (.int (Int32.ofNat 2))) 2 (.int (Int32.ofNat 3))) 3 (.int (Int32.ofNat 4))) 1 (.int (Int32.ofNat 4))) 4 (.int (Int32.ofNat 5))) (own_up (own_up (fun _ => .int 0) 0 (.int (0 : Int32))) 1 (.int (1 : Int32))) (own_up fg0 1 .null) T151.heap n0 z151 gtb Tq151 (4 : Int32) (by decide)) (by decide) (by decide) (by decide) (by decide) rfl Tq151.ob.exa (g := (mkF m 487 #[.val (.int p1), .val (.int p2), .val (.int v1), .val (.int v2), .val (.int v3), .val (.int v4), .val (.int (2 : Int32)), .val (.ref em), .val (.ref b6), .val (.int (0 : Int32)), .val (.int (1 : Int32)), .val (.int (1 : Int32)), .val (.int (4 : Int32)), .val (.int (1 : Int32)), .val (.int (4 : Int32))] [(.int (4 : Int32)), (.ref b6)])) rfl (by rw [hml]; rfl) (lenOf pd_2 rfl) rfl (by show 2 * 0 + _ ≤ _; exact Nat.le_of_eq rfl) (hb hby at_487)
                obtain ⟨rfl, Nq153, Kq153, Tq153⟩ := hQ153
                replace Tq153 : own_TB Z T153.heap b6 kd pa en nm vl ns fa op og pr 5 2 (own_up (own_up (own_up (own_up (own_up (own_up (fun _ => .int 0) 0 (.int (Int32.ofNat 1))) 1 (.int (Int32.ofNat 2))) 2 (.int (Int32.ofNat 3))) 3 (.int (Int32.ofNat 4))) 1 (.int (Int32.ofNat 4))) 4 (.int (Int32.ofNat 5))) (own_up (own_up (own_up (fun _ => .int 0) 0 (.int (0 : Int32))) 1 (.int (1 : Int32))) 1 (.int (4 : Int32))) (own_up fg0 1 .null) := Tq153
                have f154 := f152.keep Kq153 (allS (by omega) (allS (by omega) all0))
                have z153 : n0 ≤ T153.heap.size := Nat.le_trans z151 Kq153.1
                have N153 := Fr.app N151 Nq153
                refine own_via (T' := T153) (g' := (mkF m 497 #[.val (.int p1), .val (.int p2), .val (.int v1), .val (.int v2), .val (.int v3), .val (.int v4), .val (.int (2 : Int32)), .val (.ref em), .val (.ref b6), .val (.int (0 : Int32)), .val (.int (1 : Int32)), .val (.int (1 : Int32)), .val (.int (4 : Int32)), .val (.int (1 : Int32)), .val (.int (4 : Int32))] [(.ref b6)])) (fun _ kt => st153 _ (XS.iload X153.here hx rfl (hb hby at_490) rfl (XS.ifNo X153.here hx rfl (hb hby at_492) rfl ((if0 _ _).trans (feq (by decide : ¬ ((1 : Int32) = (0 : Int32)))).1) (XS.aload X153.here hx rfl (hb hby at_495) rfl rfl kt)))) ?_
                obtain ⟨v155, T155, L155, X155, hQ155, st155⟩ := own_callV X153 hx hZ (y := (⟨"com/example/infoset/infoset/xdm/TreeBuffers", "innermostOriginal", "()Lcom/example/infoset/infoset/xdm/NamespaceBindings;"⟩ : MethodName)) (z := (⟨"com/example/infoset/infoset/xdm/TreeBuffers", "innermostOriginal", "()Lcom/example/infoset/infoset/xdm/NamespaceBindings;"⟩ : MethodName)) hown (hw _ (List.mem_of_getElem? (i := 142) rfl)) (hw _ (List.mem_of_getElem? (i := 143) rfl)) (notFace_of_selects (args := #[]) (mvT hZ (hw _ (List.mem_of_getElem? (i := 145) rfl)))) (hw _ (List.mem_of_getElem? (i := 145) rfl)) (hw _ (List.mem_of_getElem? (i := 144) rfl)) (hw _ (List.mem_of_getElem? (i := 6) rfl)) (hw _ (List.mem_of_getElem? (i := 146) rfl)) (by decide) (b := b6) (W := 0) (argsL := []) (rest := []) (rm13s l Z a0 hw [] b6 kd pa en nm vl ns fa op og pr 5 1 (own_up (own_up (own_up (own_up (own_up (own_up (fun _ => .int 0) 0 (.int (Int32.ofNat 1))) 1 (.int (Int32.ofNat 2))) 2 (.int (Int32.ofNat 3))) 3 (.int (Int32.ofNat 4))) 1 (.int (Int32.ofNat 4))) 4 (.int (Int32.ofNat 5))) (own_up (own_up (own_up (fun _ => .int 0) 0 (.int (0 : Int32))) 1 (.int (1 : Int32))) 1 (.int (4 : Int32))) (own_up fg0 1 .null) T153.heap n0 z153 gtb Tq153 (by decide) rfl) (by decide) (by decide) (by decide) (by decide) rfl Tq153.ob.exa (g := (mkF m 497 #[.val (.int p1), .val (.int p2), .val (.int v1), .val (.int v2), .val (.int v3), .val (.int v4), .val (.int (2 : Int32)), .val (.ref em), .val (.ref b6), .val (.int (0 : Int32)), .val (.int (1 : Int32)), .val (.int (1 : Int32)), .val (.int (4 : Int32)), .val (.int (1 : Int32)), .val (.int (4 : Int32))] [(.ref b6)])) rfl (by rw [hml]; rfl) (lenOf pd_6 rfl) rfl (by show 2 * 0 + _ ≤ _; exact Nat.le_of_eq rfl) (hb hby at_497)
                obtain ⟨rfl, hL155, e155⟩ := hQ155
                replace X155 := own_pure (v := none) (r := none) X155 rfl rfl hL155
                refine own_via (T' := T155) (g' := (mkF m 505 #[.val (.int p1), .val (.int p2), .val (.int v1), .val (.int v2), .val (.int v3), .val (.int v4), .val (.int (2 : Int32)), .val (.ref em), .val (.ref b6), .val (.int (0 : Int32)), .val (.int (1 : Int32)), .val (.int (1 : Int32)), .val (.int (4 : Int32)), .val (.int (1 : Int32)), .val (.int (4 : Int32))] [(.ref b6)])) (fun _ kt => st155 _ (XS.ifnonnullNo X155.here hx rfl (hb hby at_500) rfl (XS.aload X155.here hx rfl (hb hby at_503) rfl rfl kt))) ?_
                obtain ⟨T156, X156, e156, st156⟩ := getF X155 hx hZ hown (host := "") (Or.inl (hw _ (List.mem_of_getElem? (i := 131) rfl))) Via.refl e155 Tq153.f_ends (g := (mkF m 505 #[.val (.int p1), .val (.int p2), .val (.int v1), .val (.int v2), .val (.int v3), .val (.int v4), .val (.int (2 : Int32)), .val (.ref em), .val (.ref b6), .val (.int (0 : Int32)), .val (.int (1 : Int32)), .val (.int (1 : Int32)), .val (.int (4 : Int32)), .val (.int (1 : Int32)), .val (.int (4 : Int32))] [(.ref b6)])) rfl rfl (hb hby at_505)
                refine own_via (T' := T156) (g' := (mkF m 517 #[.val (.int p1), .val (.int p2), .val (.int v1), .val (.int v2), .val (.int v3), .val (.int v4), .val (.int (2 : Int32)), .val (.ref em), .val (.ref b6), .val (.int (0 : Int32)), .val (.int (1 : Int32)), .val (.int (1 : Int32)), .val (.int (4 : Int32)), .val (.int (1 : Int32)), .val (.int (4 : Int32))] [(.int (1 : Int32))])) (fun _ kt => st156 _ (XS.iload X156.here hx rfl (hb hby at_508) rfl (own_iaload X156 hx hZ e156 Tq153.a_en (j := (1 : Int32)) (i := 1) rfl (by decide) (g := (mkF m 510 #[.val (.int p1), .val (.int p2), .val (.int v1), .val (.int v2), .val (.int v3), .val (.int v4), .val (.int (2 : Int32)), .val (.ref em), .val (.ref b6), .val (.int (0 : Int32)), .val (.int (1 : Int32)), .val (.int (1 : Int32)), .val (.int (4 : Int32)), .val (.int (1 : Int32)), .val (.int (4 : Int32))] [(.int (1 : Int32)), (.ref en)])) rfl rfl (hb hby at_510) _ (XS.iload X156.here hx rfl (hb hby at_511) rfl (XS.icmpNo X156.here hx rfl (hb hby at_513) rfl (teq (by decide : ((4 : Int32) = (4 : Int32)))).2 (XS.iconst X156.here hx rfl (hb hby at_516) kt)))))) ?_
                refine own_via (T' := T156) (g' := (mkF m 525 #[.val (.int p1), .val (.int p2), .val (.int v1), .val (.int v2), .val (.int v3), .val (.int v4), .val (.int (2 : Int32)), .val (.ref em), .val (.ref b6), .val (.int (0 : Int32)), .val (.int (1 : Int32)), .val (.int (1 : Int32)), .val (.int (4 : Int32)), .val (.int (1 : Int32)), .val (.int (4 : Int32))] [(.int (1 : Int32))])) (fun _ kt => XS.goto X156.here hx rfl (pc0 := 517) (pc' := 521) rfl (hb hby at_517) (by decide) (by decide) (XS.istore X156.here hx rfl (hb hby at_521) rfl (l' := #[.val (.int p1), .val (.int p2), .val (.int v1), .val (.int v2), .val (.int v3), .val (.int v4), .val (.int (2 : Int32)), .val (.ref em), .val (.ref b6), .val (.int (0 : Int32)), .val (.int (1 : Int32)), .val (.int (1 : Int32)), .val (.int (4 : Int32)), .val (.int (1 : Int32)), .val (.int (4 : Int32))]) rfl (XS.iload X156.here hx rfl (hb hby at_523) rfl kt))) ?_
                exact own_retZ X156 hx hret hlk (hb hby at_525) (by decide) ⟨rfl, N153⟩ (by decide) (by decide)
          refine own_via (T' := T11) (g' := (mkF m 76 #[.val (.int p1), .val (.int p2), .val (.int v1), .val (.int v2), .val (.int v3), .val (.int v4), .val (.int (Int32.ofNat ev)), .val (.ref em), .val (.ref b6), .unset, .unset, .unset, .unset, .unset, .unset] [(.ref b6)])) (fun _ kt => XS.aload X11.here hx rfl (hb hby at_74) rfl rfl kt) ?_
          obtain ⟨T157, X157, e157, st157⟩ := getS2 X11 hx hZ hown (host := "") (Or.inl (hw _ (List.mem_of_getElem? (i := 97) rfl))) Via.refl rfl (S_k1.ext f12.2) (g := (mkF m 76 #[.val (.int p1), .val (.int p2), .val (.int v1), .val (.int v2), .val (.int v3), .val (.int v4), .val (.int (Int32.ofNat ev)), .val (.ref em), .val (.ref b6), .unset, .unset, .unset, .unset, .unset, .unset] [(.ref b6)])) rfl (hb hby at_76)
          refine own_via (T' := T157) (g' := (mkF m 83 #[.val (.int p1), .val (.int p2), .val (.int v1), .val (.int v2), .val (.int v3), .val (.int v4), .val (.int (Int32.ofNat ev)), .val (.ref em), .val (.ref b6), .unset, .unset, .unset, .unset, .unset, .unset] [.null, .null, .null, (.int (-1 : Int32)), (.ref k1), (.ref b6)])) (fun _ kt => st157 _ (XS.iconst X157.here hx rfl (hb hby at_79) (XS.aconstNull X157.here hx rfl (hb hby at_80) (XS.aconstNull X157.here hx rfl (hb hby at_81) (XS.aconstNull X157.here hx rfl (hb hby at_82) kt))))) ?_
          obtain ⟨v158, T158, L158, X158, hQ158, st158⟩ := own_callV X157 hx hZ (y := (⟨"com/example/infoset/infoset/xdm/TreeBuffers", "add", "(Lcom/example/infoset/infoset/xdm/NodeKind;ILcom/example/infoset/infoset/xdm/QName;Ljava/lang/String;Lcom/example/infoset/infoset/xdm/NamespaceBindings;)I"⟩ : MethodName)) (z := (⟨"com/example/infoset/infoset/xdm/TreeBuffers", "add", "(Lcom/example/infoset/infoset/xdm/NodeKind;ILcom/example/infoset/infoset/xdm/QName;Ljava/lang/String;Lcom/example/infoset/infoset/xdm/NamespaceBindings;)I"⟩ : MethodName)) hown (hw _ (List.mem_of_getElem? (i := 100) rfl)) (hw _ (List.mem_of_getElem? (i := 101) rfl)) (notFace_of_selects (args := #[]) (mvT hZ (hw _ (List.mem_of_getElem? (i := 103) rfl)))) (hw _ (List.mem_of_getElem? (i := 103) rfl)) (hw _ (List.mem_of_getElem? (i := 102) rfl)) (hw _ (List.mem_of_getElem? (i := 6) rfl)) (hw _ (List.mem_of_getElem? (i := 104) rfl)) (by decide) (b := b6) (W := 0) (argsL := [(.ref k1), (.int (-1 : Int32)), .null, .null, .null]) (rest := []) (rm7 l Z a0 hw [] b6 kd pa en nm vl ns fa op og pr 0 0 (fun _ => .int 0) (fun _ => .int 0) (fun _ => .null) T11.heap n0 z11 gtb Tq11 k1 (-1 : Int32) 1 (by decide) (E_k1.ext f12.2) (F_k1.ext f12.2)) (by decide) (by decide) (by decide) (by decide) e157 Tq11.ob.exa (g := (mkF m 83 #[.val (.int p1), .val (.int p2), .val (.int v1), .val (.int v2), .val (.int v3), .val (.int v4), .val (.int (Int32.ofNat ev)), .val (.ref em), .val (.ref b6), .unset, .unset, .unset, .unset, .unset, .unset] [.null, .null, .null, (.int (-1 : Int32)), (.ref k1), (.ref b6)])) rfl (by rw [hml]; rfl) (lenOf pd_7 rfl) rfl (by show 2 * 0 + _ ≤ _; exact Nat.le_of_eq rfl) (hb hby at_83)
          obtain ⟨rfl, Nq158, Kq158, Tq158⟩ := hQ158
          replace Tq158 : own_TB Z T158.heap b6 kd pa en nm vl ns fa op og pr 1 0 (own_up (fun _ => .int 0) 0 (.int (Int32.ofNat 1))) (fun _ => .int 0) (fun _ => .null) := Tq158
          have f159 := f12.keep Kq158 (allS (by omega) (allS (by omega) (allS (by omega) (allS (by omega) (allS (by omega) (allS (by omega) (allS (by omega) (allS (by omega) all0))))))))
          have z158 : n0 ≤ T158.heap.size := Nat.le_trans z11 Kq158.1
          have N158 := Fr.app N11 Nq158
          refine own_via (T' := T158) (g' := (mkF m 92 #[.val (.int p1), .val (.int p2), .val (.int v1), .val (.int v2), .val (.int v3), .val (.int v4), .val (.int (Int32.ofNat ev)), .val (.ref em), .val (.ref b6), .val (.int (0 : Int32)), .unset, .unset, .unset, .unset, .unset] [(.int (0 : Int32)), (.ref b6)])) (fun _ kt => st158 _ (XS.istore X158.here hx rfl (hb hby at_86) rfl (l' := #[.val (.int p1), .val (.int p2), .val (.int v1), .val (.int v2), .val (.int v3), .val (.int v4), .val (.int (Int32.ofNat ev)), .val (.ref em), .val (.ref b6), .val (.int (0 : Int32)), .unset, .unset, .unset, .unset, .unset]) rfl (XS.aload X158.here hx rfl (hb hby at_88) rfl rfl (XS.iload X158.here hx rfl (hb hby at_90) rfl kt)))) ?_
          obtain ⟨v160, T160, L160, X160, hQ160, st160⟩ := own_callV X158 hx hZ (y := (⟨"com/example/infoset/infoset/xdm/TreeBuffers", "open", "(I)V"⟩ : MethodName)) (z := (⟨"com/example/infoset/infoset/xdm/TreeBuffers", "open", "(I)V"⟩ : MethodName)) hown (hw _ (List.mem_of_getElem? (i := 118) rfl)) (hw _ (List.mem_of_getElem? (i := 119) rfl)) (notFace_of_selects (args := #[]) (mvT hZ (hw _ (List.mem_of_getElem? (i := 121) rfl)))) (hw _ (List.mem_of_getElem? (i := 121) rfl)) (hw _ (List.mem_of_getElem? (i := 120) rfl)) (hw _ (List.mem_of_getElem? (i := 6) rfl)) (hw _ (List.mem_of_getElem? (i := 122) rfl)) (by decide) (b := b6) (W := 0) (argsL := [(.int (0 : Int32))]) (rest := []) (rm9 l Z a0 hw [] b6 kd pa en nm vl ns fa op og pr 1 0 (own_up (fun _ => .int 0) 0 (.int (Int32.ofNat 1))) (fun _ => .int 0) (fun _ => .null) T158.heap n0 z158 gtb Tq158 (0 : Int32) (by decide)) (by decide) (by decide) (by decide) (by decide) rfl Tq158.ob.exa (g := (mkF m 92 #[.val (.int p1), .val (.int p2), .val (.int v1), .val (.int v2), .val (.int v3), .val (.int v4), .val (.int (Int32.ofNat ev)), .val (.ref em), .val (.ref b6), .val (.int (0 : Int32)), .unset, .unset, .unset, .unset, .unset] [(.int (0 : Int32)), (.ref b6)])) rfl (by rw [hml]; rfl) (lenOf pd_2 rfl) rfl (by show 2 * 0 + _ ≤ _; exact Nat.le_of_eq rfl) (hb hby at_92)
          obtain ⟨rfl, Nq160, Kq160, Tq160⟩ := hQ160
          replace Tq160 : own_TB Z T160.heap b6 kd pa en nm vl ns fa op og pr 1 1 (own_up (fun _ => .int 0) 0 (.int (Int32.ofNat 1))) (own_up (fun _ => .int 0) 0 (.int (0 : Int32))) (fun _ => .null) := Tq160
          have f161 := f159.keep Kq160 (allS (by omega) (allS (by omega) all0))
          have z160 : n0 ≤ T160.heap.size := Nat.le_trans z158 Kq160.1
          have N160 := Fr.app N158 Nq160
          refine own_via (T' := T160) (g' := (mkF m 96 #[.val (.int p1), .val (.int p2), .val (.int v1), .val (.int v2), .val (.int v3), .val (.int v4), .val (.int (Int32.ofNat ev)), .val (.ref em), .val (.ref b6), .val (.int (0 : Int32)), .unset, .unset, .unset, .unset, .unset] [(.int v2)])) (fun _ kt => st160 _ (XS.iloadN X160.here hx rfl (hb hby at_95) rfl kt)) ?_
          by_cases hc96_162 : v2 = (0 : Int32)
          · refine own_via (T' := T160) (g' := (mkF m 112 #[.val (.int p1), .val (.int p2), .val (.int v1), .val (.int v2), .val (.int v3), .val (.int v4), .val (.int (Int32.ofNat ev)), .val (.ref em), .val (.ref b6), .val (.int (0 : Int32)), .val (.int (-1 : Int32)), .unset, .unset, .unset, .unset] [(.int v1)])) (fun _ kt => XS.ifYes X160.here hx rfl (pc0 := 96) (pc' := 108) rfl (hb hby at_96) rfl ((if0 _ _).trans (teq hc96_162).1) (by decide) (by decide) (XS.iconst X160.here hx rfl (hb hby at_108) (XS.istore X160.here hx rfl (hb hby at_109) rfl (l' := #[.val (.int p1), .val (.int p2), .val (.int v1), .val (.int v2), .val (.int v3), .val (.int v4), .val (.int (Int32.ofNat ev)), .val (.ref em), .val (.ref b6), .val (.int (0 : Int32)), .val (.int (-1 : Int32)), .unset, .unset, .unset, .unset]) rfl (XS.iloadN X160.here hx rfl (hb hby at_111) rfl kt)))) ?_
            by_cases hc112_163 : v1 = (0 : Int32)
            · refine own_via (T' := T160) (g' := (mkF m 159 #[.val (.int p1), .val (.int p2), .val (.int v1), .val (.int v2), .val (.int v3), .val (.int v4), .val (.int (Int32.ofNat ev)), .val (.ref em), .val (.ref b6), .val (.int (0 : Int32)), .val (.int (-1 : Int32)), .unset, .unset, .unset, .unset] [])) (fun _ kt => XS.ifYes X160.here hx rfl (pc0 := 112) (pc' := 159) rfl (hb hby at_112) rfl ((if0 _ _).trans (teq hc112_163).1) (by decide) (by decide) kt) ?_
              exact Tail1 hc112_163 T160 T160.heap _ _ X160 rfl z160 N160 f161 rfl (fun _ => rfl) (fun q => absurd hc96_162 q) Tq160
            · refine own_via (T' := T160) (g' := (mkF m 117 #[.val (.int p1), .val (.int p2), .val (.int v1), .val (.int v2), .val (.int v3), .val (.int v4), .val (.int (Int32.ofNat ev)), .val (.ref em), .val (.ref b6), .val (.int (0 : Int32)), .val (.int (-1 : Int32)), .unset, .unset, .unset, .unset] [(.ref b6)])) (fun _ kt => XS.ifNo X160.here hx rfl (hb hby at_112) rfl ((if0 _ _).trans (feq hc112_163).1) (XS.aload X160.here hx rfl (hb hby at_115) rfl rfl kt)) ?_
              obtain ⟨T164, X164, e164, st164⟩ := getS2 X160 hx hZ hown (host := "") (Or.inl (hw _ (List.mem_of_getElem? (i := 97) rfl))) Via.refl rfl (S_k1.ext f161.2) (g := (mkF m 117 #[.val (.int p1), .val (.int p2), .val (.int v1), .val (.int v2), .val (.int v3), .val (.int v4), .val (.int (Int32.ofNat ev)), .val (.ref em), .val (.ref b6), .val (.int (0 : Int32)), .val (.int (-1 : Int32)), .unset, .unset, .unset, .unset] [(.ref b6)])) rfl (hb hby at_117)
              refine own_via (T' := T164) (g' := (mkF m 125 #[.val (.int p1), .val (.int p2), .val (.int v1), .val (.int v2), .val (.int v3), .val (.int v4), .val (.int (Int32.ofNat ev)), .val (.ref em), .val (.ref b6), .val (.int (0 : Int32)), .val (.int (-1 : Int32)), .unset, .unset, .unset, .unset] [.null, .null, .null, (.int (0 : Int32)), (.ref k1), (.ref b6)])) (fun _ kt => st164 _ (XS.iload X164.here hx rfl (hb hby at_120) rfl (XS.aconstNull X164.here hx rfl (hb hby at_122) (XS.aconstNull X164.here hx rfl (hb hby at_123) (XS.aconstNull X164.here hx rfl (hb hby at_124) kt))))) ?_
              obtain ⟨v165, T165, L165, X165, hQ165, st165⟩ := own_callV X164 hx hZ (y := (⟨"com/example/infoset/infoset/xdm/TreeBuffers", "add", "(Lcom/example/infoset/infoset/xdm/NodeKind;ILcom/example/infoset/infoset/xdm/QName;Ljava/lang/String;Lcom/example/infoset/infoset/xdm/NamespaceBindings;)I"⟩ : MethodName)) (z := (⟨"com/example/infoset/infoset/xdm/TreeBuffers", "add", "(Lcom/example/infoset/infoset/xdm/NodeKind;ILcom/example/infoset/infoset/xdm/QName;Ljava/lang/String;Lcom/example/infoset/infoset/xdm/NamespaceBindings;)I"⟩ : MethodName)) hown (hw _ (List.mem_of_getElem? (i := 100) rfl)) (hw _ (List.mem_of_getElem? (i := 101) rfl)) (notFace_of_selects (args := #[]) (mvT hZ (hw _ (List.mem_of_getElem? (i := 103) rfl)))) (hw _ (List.mem_of_getElem? (i := 103) rfl)) (hw _ (List.mem_of_getElem? (i := 102) rfl)) (hw _ (List.mem_of_getElem? (i := 6) rfl)) (hw _ (List.mem_of_getElem? (i := 104) rfl)) (by decide) (b := b6) (W := 0) (argsL := [(.ref k1), (.int (0 : Int32)), .null, .null, .null]) (rest := []) (rm7 l Z a0 hw [] b6 kd pa en nm vl ns fa op og pr 1 1 (own_up (fun _ => .int 0) 0 (.int (Int32.ofNat 1))) (own_up (fun _ => .int 0) 0 (.int (0 : Int32))) (fun _ => .null) T160.heap n0 z160 gtb Tq160 k1 (0 : Int32) 1 (by decide) (E_k1.ext f161.2) (F_k1.ext f161.2)) (by decide) (by decide) (by decide) (by decide) e164 Tq160.ob.exa (g := (mkF m 125 #[.val (.int p1), .val (.int p2), .val (.int v1), .val (.int v2), .val (.int v3), .val (.int v4), .val (.int (Int32.ofNat ev)), .val (.ref em), .val (.ref b6), .val (.int (0 : Int32)), .val (.int (-1 : Int32)), .unset, .unset, .unset, .unset] [.null, .null, .null, (.int (0 : Int32)), (.ref k1), (.ref b6)])) rfl (by rw [hml]; rfl) (lenOf pd_7 rfl) rfl (by show 2 * 0 + _ ≤ _; exact Nat.le_of_eq rfl) (hb hby at_125)
              obtain ⟨rfl, Nq165, Kq165, Tq165⟩ := hQ165
              replace Tq165 : own_TB Z T165.heap b6 kd pa en nm vl ns fa op og pr 2 1 (own_up (own_up (fun _ => .int 0) 0 (.int (Int32.ofNat 1))) 1 (.int (Int32.ofNat 2))) (own_up (fun _ => .int 0) 0 (.int (0 : Int32))) (fun _ => .null) := Tq165
              have f166 := f161.keep Kq165 (allS (by omega) (allS (by omega) (allS (by omega) (allS (by omega) (allS (by omega) (allS (by omega) (allS (by omega) (allS (by omega) all0))))))))
              have z165 : n0 ≤ T165.heap.size := Nat.le_trans z160 Kq165.1
              have N165 := Fr.app N160 Nq165
              refine own_via (T' := T165) (g' := (mkF m 134 #[.val (.int p1), .val (.int p2), .val (.int v1), .val (.int v2), .val (.int v3), .val (.int v4), .val (.int (Int32.ofNat ev)), .val (.ref em), .val (.ref b6), .val (.int (0 : Int32)), .val (.int (1 : Int32)), .unset, .unset, .unset, .unset] [(.int (1 : Int32)), (.ref b6)])) (fun _ kt => st165 _ (XS.istore X165.here hx rfl (hb hby at_128) rfl (l' := #[.val (.int p1), .val (.int p2), .val (.int v1), .val (.int v2), .val (.int v3), .val (.int v4), .val (.int (Int32.ofNat ev)), .val (.ref em), .val (.ref b6), .val (.int (0 : Int32)), .val (.int (1 : Int32)), .unset, .unset, .unset, .unset]) rfl (XS.aload X165.here hx rfl (hb hby at_130) rfl rfl (XS.iload X165.here hx rfl (hb hby at_132) rfl kt)))) ?_
              obtain ⟨v167, T167, L167, X167, hQ167, st167⟩ := own_callV X165 hx hZ (y := (⟨"com/example/infoset/infoset/xdm/TreeBuffers", "open", "(I)V"⟩ : MethodName)) (z := (⟨"com/example/infoset/infoset/xdm/TreeBuffers", "open", "(I)V"⟩ : MethodName)) hown (hw _ (List.mem_of_getElem? (i := 118) rfl)) (hw _ (List.mem_of_getElem? (i := 119) rfl)) (notFace_of_selects (args := #[]) (mvT hZ (hw _ (List.mem_of_getElem? (i := 121) rfl)))) (hw _ (List.mem_of_getElem? (i := 121) rfl)) (hw _ (List.mem_of_getElem? (i := 120) rfl)) (hw _ (List.mem_of_getElem? (i := 6) rfl)) (hw _ (List.mem_of_getElem? (i := 122) rfl)) (by decide) (b := b6) (W := 0) (argsL := [(.int (1 : Int32))]) (rest := []) (rm9 l Z a0 hw [] b6 kd pa en nm vl ns fa op og pr 2 1 (own_up (own_up (fun _ => .int 0) 0 (.int (Int32.ofNat 1))) 1 (.int (Int32.ofNat 2))) (own_up (fun _ => .int 0) 0 (.int (0 : Int32))) (fun _ => .null) T165.heap n0 z165 gtb Tq165 (1 : Int32) (by decide)) (by decide) (by decide) (by decide) (by decide) rfl Tq165.ob.exa (g := (mkF m 134 #[.val (.int p1), .val (.int p2), .val (.int v1), .val (.int v2), .val (.int v3), .val (.int v4), .val (.int (Int32.ofNat ev)), .val (.ref em), .val (.ref b6), .val (.int (0 : Int32)), .val (.int (1 : Int32)), .unset, .unset, .unset, .unset] [(.int (1 : Int32)), (.ref b6)])) rfl (by rw [hml]; rfl) (lenOf pd_2 rfl) rfl (by show 2 * 0 + _ ≤ _; exact Nat.le_of_eq rfl) (hb hby at_134)
              obtain ⟨rfl, Nq167, Kq167, Tq167⟩ := hQ167
              replace Tq167 : own_TB Z T167.heap b6 kd pa en nm vl ns fa op og pr 2 2 (own_up (own_up (fun _ => .int 0) 0 (.int (Int32.ofNat 1))) 1 (.int (Int32.ofNat 2))) (own_up (own_up (fun _ => .int 0) 0 (.int (0 : Int32))) 1 (.int (1 : Int32))) (fun _ => .null) := Tq167
              have f168 := f166.keep Kq167 (allS (by omega) (allS (by omega) all0))
              have z167 : n0 ≤ T167.heap.size := Nat.le_trans z165 Kq167.1
              have N167 := Fr.app N165 Nq167
              refine own_via (T' := T167) (g' := (mkF m 139 #[.val (.int p1), .val (.int p2), .val (.int v1), .val (.int v2), .val (.int v3), .val (.int v4), .val (.int (Int32.ofNat ev)), .val (.ref em), .val (.ref b6), .val (.int (0 : Int32)), .val (.int (1 : Int32)), .unset, .unset, .unset, .unset] [(.int v3)])) (fun _ kt => st167 _ (XS.iload X167.here hx rfl (hb hby at_137) rfl kt)) ?_
              by_cases hc139_169 : v3 = (0 : Int32)
              · refine own_via (T' := T167) (g' := (mkF m 159 #[.val (.int p1), .val (.int p2), .val (.int v1), .val (.int v2), .val (.int v3), .val (.int v4), .val (.int (Int32.ofNat ev)), .val (.ref em), .val (.ref b6), .val (.int (0 : Int32)), .val (.int (1 : Int32)), .unset, .unset, .unset, .unset] [])) (fun _ kt => XS.ifYes X167.here hx rfl (pc0 := 139) (pc' := 159) rfl (hb hby at_139) rfl ((if0 _ _).trans (teq hc139_169).1) (by decide) (by decide) kt) ?_
                exact Tail2 hc112_163 T167 T167.heap _ _ X167 rfl z167 N167 f168 rfl (fun _ => rfl) (fun q => absurd hc96_162 q) Tq167
              · refine own_via (T' := T167) (g' := (mkF m 146 #[.val (.int p1), .val (.int p2), .val (.int v1), .val (.int v2), .val (.int v3), .val (.int v4), .val (.int (Int32.ofNat ev)), .val (.ref em), .val (.ref b6), .val (.int (0 : Int32)), .val (.int (1 : Int32)), .unset, .unset, .unset, .unset] [(.ref em), (.ref b6)])) (fun _ kt => XS.ifNo X167.here hx rfl (hb hby at_139) rfl ((if0 _ _).trans (feq hc139_169).1) (XS.aload X167.here hx rfl (hb hby at_142) rfl rfl (XS.aload X167.here hx rfl (hb hby at_144) rfl rfl kt))) ?_
                have HJ170 : ∀ v170 : Int32, own_bit v170 → own_Ends p e below (own_Fin below s room_1.cells room_1.slots (fun v h L => v = some (.int 1) ∧ Fr n0 L)) T167 (mkF m 156 #[.val (.int p1), .val (.int p2), .val (.int v1), .val (.int v2), .val (.int v3), .val (.int v4), .val (.int (Int32.ofNat ev)), .val (.ref em), .val (.ref b6), .val (.int (0 : Int32)), .val (.int (1 : Int32)), .unset, .unset, .unset, .unset] [(.int v170), (.ref em), (.ref b6)]) := by
                  intro v170 hv170
                  obtain ⟨v171, T171, L171, X171, hQ171, st171⟩ := own_callV X167 hx hZ (y := (⟨"com/example/infoset/infoset/xdm/TreeBuffers", "keepOriginal", "(Lcom/example/infoset/infoset/xdm/NamespaceBindings;Z)V"⟩ : MethodName)) (z := (⟨"com/example/infoset/infoset/xdm/TreeBuffers", "keepOriginal", "(Lcom/example/infoset/infoset/xdm/NamespaceBindings;Z)V"⟩ : MethodName)) hown (hw _ (List.mem_of_getElem? (i := 147) rfl)) (hw _ (List.mem_of_getElem? (i := 148) rfl)) (notFace_of_selects (args := #[]) (mvT hZ (hw _ (List.mem_of_getElem? (i := 150) rfl)))) (hw _ (List.mem_of_getElem? (i := 150) rfl)) (hw _ (List.mem_of_getElem? (i := 149) rfl)) (hw _ (List.mem_of_getElem? (i := 6) rfl)) (hw _ (List.mem_of_getElem? (i := 151) rfl)) (by decide) (b := b6) (W := 0) (argsL := [(.ref em), (.int v170)]) (rest := []) (rm14 l Z a0 hw [] b6 kd pa en nm vl ns fa op og pr 2 1 (own_up (own_up (fun _ => .int 0) 0 (.int (Int32.ofNat 1))) 1 (.int (Int32.ofNat 2))) (own_up (own_up (fun _ => .int 0) 0 (.int (0 : Int32))) 1 (.int (1 : Int32))) (fun _ => .null) T167.heap n0 z167 gtb Tq167 em v170 (by decide) (E_em.ext f168.2)) (by decide) (by decide) (by decide) (by decide) rfl Tq167.ob.exa (g := (mkF m 156 #[.val (.int p1), .val (.int p2), .val (.int v1), .val (.int v2), .val (.int v3), .val (.int v4), .val (.int (Int32.ofNat ev)), .val (.ref em), .val (.ref b6), .val (.int (0 : Int32)), .val (.int (1 : Int32)), .unset, .unset, .unset, .unset] [(.int v170), (.ref em), (.ref b6)])) rfl (by rw [hml]; rfl) (lenOf pd_8 rfl) rfl (by show 2 * 0 + _ ≤ _; exact Nat.le_of_eq rfl) (hb hby at_156)
                  obtain ⟨rfl, Nq171, Kq171, Tq171⟩ := hQ171
                  replace Tq171 : own_TB Z T171.heap b6 kd pa en nm vl ns fa op og pr 2 2 (own_up (own_up (fun _ => .int 0) 0 (.int (Int32.ofNat 1))) 1 (.int (Int32.ofNat 2))) (own_up (own_up (fun _ => .int 0) 0 (.int (0 : Int32))) 1 (.int (1 : Int32))) (own_up (fun _ => .null) 1 (.ref em)) := Tq171
                  have f172 := f168.keep Kq171 (allS (by omega) (allS (by omega) all0))
                  have z171 : n0 ≤ T171.heap.size := Nat.le_trans z167 Kq171.1
                  have N171 := Fr.app N167 Nq171
                  refine own_via (T' := T171) (g' := (mkF m 159 #[.val (.int p1), .val (.int p2), .val (.int v1), .val (.int v2), .val (.int v3), .val (.int v4), .val (.int (Int32.ofNat ev)), .val (.ref em), .val (.ref b6), .val (.int (0 : Int32)), .val (.int (1 : Int32)), .unset, .unset, .unset, .unset] [])) (fun _ kt => st171 _ kt) ?_
                  exact Tail2 hc112_163 T171 T171.heap _ _ X171 rfl z171 N171 f172 rfl (fun _ => rfl) (fun q => absurd hc96_162 q) Tq171
                refine own_via (T' := T167) (g' := (mkF m 148 #[.val (.int p1), .val (.int p2), .val (.int v1), .val (.int v2), .val (.int v3), .val (.int v4), .val (.int (Int32.ofNat ev)), .val (.ref em), .val (.ref b6), .val (.int (0 : Int32)), .val (.int (1 : Int32)), .unset, .unset, .unset, .unset] [(.int v4), (.ref em), (.ref b6)])) (fun _ kt => XS.iload X167.here hx rfl (hb hby at_146) rfl kt) ?_
                by_cases hc148_173 : v4 = (0 : Int32)
                · refine own_via (T' := T167) (g' := (mkF m 156 #[.val (.int p1), .val (.int p2), .val (.int v1), .val (.int v2), .val (.int v3), .val (.int v4), .val (.int (Int32.ofNat ev)), .val (.ref em), .val (.ref b6), .val (.int (0 : Int32)), .val (.int (1 : Int32)), .unset, .unset, .unset, .unset] [(.int (1 : Int32)), (.ref em), (.ref b6)])) (fun _ kt => XS.ifNo X167.here hx rfl (hb hby at_148) rfl ((if0 _ _).trans (teq hc148_173).2) (XS.iconst X167.here hx rfl (hb hby at_151) (XS.goto X167.here hx rfl (pc0 := 152) (pc' := 156) rfl (hb hby at_152) (by decide) (by decide) kt))) ?_
                  exact HJ170 (1 : Int32) (Or.inr rfl)
                · refine own_via (T' := T167) (g' := (mkF m 156 #[.val (.int p1), .val (.int p2), .val (.int v1), .val (.int v2), .val (.int v3), .val (.int v4), .val (.int (Int32.ofNat ev)), .val (.ref em), .val (.ref b6), .val (.int (0 : Int32)), .val (.int (1 : Int32)), .unset, .unset, .unset, .unset] [(.int (0 : Int32)), (.ref em), (.ref b6)])) (fun _ kt => XS.ifYes X167.here hx rfl (pc0 := 148) (pc' := 155) rfl (hb hby at_148) rfl ((if0 _ _).trans (feq hc148_173).2) (by decide) (by decide) (XS.iconst X167.here hx rfl (hb hby at_155) kt)) ?_
                  exact HJ170 (0 : Int32) (Or.inl rfl)
          · refine own_via (T' := T160) (g' := (mkF m 105 #[.val (.int p1), .val (.int p2), .val (.int v1), .val (.int v2), .val (.int v3), .val (.int v4), .val (.int (Int32.ofNat ev)), .val (.ref em), .val (.ref b6), .val (.int (0 : Int32)), .unset, .unset, .unset, .unset, .unset] [(.int v4), (.ref em), (.ref b6)])) (fun _ kt => XS.ifNo X160.here hx rfl (hb hby at_96) rfl ((if0 _ _).trans (feq hc96_162).1) (XS.aload X160.here hx rfl (hb hby at_99) rfl rfl (XS.aload X160.here hx rfl (hb hby at_101) rfl rfl (XS.iload X160.here hx rfl (hb hby at_103) rfl kt)))) ?_
            obtain ⟨v174, T174, L174, X174, hQ174, st174⟩ := own_callV X160 hx hZ (y := (⟨"com/example/infoset/infoset/xdm/TreeBuffers", "keepOriginal", "(Lcom/example/infoset/infoset/xdm/NamespaceBindings;Z)V"⟩ : MethodName)) (z := (⟨"com/example/infoset/infoset/xdm/TreeBuffers", "keepOriginal", "(Lcom/example/infoset/infoset/xdm/NamespaceBindings;Z)V"⟩ : MethodName)) hown (hw _ (List.mem_of_getElem? (i := 147) rfl)) (hw _ (List.mem_of_getElem? (i := 148) rfl)) (notFace_of_selects (args := #[]) (mvT hZ (hw _ (List.mem_of_getElem? (i := 150) rfl)))) (hw _ (List.mem_of_getElem? (i := 150) rfl)) (hw _ (List.mem_of_getElem? (i := 149) rfl)) (hw _ (List.mem_of_getElem? (i := 6) rfl)) (hw _ (List.mem_of_getElem? (i := 151) rfl)) (by decide) (b := b6) (W := 0) (argsL := [(.ref em), (.int v4)]) (rest := []) (rm14 l Z a0 hw [] b6 kd pa en nm vl ns fa op og pr 1 0 (own_up (fun _ => .int 0) 0 (.int (Int32.ofNat 1))) (own_up (fun _ => .int 0) 0 (.int (0 : Int32))) (fun _ => .null) T160.heap n0 z160 gtb Tq160 em v4 (by decide) (E_em.ext f161.2)) (by decide) (by decide) (by decide) (by decide) rfl Tq160.ob.exa (g := (mkF m 105 #[.val (.int p1), .val (.int p2), .val (.int v1), .val (.int v2), .val (.int v3), .val (.int v4), .val (.int (Int32.ofNat ev)), .val (.ref em), .val (.ref b6), .val (.int (0 : Int32)), .unset, .unset, .unset, .unset, .unset] [(.int v4), (.ref em), (.ref b6)])) rfl (by rw [hml]; rfl) (lenOf pd_8 rfl) rfl (by show 2 * 0 + _ ≤ _; exact Nat.le_of_eq rfl) (hb hby at_105)
            obtain ⟨rfl, Nq174, Kq174, Tq174⟩ := hQ174
            replace Tq174 : own_TB Z T174.heap b6 kd pa en nm vl ns fa op og pr 1 1 (own_up (fun _ => .int 0) 0 (.int (Int32.ofNat 1))) (own_up (fun _ => .int 0) 0 (.int (0 : Int32))) (own_up (fun _ => .null) 0 (.ref em)) := Tq174
            have f175 := f161.keep Kq174 (allS (by omega) (allS (by omega) all0))
            have z174 : n0 ≤ T174.heap.size := Nat.le_trans z160 Kq174.1
            have N174 := Fr.app N160 Nq174
            refine own_via (T' := T174) (g' := (mkF m 112 #[.val (.int p1), .val (.int p2), .val (.int v1), .val (.int v2), .val (.int v3), .val (.int v4), .val (.int (Int32.ofNat ev)), .val (.ref em), .val (.ref b6), .val (.int (0 : Int32)), .val (.int (-1 : Int32)), .unset, .unset, .unset, .unset] [(.int v1)])) (fun _ kt => st174 _ (XS.iconst X174.here hx rfl (hb hby at_108) (XS.istore X174.here hx rfl (hb hby at_109) rfl (l' := #[.val (.int p1), .val (.int p2), .val (.int v1), .val (.int v2), .val (.int v3), .val (.int v4), .val (.int (Int32.ofNat ev)), .val (.ref em), .val (.ref b6), .val (.int (0 : Int32)), .val (.int (-1 : Int32)), .unset, .unset, .unset, .unset]) rfl (XS.iloadN X174.here hx rfl (hb hby at_111) rfl kt)))) ?_
            by_cases hc112_176 : v1 = (0 : Int32)
            · refine own_via (T' := T174) (g' := (mkF m 159 #[.val (.int p1), .val (.int p2), .val (.int v1), .val (.int v2), .val (.int v3), .val (.int v4), .val (.int (Int32.ofNat ev)), .val (.ref em), .val (.ref b6), .val (.int (0 : Int32)), .val (.int (-1 : Int32)), .unset, .unset, .unset, .unset] [])) (fun _ kt => XS.ifYes X174.here hx rfl (pc0 := 112) (pc' := 159) rfl (hb hby at_112) rfl ((if0 _ _).trans (teq hc112_176).1) (by decide) (by decide) kt) ?_
              exact Tail1 hc112_176 T174 T174.heap _ _ X174 rfl z174 N174 f175 rfl (fun q => absurd q hc96_162) (fun _ => rfl) Tq174
            · refine own_via (T' := T174) (g' := (mkF m 117 #[.val (.int p1), .val (.int p2), .val (.int v1), .val (.int v2), .val (.int v3), .val (.int v4), .val (.int (Int32.ofNat ev)), .val (.ref em), .val (.ref b6), .val (.int (0 : Int32)), .val (.int (-1 : Int32)), .unset, .unset, .unset, .unset] [(.ref b6)])) (fun _ kt => XS.ifNo X174.here hx rfl (hb hby at_112) rfl ((if0 _ _).trans (feq hc112_176).1) (XS.aload X174.here hx rfl (hb hby at_115) rfl rfl kt)) ?_
              obtain ⟨T177, X177, e177, st177⟩ := getS2 X174 hx hZ hown (host := "") (Or.inl (hw _ (List.mem_of_getElem? (i := 97) rfl))) Via.refl rfl (S_k1.ext f175.2) (g := (mkF m 117 #[.val (.int p1), .val (.int p2), .val (.int v1), .val (.int v2), .val (.int v3), .val (.int v4), .val (.int (Int32.ofNat ev)), .val (.ref em), .val (.ref b6), .val (.int (0 : Int32)), .val (.int (-1 : Int32)), .unset, .unset, .unset, .unset] [(.ref b6)])) rfl (hb hby at_117)
              refine own_via (T' := T177) (g' := (mkF m 125 #[.val (.int p1), .val (.int p2), .val (.int v1), .val (.int v2), .val (.int v3), .val (.int v4), .val (.int (Int32.ofNat ev)), .val (.ref em), .val (.ref b6), .val (.int (0 : Int32)), .val (.int (-1 : Int32)), .unset, .unset, .unset, .unset] [.null, .null, .null, (.int (0 : Int32)), (.ref k1), (.ref b6)])) (fun _ kt => st177 _ (XS.iload X177.here hx rfl (hb hby at_120) rfl (XS.aconstNull X177.here hx rfl (hb hby at_122) (XS.aconstNull X177.here hx rfl (hb hby at_123) (XS.aconstNull X177.here hx rfl (hb hby at_124) kt))))) ?_
              obtain ⟨v178, T178, L178, X178, hQ178, st178⟩ := own_callV X177 hx hZ (y := (⟨"com/example/infoset/infoset/xdm/TreeBuffers", "add", "(Lcom/example/infoset/infoset/xdm/NodeKind;ILcom/example/infoset/infoset/xdm/QName;Ljava/lang/String;Lcom/example/infoset/infoset/xdm/NamespaceBindings;)I"⟩ : MethodName)) (z := (⟨"com/example/infoset/infoset/xdm/TreeBuffers", "add", "(Lcom/example/infoset/infoset/xdm/NodeKind;ILcom/example/infoset/infoset/xdm/QName;Ljava/lang/String;Lcom/example/infoset/infoset/xdm/NamespaceBindings;)I"⟩ : MethodName)) hown (hw _ (List.mem_of_getElem? (i := 100) rfl)) (hw _ (List.mem_of_getElem? (i := 101) rfl)) (notFace_of_selects (args := #[]) (mvT hZ (hw _ (List.mem_of_getElem? (i := 103) rfl)))) (hw _ (List.mem_of_getElem? (i := 103) rfl)) (hw _ (List.mem_of_getElem? (i := 102) rfl)) (hw _ (List.mem_of_getElem? (i := 6) rfl)) (hw _ (List.mem_of_getElem? (i := 104) rfl)) (by decide) (b := b6) (W := 0) (argsL := [(.ref k1), (.int (0 : Int32)), .null, .null, .null]) (rest := []) (rm7 l Z a0 hw [] b6 kd pa en nm vl ns fa op og pr 1 1 (own_up (fun _ => .int 0) 0 (.int (Int32.ofNat 1))) (own_up (fun _ => .int 0) 0 (.int (0 : Int32))) (own_up (fun _ => .null) 0 (.ref em)) T174.heap n0 z174 gtb Tq174 k1 (0 : Int32) 1 (by decide) (E_k1.ext f175.2) (F_k1.ext f175.2)) (by decide) (by decide) (by decide) (by decide) e177 Tq174.ob.exa (g := (mkF m 125 #[.val (.int p1), .val (.int p2), .val (.int v1), .val (.int v2), .val (.int v3), .val (.int v4), .val (.int (Int32.ofNat ev)), .val (.ref em), .val (.ref b6), .val (.int (0 : Int32)), .val (.int (-1 : Int32)), .unset, .unset, .unset, .unset] [.null, .null, .null, (.int (0 : Int32)), (.ref k1), (.ref b6)])) rfl (by rw [hml]; rfl) (lenOf pd_7 rfl) rfl (by show 2 * 0 + _ ≤ _; exact Nat.le_of_eq rfl) (hb hby at_125)
              obtain ⟨rfl, Nq178, Kq178, Tq178⟩ := hQ178
              replace Tq178 : own_TB Z T178.heap b6 kd pa en nm vl ns fa op og pr 2 1 (own_up (own_up (fun _ => .int 0) 0 (.int (Int32.ofNat 1))) 1 (.int (Int32.ofNat 2))) (own_up (fun _ => .int 0) 0 (.int (0 : Int32))) (own_up (fun _ => .null) 0 (.ref em)) := Tq178
              have f179 := f175.keep Kq178 (allS (by omega) (allS (by omega) (allS (by omega) (allS (by omega) (allS (by omega) (allS (by omega) (allS (by omega) (allS (by omega) all0))))))))
              have z178 : n0 ≤ T178.heap.size := Nat.le_trans z174 Kq178.1
              have N178 := Fr.app N174 Nq178
              refine own_via (T' := T178) (g' := (mkF m 134 #[.val (.int p1), .val (.int p2), .val (.int v1), .val (.int v2), .val (.int v3), .val (.int v4), .val (.int (Int32.ofNat ev)), .val (.ref em), .val (.ref b6), .val (.int (0 : Int32)), .val (.int (1 : Int32)), .unset, .unset, .unset, .unset] [(.int (1 : Int32)), (.ref b6)])) (fun _ kt => st178 _ (XS.istore X178.here hx rfl (hb hby at_128) rfl (l' := #[.val (.int p1), .val (.int p2), .val (.int v1), .val (.int v2), .val (.int v3), .val (.int v4), .val (.int (Int32.ofNat ev)), .val (.ref em), .val (.ref b6), .val (.int (0 : Int32)), .val (.int (1 : Int32)), .unset, .unset, .unset, .unset]) rfl (XS.aload X178.here hx rfl (hb hby at_130) rfl rfl (XS.iload X178.here hx rfl (hb hby at_132) rfl kt)))) ?_
              obtain ⟨v180, T180, L180, X180, hQ180, st180⟩ := own_callV X178 hx hZ (y := (⟨"com/example/infoset/infoset/xdm/TreeBuffers", "open", "(I)V"⟩ : MethodName)) (z := (⟨"com/example/infoset/infoset/xdm/TreeBuffers", "open", "(I)V"⟩ : MethodName)) hown (hw _ (List.mem_of_getElem? (i := 118) rfl)) (hw _ (List.mem_of_getElem? (i := 119) rfl)) (notFace_of_selects (args := #[]) (mvT hZ (hw _ (List.mem_of_getElem? (i := 121) rfl)))) (hw _ (List.mem_of_getElem? (i := 121) rfl)) (hw _ (List.mem_of_getElem? (i := 120) rfl)) (hw _ (List.mem_of_getElem? (i := 6) rfl)) (hw _ (List.mem_of_getElem? (i := 122) rfl)) (by decide) (b := b6) (W := 0) (argsL := [(.int (1 : Int32))]) (rest := []) (rm9 l Z a0 hw [] b6 kd pa en nm vl ns fa op og pr 2 1 (own_up (own_up (fun _ => .int 0) 0 (.int (Int32.ofNat 1))) 1 (.int (Int32.ofNat 2))) (own_up (fun _ => .int 0) 0 (.int (0 : Int32))) (own_up (fun _ => .null) 0 (.ref em)) T178.heap n0 z178 gtb Tq178 (1 : Int32) (by decide)) (by decide) (by decide) (by decide) (by decide) rfl Tq178.ob.exa (g := (mkF m 134 #[.val (.int p1), .val (.int p2), .val (.int v1), .val (.int v2), .val (.int v3), .val (.int v4), .val (.int (Int32.ofNat ev)), .val (.ref em), .val (.ref b6), .val (.int (0 : Int32)), .val (.int (1 : Int32)), .unset, .unset, .unset, .unset] [(.int (1 : Int32)), (.ref b6)])) rfl (by rw [hml]; rfl) (lenOf pd_2 rfl) rfl (by show 2 * 0 + _ ≤ _; exact Nat.le_of_eq rfl) (hb hby at_134)
              obtain ⟨rfl, Nq180, Kq180, Tq180⟩ := hQ180
              replace Tq180 : own_TB Z T180.heap b6 kd pa en nm vl ns fa op og pr 2 2 (own_up (own_up (fun _ => .int 0) 0 (.int (Int32.ofNat 1))) 1 (.int (Int32.ofNat 2))) (own_up (own_up (fun _ => .int 0) 0 (.int (0 : Int32))) 1 (.int (1 : Int32))) (own_up (fun _ => .null) 0 (.ref em)) := Tq180
              have f181 := f179.keep Kq180 (allS (by omega) (allS (by omega) all0))
              have z180 : n0 ≤ T180.heap.size := Nat.le_trans z178 Kq180.1
              have N180 := Fr.app N178 Nq180
              refine own_via (T' := T180) (g' := (mkF m 139 #[.val (.int p1), .val (.int p2), .val (.int v1), .val (.int v2), .val (.int v3), .val (.int v4), .val (.int (Int32.ofNat ev)), .val (.ref em), .val (.ref b6), .val (.int (0 : Int32)), .val (.int (1 : Int32)), .unset, .unset, .unset, .unset] [(.int v3)])) (fun _ kt => st180 _ (XS.iload X180.here hx rfl (hb hby at_137) rfl kt)) ?_
              by_cases hc139_182 : v3 = (0 : Int32)
              · refine own_via (T' := T180) (g' := (mkF m 159 #[.val (.int p1), .val (.int p2), .val (.int v1), .val (.int v2), .val (.int v3), .val (.int v4), .val (.int (Int32.ofNat ev)), .val (.ref em), .val (.ref b6), .val (.int (0 : Int32)), .val (.int (1 : Int32)), .unset, .unset, .unset, .unset] [])) (fun _ kt => XS.ifYes X180.here hx rfl (pc0 := 139) (pc' := 159) rfl (hb hby at_139) rfl ((if0 _ _).trans (teq hc139_182).1) (by decide) (by decide) kt) ?_
                exact Tail2 hc112_176 T180 T180.heap _ _ X180 rfl z180 N180 f181 rfl (fun q => absurd q hc96_162) (fun _ => rfl) Tq180
              · refine own_via (T' := T180) (g' := (mkF m 146 #[.val (.int p1), .val (.int p2), .val (.int v1), .val (.int v2), .val (.int v3), .val (.int v4), .val (.int (Int32.ofNat ev)), .val (.ref em), .val (.ref b6), .val (.int (0 : Int32)), .val (.int (1 : Int32)), .unset, .unset, .unset, .unset] [(.ref em), (.ref b6)])) (fun _ kt => XS.ifNo X180.here hx rfl (hb hby at_139) rfl ((if0 _ _).trans (feq hc139_182).1) (XS.aload X180.here hx rfl (hb hby at_142) rfl rfl (XS.aload X180.here hx rfl (hb hby at_144) rfl rfl kt))) ?_
                have HJ183 : ∀ v183 : Int32, own_bit v183 → own_Ends p e below (own_Fin below s room_1.cells room_1.slots (fun v h L => v = some (.int 1) ∧ Fr n0 L)) T180 (mkF m 156 #[.val (.int p1), .val (.int p2), .val (.int v1), .val (.int v2), .val (.int v3), .val (.int v4), .val (.int (Int32.ofNat ev)), .val (.ref em), .val (.ref b6), .val (.int (0 : Int32)), .val (.int (1 : Int32)), .unset, .unset, .unset, .unset] [(.int v183), (.ref em), (.ref b6)]) := by
                  intro v183 hv183
                  obtain ⟨v184, T184, L184, X184, hQ184, st184⟩ := own_callV X180 hx hZ (y := (⟨"com/example/infoset/infoset/xdm/TreeBuffers", "keepOriginal", "(Lcom/example/infoset/infoset/xdm/NamespaceBindings;Z)V"⟩ : MethodName)) (z := (⟨"com/example/infoset/infoset/xdm/TreeBuffers", "keepOriginal", "(Lcom/example/infoset/infoset/xdm/NamespaceBindings;Z)V"⟩ : MethodName)) hown (hw _ (List.mem_of_getElem? (i := 147) rfl)) (hw _ (List.mem_of_getElem? (i := 148) rfl)) (notFace_of_selects (args := #[]) (mvT hZ (hw _ (List.mem_of_getElem? (i := 150) rfl)))) (hw _ (List.mem_of_getElem? (i := 150) rfl)) (hw _ (List.mem_of_getElem? (i := 149) rfl)) (hw _ (List.mem_of_getElem? (i := 6) rfl)) (hw _ (List.mem_of_getElem? (i := 151) rfl)) (by decide) (b := b6) (W := 0) (argsL := [(.ref em), (.int v183)]) (rest := []) (rm14 l Z a0 hw [] b6 kd pa en nm vl ns fa op og pr 2 1 (own_up (own_up (fun _ => .int 0) 0 (.int (Int32.ofNat 1))) 1 (.int (Int32.ofNat 2))) (own_up (own_up (fun _ => .int 0) 0 (.int (0 : Int32))) 1 (.int (1 : Int32))) (own_up (fun _ => .null) 0 (.ref em)) T180.heap n0 z180 gtb Tq180 em v183 (by decide) (E_em.ext f181.2)) (by decide) (by decide) (by decide) (by decide) rfl Tq180.ob.exa (g := (mkF m 156 #[.val (.int p1), .val (.int p2), .val (.int v1), .val (.int v2), .val (.int v3), .val (.int v4), .val (.int (Int32.ofNat ev)), .val (.ref em), .val (.ref b6), .val (.int (0 : Int32)), .val (.int (1 : Int32)), .unset, .unset, .unset, .unset] [(.int v183), (.ref em), (.ref b6)])) rfl (by rw [hml]; rfl) (lenOf pd_8 rfl) rfl (by show 2 * 0 + _ ≤ _; exact Nat.le_of_eq rfl) (hb hby at_156)
                  obtain ⟨rfl, Nq184, Kq184, Tq184⟩ := hQ184
                  replace Tq184 : own_TB Z T184.heap b6 kd pa en nm vl ns fa op og pr 2 2 (own_up (own_up (fun _ => .int 0) 0 (.int (Int32.ofNat 1))) 1 (.int (Int32.ofNat 2))) (own_up (own_up (fun _ => .int 0) 0 (.int (0 : Int32))) 1 (.int (1 : Int32))) (own_up (own_up (fun _ => .null) 0 (.ref em)) 1 (.ref em)) := Tq184
                  have f185 := f181.keep Kq184 (allS (by omega) (allS (by omega) all0))
                  have z184 : n0 ≤ T184.heap.size := Nat.le_trans z180 Kq184.1
                  have N184 := Fr.app N180 Nq184
                  refine own_via (T' := T184) (g' := (mkF m 159 #[.val (.int p1), .val (.int p2), .val (.int v1), .val (.int v2), .val (.int v3), .val (.int v4), .val (.int (Int32.ofNat ev)), .val (.ref em), .val (.ref b6), .val (.int (0 : Int32)), .val (.int (1 : Int32)), .unset, .unset, .unset, .unset] [])) (fun _ kt => st184 _ kt) ?_
                  exact Tail2 hc112_176 T184 T184.heap _ _ X184 rfl z184 N184 f185 rfl (fun q => absurd q hc96_162) (fun _ => rfl) Tq184
                refine own_via (T' := T180) (g' := (mkF m 148 #[.val (.int p1), .val (.int p2), .val (.int v1), .val (.int v2), .val (.int v3), .val (.int v4), .val (.int (Int32.ofNat ev)), .val (.ref em), .val (.ref b6), .val (.int (0 : Int32)), .val (.int (1 : Int32)), .unset, .unset, .unset, .unset] [(.int v4), (.ref em), (.ref b6)])) (fun _ kt => XS.iload X180.here hx rfl (hb hby at_146) rfl kt) ?_
                by_cases hc148_186 : v4 = (0 : Int32)
                · refine own_via (T' := T180) (g' := (mkF m 156 #[.val (.int p1), .val (.int p2), .val (.int v1), .val (.int v2), .val (.int v3), .val (.int v4), .val (.int (Int32.ofNat ev)), .val (.ref em), .val (.ref b6), .val (.int (0 : Int32)), .val (.int (1 : Int32)), .unset, .unset, .unset, .unset] [(.int (1 : Int32)), (.ref em), (.ref b6)])) (fun _ kt => XS.ifNo X180.here hx rfl (hb hby at_148) rfl ((if0 _ _).trans (teq hc148_186).2) (XS.iconst X180.here hx rfl (hb hby at_151) (XS.goto X180.here hx rfl (pc0 := 152) (pc' := 156) rfl (hb hby at_152) (by decide) (by decide) kt))) ?_
                  exact HJ183 (1 : Int32) (Or.inr rfl)
                · refine own_via (T' := T180) (g' := (mkF m 156 #[.val (.int p1), .val (.int p2), .val (.int v1), .val (.int v2), .val (.int v3), .val (.int v4), .val (.int (Int32.ofNat ev)), .val (.ref em), .val (.ref b6), .val (.int (0 : Int32)), .val (.int (1 : Int32)), .unset, .unset, .unset, .unset] [(.int (0 : Int32)), (.ref em), (.ref b6)])) (fun _ kt => XS.ifYes X180.here hx rfl (pc0 := 148) (pc' := 155) rfl (hb hby at_148) rfl ((if0 _ _).trans (feq hc148_186).2) (by decide) (by decide) (XS.iconst X180.here hx rfl (hb hby at_155) kt)) ?_
                  exact HJ183 (0 : Int32) (Or.inl rfl)
        refine own_via (T' := T0) (g' := (mkF m 41 #[.val (.int p1), .val (.int p2), .val (.int v1), .val (.int v2), .val (.int v3), .unset, .unset, .unset, .unset, .unset, .unset, .unset, .unset, .unset, .unset] [(.int (p1 &&& (8 : Int32)))])) (fun _ kt => XS.iloadN X0.here hx rfl (hb hby at_37) rfl (XS.bipush X0.here hx rfl (hb hby at_38) (XS.iand X0.here hx rfl (hb hby at_40) rfl kt))) ?_
        by_cases hc41_187 : (p1 &&& (8 : Int32)) = (0 : Int32)
        · refine own_via (T' := T0) (g' := (mkF m 49 #[.val (.int p1), .val (.int p2), .val (.int v1), .val (.int v2), .val (.int v3), .unset, .unset, .unset, .unset, .unset, .unset, .unset, .unset, .unset, .unset] [(.int (0 : Int32))])) (fun _ kt => XS.ifYes X0.here hx rfl (pc0 := 41) (pc' := 48) rfl (hb hby at_41) rfl ((if0 _ _).trans (teq hc41_187).1) (by decide) (by decide) (XS.iconst X0.here hx rfl (hb hby at_48) kt)) ?_
          exact HJ4 (0 : Int32) (Or.inl rfl)
        · refine own_via (T' := T0) (g' := (mkF m 49 #[.val (.int p1), .val (.int p2), .val (.int v1), .val (.int v2), .val (.int v3), .unset, .unset, .unset, .unset, .unset, .unset, .unset, .unset, .unset, .unset] [(.int (1 : Int32))])) (fun _ kt => XS.ifNo X0.here hx rfl (hb hby at_41) rfl ((if0 _ _).trans (feq hc41_187).1) (XS.iconst X0.here hx rfl (hb hby at_44) (XS.goto X0.here hx rfl (pc0 := 45) (pc' := 49) rfl (hb hby at_45) (by decide) (by decide) kt))) ?_
          exact HJ4 (1 : Int32) (Or.inr rfl)
      refine own_via (T' := T0) (g' := (mkF m 27 #[.val (.int p1), .val (.int p2), .val (.int v1), .val (.int v2), .unset, .unset, .unset, .unset, .unset, .unset, .unset, .unset, .unset, .unset, .unset] [(.int (p1 &&& (4 : Int32)))])) (fun _ kt => XS.iloadN X0.here hx rfl (hb hby at_24) rfl (XS.iconst X0.here hx rfl (hb hby at_25) (XS.iand X0.here hx rfl (hb hby at_26) rfl kt))) ?_
      by_cases hc27_188 : (p1 &&& (4 : Int32)) = (0 : Int32)
      · refine own_via (T' := T0) (g' := (mkF m 35 #[.val (.int p1), .val (.int p2), .val (.int v1), .val (.int v2), .unset, .unset, .unset, .unset, .unset, .unset, .unset, .unset, .unset, .unset, .unset] [(.int (0 : Int32))])) (fun _ kt => XS.ifYes X0.here hx rfl (pc0 := 27) (pc' := 34) rfl (hb hby at_27) rfl ((if0 _ _).trans (teq hc27_188).1) (by decide) (by decide) (XS.iconst X0.here hx rfl (hb hby at_34) kt)) ?_
        exact HJ3 (0 : Int32) (Or.inl rfl)
      · refine own_via (T' := T0) (g' := (mkF m 35 #[.val (.int p1), .val (.int p2), .val (.int v1), .val (.int v2), .unset, .unset, .unset, .unset, .unset, .unset, .unset, .unset, .unset, .unset, .unset] [(.int (1 : Int32))])) (fun _ kt => XS.ifNo X0.here hx rfl (hb hby at_27) rfl ((if0 _ _).trans (feq hc27_188).1) (XS.iconst X0.here hx rfl (hb hby at_30) (XS.goto X0.here hx rfl (pc0 := 31) (pc' := 35) rfl (hb hby at_31) (by decide) (by decide) kt))) ?_
        exact HJ3 (1 : Int32) (Or.inr rfl)
    refine own_via (T' := T0) (g' := (mkF m 15 #[.val (.int p1), .val (.int p2), .val (.int v1), .unset, .unset, .unset, .unset, .unset, .unset, .unset, .unset, .unset, .unset, .unset, .unset] [(.int (p1 &&& (2 : Int32)))])) (fun _ kt => XS.iloadN X0.here hx rfl (hb hby at_12) rfl (XS.iconst X0.here hx rfl (hb hby at_13) (XS.iand X0.here hx rfl (hb hby at_14) rfl kt))) ?_
    by_cases hc15_189 : (p1 &&& (2 : Int32)) = (0 : Int32)
    · refine own_via (T' := T0) (g' := (mkF m 23 #[.val (.int p1), .val (.int p2), .val (.int v1), .unset, .unset, .unset, .unset, .unset, .unset, .unset, .unset, .unset, .unset, .unset, .unset] [(.int (0 : Int32))])) (fun _ kt => XS.ifYes X0.here hx rfl (pc0 := 15) (pc' := 22) rfl (hb hby at_15) rfl ((if0 _ _).trans (teq hc15_189).1) (by decide) (by decide) (XS.iconst X0.here hx rfl (hb hby at_22) kt)) ?_
      exact HJ2 (0 : Int32) (Or.inl rfl)
    · refine own_via (T' := T0) (g' := (mkF m 23 #[.val (.int p1), .val (.int p2), .val (.int v1), .unset, .unset, .unset, .unset, .unset, .unset, .unset, .unset, .unset, .unset, .unset, .unset] [(.int (1 : Int32))])) (fun _ kt => XS.ifNo X0.here hx rfl (hb hby at_15) rfl ((if0 _ _).trans (feq hc15_189).1) (XS.iconst X0.here hx rfl (hb hby at_18) (XS.goto X0.here hx rfl (pc0 := 19) (pc' := 23) rfl (hb hby at_19) (by decide) (by decide) kt))) ?_
      exact HJ2 (1 : Int32) (Or.inr rfl)
  refine own_via (T' := T0) (g' := (mkF m 3 #[.val (.int p1), .val (.int p2), .unset, .unset, .unset, .unset, .unset, .unset, .unset, .unset, .unset, .unset, .unset, .unset, .unset] [(.int (p1 &&& (1 : Int32)))])) (fun _ kt => XS.iloadN X0.here hx rfl (hb hby at_0) rfl (XS.iconst X0.here hx rfl (hb hby at_1) (XS.iand X0.here hx rfl (hb hby at_2) rfl kt))) ?_
  by_cases hc3_190 : (p1 &&& (1 : Int32)) = (0 : Int32)
  · refine own_via (T' := T0) (g' := (mkF m 11 #[.val (.int p1), .val (.int p2), .unset, .unset, .unset, .unset, .unset, .unset, .unset, .unset, .unset, .unset, .unset, .unset, .unset] [(.int (0 : Int32))])) (fun _ kt => XS.ifYes X0.here hx rfl (pc0 := 3) (pc' := 10) rfl (hb hby at_3) rfl ((if0 _ _).trans (teq hc3_190).1) (by decide) (by decide) (XS.iconst X0.here hx rfl (hb hby at_10) kt)) ?_
    exact HJ1 (0 : Int32) (Or.inl rfl)
  · refine own_via (T' := T0) (g' := (mkF m 11 #[.val (.int p1), .val (.int p2), .unset, .unset, .unset, .unset, .unset, .unset, .unset, .unset, .unset, .unset, .unset, .unset, .unset] [(.int (1 : Int32))])) (fun _ kt => XS.ifNo X0.here hx rfl (hb hby at_3) rfl ((if0 _ _).trans (feq hc3_190).1) (XS.iconst X0.here hx rfl (hb hby at_6) (XS.goto X0.here hx rfl (pc0 := 7) (pc' := 11) rfl (hb hby at_7) (by decide) (by decide) kt))) ?_
    exact HJ1 (1 : Int32) (Or.inr rfl)
theorem own_fldr {s : State} {args : Array Value} {t : Term} {x : Addr} {C n d : String} {ty : FieldType} (ev : t.eval args s none [] s = some (.ref x)) (hk : (Jvm.Cond.arrayOf (.field t C n d) ty).value args s none s [] = some true) : ∃ y, Fld s s.heap x C n d (.ref y) := by
  obtain ⟨y, q⟩ := arr_v hk
  exact ⟨y, Fld.start ((fld_at ev).symm.trans q)⟩
set_option maxRecDepth 65536 in
set_option maxHeartbeats 40000000 in
theorem comes_1 {Post : Tables → Env → Array Value → State → Outcome → State → Prop} (hpost : ∀ tb e args s v u, (limb_1_1.after args s (.returned v) u = true ∧ limb_1_2.after args s (.returned v) u = true ∧ True) → FrameEnd s (.returned v) u (Jvm.fieldLocs frame_1_writes args s ++ Jvm.arrayLocs frame_1_arrays args s ++ Jvm.staticLocs frame_1_statics s) 48 704 → Post tb e args s (.returned v) u) :
    ArmFor flags0 classFile x code maxLocals ret World_1 tables_1 room_1 Calls_1 rest_1 Pre_1 Post := by
  intro l hfl _ _ p e ha hc hk s m args below hf hA hF happ hP
  obtain ⟨hcalls, hrest, hpre⟩ := hP
  obtain ⟨-, -, -, hnamed, -, -, -, hat⟩ := (Spec.applies_iff hf).mp happ
  obtain ⟨hg, hn⟩ := and_e (Cond.before_iff.mp (show (Jvm.Cond.and given_1 narrow_1).before args s = true from hpre))
  obtain ⟨gc, g0⟩ := and_e hg
  obtain ⟨v0, g1⟩ := and_e g0
  obtain ⟨w0, w1, rfl⟩ : ∃ w0 w1 : Value, args = #[w0, w1] := by
    have hs : args.size = 2 := by simpa [Cond.value, given_1] using gc
    obtain ⟨L⟩ := args
    match L, hs with
    | [w0, w1], _ => exact ⟨w0, w1, rfl⟩
  have hw := fun d (hd : d ∈ tables_1) => atoms_spec (ws := Jvm.Cond.code x code maxLocals ret :: tables_1) hat d (List.mem_cons_of_mem _ hd)
  have hfit : Fit s := fun {y c} hc i hi => by
    obtain ⟨ha, rfl⟩ := Array.getElem?_eq_some_iff.mp hc
    have q := List.all_eq_true.mp ((Array.all_eq_true_iff_forall_mem.mp hF) _ (Array.getElem_mem ha)) i (List.mem_range.mpr hi)
    simpa [Array.getElem?_eq_getElem hi] using q
  obtain ⟨i0, ei0⟩ := is_v v0
  obtain rfl : w0 = (.int i0) := Option.some.inj ei0
  obtain ⟨i1, ei1⟩ := is_v g1
  obtain rfl : w1 = (.int i1) := Option.some.inj ei1
  obtain ⟨c0, n1⟩ := and_e hn
  obtain ⟨c1, n2⟩ := and_e n1
  obtain ⟨c2, n3⟩ := and_e n2
  obtain ⟨c3, n4⟩ := and_e n3
  obtain ⟨c4, n5⟩ := and_e n4
  obtain ⟨c5, n6⟩ := and_e n5
  obtain ⟨c6, n7⟩ := and_e n6
  obtain ⟨c7, n8⟩ := and_e n7
  obtain ⟨c8, n9⟩ := and_e n8
  obtain ⟨c9, c10⟩ := and_e n9
  obtain ⟨em, evm, S_em, E_em⟩ := own_stat c0 (hw _ (List.mem_of_getElem? (i := 2) rfl)) (hw _ (List.mem_of_getElem? (i := 3) rfl))
  obtain ⟨px, Pf⟩ := own_fldr evm c1
  obtain ⟨ux, Uf⟩ := own_fldr evm c3
  obtain ⟨k1, ev_k1, S_k1, E_k1⟩ := own_stat c5 (hw _ (List.mem_of_getElem? (i := 98) rfl)) (hw _ (List.mem_of_getElem? (i := 99) rfl))
  have F_k1 := own_ord ev_k1 c6
  obtain ⟨k3, ev_k3, S_k3, E_k3⟩ := own_stat c7 (hw _ (List.mem_of_getElem? (i := 98) rfl)) (hw _ (List.mem_of_getElem? (i := 154) rfl))
  have F_k3 := own_ord ev_k3 c8
  obtain ⟨k4, ev_k4, S_k4, E_k4⟩ := own_stat c9 (hw _ (List.mem_of_getElem? (i := 98) rfl)) (hw _ (List.mem_of_getElem? (i := 156) rfl))
  have F_k4 := own_ord ev_k4 c10
  obtain ⟨n, o, h1, h2, h3, _, L, rfl, ⟨rfl, N⟩, hq⟩ := rm0 l s _ hw tables_1 i0 i1 s.heap s.heap.size (Nat.le_refl _) (Old.start s) em px ux k1 k3 k4 E_em.lt S_em E_em Pf Uf S_k1 E_k1 F_k1 S_k3 E_k3 F_k3 S_k4 E_k4 F_k4 p e ha hc hk s m _ below hf ((Spec.applies_iff_loose hf).mp happ).1 ⟨rfl, State.Warmed39.refl s, rfl⟩ trivial
  refine ⟨n, _, h1, h2, h3, hpost _ _ _ _ _ _ ⟨Cond.after_iff.mpr rfl, Cond.after_iff.mpr (eq_i res_at (Term.int_eval (1)) rfl), trivial⟩ ⟨hq.1, hq.2.1, (hq.2.2.sift fun y hy => Or.inr (N y hy)).mono (by decide) (by decide)⟩⟩
theorem main_1_1 : Claimed_1_1 := comes_1 fun _ _ _ _ _ _ h hF => ⟨h.1, hF⟩
theorem main_1_2 : Claimed_1_2 := comes_1 fun _ _ _ _ _ _ h hF => ⟨h.2.1, hF⟩
end Jvm.Pilot.@@N@@
namespace Jvm.Pilot.@@N@@
open Jvm Jvm.ClassFile Sem Op Lib Jvm.Free Jvm.Stand Jvm.Pilot.@@N@@.Jvm.D
/-! MADE BY PROGRAM (witnessworld.py) out of the Statement's table words and the real class files: 27 classes; the members and pool entries that the words name. The judged class is class 1, her method 1. -/
namespace start1
open Jvm.ClassFile
def u (s : String) : CpInfo := .utf8 (stringToUtf16 s)
/-- a pool by its gaps: so many unusable entries, then the entry; so many at the end -/
def gap : Nat → List CpInfo → List CpInfo
  | 0, r => r
  | n + 1, r => .unusable :: gap n r
def poolList (es : List (Nat × CpInfo)) (last : Nat) : List CpInfo := es.foldr (fun e r => gap e.1 (e.2 :: r)) (gap last [])
def pool (es : List (Nat × CpInfo)) (last : Nat) : Array CpInfo := ⟨poolList es last⟩
def fileOf (pool : Array CpInfo) (this : Nat) (attrs : Array Attribute := #[]) (ms : Array MethodInfo := #[]) (fl : Nat := 33) (sup : Nat := 0) (ifs : Array Nat := #[]) (fds : Array FieldInfo := #[]) : ClassFile where
  minorVersion := 0
  majorVersion := 65
  constantPool := pool
  accessFlags := fl
  thisClass := this
  superClass := sup
  interfaces := ifs
  fields := fds
  methods := ms
  attributes := attrs
def plain (name : String) (sup : Option ClassId) : Class where
  name := name
  kind := .ordinary
  loader := none
  accessFlags := 33
  super := sup
  interfaces := #[]
  cf := none
  fields := #[]
  methods := #[]
  instanceTypes := #[]
  staticTypes := #[]
  resolved := #[]
  callSites := []
  init := .initialized
  statics := none
  mirror := none

def pool0 : Array CpInfo := pool [(5, u "<init>"), (0, u "()V"), (1, .class_ 10), (1, u "java/lang/Object")] 113

def k0c0 : Code := { maxStack := 0, maxLocals := 1, code := object_method_1_code, exceptionTable := #[], attributes := #[] }
def k0m0 : Method := { name := "<init>", desc := "()V", sig := { parameters := [], returnType := none }, accessFlags := 1, code := some k0c0 }
/-- java/lang/Object -/
def k0 : Class := { plain "java/lang/Object" none with
  accessFlags := 33
  interfaces := #[]
  cf := some (fileOf pool0 8 #[] #[{ accessFlags := 1, nameIndex := 5, descriptorIndex := 6, attributes := #[] }] 33 0 #[] #[])
  fields := #[]
  methods := #[k0m0]
  instanceTypes := #[]
  staticTypes := #[]
  resolved := Array.replicate 124 none
  statics := none }

def pool1 : Array CpInfo := pool [(2, .class_ 4), (1, u "java/lang/Object"), (0, u "<init>"), (0, u "()V"), (0, .integer 2147483647), (0, .fieldref 9 10), (0, .class_ 11), (0, .nameAndType 12 13), (0, u "com/example/infoset/infoset/xdm/NamespaceBindings"), (0, u "EMPTY"), (0, u "Lcom/example/infoset/infoset/xdm/NamespaceBindings;"), (0, .class_ 15), (0, u "com/example/infoset/infoset/xdm/TreeBuffers"), (0, .methodref 14 17), (0, .nameAndType 5 18), (0, u "(Lcom/example/infoset/infoset/xdm/ConstructedTrees;)V"), (0, .fieldref 20 21), (0, .class_ 22), (0, .nameAndType 23 24), (0, u "com/example/infoset/infoset/xdm/NodeKind"), (0, u "ELEMENT"), (0, u "Lcom/example/infoset/infoset/xdm/NodeKind;"), (0, .methodref 14 26), (0, .nameAndType 27 28), (0, u "add"), (0, u "(Lcom/example/infoset/infoset/xdm/NodeKind;ILcom/example/infoset/infoset/xdm/QName;Ljava/lang/String;Lcom/example/infoset/infoset/xdm/NamespaceBindings;)I"), (0, .methodref 14 30), (0, .nameAndType 31 32), (0, u "open"), (0, u "(I)V"), (0, .methodref 14 34), (0, .nameAndType 35 36), (0, u "keepOriginal"), (0, u "(Lcom/example/infoset/infoset/xdm/NamespaceBindings;Z)V"), (0, .fieldref 20 38), (0, .nameAndType 39 24), (0, u "TEXT"), (0, .fieldref 20 41), (0, .nameAndType 42 24), (0, u "COMMENT"), (0, .fieldref 14 44), (0, .nameAndType 45 46), (0, u "size"), (0, u "I"), (0, .methodref 14 48), (0, .nameAndType 49 6), (0, u "close"), (0, .fieldref 14 51), (0, .nameAndType 52 53), (0, u "ends"), (0, u "[I"), (0, .methodref 14 55), (0, .nameAndType 56 57), (0, u "depth"), (0, u "()I"), (0, .methodref 14 59), (0, .nameAndType 60 57), (0, u "innermost"), (0, .methodref 14 62), (0, .nameAndType 63 64), (0, u "innermostOriginal"), (0, u "()Lcom/example/infoset/infoset/xdm/NamespaceBindings;"), (0, .class_ 66), (0, u "com/example/infoset/infoset/xdm/TreeBuffersClosePinLaw"), (2, u "law"), (0, u "(II)Z")] 3

def k1m0 : Method := { name := "<init>", desc := "()V", sig := { parameters := [], returnType := none }, accessFlags := 1, code := none }
def k1c1 : Code := { maxStack := 6, maxLocals := 15, code := code, exceptionTable := #[], attributes := #[] }
def k1m1 : Method := { name := "law", desc := "(II)Z", sig := { parameters := [.int, .int], returnType := some .boolean }, accessFlags := 9, code := some k1c1 }
/-- com/example/infoset/infoset/xdm/TreeBuffersClosePinLaw -/
def k1 : Class := { plain "com/example/infoset/infoset/xdm/TreeBuffersClosePinLaw" (some 0) with
  accessFlags := 49
  interfaces := #[]
  cf := some (fileOf pool1 65 #[] #[{ accessFlags := 1, nameIndex := 5, descriptorIndex := 6, attributes := #[] }, { accessFlags := 9, nameIndex := 69, descriptorIndex := 70, attributes := #[] }] 49 2 #[] #[])
  fields := #[]
  methods := #[k1m0, k1m1]
  instanceTypes := #[]
  staticTypes := #[]
  resolved := Array.replicate 74 none
  statics := none }

def pool2 : Array CpInfo := pool [(2, .class_ 4), (1, u "java/lang/Object"), (3, .class_ 10), (1, u "com/example/infoset/infoset/xdm/NamespaceBindings"), (0, u "prefixes"), (0, u "[Ljava/lang/String;"), (2, u "uris"), (6, u "placeMap"), (0, u "Ljava/util/Map;"), (36, u "EMPTY"), (0, u "Lcom/example/infoset/infoset/xdm/NamespaceBindings;"), (0, u "LOOKED_THROUGH"), (0, u "I"), (18, .class_ 83), (0, u "com/example/infoset/infoset/xdm/NamespaceBindings$Builder")] 2

/-- com/example/infoset/infoset/xdm/NamespaceBindings -/
def k2 : Class := { plain "com/example/infoset/infoset/xdm/NamespaceBindings" (some 0) with
  accessFlags := 33
  interfaces := #[]
  cf := some (fileOf pool2 8 #[.nestMembers #[82]] #[] 33 2 #[] #[{ accessFlags := 25, nameIndex := 60, descriptorIndex := 61, attributes := #[] }, { accessFlags := 26, nameIndex := 62, descriptorIndex := 63, attributes := #[] }, { accessFlags := 18, nameIndex := 11, descriptorIndex := 12, attributes := #[] }, { accessFlags := 18, nameIndex := 15, descriptorIndex := 12, attributes := #[] }, { accessFlags := 66, nameIndex := 22, descriptorIndex := 23, attributes := #[] }])
  fields := #[{ name := "EMPTY", type := (.object "com/example/infoset/infoset/xdm/NamespaceBindings"), accessFlags := 25, slot := 0, constantValue := 0 }, { name := "LOOKED_THROUGH", type := .int, accessFlags := 26, slot := 1, constantValue := 0 }, { name := "prefixes", type := (.array (.object "java/lang/String")), accessFlags := 18, slot := 0, constantValue := 0 }, { name := "uris", type := (.array (.object "java/lang/String")), accessFlags := 18, slot := 1, constantValue := 0 }, { name := "placeMap", type := (.object "java/util/Map"), accessFlags := 66, slot := 2, constantValue := 0 }]
  methods := #[]
  instanceTypes := #[(.array (.object "java/lang/String")), (.array (.object "java/lang/String")), (.object "java/util/Map")]
  staticTypes := #[(.object "com/example/infoset/infoset/xdm/NamespaceBindings"), .int]
  resolved := Array.replicate 86 none
  statics := some 0 }

def pool3 : Array CpInfo := pool [(3, .class_ 4), (0, u "com/example/infoset/infoset/xdm/TreeBuffers"), (4, .nameAndType 10 11), (0, u "<init>"), (0, u "()V"), (0, .methodref 3 13), (0, .nameAndType 10 14), (0, u "(IILcom/example/infoset/infoset/xdm/SharedStrings;Lcom/example/infoset/infoset/xdm/ConstructedTrees;)V"), (0, .methodref 16 9), (0, .class_ 17), (0, u "java/lang/Object"), (0, .class_ 19), (0, u "com/example/infoset/infoset/xdm/ElementStart"), (0, .methodref 18 21), (0, .nameAndType 10 22), (0, u "(Lcom/example/infoset/infoset/xdm/TreeBuffers;)V"), (0, .fieldref 3 24), (0, .nameAndType 25 26), (0, u "start"), (0, u "Lcom/example/infoset/infoset/xdm/ElementStart;"), (0, .fieldref 3 28), (0, .nameAndType 29 30), (0, u "firstCapacity"), (0, u "I"), (0, .fieldref 3 32), (0, .nameAndType 33 30), (0, u "keptLimit"), (0, .fieldref 3 35), (0, .nameAndType 36 37), (0, u "strings"), (0, u "Lcom/example/infoset/infoset/xdm/SharedStrings;"), (0, .fieldref 3 39), (0, .nameAndType 40 41), (0, u "trees"), (0, u "Lcom/example/infoset/infoset/xdm/ConstructedTrees;"), (0, .methodref 3 43), (0, .nameAndType 44 45), (0, u "allocate"), (0, u "(I)V"), (5, u "user"), (0, u "Lcom/example/infoset/infoset/xdm/TreeBuilder;"), (17, .fieldref 3 71), (0, .nameAndType 72 73), (0, u "kinds"), (0, u "[B"), (0, .fieldref 3 75), (0, .nameAndType 76 30), (0, u "size"), (10, .fieldref 3 88), (0, .nameAndType 89 90), (0, u "parents"), (0, u "[I"), (3, .fieldref 3 95), (0, .nameAndType 96 90), (0, u "ends"), (0, .fieldref 3 98), (0, .nameAndType 99 100), (0, u "names"), (0, u "[Lcom/example/infoset/infoset/xdm/QName;"), (4, .fieldref 3 106), (0, .nameAndType 107 108), (0, u "values"), (0, u "[Ljava/lang/String;"), (1, .fieldref 3 111), (0, .nameAndType 112 113), (0, u "namespaces"), (0, u "[Lcom/example/infoset/infoset/xdm/NamespaceBindings;"), (1, .fieldref 3 116), (0, .nameAndType 117 90), (0, u "firstAttributes"), (0, .methodref 119 120), (0, .class_ 121), (0, .nameAndType 122 123), (0, u "com/example/infoset/infoset/xdm/NodeKind"), (0, u "ordinal"), (0, u "()I"), (0, .fieldref 3 125), (0, .nameAndType 126 30), (0, u "attributeCount"), (0, .fieldref 3 128), (0, .nameAndType 129 90), (0, u "owners"), (0, .fieldref 3 131), (0, .nameAndType 132 100), (0, u "attributeNames"), (0, .fieldref 3 134), (0, .nameAndType 135 108), (0, u "attributeValues"), (7, .fieldref 3 144), (0, .nameAndType 145 146), (0, u "text"), (0, u "[C"), (2, u "textLength"), (7, .class_ 159), (1, u "java/lang/String"), (17, u "add"), (0, u "(Lcom/example/infoset/infoset/xdm/NodeKind;ILcom/example/infoset/infoset/xdm/QName;Ljava/lang/String;Lcom/example/infoset/infoset/xdm/NamespaceBindings;)I"), (0, .fieldref 3 180), (0, .nameAndType 181 30), (0, u "depth"), (0, .fieldref 3 183), (0, .nameAndType 184 90), (0, u "open"), (0, .fieldref 3 186), (0, .nameAndType 187 113), (0, u "originals"), (0, .fieldref 3 189), (0, .nameAndType 190 191), (0, u "preserving"), (0, u "[Z"), (94, .class_ 287), (0, u "com/example/infoset/infoset/xdm/QName"), (0, .class_ 289), (0, u "com/example/infoset/infoset/xdm/NamespaceBindings"), (0, u "KEPT_CAPACITY"), (2, u "KEPT_LIMIT"), (0, u "SMALL_CAPACITY"), (1, u "LENT_LIMIT"), (1, u "TEXT_CAPACITY"), (1, u "OPEN_CAPACITY"), (0, u "LARGEST_CAPACITY"), (2, u "(Lcom/example/infoset/infoset/xdm/ConstructedTrees;)V"), (10, u "keepOriginal"), (0, u "(Lcom/example/infoset/infoset/xdm/NamespaceBindings;Z)V"), (0, u "innermostOriginal"), (0, u "()Lcom/example/infoset/infoset/xdm/NamespaceBindings;"), (1, u "innermost"), (0, u "close")] 9

def k3m0 : Method := { name := "<init>", desc := "()V", sig := { parameters := [], returnType := none }, accessFlags := 1, code := none }
def k3c1 : Code := { maxStack := 5, maxLocals := 2, code := prog_267_method_2_code, exceptionTable := #[], attributes := #[] }
def k3m1 : Method := { name := "<init>", desc := "(Lcom/example/infoset/infoset/xdm/ConstructedTrees;)V", sig := { parameters := [(.object "com/example/infoset/infoset/xdm/ConstructedTrees")], returnType := none }, accessFlags := 0, code := some k3c1 }
def k3c2 : Code := { maxStack := 4, maxLocals := 5, code := prog_267_method_3_code, exceptionTable := #[], attributes := #[] }
def k3m2 : Method := { name := "<init>", desc := "(IILcom/example/infoset/infoset/xdm/SharedStrings;Lcom/example/infoset/infoset/xdm/ConstructedTrees;)V", sig := { parameters := [.int, .int, (.object "com/example/infoset/infoset/xdm/SharedStrings"), (.object "com/example/infoset/infoset/xdm/ConstructedTrees")], returnType := none }, accessFlags := 2, code := some k3c2 }
def k3c3 : Code := { maxStack := 4, maxLocals := 7, code := prog_267_method_7_code, exceptionTable := #[], attributes := #[] }
def k3m3 : Method := { name := "add", desc := "(Lcom/example/infoset/infoset/xdm/NodeKind;ILcom/example/infoset/infoset/xdm/QName;Ljava/lang/String;Lcom/example/infoset/infoset/xdm/NamespaceBindings;)I", sig := { parameters := [(.object "com/example/infoset/infoset/xdm/NodeKind"), .int, (.object "com/example/infoset/infoset/xdm/QName"), (.object "java/lang/String"), (.object "com/example/infoset/infoset/xdm/NamespaceBindings")], returnType := some .int }, accessFlags := 0, code := some k3c3 }
def k3c4 : Code := { maxStack := 5, maxLocals := 2, code := prog_267_method_13_code, exceptionTable := #[], attributes := #[] }
def k3m4 : Method := { name := "open", desc := "(I)V", sig := { parameters := [.int], returnType := none }, accessFlags := 0, code := some k3c4 }
def k3c5 : Code := { maxStack := 3, maxLocals := 3, code := prog_267_method_14_code, exceptionTable := #[], attributes := #[] }
def k3m5 : Method := { name := "keepOriginal", desc := "(Lcom/example/infoset/infoset/xdm/NamespaceBindings;Z)V", sig := { parameters := [(.object "com/example/infoset/infoset/xdm/NamespaceBindings"), .boolean], returnType := none }, accessFlags := 0, code := some k3c5 }
def k3c6 : Code := { maxStack := 3, maxLocals := 1, code := prog_267_method_15_code, exceptionTable := #[], attributes := #[] }
def k3m6 : Method := { name := "innermostOriginal", desc := "()Lcom/example/infoset/infoset/xdm/NamespaceBindings;", sig := { parameters := [], returnType := some (.object "com/example/infoset/infoset/xdm/NamespaceBindings") }, accessFlags := 0, code := some k3c6 }
def k3c7 : Code := { maxStack := 1, maxLocals := 1, code := prog_267_method_17_code, exceptionTable := #[], attributes := #[] }
def k3m7 : Method := { name := "depth", desc := "()I", sig := { parameters := [], returnType := some .int }, accessFlags := 0, code := some k3c7 }
def k3c8 : Code := { maxStack := 3, maxLocals := 1, code := prog_267_method_18_code, exceptionTable := #[], attributes := #[] }
def k3m8 : Method := { name := "innermost", desc := "()I", sig := { parameters := [], returnType := some .int }, accessFlags := 0, code := some k3c8 }
def k3c9 : Code := { maxStack := 4, maxLocals := 1, code := prog_267_method_19_code, exceptionTable := #[], attributes := #[] }
def k3m9 : Method := { name := "close", desc := "()V", sig := { parameters := [], returnType := none }, accessFlags := 0, code := some k3c9 }
def k3c10 : Code := { maxStack := 2, maxLocals := 2, code := prog_267_method_25_code, exceptionTable := #[], attributes := #[] }
def k3m10 : Method := { name := "allocate", desc := "(I)V", sig := { parameters := [.int], returnType := none }, accessFlags := 2, code := some k3c10 }
/-- com/example/infoset/infoset/xdm/TreeBuffers -/
def k3 : Class := { plain "com/example/infoset/infoset/xdm/TreeBuffers" (some 0) with
  accessFlags := 33
  interfaces := #[]
  cf := some (fileOf pool3 3 #[] #[{ accessFlags := 1, nameIndex := 10, descriptorIndex := 11, attributes := #[] }, { accessFlags := 0, nameIndex := 10, descriptorIndex := 304, attributes := #[] }, { accessFlags := 2, nameIndex := 10, descriptorIndex := 14, attributes := #[] }, { accessFlags := 0, nameIndex := 177, descriptorIndex := 178, attributes := #[] }, { accessFlags := 0, nameIndex := 184, descriptorIndex := 45, attributes := #[] }, { accessFlags := 0, nameIndex := 315, descriptorIndex := 316, attributes := #[] }, { accessFlags := 0, nameIndex := 317, descriptorIndex := 318, attributes := #[] }, { accessFlags := 0, nameIndex := 181, descriptorIndex := 123, attributes := #[] }, { accessFlags := 0, nameIndex := 320, descriptorIndex := 123, attributes := #[] }, { accessFlags := 0, nameIndex := 321, descriptorIndex := 11, attributes := #[] }, { accessFlags := 2, nameIndex := 44, descriptorIndex := 45, attributes := #[] }] 33 16 #[] #[{ accessFlags := 26, nameIndex := 290, descriptorIndex := 30, attributes := #[] }, { accessFlags := 26, nameIndex := 293, descriptorIndex := 30, attributes := #[] }, { accessFlags := 26, nameIndex := 294, descriptorIndex := 30, attributes := #[] }, { accessFlags := 26, nameIndex := 296, descriptorIndex := 30, attributes := #[] }, { accessFlags := 26, nameIndex := 298, descriptorIndex := 30, attributes := #[] }, { accessFlags := 26, nameIndex := 300, descriptorIndex := 30, attributes := #[] }, { accessFlags := 26, nameIndex := 301, descriptorIndex := 30, attributes := #[] }, { accessFlags := 18, nameIndex := 29, descriptorIndex := 30, attributes := #[] }, { accessFlags := 18, nameIndex := 33, descriptorIndex := 30, attributes := #[] }, { accessFlags := 18, nameIndex := 36, descriptorIndex := 37, attributes := #[] }, { accessFlags := 18, nameIndex := 40, descriptorIndex := 41, attributes := #[] }, { accessFlags := 0, nameIndex := 51, descriptorIndex := 52, attributes := #[] }, { accessFlags := 0, nameIndex := 76, descriptorIndex := 30, attributes := #[] }, { accessFlags := 0, nameIndex := 72, descriptorIndex := 73, attributes := #[] }, { accessFlags := 0, nameIndex := 89, descriptorIndex := 90, attributes := #[] }, { accessFlags := 0, nameIndex := 96, descriptorIndex := 90, attributes := #[] }, { accessFlags := 0, nameIndex := 99, descriptorIndex := 100, attributes := #[] }, { accessFlags := 0, nameIndex := 107, descriptorIndex := 108, attributes := #[] }, { accessFlags := 0, nameIndex := 112, descriptorIndex := 113, attributes := #[] }, { accessFlags := 0, nameIndex := 117, descriptorIndex := 90, attributes := #[] }, { accessFlags := 0, nameIndex := 126, descriptorIndex := 30, attributes := #[] }, { accessFlags := 0, nameIndex := 129, descriptorIndex := 90, attributes := #[] }, { accessFlags := 0, nameIndex := 132, descriptorIndex := 100, attributes := #[] }, { accessFlags := 0, nameIndex := 135, descriptorIndex := 108, attributes := #[] }, { accessFlags := 2, nameIndex := 145, descriptorIndex := 146, attributes := #[] }, { accessFlags := 2, nameIndex := 149, descriptorIndex := 30, attributes := #[] }, { accessFlags := 2, nameIndex := 184, descriptorIndex := 90, attributes := #[] }, { accessFlags := 2, nameIndex := 187, descriptorIndex := 113, attributes := #[] }, { accessFlags := 2, nameIndex := 190, descriptorIndex := 191, attributes := #[] }, { accessFlags := 2, nameIndex := 181, descriptorIndex := 30, attributes := #[] }, { accessFlags := 16, nameIndex := 25, descriptorIndex := 26, attributes := #[] }])
  fields := #[{ name := "KEPT_CAPACITY", type := .int, accessFlags := 26, slot := 0, constantValue := 0 }, { name := "KEPT_LIMIT", type := .int, accessFlags := 26, slot := 1, constantValue := 0 }, { name := "SMALL_CAPACITY", type := .int, accessFlags := 26, slot := 2, constantValue := 0 }, { name := "LENT_LIMIT", type := .int, accessFlags := 26, slot := 3, constantValue := 0 }, { name := "TEXT_CAPACITY", type := .int, accessFlags := 26, slot := 4, constantValue := 0 }, { name := "OPEN_CAPACITY", type := .int, accessFlags := 26, slot := 5, constantValue := 0 }, { name := "LARGEST_CAPACITY", type := .int, accessFlags := 26, slot := 6, constantValue := 0 }, { name := "firstCapacity", type := .int, accessFlags := 18, slot := 0, constantValue := 0 }, { name := "keptLimit", type := .int, accessFlags := 18, slot := 1, constantValue := 0 }, { name := "strings", type := (.object "com/example/infoset/infoset/xdm/SharedStrings"), accessFlags := 18, slot := 2, constantValue := 0 }, { name := "trees", type := (.object "com/example/infoset/infoset/xdm/ConstructedTrees"), accessFlags := 18, slot := 3, constantValue := 0 }, { name := "user", type := (.object "com/example/infoset/infoset/xdm/TreeBuilder"), accessFlags := 0, slot := 4, constantValue := 0 }, { name := "size", type := .int, accessFlags := 0, slot := 5, constantValue := 0 }, { name := "kinds", type := (.array .byte), accessFlags := 0, slot := 6, constantValue := 0 }, { name := "parents", type := (.array .int), accessFlags := 0, slot := 7, constantValue := 0 }, { name := "ends", type := (.array .int), accessFlags := 0, slot := 8, constantValue := 0 }, { name := "names", type := (.array (.object "com/example/infoset/infoset/xdm/QName")), accessFlags := 0, slot := 9, constantValue := 0 }, { name := "values", type := (.array (.object "java/lang/String")), accessFlags := 0, slot := 10, constantValue := 0 }, { name := "namespaces", type := (.array (.object "com/example/infoset/infoset/xdm/NamespaceBindings")), accessFlags := 0, slot := 11, constantValue := 0 }, { name := "firstAttributes", type := (.array .int), accessFlags := 0, slot := 12, constantValue := 0 }, { name := "attributeCount", type := .int, accessFlags := 0, slot := 13, constantValue := 0 }, { name := "owners", type := (.array .int), accessFlags := 0, slot := 14, constantValue := 0 }, { name := "attributeNames", type := (.array (.object "com/example/infoset/infoset/xdm/QName")), accessFlags := 0, slot := 15, constantValue := 0 }, { name := "attributeValues", type := (.array (.object "java/lang/String")), accessFlags := 0, slot := 16, constantValue := 0 }, { name := "text", type := (.array .char), accessFlags := 2, slot := 17, constantValue := 0 }, { name := "textLength", type := .int, accessFlags := 2, slot := 18, constantValue := 0 }, { name := "open", type := (.array .int), accessFlags := 2, slot := 19, constantValue := 0 }, { name := "originals", type := (.array (.object "com/example/infoset/infoset/xdm/NamespaceBindings")), accessFlags := 2, slot := 20, constantValue := 0 }, { name := "preserving", type := (.array .boolean), accessFlags := 2, slot := 21, constantValue := 0 }, { name := "depth", type := .int, accessFlags := 2, slot := 22, constantValue := 0 }, { name := "start", type := (.object "com/example/infoset/infoset/xdm/ElementStart"), accessFlags := 16, slot := 23, constantValue := 0 }]
  methods := #[k3m0, k3m1, k3m2, k3m3, k3m4, k3m5, k3m6, k3m7, k3m8, k3m9, k3m10]
  instanceTypes := #[.int, .int, (.object "com/example/infoset/infoset/xdm/SharedStrings"), (.object "com/example/infoset/infoset/xdm/ConstructedTrees"), (.object "com/example/infoset/infoset/xdm/TreeBuilder"), .int, (.array .byte), (.array .int), (.array .int), (.array (.object "com/example/infoset/infoset/xdm/QName")), (.array (.object "java/lang/String")), (.array (.object "com/example/infoset/infoset/xdm/NamespaceBindings")), (.array .int), .int, (.array .int), (.array (.object "com/example/infoset/infoset/xdm/QName")), (.array (.object "java/lang/String")), (.array .char), .int, (.array .int), (.array (.object "com/example/infoset/infoset/xdm/NamespaceBindings")), (.array .boolean), .int, (.object "com/example/infoset/infoset/xdm/ElementStart")]
  staticTypes := #[.int, .int, .int, .int, .int, .int, .int]
  resolved := Array.replicate 331 none
  statics := none }

def pool4 : Array CpInfo := pool [(1, .methodref 2 3), (0, .class_ 4), (0, .nameAndType 5 6), (0, u "java/lang/Object"), (0, u "<init>"), (0, u "()V"), (0, .class_ 8), (0, u "com/example/infoset/infoset/xdm/NamespaceBindings$Builder"), (0, .methodref 7 3), (0, .fieldref 11 12), (0, .class_ 13), (0, .nameAndType 14 15), (0, u "com/example/infoset/infoset/xdm/ElementStart"), (0, u "bindings"), (0, u "Lcom/example/infoset/infoset/xdm/NamespaceBindings$Builder;"), (0, .fieldref 11 17), (0, .nameAndType 18 19), (0, u "element"), (0, u "I"), (0, .fieldref 11 21), (0, .nameAndType 22 23), (0, u "buffers"), (0, u "Lcom/example/infoset/infoset/xdm/TreeBuffers;"), (2, u "copyBase"), (0, u "Lcom/example/infoset/infoset/xdm/NamespaceBindings;"), (2, u "parentOriginal"), (16, u "copyPreserves"), (0, u "Z"), (13, u "attributeNames"), (0, u "Ljava/util/Set;"), (2, u "prefixesUsed"), (2, u "placesByUri"), (0, u "Ljava/util/Map;"), (2, u "numberedByStem"), (185, .class_ 260), (0, u "com/example/infoset/infoset/xdm/ElementStart$NumberedPrefixes"), (34, u "ATTRIBUTES_LOOKED_THROUGH"), (7, u "(Lcom/example/infoset/infoset/xdm/TreeBuffers;)V")] 57

def k4c0 : Code := { maxStack := 3, maxLocals := 2, code := prog_240_method_1_code, exceptionTable := #[], attributes := #[] }
def k4m0 : Method := { name := "<init>", desc := "(Lcom/example/infoset/infoset/xdm/TreeBuffers;)V", sig := { parameters := [(.object "com/example/infoset/infoset/xdm/TreeBuffers")], returnType := none }, accessFlags := 0, code := some k4c0 }
/-- com/example/infoset/infoset/xdm/ElementStart -/
def k4 : Class := { plain "com/example/infoset/infoset/xdm/ElementStart" (some 0) with
  accessFlags := 32
  interfaces := #[]
  cf := some (fileOf pool4 11 #[.nestMembers #[259]] #[{ accessFlags := 0, nameIndex := 5, descriptorIndex := 303, attributes := #[] }] 32 2 #[] #[{ accessFlags := 26, nameIndex := 295, descriptorIndex := 19, attributes := #[] }, { accessFlags := 18, nameIndex := 22, descriptorIndex := 23, attributes := #[] }, { accessFlags := 18, nameIndex := 14, descriptorIndex := 15, attributes := #[] }, { accessFlags := 2, nameIndex := 18, descriptorIndex := 19, attributes := #[] }, { accessFlags := 2, nameIndex := 26, descriptorIndex := 27, attributes := #[] }, { accessFlags := 2, nameIndex := 47, descriptorIndex := 48, attributes := #[] }, { accessFlags := 2, nameIndex := 30, descriptorIndex := 27, attributes := #[] }, { accessFlags := 2, nameIndex := 62, descriptorIndex := 63, attributes := #[] }, { accessFlags := 2, nameIndex := 66, descriptorIndex := 63, attributes := #[] }, { accessFlags := 2, nameIndex := 69, descriptorIndex := 70, attributes := #[] }, { accessFlags := 2, nameIndex := 73, descriptorIndex := 70, attributes := #[] }])
  fields := #[{ name := "ATTRIBUTES_LOOKED_THROUGH", type := .int, accessFlags := 26, slot := 0, constantValue := 0 }, { name := "buffers", type := (.object "com/example/infoset/infoset/xdm/TreeBuffers"), accessFlags := 18, slot := 0, constantValue := 0 }, { name := "bindings", type := (.object "com/example/infoset/infoset/xdm/NamespaceBindings$Builder"), accessFlags := 18, slot := 1, constantValue := 0 }, { name := "element", type := .int, accessFlags := 2, slot := 2, constantValue := 0 }, { name := "copyBase", type := (.object "com/example/infoset/infoset/xdm/NamespaceBindings"), accessFlags := 2, slot := 3, constantValue := 0 }, { name := "copyPreserves", type := .boolean, accessFlags := 2, slot := 4, constantValue := 0 }, { name := "parentOriginal", type := (.object "com/example/infoset/infoset/xdm/NamespaceBindings"), accessFlags := 2, slot := 5, constantValue := 0 }, { name := "attributeNames", type := (.object "java/util/Set"), accessFlags := 2, slot := 6, constantValue := 0 }, { name := "prefixesUsed", type := (.object "java/util/Set"), accessFlags := 2, slot := 7, constantValue := 0 }, { name := "placesByUri", type := (.object "java/util/Map"), accessFlags := 2, slot := 8, constantValue := 0 }, { name := "numberedByStem", type := (.object "java/util/Map"), accessFlags := 2, slot := 9, constantValue := 0 }]
  methods := #[k4m0]
  instanceTypes := #[(.object "com/example/infoset/infoset/xdm/TreeBuffers"), (.object "com/example/infoset/infoset/xdm/NamespaceBindings$Builder"), .int, (.object "com/example/infoset/infoset/xdm/NamespaceBindings"), .boolean, (.object "com/example/infoset/infoset/xdm/NamespaceBindings"), (.object "java/util/Set"), (.object "java/util/Set"), (.object "java/util/Map"), (.object "java/util/Map")]
  staticTypes := #[.int]
  resolved := Array.replicate 361 none
  statics := none }

def pool5 : Array CpInfo := pool [(1, .class_ 2), (0, u "com/example/infoset/infoset/xdm/NamespaceBindings"), (0, .methodref 4 5), (0, .class_ 6), (0, .nameAndType 7 8), (0, u "java/lang/Object"), (0, u "<init>"), (0, u "()V"), (0, .fieldref 1 10), (0, .nameAndType 11 12), (0, u "EMPTY"), (0, u "Lcom/example/infoset/infoset/xdm/NamespaceBindings;"), (0, .fieldref 1 14), (0, .nameAndType 15 16), (0, u "prefixes"), (0, u "[Ljava/lang/String;"), (0, .fieldref 18 14), (0, .class_ 19), (0, u "com/example/infoset/infoset/xdm/NamespaceBindings$Builder"), (0, .fieldref 1 21), (0, .nameAndType 22 16), (0, u "uris"), (0, .fieldref 18 21), (2, u "count"), (0, u "I"), (8, u "from"), (2, u "changed"), (0, u "Z"), (2, u "emptyPlaces"), (2, u "placeMap"), (0, u "Ljava/util/Map;")] 104

def k5c0 : Code := { maxStack := 2, maxLocals := 1, code := prog_246_method_1_code, exceptionTable := #[], attributes := #[] }
def k5m0 : Method := { name := "<init>", desc := "()V", sig := { parameters := [], returnType := none }, accessFlags := 0, code := some k5c0 }
/-- com/example/infoset/infoset/xdm/NamespaceBindings$Builder -/
def k5 : Class := { plain "com/example/infoset/infoset/xdm/NamespaceBindings$Builder" (some 0) with
  accessFlags := 32
  interfaces := #[]
  cf := some (fileOf pool5 18 #[.nestHost 1] #[{ accessFlags := 0, nameIndex := 7, descriptorIndex := 8, attributes := #[] }] 32 4 #[] #[{ accessFlags := 2, nameIndex := 36, descriptorIndex := 12, attributes := #[] }, { accessFlags := 2, nameIndex := 39, descriptorIndex := 40, attributes := #[] }, { accessFlags := 2, nameIndex := 15, descriptorIndex := 16, attributes := #[] }, { accessFlags := 2, nameIndex := 22, descriptorIndex := 16, attributes := #[] }, { accessFlags := 2, nameIndex := 26, descriptorIndex := 27, attributes := #[] }, { accessFlags := 2, nameIndex := 43, descriptorIndex := 27, attributes := #[] }, { accessFlags := 2, nameIndex := 46, descriptorIndex := 47, attributes := #[] }])
  fields := #[{ name := "from", type := (.object "com/example/infoset/infoset/xdm/NamespaceBindings"), accessFlags := 2, slot := 0, constantValue := 0 }, { name := "changed", type := .boolean, accessFlags := 2, slot := 1, constantValue := 0 }, { name := "prefixes", type := (.array (.object "java/lang/String")), accessFlags := 2, slot := 2, constantValue := 0 }, { name := "uris", type := (.array (.object "java/lang/String")), accessFlags := 2, slot := 3, constantValue := 0 }, { name := "count", type := .int, accessFlags := 2, slot := 4, constantValue := 0 }, { name := "emptyPlaces", type := .int, accessFlags := 2, slot := 5, constantValue := 0 }, { name := "placeMap", type := (.object "java/util/Map"), accessFlags := 2, slot := 6, constantValue := 0 }]
  methods := #[k5m0]
  instanceTypes := #[(.object "com/example/infoset/infoset/xdm/NamespaceBindings"), .boolean, (.array (.object "java/lang/String")), (.array (.object "java/lang/String")), .int, .int, (.object "java/util/Map")]
  staticTypes := #[]
  resolved := Array.replicate 152 none
  statics := none }

def pool6 : Array CpInfo := pool [(2, .class_ 4), (1, u "java/lang/Object"), (3, .class_ 10), (1, u "com/example/infoset/infoset/xdm/QName"), (0, u "prefix"), (0, u "Ljava/lang/String;"), (2, u "namespaceUri"), (2, u "localName")] 96

/-- com/example/infoset/infoset/xdm/QName -/
def k6 : Class := { plain "com/example/infoset/infoset/xdm/QName" (some 0) with
  accessFlags := 33
  interfaces := #[]
  cf := some (fileOf pool6 8 #[] #[] 33 2 #[] #[{ accessFlags := 18, nameIndex := 11, descriptorIndex := 12, attributes := #[] }, { accessFlags := 18, nameIndex := 15, descriptorIndex := 12, attributes := #[] }, { accessFlags := 18, nameIndex := 18, descriptorIndex := 12, attributes := #[] }])
  fields := #[{ name := "prefix", type := (.object "java/lang/String"), accessFlags := 18, slot := 0, constantValue := 0 }, { name := "namespaceUri", type := (.object "java/lang/String"), accessFlags := 18, slot := 1, constantValue := 0 }, { name := "localName", type := (.object "java/lang/String"), accessFlags := 18, slot := 2, constantValue := 0 }]
  methods := #[]
  instanceTypes := #[(.object "java/lang/String"), (.object "java/lang/String"), (.object "java/lang/String")]
  staticTypes := #[]
  resolved := Array.replicate 115 none
  statics := none }

def pool7 : Array CpInfo := pool [(1, .class_ 2), (0, u "java/io/Serializable"), (0, .class_ 4), (0, u "java/lang/Object")] 2

/-- java/io/Serializable -/
def k7 : Class := { plain "java/io/Serializable" (some 0) with
  accessFlags := 1537
  interfaces := #[]
  cf := some (fileOf pool7 1 #[] #[] 1537 3 #[] #[])
  fields := #[]
  methods := #[]
  instanceTypes := #[]
  staticTypes := #[]
  resolved := Array.replicate 7 none
  statics := none }

def pool8 : Array CpInfo := pool [(1, .class_ 2), (0, u "java/lang/Comparable"), (0, .class_ 4), (0, u "java/lang/Object")] 7

/-- java/lang/Comparable -/
def k8 : Class := { plain "java/lang/Comparable" (some 0) with
  accessFlags := 1537
  interfaces := #[]
  cf := some (fileOf pool8 1 #[] #[] 1537 3 #[] #[])
  fields := #[]
  methods := #[]
  instanceTypes := #[]
  staticTypes := #[]
  resolved := Array.replicate 12 none
  statics := none }

def pool9 : Array CpInfo := pool [(2, .class_ 4), (1, u "java/lang/CharSequence"), (42, .class_ 48), (0, u "java/lang/CharSequence$1CodePointIterator"), (10, .class_ 60), (0, u "java/lang/CharSequence$1CharIterator"), (5, .class_ 67), (0, u "java/lang/Object")] 63

/-- java/lang/CharSequence -/
def k9 : Class := { plain "java/lang/CharSequence" (some 0) with
  accessFlags := 1537
  interfaces := #[]
  cf := some (fileOf pool9 2 #[.nestMembers #[47, 59]] #[] 1537 66 #[] #[])
  fields := #[]
  methods := #[]
  instanceTypes := #[]
  staticTypes := #[]
  resolved := Array.replicate 131 none
  statics := none }

def pool10 : Array CpInfo := pool [(1, .class_ 2), (0, u "java/lang/constant/Constable"), (0, .class_ 4), (0, u "java/lang/Object")] 6

/-- java/lang/constant/Constable -/
def k10 : Class := { plain "java/lang/constant/Constable" (some 0) with
  accessFlags := 1537
  interfaces := #[]
  cf := some (fileOf pool10 1 #[] #[] 1537 3 #[] #[])
  fields := #[]
  methods := #[]
  instanceTypes := #[]
  staticTypes := #[]
  resolved := Array.replicate 11 none
  statics := none }

def pool11 : Array CpInfo := pool [(1, .class_ 2), (0, u "java/lang/constant/ConstantDesc"), (0, .class_ 4), (0, u "java/lang/Object")] 32

/-- java/lang/constant/ConstantDesc -/
def k11 : Class := { plain "java/lang/constant/ConstantDesc" (some 0) with
  accessFlags := 1537
  interfaces := #[]
  cf := some (fileOf pool11 1 #[] #[] 1537 3 #[] #[])
  fields := #[]
  methods := #[]
  instanceTypes := #[]
  staticTypes := #[]
  resolved := Array.replicate 37 none
  statics := none }

def pool12 : Array CpInfo := pool [(2, .class_ 4), (1, u "java/lang/Object"), (0, u "<init>"), (0, u "()V"), (3, .class_ 12), (1, u "java/lang/String"), (0, u "value"), (0, u "[B"), (2, u "coder"), (0, u "B"), (2, u "hash"), (0, u "I"), (2, u "hashIsZero"), (0, u "Z"), (13, u "COMPACT_STRINGS"), (534, .class_ 576), (0, u "java/lang/CharSequence"), (22, u "CASE_INSENSITIVE_ORDER"), (0, u "Ljava/util/Comparator;"), (500, u "serialPersistentFields"), (0, u "[Ljava/io/ObjectStreamField;"), (0, .class_ 1104), (0, u "java/lang/String$CaseInsensitiveComparator"), (1, .class_ 1107), (0, u "java/io/Serializable"), (0, .class_ 1109), (0, u "java/lang/Comparable"), (0, .class_ 1111), (0, u "java/lang/constant/Constable"), (0, .class_ 1113), (0, u "java/lang/constant/ConstantDesc"), (2, u "serialVersionUID"), (0, u "J"), (3, u "REPL"), (0, u "C"), (2, u "LATIN1"), (1, u "UTF16")] 323

def k12m0 : Method := { name := "<init>", desc := "()V", sig := { parameters := [], returnType := none }, accessFlags := 1, code := none }
/-- java/lang/String -/
def k12 : Class := { plain "java/lang/String" (some 0) with
  accessFlags := 49
  interfaces := #[7, 8, 9, 10, 11]
  cf := some (fileOf pool12 10 #[.nestMembers #[1103]] #[{ accessFlags := 1, nameIndex := 5, descriptorIndex := 6, attributes := #[] }] 49 2 #[1106, 1108, 575, 1110, 1112] #[{ accessFlags := 18, nameIndex := 13, descriptorIndex := 14, attributes := #[] }, { accessFlags := 18, nameIndex := 17, descriptorIndex := 18, attributes := #[] }, { accessFlags := 2, nameIndex := 21, descriptorIndex := 22, attributes := #[] }, { accessFlags := 2, nameIndex := 25, descriptorIndex := 26, attributes := #[] }, { accessFlags := 26, nameIndex := 1116, descriptorIndex := 1117, attributes := #[] }, { accessFlags := 24, nameIndex := 40, descriptorIndex := 26, attributes := #[] }, { accessFlags := 26, nameIndex := 1101, descriptorIndex := 1102, attributes := #[] }, { accessFlags := 26, nameIndex := 1121, descriptorIndex := 1122, attributes := #[] }, { accessFlags := 25, nameIndex := 599, descriptorIndex := 600, attributes := #[] }, { accessFlags := 24, nameIndex := 1125, descriptorIndex := 18, attributes := #[] }, { accessFlags := 24, nameIndex := 1127, descriptorIndex := 18, attributes := #[] }])
  fields := #[{ name := "value", type := (.array .byte), accessFlags := 18, slot := 0, constantValue := 0 }, { name := "coder", type := .byte, accessFlags := 18, slot := 1, constantValue := 0 }, { name := "hash", type := .int, accessFlags := 2, slot := 2, constantValue := 0 }, { name := "hashIsZero", type := .boolean, accessFlags := 2, slot := 3, constantValue := 0 }, { name := "serialVersionUID", type := .long, accessFlags := 26, slot := 0, constantValue := 0 }, { name := "COMPACT_STRINGS", type := .boolean, accessFlags := 24, slot := 1, constantValue := 0 }, { name := "serialPersistentFields", type := (.array (.object "java/io/ObjectStreamField")), accessFlags := 26, slot := 2, constantValue := 0 }, { name := "REPL", type := .char, accessFlags := 26, slot := 3, constantValue := 0 }, { name := "CASE_INSENSITIVE_ORDER", type := (.object "java/util/Comparator"), accessFlags := 25, slot := 4, constantValue := 0 }, { name := "LATIN1", type := .byte, accessFlags := 24, slot := 5, constantValue := 0 }, { name := "UTF16", type := .byte, accessFlags := 24, slot := 6, constantValue := 0 }]
  methods := #[k12m0]
  instanceTypes := #[(.array .byte), .byte, .int, .boolean]
  staticTypes := #[.long, .boolean, (.array (.object "java/io/ObjectStreamField")), .char, (.object "java/util/Comparator"), .byte, .byte]
  resolved := Array.replicate 1451 none
  statics := none }

def pool13 : Array CpInfo := pool [(2, .class_ 4), (1, u "java/lang/Enum"), (0, u "name"), (0, u "Ljava/lang/String;"), (0, .fieldref 2 8), (0, .nameAndType 9 10), (0, u "ordinal"), (0, u "I"), (1, .class_ 14), (1, u "java/lang/Object"), (4, u "hash"), (86, .class_ 108), (1, u "java/lang/Enum$EnumDesc"), (2, .class_ 112), (0, u "java/lang/constant/Constable"), (0, .class_ 114), (0, u "java/lang/Comparable"), (0, .class_ 116), (0, u "java/io/Serializable"), (9, u "()I")] 77

def k13c0 : Code := { maxStack := 1, maxLocals := 1, code := jdk_37_method_2_code, exceptionTable := #[], attributes := #[] }
def k13m0 : Method := { name := "ordinal", desc := "()I", sig := { parameters := [], returnType := some .int }, accessFlags := 17, code := some k13c0 }
/-- java/lang/Enum -/
def k13 : Class := { plain "java/lang/Enum" (some 0) with
  accessFlags := 1057
  interfaces := #[10, 8, 7]
  cf := some (fileOf pool13 2 #[.nestMembers #[106]] #[{ accessFlags := 17, nameIndex := 9, descriptorIndex := 126, attributes := #[] }] 1057 12 #[111, 113, 115] #[{ accessFlags := 18, nameIndex := 5, descriptorIndex := 6, attributes := #[] }, { accessFlags := 18, nameIndex := 9, descriptorIndex := 10, attributes := #[] }, { accessFlags := 2, nameIndex := 19, descriptorIndex := 10, attributes := #[] }])
  fields := #[{ name := "name", type := (.object "java/lang/String"), accessFlags := 18, slot := 0, constantValue := 0 }, { name := "ordinal", type := .int, accessFlags := 18, slot := 1, constantValue := 0 }, { name := "hash", type := .int, accessFlags := 2, slot := 2, constantValue := 0 }]
  methods := #[k13m0]
  instanceTypes := #[(.object "java/lang/String"), .int, .int]
  staticTypes := #[]
  resolved := Array.replicate 204 none
  statics := none }

def pool14 : Array CpInfo := pool [(1, .class_ 2), (0, u "com/example/infoset/infoset/xdm/NodeKind"), (2, u "DOCUMENT"), (0, u "Lcom/example/infoset/infoset/xdm/NodeKind;"), (2, u "ELEMENT"), (2, u "ATTRIBUTE"), (2, u "TEXT"), (2, u "COMMENT"), (2, u "PROCESSING_INSTRUCTION"), (2, u "$VALUES"), (0, u "[Lcom/example/infoset/infoset/xdm/NodeKind;"), (6, .class_ 34), (1, u "java/lang/Enum"), (8, u "testName"), (0, u "Ljava/lang/String;")] 48

/-- com/example/infoset/infoset/xdm/NodeKind -/
def k14 : Class := { plain "com/example/infoset/infoset/xdm/NodeKind" (some 13) with
  accessFlags := 16433
  interfaces := #[]
  cf := some (fileOf pool14 1 #[] #[] 16433 32 #[] #[{ accessFlags := 16409, nameIndex := 5, descriptorIndex := 6, attributes := #[] }, { accessFlags := 16409, nameIndex := 9, descriptorIndex := 6, attributes := #[] }, { accessFlags := 16409, nameIndex := 12, descriptorIndex := 6, attributes := #[] }, { accessFlags := 16409, nameIndex := 15, descriptorIndex := 6, attributes := #[] }, { accessFlags := 16409, nameIndex := 18, descriptorIndex := 6, attributes := #[] }, { accessFlags := 16409, nameIndex := 21, descriptorIndex := 6, attributes := #[] }, { accessFlags := 18, nameIndex := 43, descriptorIndex := 44, attributes := #[] }, { accessFlags := 4122, nameIndex := 24, descriptorIndex := 25, attributes := #[] }])
  fields := #[{ name := "DOCUMENT", type := (.object "com/example/infoset/infoset/xdm/NodeKind"), accessFlags := 16409, slot := 0, constantValue := 0 }, { name := "ELEMENT", type := (.object "com/example/infoset/infoset/xdm/NodeKind"), accessFlags := 16409, slot := 1, constantValue := 0 }, { name := "ATTRIBUTE", type := (.object "com/example/infoset/infoset/xdm/NodeKind"), accessFlags := 16409, slot := 2, constantValue := 0 }, { name := "TEXT", type := (.object "com/example/infoset/infoset/xdm/NodeKind"), accessFlags := 16409, slot := 3, constantValue := 0 }, { name := "COMMENT", type := (.object "com/example/infoset/infoset/xdm/NodeKind"), accessFlags := 16409, slot := 4, constantValue := 0 }, { name := "PROCESSING_INSTRUCTION", type := (.object "com/example/infoset/infoset/xdm/NodeKind"), accessFlags := 16409, slot := 5, constantValue := 0 }, { name := "testName", type := (.object "java/lang/String"), accessFlags := 18, slot := 3, constantValue := 0 }, { name := "$VALUES", type := (.array (.object "com/example/infoset/infoset/xdm/NodeKind")), accessFlags := 4122, slot := 6, constantValue := 0 }]
  methods := #[]
  instanceTypes := #[(.object "java/lang/String"), .int, .int, (.object "java/lang/String")]
  staticTypes := #[(.object "com/example/infoset/infoset/xdm/NodeKind"), (.object "com/example/infoset/infoset/xdm/NodeKind"), (.object "com/example/infoset/infoset/xdm/NodeKind"), (.object "com/example/infoset/infoset/xdm/NodeKind"), (.object "com/example/infoset/infoset/xdm/NodeKind"), (.object "com/example/infoset/infoset/xdm/NodeKind"), (.array (.object "com/example/infoset/infoset/xdm/NodeKind"))]
  resolved := Array.replicate 93 none
  statics := some 1 }

def pool15 : Array CpInfo := pool [(1, u "java/lang/Cloneable"), (0, .class_ 1), (0, u "java/lang/Object"), (0, .class_ 3)] 3

/-- java/lang/Cloneable -/
def k15 : Class := { plain "java/lang/Cloneable" (some 0) with
  accessFlags := 1537
  interfaces := #[]
  cf := some (fileOf pool15 2 #[] #[] 1537 4 #[] #[])
  fields := #[]
  methods := #[]
  instanceTypes := #[]
  staticTypes := #[]
  resolved := Array.replicate 8 none
  statics := none }

/-- the primitive boolean -/
def k16 : Class := { plain "boolean" none with kind := .primitive 'Z', accessFlags := 0x411 }
/-- [Z -/
def k17 : Class := { plain "[Z" (some 0) with kind := .array 16 .boolean, interfaces := #[15, 7], accessFlags := 1041 }

/-- the primitive byte -/
def k18 : Class := { plain "byte" none with kind := .primitive 'B', accessFlags := 0x411 }
/-- [B -/
def k19 : Class := { plain "[B" (some 0) with kind := .array 18 .byte, interfaces := #[15, 7], accessFlags := 1041 }

/-- the primitive char -/
def k20 : Class := { plain "char" none with kind := .primitive 'C', accessFlags := 0x411 }
/-- [C -/
def k21 : Class := { plain "[C" (some 0) with kind := .array 20 .char, interfaces := #[15, 7], accessFlags := 1041 }

/-- the primitive int -/
def k22 : Class := { plain "int" none with kind := .primitive 'I', accessFlags := 0x411 }
/-- [I -/
def k23 : Class := { plain "[I" (some 0) with kind := .array 22 .int, interfaces := #[15, 7], accessFlags := 1041 }

/-- [Lcom/example/infoset/infoset/xdm/NamespaceBindings; -/
def k24 : Class := { plain "[Lcom/example/infoset/infoset/xdm/NamespaceBindings;" (some 0) with kind := .array 2 (.object "com/example/infoset/infoset/xdm/NamespaceBindings"), interfaces := #[15, 7], accessFlags := 1041 }

/-- [Lcom/example/infoset/infoset/xdm/QName; -/
def k25 : Class := { plain "[Lcom/example/infoset/infoset/xdm/QName;" (some 0) with kind := .array 6 (.object "com/example/infoset/infoset/xdm/QName"), interfaces := #[15, 7], accessFlags := 1041 }

/-- [Ljava/lang/String; -/
def k26 : Class := { plain "[Ljava/lang/String;" (some 0) with kind := .array 12 (.object "java/lang/String"), interfaces := #[15, 7], accessFlags := 1041 }

def heap : Heap := #[{ cls := 2, slots := #[.ref 4, .int 0], vm := .statics 2 },
  { cls := 14, slots := #[.null, .ref 5, .null, .ref 6, .ref 7, .null, .null], vm := .statics 14 },
  { cls := 26, slots := #[], vm := .none },
  { cls := 26, slots := #[], vm := .none },
  { cls := 2, slots := #[.ref 2, .ref 3, .null], vm := .none },
  { cls := 14, slots := #[.null, .int 1, .int 0, .null], vm := .none },
  { cls := 14, slots := #[.null, .int 3, .int 0, .null], vm := .none },
  { cls := 14, slots := #[.null, .int 4, .int 0, .null], vm := .none }]
def classes : Array Class := #[k0, k1, k2, k3, k4, k5, k6, k7, k8, k9, k10, k11, k12, k13, k14, k15, k16, k17, k18, k19, k20, k21, k22, k23, k24, k25, k26]
def interned : List (Array UInt16 × Addr) := []
def slotsUsed : Nat := 24
def theMethod : MethodId := ⟨1, 1⟩
def args0 : Array Value := #[.int 5, .int 6]
def aboutOver (below : List Frame) : State where
  vm := { classes := classes, interned := interned.toArray }
  heap := heap
  slotsUsed := slotsUsed
  threads := #[{ frames := .invoking theMethod args0 :: below }]
def below0 : List Frame := [.native { method := ⟨0, 0⟩, args := #[] }]
def about1 : State := aboutOver below0
def p0 : Program := .bare "" "" ""
def e0 : Env := launch0.env 0 0 0
theorem w_frames : about1.frames = Frame.invoking theMethod args0 :: below0 := rfl
set_option maxRecDepth 65536 in
theorem w_args : argsFit about1.vm theMethod args0 = true := by decide +kernel
set_option maxRecDepth 65536 in
theorem w_heap : heapFits about1 = true := by decide +kernel
set_option maxRecDepth 65536 in
theorem w_runnable : about1.curStatus? = some .runnable := by decide +kernel
set_option maxRecDepth 65536 in
theorem w_alone : about1.alone = true := by decide +kernel
set_option maxRecDepth 65536 in
theorem w_named : about1.methodNamed? x = some theMethod := by decide +kernel
set_option maxRecDepth 65536 in
theorem w_hears : about1.hears theMethod below0 = true := by decide +kernel
set_option maxRecDepth 65536 in
theorem w_ripe : about1.ripe theMethod args0 below0 = true := by decide +kernel
theorem w_running : about1.status = .running := rfl
set_option maxRecDepth 65536 in
theorem w_room : about1.hasRoom e0.platform room_1 = true :=
  launch0.hasRoom_least _ room_1 (by decide +kernel) (by decide +kernel) (by decide +kernel) (by decide +kernel) (by decide +kernel) (by decide +kernel)
theorem allAtoms_all (ts : List Jvm.Cond) (a : Array Jvm.Value) (st : Jvm.State) : (allAtoms ts).before a st = ts.all (fun c => c.before a st) := by
  induction ts with
  | nil => rfl
  | cons c t ih =>
    show (Jvm.Cond.and c (allAtoms t)).before a st = _
    rw [Jvm.Cond.before_and, ih, List.all_cons]
def words1 : List Jvm.Cond := Jvm.Cond.code x code maxLocals ret :: tables_1
/-- a 'code' word, met by the world's own term for the bytes: nothing is compared byte by byte -/
theorem code_word {y : MethodName} {bytes : ByteArray} {mx : Nat} {rt : Option FieldType} {a : Array Value} {s : State} {m : MethodId} {meth : Method} {c : Code} (h1 : s.methodNamed? y = some m) (h2 : s.vm.method? m = some meth) (h3 : meth.code = some c) (h4 : c.code = bytes)
    (h5 : (c.maxLocals == mx && c.exceptionTable.isEmpty && decide (c.maxStack ≤ mostOperands) && decide (meth.sig.returnType = rt) && !meth.locks && decide (parseMethodDescriptor y.desc = some meth.sig)) = true) : (Jvm.Cond.code y bytes mx rt).before a s = true := by
  simp only [Bool.and_eq_true, beq_iff_eq, Bool.not_eq_true', decide_eq_true_eq] at h5
  obtain ⟨⟨⟨⟨⟨g1, g2⟩, g3⟩, g4⟩, g5⟩, g6⟩ := h5
  simp [Cond.before, Cond.holds, Cond.value, h1, h2, h3, h4, g1, g2, g3, g4, g5, g6]
def isCode : Jvm.Cond → Bool
  | .code _ _ _ _ => true
  | _ => false
theorem all_split {L : List Jvm.Cond} {P : Jvm.Cond → Bool} (h1 : L.all (fun c => isCode c || P c) = true) (h2 : ∀ c ∈ L.filter isCode, P c = true) : L.all P = true := by
  refine List.all_eq_true.mpr fun c hc => ?_
  have h := List.all_eq_true.mp h1 c hc
  rcases Bool.eq_false_or_eq_true (isCode c) with hi | hi
  · exact h2 c (List.mem_filter.mpr ⟨hc, hi⟩)
  · simpa [hi] using h
set_option maxRecDepth 65536 in
theorem w_c0 : (Jvm.Cond.code x code maxLocals ret).before args0 about1 = true := code_word (m := ⟨1, 1⟩) (meth := k1m1) (c := k1c1) (by decide +kernel) rfl rfl rfl (by decide +kernel)
set_option maxRecDepth 65536 in
theorem w_c1 : (Jvm.Cond.code ({ cls := "com/example/infoset/infoset/xdm/TreeBuffers", name := "<init>", desc := "(Lcom/example/infoset/infoset/xdm/ConstructedTrees;)V" } : Jvm.MethodName) prog_267_method_2_code (2 : Nat) (Option.none : Option Jvm.ClassFile.FieldType)).before args0 about1 = true := code_word (m := ⟨3, 1⟩) (meth := k3m1) (c := k3c1) (by decide +kernel) rfl rfl rfl (by decide +kernel)
set_option maxRecDepth 65536 in
theorem w_c2 : (Jvm.Cond.code ({ cls := "com/example/infoset/infoset/xdm/TreeBuffers", name := "<init>", desc := "(IILcom/example/infoset/infoset/xdm/SharedStrings;Lcom/example/infoset/infoset/xdm/ConstructedTrees;)V" } : Jvm.MethodName) prog_267_method_3_code (5 : Nat) (Option.none : Option Jvm.ClassFile.FieldType)).before args0 about1 = true := code_word (m := ⟨3, 2⟩) (meth := k3m2) (c := k3c2) (by decide +kernel) rfl rfl rfl (by decide +kernel)
set_option maxRecDepth 65536 in
theorem w_c3 : (Jvm.Cond.code ({ cls := "java/lang/Object", name := "<init>", desc := "()V" } : Jvm.MethodName) object_method_1_code (1 : Nat) (Option.none : Option Jvm.ClassFile.FieldType)).before args0 about1 = true := code_word (m := ⟨0, 0⟩) (meth := k0m0) (c := k0c0) (by decide +kernel) rfl rfl rfl (by decide +kernel)
set_option maxRecDepth 65536 in
theorem w_c4 : (Jvm.Cond.code ({ cls := "com/example/infoset/infoset/xdm/ElementStart", name := "<init>", desc := "(Lcom/example/infoset/infoset/xdm/TreeBuffers;)V" } : Jvm.MethodName) prog_240_method_1_code (2 : Nat) (Option.none : Option Jvm.ClassFile.FieldType)).before args0 about1 = true := code_word (m := ⟨4, 0⟩) (meth := k4m0) (c := k4c0) (by decide +kernel) rfl rfl rfl (by decide +kernel)
set_option maxRecDepth 65536 in
theorem w_c5 : (Jvm.Cond.code ({ cls := "com/example/infoset/infoset/xdm/NamespaceBindings$Builder", name := "<init>", desc := "()V" } : Jvm.MethodName) prog_246_method_1_code (1 : Nat) (Option.none : Option Jvm.ClassFile.FieldType)).before args0 about1 = true := code_word (m := ⟨5, 0⟩) (meth := k5m0) (c := k5c0) (by decide +kernel) rfl rfl rfl (by decide +kernel)
set_option maxRecDepth 65536 in
theorem w_c6 : (Jvm.Cond.code ({ cls := "com/example/infoset/infoset/xdm/TreeBuffers", name := "allocate", desc := "(I)V" } : Jvm.MethodName) prog_267_method_25_code (2 : Nat) (Option.none : Option Jvm.ClassFile.FieldType)).before args0 about1 = true := code_word (m := ⟨3, 10⟩) (meth := k3m10) (c := k3c10) (by decide +kernel) rfl rfl rfl (by decide +kernel)
set_option maxRecDepth 65536 in
theorem w_c7 : (Jvm.Cond.code ({ cls := "com/example/infoset/infoset/xdm/TreeBuffers", name := "add", desc := "(Lcom/example/infoset/infoset/xdm/NodeKind;ILcom/example/infoset/infoset/xdm/QName;Ljava/lang/String;Lcom/example/infoset/infoset/xdm/NamespaceBindings;)I" } : Jvm.MethodName) prog_267_method_7_code (7 : Nat) (Option.some Jvm.ClassFile.FieldType.int)).before args0 about1 = true := code_word (m := ⟨3, 3⟩) (meth := k3m3) (c := k3c3) (by decide +kernel) rfl rfl rfl (by decide +kernel)
set_option maxRecDepth 65536 in
theorem w_c8 : (Jvm.Cond.code ({ cls := "java/lang/Enum", name := "ordinal", desc := "()I" } : Jvm.MethodName) jdk_37_method_2_code (1 : Nat) (Option.some Jvm.ClassFile.FieldType.int)).before args0 about1 = true := code_word (m := ⟨13, 0⟩) (meth := k13m0) (c := k13c0) (by decide +kernel) rfl rfl rfl (by decide +kernel)
set_option maxRecDepth 65536 in
theorem w_c9 : (Jvm.Cond.code ({ cls := "com/example/infoset/infoset/xdm/TreeBuffers", name := "open", desc := "(I)V" } : Jvm.MethodName) prog_267_method_13_code (2 : Nat) (Option.none : Option Jvm.ClassFile.FieldType)).before args0 about1 = true := code_word (m := ⟨3, 4⟩) (meth := k3m4) (c := k3c4) (by decide +kernel) rfl rfl rfl (by decide +kernel)
set_option maxRecDepth 65536 in
theorem w_c10 : (Jvm.Cond.code ({ cls := "com/example/infoset/infoset/xdm/TreeBuffers", name := "close", desc := "()V" } : Jvm.MethodName) prog_267_method_19_code (1 : Nat) (Option.none : Option Jvm.ClassFile.FieldType)).before args0 about1 = true := code_word (m := ⟨3, 9⟩) (meth := k3m9) (c := k3c9) (by decide +kernel) rfl rfl rfl (by decide +kernel)
set_option maxRecDepth 65536 in
theorem w_c11 : (Jvm.Cond.code ({ cls := "com/example/infoset/infoset/xdm/TreeBuffers", name := "depth", desc := "()I" } : Jvm.MethodName) prog_267_method_17_code (1 : Nat) (Option.some Jvm.ClassFile.FieldType.int)).before args0 about1 = true := code_word (m := ⟨3, 7⟩) (meth := k3m7) (c := k3c7) (by decide +kernel) rfl rfl rfl (by decide +kernel)
set_option maxRecDepth 65536 in
theorem w_c12 : (Jvm.Cond.code ({ cls := "com/example/infoset/infoset/xdm/TreeBuffers", name := "innermost", desc := "()I" } : Jvm.MethodName) prog_267_method_18_code (1 : Nat) (Option.some Jvm.ClassFile.FieldType.int)).before args0 about1 = true := code_word (m := ⟨3, 8⟩) (meth := k3m8) (c := k3c8) (by decide +kernel) rfl rfl rfl (by decide +kernel)
set_option maxRecDepth 65536 in
theorem w_c13 : (Jvm.Cond.code ({ cls := "com/example/infoset/infoset/xdm/TreeBuffers", name := "innermostOriginal", desc := "()Lcom/example/infoset/infoset/xdm/NamespaceBindings;" } : Jvm.MethodName) prog_267_method_15_code (1 : Nat) (Option.some (Jvm.ClassFile.FieldType.object "com/example/infoset/infoset/xdm/NamespaceBindings"))).before args0 about1 = true := code_word (m := ⟨3, 6⟩) (meth := k3m6) (c := k3c6) (by decide +kernel) rfl rfl rfl (by decide +kernel)
set_option maxRecDepth 65536 in
theorem w_c14 : (Jvm.Cond.code ({ cls := "com/example/infoset/infoset/xdm/TreeBuffers", name := "keepOriginal", desc := "(Lcom/example/infoset/infoset/xdm/NamespaceBindings;Z)V" } : Jvm.MethodName) prog_267_method_14_code (3 : Nat) (Option.none : Option Jvm.ClassFile.FieldType)).before args0 about1 = true := code_word (m := ⟨3, 5⟩) (meth := k3m5) (c := k3c5) (by decide +kernel) rfl rfl rfl (by decide +kernel)
def codes1 : List Jvm.Cond := [Jvm.Cond.code x code maxLocals ret, Jvm.Cond.code ({ cls := "com/example/infoset/infoset/xdm/TreeBuffers", name := "<init>", desc := "(Lcom/example/infoset/infoset/xdm/ConstructedTrees;)V" } : Jvm.MethodName) prog_267_method_2_code (2 : Nat) (Option.none : Option Jvm.ClassFile.FieldType), Jvm.Cond.code ({ cls := "com/example/infoset/infoset/xdm/TreeBuffers", name := "<init>", desc := "(IILcom/example/infoset/infoset/xdm/SharedStrings;Lcom/example/infoset/infoset/xdm/ConstructedTrees;)V" } : Jvm.MethodName) prog_267_method_3_code (5 : Nat) (Option.none : Option Jvm.ClassFile.FieldType), Jvm.Cond.code ({ cls := "java/lang/Object", name := "<init>", desc := "()V" } : Jvm.MethodName) object_method_1_code (1 : Nat) (Option.none : Option Jvm.ClassFile.FieldType), Jvm.Cond.code ({ cls := "com/example/infoset/infoset/xdm/ElementStart", name := "<init>", desc := "(Lcom/example/infoset/infoset/xdm/TreeBuffers;)V" } : Jvm.MethodName) prog_240_method_1_code (2 : Nat) (Option.none : Option Jvm.ClassFile.FieldType), Jvm.Cond.code ({ cls := "com/example/infoset/infoset/xdm/NamespaceBindings$Builder", name := "<init>", desc := "()V" } : Jvm.MethodName) prog_246_method_1_code (1 : Nat) (Option.none : Option Jvm.ClassFile.FieldType), Jvm.Cond.code ({ cls := "com/example/infoset/infoset/xdm/TreeBuffers", name := "allocate", desc := "(I)V" } : Jvm.MethodName) prog_267_method_25_code (2 : Nat) (Option.none : Option Jvm.ClassFile.FieldType), Jvm.Cond.code ({ cls := "com/example/infoset/infoset/xdm/TreeBuffers", name := "add", desc := "(Lcom/example/infoset/infoset/xdm/NodeKind;ILcom/example/infoset/infoset/xdm/QName;Ljava/lang/String;Lcom/example/infoset/infoset/xdm/NamespaceBindings;)I" } : Jvm.MethodName) prog_267_method_7_code (7 : Nat) (Option.some Jvm.ClassFile.FieldType.int), Jvm.Cond.code ({ cls := "java/lang/Enum", name := "ordinal", desc := "()I" } : Jvm.MethodName) jdk_37_method_2_code (1 : Nat) (Option.some Jvm.ClassFile.FieldType.int), Jvm.Cond.code ({ cls := "com/example/infoset/infoset/xdm/TreeBuffers", name := "open", desc := "(I)V" } : Jvm.MethodName) prog_267_method_13_code (2 : Nat) (Option.none : Option Jvm.ClassFile.FieldType), Jvm.Cond.code ({ cls := "com/example/infoset/infoset/xdm/TreeBuffers", name := "close", desc := "()V" } : Jvm.MethodName) prog_267_method_19_code (1 : Nat) (Option.none : Option Jvm.ClassFile.FieldType), Jvm.Cond.code ({ cls := "com/example/infoset/infoset/xdm/TreeBuffers", name := "depth", desc := "()I" } : Jvm.MethodName) prog_267_method_17_code (1 : Nat) (Option.some Jvm.ClassFile.FieldType.int), Jvm.Cond.code ({ cls := "com/example/infoset/infoset/xdm/TreeBuffers", name := "innermost", desc := "()I" } : Jvm.MethodName) prog_267_method_18_code (1 : Nat) (Option.some Jvm.ClassFile.FieldType.int), Jvm.Cond.code ({ cls := "com/example/infoset/infoset/xdm/TreeBuffers", name := "innermostOriginal", desc := "()Lcom/example/infoset/infoset/xdm/NamespaceBindings;" } : Jvm.MethodName) prog_267_method_15_code (1 : Nat) (Option.some (Jvm.ClassFile.FieldType.object "com/example/infoset/infoset/xdm/NamespaceBindings")), Jvm.Cond.code ({ cls := "com/example/infoset/infoset/xdm/TreeBuffers", name := "keepOriginal", desc := "(Lcom/example/infoset/infoset/xdm/NamespaceBindings;Z)V" } : Jvm.MethodName) prog_267_method_14_code (3 : Nat) (Option.none : Option Jvm.ClassFile.FieldType)]
set_option maxRecDepth 65536 in
theorem codes_eq : words1.filter isCode = codes1 := rfl
theorem w_codes : ∀ c ∈ words1.filter isCode, c.before args0 about1 = true := by
  rw [codes_eq]
  intro c hc
  simp only [codes1, List.mem_cons, List.not_mem_nil, or_false] at hc
  rcases hc with rfl | rfl | rfl | rfl | rfl | rfl | rfl | rfl | rfl | rfl | rfl | rfl | rfl | rfl | rfl
  · exact w_c0
  · exact w_c1
  · exact w_c2
  · exact w_c3
  · exact w_c4
  · exact w_c5
  · exact w_c6
  · exact w_c7
  · exact w_c8
  · exact w_c9
  · exact w_c10
  · exact w_c11
  · exact w_c12
  · exact w_c13
  · exact w_c14
set_option maxRecDepth 65536 in
theorem w_t1 : (words1.take 24).all (fun c => isCode c || c.before args0 about1) = true := by decide +kernel
set_option maxRecDepth 65536 in
theorem w_t2 : ((words1.drop 24).take 24).all (fun c => isCode c || c.before args0 about1) = true := by decide +kernel
set_option maxRecDepth 65536 in
theorem w_t3 : (((words1.drop 24).drop 24).take 24).all (fun c => isCode c || c.before args0 about1) = true := by decide +kernel
set_option maxRecDepth 65536 in
theorem w_t4 : ((((words1.drop 24).drop 24).drop 24).take 24).all (fun c => isCode c || c.before args0 about1) = true := by decide +kernel
set_option maxRecDepth 65536 in
theorem w_t5 : (((((words1.drop 24).drop 24).drop 24).drop 24).take 24).all (fun c => isCode c || c.before args0 about1) = true := by decide +kernel
set_option maxRecDepth 65536 in
theorem w_t6 : ((((((words1.drop 24).drop 24).drop 24).drop 24).drop 24).take 24).all (fun c => isCode c || c.before args0 about1) = true := by decide +kernel
set_option maxRecDepth 65536 in
theorem w_t7 : ((((((words1.drop 24).drop 24).drop 24).drop 24).drop 24).drop 24).all (fun c => isCode c || c.before args0 about1) = true := by decide +kernel
theorem w_tables : (allAtoms (Jvm.Cond.code x code maxLocals ret :: tables_1)).before args0 about1 = true := by
  rw [allAtoms_all]
  show words1.all (fun c => c.before args0 about1) = true
  refine all_split ?_ w_codes
  rw [← List.take_append_drop 24 words1, List.all_append, w_t1, ← List.take_append_drop 24 (words1.drop 24), List.all_append, w_t2, ← List.take_append_drop 24 ((words1.drop 24).drop 24), List.all_append, w_t3, ← List.take_append_drop 24 (((words1.drop 24).drop 24).drop 24), List.all_append, w_t4, ← List.take_append_drop 24 ((((words1.drop 24).drop 24).drop 24).drop 24), List.all_append, w_t5, ← List.take_append_drop 24 (((((words1.drop 24).drop 24).drop 24).drop 24).drop 24), List.all_append, w_t6, w_t7]
  rfl
set_option maxRecDepth 65536 in
theorem w_case : (Jvm.Cond.and given_1 narrow_1).before args0 about1 = true := by decide +kernel
theorem w_applies : (headSpec (Jvm.Cond.code x code maxLocals ret :: tables_1) room_1).applies x e0.platform about1 = true :=
  (Spec.applies_iff w_frames).mpr ⟨w_running, w_runnable, w_alone, w_named, w_hears, w_ripe, w_room, w_tables⟩
theorem atStart : AtStart classFile x code maxLocals ret World_1 tables_1 room_1 Calls_1 rest_1 Pre_1 launch0 p0 e0 about1 theMethod args0 below0 :=
  ⟨lists_1, trivial, launch0.admits_env _ _ _, launch0.least_env, fairChoices_fair.cas, fairChoices_fair.clock, w_frames, w_args, w_heap, w_applies, trivial, trivial, w_case⟩
end start1
theorem witness_1 : WitnessClaimed_1 := ⟨start1.p0, start1.e0, start1.about1, start1.theMethod, start1.args0, start1.below0, start1.atStart⟩
end Jvm.Pilot.@@N@@
