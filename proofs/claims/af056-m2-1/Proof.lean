import JvmDerived
import JvmDerived.Pilot.@@N@@Statement
import JvmDerived.Pilot.@@N@@Code
set_option linter.unusedVariables false
set_option linter.unusedSimpArgs false
namespace Jvm.RoadKit
open Sem ClassFile Op Lib Jvm.Stand Jvm.Free Jvm.LawKit
section Own
variable {p : Program} {l : Launch} {e : Env} {R : Room} {s : State} {m : MethodId} {args : Array Value} {below : List Frame} {meth : Method} {c : Code} {T : State} {locs : List Loc} {cells slots : Nat} {Z : State} {a0 : Array Value} {h : Heap}
theorem retI (X : Stand p l e R s m args below meth c T locs cells slots) (hx : p.tables.exec = Jvm.exec) {pc : Nat} {Ls : Array Slot} {z : Int32} {rest : List Value} (hret : meth.sig.returnType = some .int) (hd : decode c.code pc = .ok (.ireturn, 1)) {fs : List Frame}
    (hl : ∀ (f : JFrame) (acts : List Action), f.method = m → f.locked = none → f.entered = [] → (doReturn e (T.setTop f) acts (some (.int z))).1 = T.setFrames fs) : Steps p.tables e below (T.setTop (mkF m pc Ls (.int z :: rest))) (T.setFrames fs) := by
  have hm' : T.vm.method? m = some meth := X.method'
  have hn : narrow .int (.int z) = .int z := rfl
  show Steps p.tables e below (T.setTop { method := m, pc := pc, locals := Ls, stack := _ :: rest, locked := none }) _
  jvm_step X.here [X.here.top, hx, hd, hm', hret, hn]
  first | (intro acts; rw [hl _ acts rfl rfl rfl]) | rw [hl _ _ rfl rfl rfl]
  exact Steps.refl _
theorem own_retN (X : Stand p l e R s m args below meth c T locs cells slots) (hx : p.tables.exec = Jvm.exec) {pc : Nat} {Ls : Array Slot} {z z' : Int32} {t : FieldType} {rest : List Value} (hret : meth.sig.returnType = some t) (ht : t = .boolean ∨ t = .byte ∨ t = .char ∨ t = .short)
    (hd : decode c.code pc = .ok (.ireturn, 1)) (eq : nar t z = z') {fs : List Frame} (hl : ∀ (f : JFrame) (acts : List Action), f.method = m → f.locked = none → f.entered = [] → (doReturn e (T.setTop f) acts (some (.int z'))).1 = T.setFrames fs) :
    Steps p.tables e below (T.setTop (mkF m pc Ls (.int z :: rest))) (T.setFrames fs) := retN X hx hret ht hd (by rw [eq]; exact hl)
/-- the run comes from S to an end of which Q holds -/
def ownGo (p : Program) (e : Env) (below : List Frame) (Q : Outcome → State → Prop) (S : State) : Prop := ∃ s₂ o, Steps p.tables e below S s₂ ∧ s₂.status = .running ∧ Ended s₂ below o ∧ Q o s₂
theorem own_st {Q : Outcome → State → Prop} {S : State} (S' : State) (h : ∀ t, Steps p.tables e below S' t → Steps p.tables e below S t) (k : ownGo p e below Q S') : ownGo p e below Q S := by
  obtain ⟨a, b, h1, h2⟩ := k; exact ⟨a, b, h _ h1, h2⟩
theorem own_cast {Q : Outcome → State → Prop} {g g' : JFrame} (q : g = g') (k : ownGo p e below Q (T.setTop g')) : ownGo p e below Q (T.setTop g) := q ▸ k
def ownQ (s : State) (QQ : Option Value → Heap → List Loc → Prop) (C N : Nat) : Outcome → State → Prop := fun o U' => ∃ v L, o = .returned v ∧ QQ v U'.heap L ∧ FrameEnd s o U' L C N
theorem own_ret (X : Stand p l e R s m args below meth c T locs cells slots) (hlk : meth.locks = false) {v : Option Value} (hv : meth.sig.returnType = none → v = none) {QQ : Option Value → Heap → List Loc → Prop} {C N : Nat} (eT : T.heap = h) (hq : QQ v h locs) (hC : cells ≤ C) (hN : slots ≤ N) {S : State}
    (hs : ∀ fs, (∀ (f : JFrame) (acts : List Action), f.method = m → f.locked = none → f.entered = [] → (doReturn e (T.setTop f) acts v).1 = T.setFrames fs) → Steps p.tables e below S (T.setFrames fs)) : ownGo p e below (ownQ s QQ C N) S := by
  obtain ⟨fs, hr, hrun, hended, hW, hsame⟩ := X.leave (v := v) hv hlk
  exact ⟨_, _, hs fs hr, hrun, hended, v, locs, rfl, (by show QQ v T.heap locs; rw [eT]; exact hq), ⟨_, rfl⟩, hW, hsame.mono hC hN⟩
/-- a body's contract -/
abbrev ownMet (l : Launch) (y : MethodName) (bytes : ByteArray) (maxL : Nat) (ret : Option FieldType) (ws : List Jvm.Cond) (rm : Room) (Z : State) (as : Array Value) (h0 : Heap) (QQ : Option Value → Heap → List Loc → Prop) : Prop :=
  MetFree l y (head1 (Jvm.Cond.code y bytes maxL ret :: ws) rm) (fun a U => a = as ∧ Z.Warmed39 U.vm ∧ U.heap = h0) (fun _ _ _ _ _ => True) (fun _ U o U' => ∃ v L, o = .returned v ∧ QQ v U'.heap L ∧ FrameEnd U o U' L rm.cells rm.slots)
theorem own_met {y : MethodName} {bytes : ByteArray} {maxL : Nat} {ret : Option FieldType} {ws : List Jvm.Cond} {rm : Room} {as : Array Value} {h0 : Heap} {QQ : Option Value → Heap → List Loc → Prop} (hpl : plainFor y = true)
    (body : ∀ (p : Program) (e : Env) (s : State) (m : MethodId) (below : List Frame) (meth : Method) (c : Code) (s₁ : State), p.tables.exec = Jvm.exec → c.code = bytes → c.maxLocals = maxL → s.vm.findClass y.cls = some m.cls → meth.name = y.name → meth.sig.returnType = ret → meth.locks = false → Z.Warmed39 s.vm → s₁.heap = h0 → Stand p l e rm s m as below meth c s₁ [] 0 0 →
      ownGo p e below (ownQ s QQ rm.cells rm.slots) (s₁.setTop (entryFrame m as maxL))) : ownMet l y bytes maxL ret ws rm Z as h0 QQ := by
  refine MetFree.of_bodySF hpl hisR ?_
  intro p e s m args below meth c s₁ Bd hml0 hP hK
  obtain ⟨rfl, hZ, hh⟩ := hP
  exact body p e s m below meth c s₁ Bd.exec Bd.bytes hml0 (findClass_of_methodNamed Bd.named) (name_of_methodNamed Bd.named Bd.method).1 Bd.returns Bd.notSynchronized hZ (by rw [← hh, Bd.state]; rfl) (Stand.of_body Bd)
theorem own_callS (X : Stand p l e R s m args below meth c T locs cells slots) (hx : p.tables.exec = Jvm.exec) (hZ : Z.Warmed39 s.vm) {own : String} {index : Nat} {y : MethodName} {bytes : ByteArray} {maxL : Nat} {ret : Option FieldType} (hown : s.vm.findClass own = some m.cls)
    (w1 : (Jvm.Cond.methodLink own index y).before a0 Z = true) (w2 : (Jvm.Cond.static y).before a0 Z = true) (w3 : (Jvm.Cond.initialized y.cls).before a0 Z = true) (w4 : (Jvm.Cond.code y bytes maxL ret).before a0 Z = true)
    {rm : Room} {QQ : Option Value → Heap → List Loc → Prop} {argsL : List Value} (hM : ownMet l y bytes maxL ret [] rm Z argsL.toArray h QQ) (W : Nat)
    (hy : y.cls ≠ "java/lang/invoke/MethodHandle" ∧ y.cls ≠ "java/lang/invoke/VarHandle") (hf : rm.frames + 1 ≤ R.frames) (hl : W + (maxL + 11) + rm.locals ≤ R.locals) (hc : cells + rm.cells ≤ R.cells) (hs : slots + rm.slots ≤ R.slots)
    (eT : T.heap = h) {g : JFrame} (hg : g.method = m) (hsize : g.locals.size = c.maxLocals) (rest : List Value) (hlen : ∀ sig, parseMethodDescriptor y.desc = some sig → argsL.length = sig.parameters.length) (hstack : g.stack = argsL.reverse ++ rest) (hW : 2 * g.monitorRoom + (rest.map fun v => v.category).sum ≤ W) (hdg : decode c.code g.pc = .ok (.invokestatic index, 3)) :
    ∃ v T' L, Stand p l e R s m args below meth c T' (locs ++ L) (cells + rm.cells) (slots + rm.slots) ∧ QQ v T'.heap L ∧ ∀ target, Steps p.tables e below (T'.setTop { g with pc := g.pc + 3, stack := v.toList ++ rest }) target → Steps p.tables e below (T.setTop g) target := by
  obtain ⟨v, _, ⟨T1, L1, k1, n1⟩, -, X1, ⟨Lc, hQ, l1, y1, z1⟩, st⟩ := Jvm.LawKit.callS X hx (y := y) hown (mvT hZ w1) (mvT hZ w2) (mvT hZ w3) (mvT hZ w4) hy (backOf (W := W) hM hZ w4 w3 hf hl) hg hsize (argsL := argsL) (rest := rest) hlen hstack hW hdg (fun _ _ => ⟨rfl, eT, hc, hs⟩)
  dsimp only [Pt.U, Pt.locs, Pt.cells, Pt.slots] at X1 l1 y1 z1 st hQ
  subst l1 y1 z1
  exact ⟨v, T1, Lc, X1, hQ, st⟩
theorem own_callI (X : Stand p l e R s m args below meth c T locs cells slots) (hx : p.tables.exec = Jvm.exec) (hZ : Z.Warmed39 s.vm) {own : String} {index : Nat} {y : MethodName} {bytes : ByteArray} {maxL : Nat} (hown : s.vm.findClass own = some m.cls) (hy1 : y.name = "<init>")
    (w1 : (Jvm.Cond.methodLink own index y).before a0 Z = true) (w2 : (Jvm.Cond.instanceMethod y).before a0 Z = true) (w3 : (Jvm.Cond.initialized y.cls).before a0 Z = true) (w4 : (Jvm.Cond.code y bytes maxL none).before a0 Z = true)
    {rm : Room} {QQ : Option Value → Heap → List Loc → Prop} {a : Addr} {argsL : List Value} (hM : ownMet l y bytes maxL none [] rm Z (.ref a :: argsL).toArray h QQ) (W : Nat)
    (hy : y.cls ≠ "java/lang/invoke/MethodHandle" ∧ y.cls ≠ "java/lang/invoke/VarHandle") (hf : rm.frames + 1 ≤ R.frames) (hl : W + (maxL + 11) + rm.locals ≤ R.locals) (hc : cells + rm.cells ≤ R.cells) (hs : slots + rm.slots ≤ R.slots)
    (eT : T.heap = h) {g : JFrame} (hg : g.method = m) (hsize : g.locals.size = c.maxLocals) (rest : List Value) (hlen : ∀ sig, parseMethodDescriptor y.desc = some sig → argsL.length = sig.parameters.length) (hstack : g.stack = argsL.reverse ++ .ref a :: rest) (hW : 2 * g.monitorRoom + (rest.map fun v => v.category).sum ≤ W) (hdg : decode c.code g.pc = .ok (.invokespecial index, 3)) :
    ∃ v T' L, Stand p l e R s m args below meth c T' (locs ++ L) (cells + rm.cells) (slots + rm.slots) ∧ QQ v T'.heap L ∧ ∀ target, Steps p.tables e below (T'.setTop { g with pc := g.pc + 3, stack := v.toList ++ rest }) target → Steps p.tables e below (T.setTop g) target := by
  obtain ⟨v, _, ⟨T1, L1, k1, n1⟩, -, X1, ⟨Lc, hQ, l1, y1, z1⟩, st⟩ := X.specialBack hx (y := y) hy1 hown (mvT hZ w1) (mvT hZ w2) (mvT hZ w4) hy (backOf (W := W) hM hZ w4 w3 hf hl) hg hsize (Steps.refl _) (a := a) (argsL := argsL) (rest := rest) hlen hstack hW hdg (fun _ _ => ⟨rfl, eT, hc, hs⟩)
  dsimp only [Pt.U, Pt.locs, Pt.cells, Pt.slots] at X1 l1 y1 z1 st hQ
  subst l1 y1 z1
  exact ⟨v, T1, Lc, X1, hQ, fun t k => st.trans k⟩
theorem own_nfz {y : MethodName} (hZ : Z.Warmed39 s.vm) (nf : NotFace Z y) : NotFace s y := fun r0 h0 => by
  have e : (Z.setVm s.vm).methodNamed? y = some r0 := h0
  rw [State.methodNamed?_setVm hZ.alike] at e
  obtain ⟨kr, a1, a2⟩ := nf r0 e
  obtain ⟨k', q1, q2⟩ := hZ.alike.2.2 _ _ a1
  exact ⟨k', q1, by rw [q2]; exact a2⟩
theorem own_callV (X : Stand p l e R s m args below meth c T locs cells slots) (hx : p.tables.exec = Jvm.exec) (hZ : Z.Warmed39 s.vm) {own C : String} {index : Nat} {y z : MethodName} {bytes : ByteArray} {maxL : Nat} {ret : Option FieldType} (hown : s.vm.findClass own = some m.cls)
    (w1 : (Jvm.Cond.methodLink own index y).before a0 Z = true) (wd : (Jvm.Cond.declares y).before a0 Z = true) (nf : NotFace Z y) (wsel : (Jvm.Cond.selects C y z).before a0 Z = true) (w2 : (Jvm.Cond.instanceMethod z).before a0 Z = true) (w3 : (Jvm.Cond.initialized z.cls).before a0 Z = true) (w4 : (Jvm.Cond.code z bytes maxL ret).before a0 Z = true)
    {b : Addr} (E : Exa Z h b C) {rm : Room} {QQ : Option Value → Heap → List Loc → Prop} {argsL : List Value} (hM : ownMet l z bytes maxL ret [] rm Z (.ref b :: argsL).toArray h QQ) (W : Nat)
    (hy : y.cls ≠ "java/lang/invoke/MethodHandle" ∧ y.cls ≠ "java/lang/invoke/VarHandle") (hf : rm.frames + 1 ≤ R.frames) (hl : W + (maxL + 11) + rm.locals ≤ R.locals) (hc : cells + rm.cells ≤ R.cells) (hs : slots + rm.slots ≤ R.slots)
    (eT : T.heap = h) {g : JFrame} (hg : g.method = m) (hsize : g.locals.size = c.maxLocals) (rest : List Value) (hlen : ∀ sig, parseMethodDescriptor y.desc = some sig → argsL.length = sig.parameters.length) (hstack : g.stack = argsL.reverse ++ .ref b :: rest) (hW : 2 * g.monitorRoom + (rest.map fun v => v.category).sum ≤ W) (hdg : decode c.code g.pc = .ok (.invokevirtual index, 3)) :
    ∃ v T' L, Stand p l e R s m args below meth c T' (locs ++ L) (cells + rm.cells) (slots + rm.slots) ∧ QQ v T'.heap L ∧ ∀ target, Steps p.tables e below (T'.setTop { g with pc := g.pc + 3, stack := v.toList ++ rest }) target → Steps p.tables e below (T.setTop g) target := by
  obtain ⟨cq, kq, qa, qb, qc⟩ := isOf (T := T) hZ eT E
  obtain ⟨v, _, ⟨T1, L1, k1, n1⟩, -, X1, ⟨Lc, hQ, l1, y1, z1⟩, st⟩ := X.virtualBack hx (y := y) (z := z) hown (mvT hZ w1) (mvT hZ wd) (own_nfz hZ nf) (mvT hZ wsel) (mvT hZ w2) hy (backOf (W := W) hM hZ w4 w3 hf hl) qa qc hg hsize (Steps.refl _) (argsL := argsL) (rest := rest) hlen hstack hW hdg (fun _ _ => ⟨rfl, eT, hc, hs⟩)
  dsimp only [Pt.U, Pt.locs, Pt.cells, Pt.slots] at X1 l1 y1 z1 st hQ
  subst l1 y1 z1
  exact ⟨v, T1, Lc, X1, hQ, fun t k => st.trans k⟩
theorem own_eqI {first : State} {o : Option Outcome} {idx : List Nat} {a b : Term} {n : Int32} (h : (Jvm.Cond.eq a b).value args first o s idx = some true) (hb : b.eval args first o idx s = some (.int n)) : a.eval args first o idx s = some (.int n) := by
  obtain ⟨x, y, ex, ey, k1, k2⟩ := cmp_v (Or.inl h)
  cases ey.symm.trans hb
  obtain ⟨z, rfl⟩ := k2
  rw [ex, gotT (Jvm.Cond.eq_ints ex hb) h]
theorem own_eqR {first : State} {o : Option Outcome} {idx : List Nat} {a b : Term} {y : Addr} (h : (Jvm.Cond.eq a b).value args first o s idx = some true) (hb : b.eval args first o idx s = some (.ref y)) : a.eval args first o idx s = some (.ref y) := by
  obtain ⟨x, y', ex, ey, k1, k2⟩ := cmp_v (Or.inl h)
  cases ey.symm.trans hb
  have q := gotT (eq_R ex hb k2.2 rfl) h
  rw [ex, q]
theorem own_arv {t : Term} {a : Addr} {cl : Cell} {ty : FieldType} {z : Int32} {vs : List Value} {dv : Value} (hf : Fit s) (A : Arr s s.heap a cl ty) (ev : t.eval args s none [] s = some (.ref a)) (hl : (Term.length t).eval args s none [] s = some (.int z)) (hz : ¬ z < 0) (hn : z.toNatClampNeg = vs.length) (H : HasL cl 0 vs) : Arv s s.heap a cl.cls ty z vs dv := by
  have harr := A.fin (Vm.Alike.refl _)
  have h31 := SBG.length_lt ev harr hl
  have e := Option.some.inj ((len_f ev harr h31).symm.trans hl)
  exact Arv.start hf A h31 (Value.int.inj e) hz hn H
theorem own_nfc {y y' : MethodName} {r : MethodId} (h : NotFace s y') (hr : s.methodNamed? y' = some r) (hc : y.cls = y'.cls) : NotFace s y := fun r0 h0 => by
  obtain ⟨kr, a1, a2⟩ := h r hr
  have q1 := findClass_of_methodNamed h0
  have q2 := findClass_of_methodNamed hr
  rw [hc] at q1
  have e : r0.cls = r.cls := Option.some.inj (q1.symm.trans q2)
  exact ⟨kr, by rw [e]; exact a1, a2⟩
theorem own_named {y : MethodName} (w : (Jvm.Cond.instanceMethod y).before a0 s = true) : ∃ r, s.methodNamed? y = some r := by
  obtain ⟨mk, methM, hnamed, -⟩ := Jvm.Cond.instanceMethod_spec w
  exact ⟨mk, hnamed⟩
theorem own_same {y : MethodName} (nf : NotFace s y) (w : (Jvm.Cond.instanceMethod y).before a0 s = true) (hy : y.cls ≠ "java/lang/invoke/MethodHandle" ∧ y.cls ≠ "java/lang/invoke/VarHandle") : (Jvm.Cond.sameMethod y.cls y.cls y.name y.desc).before args s = true := by
  obtain ⟨r, hr⟩ := own_named w
  obtain ⟨kr, a1, a2⟩ := nf r hr
  have q1 := findClass_of_methodNamed hr
  have q2 := State.methodFound?_of_named hr hy
  have hr' : s.methodNamed? ⟨y.cls, y.name, y.desc⟩ = some r := hr
  simp [Jvm.Cond.before, Jvm.Cond.holds, Jvm.Cond.value, q1, q2, hr', a1, a2]
theorem own_callP (X : Stand p l e R s m args below meth c T locs cells slots) (hx : p.tables.exec = Jvm.exec) (hZ : Z.Warmed39 s.vm) {own C : String} {index : Nat} {y : MethodName} {bytes : ByteArray} {maxL : Nat} {ret : Option FieldType} (hown : s.vm.findClass own = some m.cls)
    (w1 : (Jvm.Cond.methodLink own index y).before a0 Z = true) (wp : (Jvm.Cond.privateMethod y).before a0 Z = true) (nf : NotFace Z y) (w2 : (Jvm.Cond.instanceMethod y).before a0 Z = true) (w3 : (Jvm.Cond.initialized y.cls).before a0 Z = true) (w4 : (Jvm.Cond.code y bytes maxL ret).before a0 Z = true)
    {b : Addr} (E : Exa Z h b C) {rm : Room} {QQ : Option Value → Heap → List Loc → Prop} {argsL : List Value} (hM : ownMet l y bytes maxL ret [] rm Z (.ref b :: argsL).toArray h QQ) (W : Nat)
    (hy : y.cls ≠ "java/lang/invoke/MethodHandle" ∧ y.cls ≠ "java/lang/invoke/VarHandle") (hf : rm.frames + 1 ≤ R.frames) (hl : W + (maxL + 11) + rm.locals ≤ R.locals) (hc : cells + rm.cells ≤ R.cells) (hs : slots + rm.slots ≤ R.slots)
    (eT : T.heap = h) {g : JFrame} (hg : g.method = m) (hsize : g.locals.size = c.maxLocals) (rest : List Value) (hlen : ∀ sig, parseMethodDescriptor y.desc = some sig → argsL.length = sig.parameters.length) (hstack : g.stack = argsL.reverse ++ .ref b :: rest) (hW : 2 * g.monitorRoom + (rest.map fun v => v.category).sum ≤ W) (hdg : decode c.code g.pc = .ok (.invokevirtual index, 3)) :
    ∃ v T' L, Stand p l e R s m args below meth c T' (locs ++ L) (cells + rm.cells) (slots + rm.slots) ∧ QQ v T'.heap L ∧ ∀ target, Steps p.tables e below (T'.setTop { g with pc := g.pc + 3, stack := v.toList ++ rest }) target → Steps p.tables e below (T.setTop g) target := by
  obtain ⟨cell, hcell, hobj⟩ := E.cell
  obtain ⟨mk, methM, hnamed, hmethM, hstM, habM⟩ := Jvm.Cond.instanceMethod_spec (mvT (args := args) hZ w2)
  obtain ⟨methM', cM, hmethM', -, -, -, -, -, -, hsigM⟩ := Jvm.Cond.code_spec hnamed (mvT (args := args) hZ w4)
  cases hmethM.symm.trans hmethM'
  obtain ⟨kP, hkP, hkPi⟩ := own_nfz hZ nf mk hnamed
  have hselP : selectMethod e.platform s.vm cell.cls mk = .method mk := selectMethod_private hmethM ((Jvm.Cond.privateMethod_at (mvP (args := #[]) hZ wp)) mk methM hnamed hmethM)
  obtain ⟨vm₁, X₁, hstep₁⟩ := X.invokevirtual hx hown (mvT hZ w1) hnamed hmethM hstM hkP hkPi hy (a := b) (cell := cell) (by rw [eT]; exact hcell) hobj hselP hmethM habM hkP hkPi (g := g) hg (argsL := argsL) (rest := rest) (hlen _ hsigM) hstack hdg
  obtain ⟨v, ⟨T1, L1, k1, n1⟩, X1, ⟨Lc, hQ, l1, y1, z1⟩, st⟩ := (backOf (len := 3) (W := W) (p := p) (e := e) (below := below) (args := args) (R := R) hM hZ w4 w3 hf hl) m meth c ⟨T.setVm vm₁, locs, cells, slots⟩ { g with stack := rest } (.invokevirtual index) mk (.ref b :: argsL).toArray X₁ hg hsize hdg hW (X₁.named hnamed) ⟨rfl, eT, hc, hs⟩
  dsimp only [Pt.U, Pt.locs, Pt.cells, Pt.slots] at X1 l1 y1 z1 st hQ
  subst l1 y1 z1
  exact ⟨v, T1, Lc, X1, hQ, fun t k => hstep₁ _ fun acts => by rw [doInvoke_state]; exact st.trans k⟩
theorem own_callU (X : Stand p l e R s m args below meth c T locs cells slots) (hx : p.tables.exec = Jvm.exec) (hZ : Z.Warmed39 s.vm) {own C owner : String} {index : Nat} {y z : MethodName} {bytes : ByteArray} {maxL : Nat} {ret : Option FieldType} (hown : s.vm.findClass own = some m.cls)
    (w1 : (Jvm.Cond.methodLink own index y).before a0 Z = true) (wsm : (Jvm.Cond.sameMethod y.cls owner y.name y.desc).before a0 Z = true) (wd : (Jvm.Cond.declares ⟨owner, y.name, y.desc⟩).before a0 Z = true) (hyo : owner ≠ "java/lang/invoke/MethodHandle" ∧ owner ≠ "java/lang/invoke/VarHandle") (wsel : (Jvm.Cond.selects C y z).before a0 Z = true) (w2 : (Jvm.Cond.instanceMethod z).before a0 Z = true) (w3 : (Jvm.Cond.initialized z.cls).before a0 Z = true) (w4 : (Jvm.Cond.code z bytes maxL ret).before a0 Z = true)
    {b : Addr} (E : Exa Z h b C) {rm : Room} {QQ : Option Value → Heap → List Loc → Prop} {argsL : List Value} (hM : ownMet l z bytes maxL ret [] rm Z (.ref b :: argsL).toArray h QQ) (W : Nat)
    (hf : rm.frames + 1 ≤ R.frames) (hl : W + (maxL + 11) + rm.locals ≤ R.locals) (hc : cells + rm.cells ≤ R.cells) (hs : slots + rm.slots ≤ R.slots)
    (eT : T.heap = h) {g : JFrame} (hg : g.method = m) (hsize : g.locals.size = c.maxLocals) (rest : List Value) (hlen : ∀ sig, parseMethodDescriptor y.desc = some sig → argsL.length = sig.parameters.length) (hstack : g.stack = argsL.reverse ++ .ref b :: rest) (hW : 2 * g.monitorRoom + (rest.map fun v => v.category).sum ≤ W) (hdg : decode c.code g.pc = .ok (.invokevirtual index, 3)) :
    ∃ v T' L, Stand p l e R s m args below meth c T' (locs ++ L) (cells + rm.cells) (slots + rm.slots) ∧ QQ v T'.heap L ∧ ∀ target, Steps p.tables e below (T'.setTop { g with pc := g.pc + 3, stack := v.toList ++ rest }) target → Steps p.tables e below (T.setTop g) target := by
  obtain ⟨cq, kq, qa, qb, qc⟩ := isOf (T := T) hZ eT E
  obtain ⟨v, _, ⟨T1, L1, k1, n1⟩, -, X1, ⟨Lc, hQ, l1, y1, z1⟩, st⟩ := X.virtualBackUp hx (x := y) (y := z) (owner := owner) hown (mvT hZ w1) (mvT hZ wsm) (mvT hZ wd) hyo (mvT hZ wsel) (mvT hZ w2) (backOf (W := W) hM hZ w4 w3 hf hl) qa qc hg hsize (Steps.refl _) (argsL := argsL) (rest := rest) hlen hstack hW hdg (fun _ _ => ⟨rfl, eT, hc, hs⟩)
  dsimp only [Pt.U, Pt.locs, Pt.cells, Pt.slots] at X1 l1 y1 z1 st hQ
  subst l1 y1 z1
  exact ⟨v, T1, Lc, X1, hQ, fun t k => st.trans k⟩
theorem own_callSup (X : Stand p l e R s m args below meth c T locs cells slots) (hx : p.tables.exec = Jvm.exec) (hZ : Z.Warmed39 s.vm) {own C : String} {index : Nat} {y : MethodName} {bytes : ByteArray} {maxL : Nat} {ret : Option FieldType} (hown : s.vm.findClass own = some m.cls)
    (w1 : (Jvm.Cond.methodLink own index y).before a0 Z = true) (nf : NotFace Z y) (w2 : (Jvm.Cond.instanceMethod y).before a0 Z = true) (wsu : (Jvm.Cond.superclass own y.cls).before a0 Z = true) (hn : y.name ≠ "<init>") (w3 : (Jvm.Cond.initialized y.cls).before a0 Z = true) (w4 : (Jvm.Cond.code y bytes maxL ret).before a0 Z = true)
    {b : Addr} (E : Exa Z h b C) {rm : Room} {QQ : Option Value → Heap → List Loc → Prop} {argsL : List Value} (hM : ownMet l y bytes maxL ret [] rm Z (.ref b :: argsL).toArray h QQ) (W : Nat)
    (hy : y.cls ≠ "java/lang/invoke/MethodHandle" ∧ y.cls ≠ "java/lang/invoke/VarHandle") (hf : rm.frames + 1 ≤ R.frames) (hl : W + (maxL + 11) + rm.locals ≤ R.locals) (hc : cells + rm.cells ≤ R.cells) (hs : slots + rm.slots ≤ R.slots)
    (eT : T.heap = h) {g : JFrame} (hg : g.method = m) (hsize : g.locals.size = c.maxLocals) (rest : List Value) (hlen : ∀ sig, parseMethodDescriptor y.desc = some sig → argsL.length = sig.parameters.length) (hstack : g.stack = argsL.reverse ++ .ref b :: rest) (hW : 2 * g.monitorRoom + (rest.map fun v => v.category).sum ≤ W) (hdg : decode c.code g.pc = .ok (.invokespecial index, 3)) :
    ∃ v T' L, Stand p l e R s m args below meth c T' (locs ++ L) (cells + rm.cells) (slots + rm.slots) ∧ QQ v T'.heap L ∧ ∀ target, Steps p.tables e below (T'.setTop { g with pc := g.pc + 3, stack := v.toList ++ rest }) target → Steps p.tables e below (T.setTop g) target := by
  obtain ⟨v, _, ⟨T1, L1, k1, n1⟩, -, X1, ⟨Lc, hQ, l1, y1, z1⟩, st⟩ := superBack X hx hZ (y := y) hown w1 (own_same nf w2 hy) w2 wsu hn (backOf (W := W) hM hZ w4 w3 hf hl) eT (Ins.self E) hg hsize w4 (argsL := argsL) (rest := rest) hlen hstack hW hdg (fun _ _ => ⟨rfl, eT, hc, hs⟩)
  dsimp only [Pt.U, Pt.locs, Pt.cells, Pt.slots] at X1 l1 y1 z1 st hQ
  subst l1 y1 z1
  exact ⟨v, T1, Lc, X1, hQ, fun t k => st.trans k⟩
end Own
end Jvm.RoadKit
namespace Jvm.RoadKit
open Sem ClassFile Op Lib Bundle Jvm.Stand Jvm.Free Jvm.LawKit
section OwnW
variable {p : Program} {l : Launch} {e : Env} {R : Room} {s : State} {m : MethodId} {args : Array Value} {below : List Frame} {meth : Method} {c : Code} {T : State} {locs : List Loc} {cells slots : Nat} {Z : State} {a0 : Array Value} {h h0 : Heap} {EL : List (String × Nat)} {vm0 : Vm} {k0 : Nat}
def ownQW (s Z : State) (EL : List (String × Nat)) (h0 : Heap) (QQ : Option Value → Vm → Heap → List Loc → Prop) (C N : Nat) : Outcome → State → Prop := fun o U' => ∃ v L, o = .returned v ∧ QQ v U'.vm U'.heap L ∧ CHr Z EL s.vm h0 U'.vm U'.heap ∧ ReturnedEndW s o U' L C N
theorem own_retW (X : Stand p l e R (s.setVm vm0) m args below meth c T locs cells slots) (hlk : meth.locks = false) (hS : s.Since vm0 k0) (hk : k0 ≤ h.size) (hZ : Z.Warmed39 vm0) (hEL : EW Z a0 EL) (RR : CHr Z EL s.vm h0 vm0 h) {v : Option Value} (hv : meth.sig.returnType = none → v = none) {QQ : Option Value → Vm → Heap → List Loc → Prop} {C N : Nat} (eT : T.heap = h) (hq : ∀ vm1, CHr Z EL vm0 h vm1 h → QQ v vm1 h locs) (hC : cells ≤ C) (hN : slots ≤ N) {S : State}
    (hs : ∀ fs, (∀ (f : JFrame) (acts : List Action), f.method = m → f.locked = none → f.entered = [] → (doReturn e (T.setTop f) acts v).1 = T.setFrames fs) → Steps p.tables e below S (T.setFrames fs)) : ownGo p e below (ownQW s Z EL h0 QQ C N) S := by
  subst eT
  obtain ⟨fs, hr, hrun, hended, hW⟩ := X.leaveW hS hk (v := v) hv hlk
  have A := CHv.at X hZ hEL RR.1
  exact ⟨_, _, hs fs hr, hrun, hended, v, locs, rfl, hq T.vm A, RR.trans A, hW.1, hW.2.1, hW.2.2.1, hW.2.2.2.mono hC hN⟩
/-- the contract of a body that may load String constants -/
abbrev ownMetW (l : Launch) (y : MethodName) (bytes : ByteArray) (maxL : Nat) (ret : Option FieldType) (ws : List Jvm.Cond) (rm : Room) (Z : State) (EL : List (String × Nat)) (sf : List Addr) (as : Array Value) (h0 : Heap) (QQ : Option Value → Vm → Heap → List Loc → Prop) : Prop :=
  MetFree l y (head1 (Jvm.Cond.code y bytes maxL ret :: ws) rm) (fun a U => a = as ∧ Z.Warmed39 U.vm ∧ U.heap = h0 ∧ CHv Z EL U.vm h0 ∧ ∀ x ∈ sf, Safe Z EL U.vm h0 x) (fun _ _ _ _ _ => True) (fun _ U o U' => ∃ v L, o = .returned v ∧ QQ v U'.vm U'.heap L ∧ CHr Z EL U.vm h0 U'.vm U'.heap ∧ ReturnedEndW U o U' L rm.cells rm.slots)
theorem own_metW {y : MethodName} {bytes : ByteArray} {maxL : Nat} {ret : Option FieldType} {ws : List Jvm.Cond} {rm : Room} {sf : List Addr} {as : Array Value} {QQ : Option Value → Vm → Heap → List Loc → Prop} (hpl : plainFor y = true)
    (body : ∀ (p : Program) (e : Env) (s : State) (m : MethodId) (below : List Frame) (meth : Method) (c : Code) (s₁ : State), p.tables.exec = Jvm.exec → c.code = bytes → c.maxLocals = maxL → s.vm.findClass y.cls = some m.cls → meth.name = y.name → meth.sig.returnType = ret → meth.locks = false → Z.Warmed39 s.vm → s₁.heap = h0 → Stand p l e rm (s.setVm s.vm) m as below meth c s₁ [] 0 0 → s.Since s.vm 0 → CHr Z EL s.vm h0 s.vm h0 → (∀ x ∈ sf, Safe Z EL s.vm h0 x) →
      ownGo p e below (ownQW s Z EL h0 QQ rm.cells rm.slots) (s₁.setTop (entryFrame m as maxL))) : ownMetW l y bytes maxL ret ws rm Z EL sf as h0 QQ := by
  refine MetFree.of_bodySF hpl hisR ?_
  intro p e s m args below meth c s₁ Bd hml0 hP hK
  obtain ⟨rfl, hZ, hh, hC, hs⟩ := hP
  exact body p e s m below meth c s₁ Bd.exec Bd.bytes hml0 (findClass_of_methodNamed Bd.named) (name_of_methodNamed Bd.named Bd.method).1 Bd.returns Bd.notSynchronized hZ (by rw [← hh, Bd.state]; rfl) (Stand.of_body Bd) ((State.WarmedH.refl s).since 0) (CHr.refl hC) hs
theorem own_backW {y : MethodName} {bytes : ByteArray} {maxL : Nat} {ret : Option FieldType} {rm : Room} {len W : Nat} {as' : Array Value} {sf : List Addr} {QQ : Option Value → Vm → Heap → List Loc → Prop} (hM : ownMetW l y bytes maxL ret [] rm Z EL sf as' h QQ)
    (hZ : Z.Warmed39 vm0) (wc : (Jvm.Cond.code y bytes maxL ret).before a0 Z = true) (wz : (Jvm.Cond.initialized y.cls).before a0 Z = true) (hf : rm.frames + 1 ≤ R.frames) (hl : W + (maxL + 11) + rm.locals ≤ R.locals) (hEL : EW Z a0 EL) (H : CHv Z EL vm0 h) (hsf : ∀ x ∈ sf, x < h.size ∧ Safe Z EL vm0 h x) :
    BackS l R p e below (s.setVm vm0) args y len W (fun A a => a = as' ∧ A.U.heap = h ∧ A.cells + rm.cells ≤ R.cells ∧ A.slots + rm.slots ≤ R.slots)
      (fun A _ v B => ∃ L, QQ v B.U.vm B.U.heap L ∧ B.locs = A.locs ++ L ∧ B.cells = A.cells + rm.cells ∧ B.slots = A.slots + rm.slots ∧ CHr Z EL vm0 h B.U.vm B.U.heap) :=
  BackS.of_freeW (bytes := bytes) (maxL := maxL) (ret := ret) (E := fun _ first o t L k n => k = rm.cells ∧ n = rm.slots ∧ (∃ v, o = .returned v ∧ QQ v t.vm t.heap L) ∧ CHr Z EL first.vm h t.vm t.heap) hM hf hl
    (fun m meth c A a Y hp => have hU : Z.Warmed39 A.U.vm := wtrans (s := s.setVm vm0) hZ Y.warmed
      ⟨by show (Jvm.Cond.and _ .tt).before a A.U = true; rw [Jvm.Cond.before_and, mv hU wc]; rfl, mv hU wc, mv hU wz, hp.2.2.1, hp.2.2.2⟩)
    (fun m meth c A a g mk Y hp => ⟨hp.1, wtrans (s := s.setVm vm0) hZ Y.warmed, hp.2.1, (CHv.at Y hZ hEL H).1, fun x hx => (CHv.at Y hZ hEL H).safe (hsf x hx).1 (hsf x hx).2⟩) (fun _ _ _ _ _ _ _ _ _ => trivial)
    (fun _ _ _ _ ⟨v, L, h1, h2, h3, h4⟩ => ⟨L, _, _, h4, rfl, rfl, ⟨v, h1, h2⟩, h3⟩)
    (fun m meth c A a g mk v t L k n Y hp _ _ ⟨e1, e2, ⟨v', e3, e4⟩, e5⟩ => by
      cases e3; subst e1 e2
      exact ⟨L, e4, rfl, rfl, rfl, (CHv.at Y hZ hEL H).trans e5⟩)
theorem own_callSW (X : Stand p l e R (s.setVm vm0) m args below meth c T locs cells slots) (hx : p.tables.exec = Jvm.exec) (hZ : Z.Warmed39 vm0) {own : String} {index : Nat} {y : MethodName} {bytes : ByteArray} {maxL : Nat} {ret : Option FieldType} (hown : vm0.findClass own = some m.cls)
    (w1 : (Jvm.Cond.methodLink own index y).before a0 Z = true) (w2 : (Jvm.Cond.static y).before a0 Z = true) (w3 : (Jvm.Cond.initialized y.cls).before a0 Z = true) (w4 : (Jvm.Cond.code y bytes maxL ret).before a0 Z = true)
    {rm : Room} {sf : List Addr} {QQ : Option Value → Vm → Heap → List Loc → Prop} {argsL : List Value} (hM : ownMetW l y bytes maxL ret [] rm Z EL sf argsL.toArray h QQ) (W : Nat)
    (hy : y.cls ≠ "java/lang/invoke/MethodHandle" ∧ y.cls ≠ "java/lang/invoke/VarHandle") (hf : rm.frames + 1 ≤ R.frames) (hl : W + (maxL + 11) + rm.locals ≤ R.locals) (hc : cells + rm.cells ≤ R.cells) (hs : slots + rm.slots ≤ R.slots)
    (hS : s.Since vm0 k0) (hk : k0 ≤ h.size) (hEL : EW Z a0 EL) (RR : CHr Z EL s.vm h0 vm0 h) (hsf : ∀ x ∈ sf, x < h.size ∧ Safe Z EL vm0 h x)
    (eT : T.heap = h) {g : JFrame} (hg : g.method = m) (hsize : g.locals.size = c.maxLocals) (rest : List Value) (hlen : ∀ sig, parseMethodDescriptor y.desc = some sig → argsL.length = sig.parameters.length) (hstack : g.stack = argsL.reverse ++ rest) (hW : 2 * g.monitorRoom + (rest.map fun v => v.category).sum ≤ W) (hdg : decode c.code g.pc = .ok (.invokestatic index, 3)) :
    ∃ v T' L, Stand p l e R (s.setVm T'.vm) m args below meth c T' (locs ++ L) (cells + rm.cells) (slots + rm.slots) ∧ s.Since T'.vm T'.heap.size ∧ Z.Warmed39 T'.vm ∧ T'.vm.findClass own = some m.cls ∧ CHr Z EL vm0 h T'.vm T'.heap ∧ CHr Z EL s.vm h0 T'.vm T'.heap ∧ QQ v T'.vm T'.heap L ∧
      ∀ target, Steps p.tables e below (T'.setTop { g with pc := g.pc + 3, stack := v.toList ++ rest }) target → Steps p.tables e below (T.setTop g) target := by
  obtain ⟨v, _, ⟨T1, L1, k1, n1⟩, -, X1, hS1, hg1, ⟨Lc, hQ, l1, y1, z1, hr⟩, st⟩ := callSS X hx (y := y) hown (mvT (s := s.setVm vm0) hZ w1) (mvT (s := s.setVm vm0) hZ w2) (mvT (s := s.setVm vm0) hZ w3) (mvT (s := s.setVm vm0) hZ w4) hy (own_backW (s := s) (W := W) hM hZ w4 w3 hf hl hEL RR.1 hsf) hg hsize (argsL := argsL) (rest := rest) hlen hstack hW hdg (fun _ _ => ⟨rfl, eT, hc, hs⟩)
  dsimp only [Pt.U, Pt.locs, Pt.cells, Pt.slots] at X1 hS1 hg1 l1 y1 z1 st hQ hr
  subst l1 y1 z1
  obtain ⟨X2, hS2, hZ2, ho2⟩ := rebS hS (Nat.le_trans hk (Nat.le_of_eq (by rw [eT]))) X1 hS1 hg1 (show Z.Warmed39 (s.setVm vm0).vm from hZ) (own := own) hown
  exact ⟨v, T1, Lc, X2, hS2, hZ2, ho2, hr, RR.trans hr, hQ, fun t k => st.trans k⟩
theorem own_callIW (X : Stand p l e R (s.setVm vm0) m args below meth c T locs cells slots) (hx : p.tables.exec = Jvm.exec) (hZ : Z.Warmed39 vm0) {own : String} {index : Nat} {y : MethodName} {bytes : ByteArray} {maxL : Nat} (hown : vm0.findClass own = some m.cls) (hy1 : y.name = "<init>")
    (w1 : (Jvm.Cond.methodLink own index y).before a0 Z = true) (w2 : (Jvm.Cond.instanceMethod y).before a0 Z = true) (w3 : (Jvm.Cond.initialized y.cls).before a0 Z = true) (w4 : (Jvm.Cond.code y bytes maxL none).before a0 Z = true)
    {rm : Room} {sf : List Addr} {QQ : Option Value → Vm → Heap → List Loc → Prop} {a : Addr} {argsL : List Value} (hM : ownMetW l y bytes maxL none [] rm Z EL sf (.ref a :: argsL).toArray h QQ) (W : Nat)
    (hy : y.cls ≠ "java/lang/invoke/MethodHandle" ∧ y.cls ≠ "java/lang/invoke/VarHandle") (hf : rm.frames + 1 ≤ R.frames) (hl : W + (maxL + 11) + rm.locals ≤ R.locals) (hc : cells + rm.cells ≤ R.cells) (hs : slots + rm.slots ≤ R.slots)
    (hS : s.Since vm0 k0) (hk : k0 ≤ h.size) (hEL : EW Z a0 EL) (RR : CHr Z EL s.vm h0 vm0 h) (hsf : ∀ x ∈ sf, x < h.size ∧ Safe Z EL vm0 h x)
    (eT : T.heap = h) {g : JFrame} (hg : g.method = m) (hsize : g.locals.size = c.maxLocals) (rest : List Value) (hlen : ∀ sig, parseMethodDescriptor y.desc = some sig → argsL.length = sig.parameters.length) (hstack : g.stack = argsL.reverse ++ .ref a :: rest) (hW : 2 * g.monitorRoom + (rest.map fun v => v.category).sum ≤ W) (hdg : decode c.code g.pc = .ok (.invokespecial index, 3)) :
    ∃ v T' L, Stand p l e R (s.setVm T'.vm) m args below meth c T' (locs ++ L) (cells + rm.cells) (slots + rm.slots) ∧ s.Since T'.vm T'.heap.size ∧ Z.Warmed39 T'.vm ∧ T'.vm.findClass own = some m.cls ∧ CHr Z EL vm0 h T'.vm T'.heap ∧ CHr Z EL s.vm h0 T'.vm T'.heap ∧ QQ v T'.vm T'.heap L ∧
      ∀ target, Steps p.tables e below (T'.setTop { g with pc := g.pc + 3, stack := v.toList ++ rest }) target → Steps p.tables e below (T.setTop g) target := by
  obtain ⟨v, _, ⟨T1, L1, k1, n1⟩, -, X1, hS1, hg1, ⟨Lc, hQ, l1, y1, z1, hr⟩, st⟩ := X.specialBackS hx (y := y) hy1 hown (mvT (s := s.setVm vm0) hZ w1) (mvT (s := s.setVm vm0) hZ w2) (mvT (s := s.setVm vm0) hZ w4) hy (own_backW (s := s) (W := W) hM hZ w4 w3 hf hl hEL RR.1 hsf) hg hsize (Steps.refl _) (a := a) (argsL := argsL) (rest := rest) hlen hstack hW hdg (fun _ _ => ⟨rfl, eT, hc, hs⟩)
  dsimp only [Pt.U, Pt.locs, Pt.cells, Pt.slots] at X1 hS1 hg1 l1 y1 z1 st hQ hr
  subst l1 y1 z1
  obtain ⟨X2, hS2, hZ2, ho2⟩ := rebS hS (Nat.le_trans hk (Nat.le_of_eq (by rw [eT]))) X1 hS1 hg1 (show Z.Warmed39 (s.setVm vm0).vm from hZ) (own := own) hown
  exact ⟨v, T1, Lc, X2, hS2, hZ2, ho2, hr, RR.trans hr, hQ, fun t k => st.trans k⟩
theorem own_callVW (X : Stand p l e R (s.setVm vm0) m args below meth c T locs cells slots) (hx : p.tables.exec = Jvm.exec) (hZ : Z.Warmed39 vm0) {own C : String} {index : Nat} {y z : MethodName} {bytes : ByteArray} {maxL : Nat} {ret : Option FieldType} (hown : vm0.findClass own = some m.cls)
    (w1 : (Jvm.Cond.methodLink own index y).before a0 Z = true) (wd : (Jvm.Cond.declares y).before a0 Z = true) (nf : NotFace Z y) (wsel : (Jvm.Cond.selects C y z).before a0 Z = true) (w2 : (Jvm.Cond.instanceMethod z).before a0 Z = true) (w3 : (Jvm.Cond.initialized z.cls).before a0 Z = true) (w4 : (Jvm.Cond.code z bytes maxL ret).before a0 Z = true)
    {b : Addr} (E : Exa Z h b C) {rm : Room} {sf : List Addr} {QQ : Option Value → Vm → Heap → List Loc → Prop} {argsL : List Value} (hM : ownMetW l z bytes maxL ret [] rm Z EL sf (.ref b :: argsL).toArray h QQ) (W : Nat)
    (hy : y.cls ≠ "java/lang/invoke/MethodHandle" ∧ y.cls ≠ "java/lang/invoke/VarHandle") (hf : rm.frames + 1 ≤ R.frames) (hl : W + (maxL + 11) + rm.locals ≤ R.locals) (hc : cells + rm.cells ≤ R.cells) (hs : slots + rm.slots ≤ R.slots)
    (hS : s.Since vm0 k0) (hk : k0 ≤ h.size) (hEL : EW Z a0 EL) (RR : CHr Z EL s.vm h0 vm0 h) (hsf : ∀ x ∈ sf, x < h.size ∧ Safe Z EL vm0 h x)
    (eT : T.heap = h) {g : JFrame} (hg : g.method = m) (hsize : g.locals.size = c.maxLocals) (rest : List Value) (hlen : ∀ sig, parseMethodDescriptor y.desc = some sig → argsL.length = sig.parameters.length) (hstack : g.stack = argsL.reverse ++ .ref b :: rest) (hW : 2 * g.monitorRoom + (rest.map fun v => v.category).sum ≤ W) (hdg : decode c.code g.pc = .ok (.invokevirtual index, 3)) :
    ∃ v T' L, Stand p l e R (s.setVm T'.vm) m args below meth c T' (locs ++ L) (cells + rm.cells) (slots + rm.slots) ∧ s.Since T'.vm T'.heap.size ∧ Z.Warmed39 T'.vm ∧ T'.vm.findClass own = some m.cls ∧ CHr Z EL vm0 h T'.vm T'.heap ∧ CHr Z EL s.vm h0 T'.vm T'.heap ∧ QQ v T'.vm T'.heap L ∧
      ∀ target, Steps p.tables e below (T'.setTop { g with pc := g.pc + 3, stack := v.toList ++ rest }) target → Steps p.tables e below (T.setTop g) target := by
  obtain ⟨cq, kq, qa, qb, qc⟩ := isOf (s := s.setVm vm0) (T := T) hZ eT E
  obtain ⟨v, _, ⟨T1, L1, k1, n1⟩, -, X1, hS1, hg1, ⟨Lc, hQ, l1, y1, z1, hr⟩, st⟩ := X.virtualBackS hx (y := y) (z := z) hown (mvT (s := s.setVm vm0) hZ w1) (mvT (s := s.setVm vm0) hZ wd) (own_nfz (s := s.setVm vm0) hZ nf) (mvT (s := s.setVm vm0) hZ wsel) (mvT (s := s.setVm vm0) hZ w2) hy (own_backW (s := s) (W := W) hM hZ w4 w3 hf hl hEL RR.1 hsf) qa qc hg hsize (Steps.refl _) (argsL := argsL) (rest := rest) hlen hstack hW hdg (fun _ _ => ⟨rfl, eT, hc, hs⟩)
  dsimp only [Pt.U, Pt.locs, Pt.cells, Pt.slots] at X1 hS1 hg1 l1 y1 z1 st hQ hr
  subst l1 y1 z1
  obtain ⟨X2, hS2, hZ2, ho2⟩ := rebS hS (Nat.le_trans hk (Nat.le_of_eq (by rw [eT]))) X1 hS1 hg1 (show Z.Warmed39 (s.setVm vm0).vm from hZ) (own := own) hown
  exact ⟨v, T1, Lc, X2, hS2, hZ2, ho2, hr, RR.trans hr, hQ, fun t k => st.trans k⟩
theorem own_narC {x : Int32} (h0 : ¬ x < (0 : Int32)) (h1 : ¬ (255 : Int32) < x) : nar .char x = x := by
  have a := c_i2c x
  have b0 : (0 : Int32).toInt = 0 := rfl
  have b1 : (255 : Int32).toInt = 255 := rfl
  rw [Int32.lt_iff_toInt_lt, b0] at h0
  rw [Int32.lt_iff_toInt_lt, b1] at h1
  refine Int32.toInt_inj.mp ?_
  show x.toUInt32.toUInt16.toUInt32.toInt32.toInt = x.toInt
  omega
theorem own_narB (x : Int32) : nar .byte x.toInt8.toInt32 = x.toInt8.toInt32 := by
  show x.toInt8.toInt32.toInt8.toInt32 = _
  rw [Int8.toInt8_toInt32]
theorem own_m0 (x : Int32) : ¬ (x &&& (255 : Int32)) < (0 : Int32) := by
  have h := (c_and x 255 (by decide)).1
  have b0 : (0 : Int32).toInt = 0 := rfl
  rw [Int32.lt_iff_toInt_lt, b0]; omega
theorem own_m1 (x : Int32) : ¬ (255 : Int32) < (x &&& (255 : Int32)) := by
  have h := (c_and x 255 (by decide)).2
  rw [Int32.lt_iff_toInt_lt]; omega
theorem own_ub {x : Int32} (h0 : ¬ x < (0 : Int32)) (h1 : ¬ (255 : Int32) < x) : (x.toInt8.toInt32 &&& (255 : Int32)).toUInt32.toUInt16.toUInt32.toInt32 = x := by
  have b0 : (0 : Int32).toInt = 0 := rfl
  have b1 : (255 : Int32).toInt = 255 := rfl
  rw [Int32.lt_iff_toInt_lt, b0] at h0
  rw [Int32.lt_iff_toInt_lt, b1] at h1
  have a := c_i2b x
  have b := c_mask x.toInt8.toInt32 255 8 (by decide) (by decide)
  rw [i2c_mask]
  refine Int32.toInt_inj.mp ?_
  have k : ((2 ^ 8 : Nat) : Int) = 256 := rfl
  rw [b, k]
  omega
end OwnW
end Jvm.RoadKit
namespace Jvm.Pilot.@@N@@
open Jvm Jvm.ClassFile Sem Op Lib Jvm.Free Jvm.Stand Jvm.LawKit Jvm.RoadKit Bundle Jvm.Pilot.@@N@@.Jvm.D
def own_EL : List (String × Nat) := [("com/example/rising_block/risingblock/io/YamlNodeTruthPinLaw", 13), ("com/example/rising_block/risingblock/io/YamlNodeTruthPinLaw", 15)]
theorem own_hEL {Z : State} {a0 : Array Value} (hw : ∀ d ∈ tables_1, d.before a0 Z = true) : EW Z a0 own_EL := (EW.cons (hw _ (List.mem_of_getElem? (i := 204) rfl)) (by decide) (EW.cons (hw _ (List.mem_of_getElem? (i := 8) rfl)) (by decide) EW.nil))
theorem own_wS {Z : State} {a0 : Array Value} (hw : ∀ d ∈ tables_1, d.before a0 Z = true) : ∀ a ∈ Bundle.stringAtoms, a.before a0 Z = true := fun d hd => by
  simp only [Bundle.stringAtoms, List.mem_cons, List.not_mem_nil, or_false] at hd
  rcases hd with rfl | rfl | rfl | rfl | rfl | rfl | rfl
  · exact hw _ (List.mem_of_getElem? (i := 9) rfl)
  · exact hw _ (List.mem_of_getElem? (i := 10) rfl)
  · exact hw _ (List.mem_of_getElem? (i := 11) rfl)
  · exact hw _ (List.mem_of_getElem? (i := 12) rfl)
  · exact hw _ (List.mem_of_getElem? (i := 13) rfl)
  · exact hw _ (List.mem_of_getElem? (i := 14) rfl)
  · exact hw _ (List.mem_of_getElem? (i := 15) rfl)
theorem own_d1_0 : decode prog_21_method_6_code 0 = .ok (.iload_n 0, 1) := by decide +kernel
theorem own_d1_1 : decode prog_21_method_6_code 1 = .ok (.ifCond .eq 9, 3) := by decide +kernel
theorem own_d1_10 : decode prog_21_method_6_code 10 = .ok (.getstatic 56, 3) := by decide +kernel
theorem own_d1_13 : decode prog_21_method_6_code 13 = .ok (.areturn, 1) := by decide +kernel
theorem own_pn_com_example_rising_block_risingblock_io_YamlNode : plainName "com/example/rising_block/risingblock/io/YamlNode" = true := by first | (simp [plainName, overriddenIn]; done) | decide +kernel
set_option maxRecDepth 65536 in
set_option maxHeartbeats 40000000 in
theorem own_truth0 (l : Launch) (Z : State) (a0 : Array Value) (hw : ∀ d ∈ tables_1, d.before a0 Z = true) (ws : List Jvm.Cond) (wt wf : Addr) (h0 : Heap) (O0 : Old Z Z.heap.size h0) (ST : Sta Z Z.heap "com/example/rising_block/risingblock/io/YamlNode" "TRUE" "Lcom/example/rising_block/risingblock/io/YamlNode;" (.ref wt)) (SF : Sta Z Z.heap "com/example/rising_block/risingblock/io/YamlNode" "FALSE" "Lcom/example/rising_block/risingblock/io/YamlNode;" (.ref wf)) :
    ownMet l (⟨"com/example/rising_block/risingblock/io/YamlNode", "truth", "(Z)Lcom/example/rising_block/risingblock/io/YamlNode;"⟩ : MethodName) prog_21_method_6_code 1 (some (.object "com/example/rising_block/risingblock/io/YamlNode")) ws ({ frames := 0, cells := 0, slots := 0, locals := 0 } : Room) Z #[(.int (0 : Int32))] h0 (fun v h L => v = some (.ref wf) ∧ Fr Z.heap.size L ∧ h = h0) := by
  refine own_met (plainFor_of_name own_pn_com_example_rising_block_risingblock_io_YamlNode) ?_
  intro p e s m below meth c s₁ hx hby hml hown hnm hret hlk hZ e0 X0
  refine own_cast (show _ = (mkF m 0 #[.val (.int (0 : Int32))] []) by first | (simp [entryFrame, mkF, argsToLocals, Value.category]; done) | rfl) ?_
  refine own_st (s₁.setTop (mkF m 1 #[.val (.int (0 : Int32))] [(.int (0 : Int32))])) (fun tq kq => XS.iloadN X0.here hx rfl (hb hby own_d1_0) rfl kq) ?_
  refine own_st (s₁.setTop (mkF m 10 #[.val (.int (0 : Int32))] [])) (fun tq kq => XS.ifYes X0.here hx rfl (pc0 := 1) (pc' := 10) rfl (hb hby own_d1_1) rfl ((if0 _ _).trans (teq ((by decide) : (0 : Int32) = (0 : Int32))).1) (by decide) (by decide) kq) ?_
  obtain ⟨T1, X1, e1, st1⟩ := getS2 X0 hx hZ hown (host := "") (Or.inl (hw _ (List.mem_of_getElem? (i := 4) rfl))) Via.refl e0 (SF.ext O0.2) (g := (mkF m 10 #[.val (.int (0 : Int32))] [])) rfl (hb hby own_d1_10)
  refine own_st (T1.setTop (mkF m 13 #[.val (.int (0 : Int32))] [(.ref wf)])) st1 ?_
  exact own_ret X1 hlk (v := some (.ref wf)) (fun h => by rw [hret] at h; cases h) e1 (⟨rfl, (Fr.nil _), rfl⟩) (by decide) (by decide) (fun fs hr => retOut X1 hx hret rfl (Or.inr (Or.inr (Or.inr (Or.inr ⟨rfl, rfl, rfl⟩)))) (hb hby own_d1_13) hr)
theorem own_d1_4 : decode prog_21_method_6_code 4 = .ok (.getstatic 52, 3) := by decide +kernel
theorem own_d1_7 : decode prog_21_method_6_code 7 = .ok (.goto 6, 3) := by decide +kernel
set_option maxRecDepth 65536 in
set_option maxHeartbeats 40000000 in
theorem own_truth1 (l : Launch) (Z : State) (a0 : Array Value) (hw : ∀ d ∈ tables_1, d.before a0 Z = true) (ws : List Jvm.Cond) (wt wf : Addr) (h0 : Heap) (O0 : Old Z Z.heap.size h0) (ST : Sta Z Z.heap "com/example/rising_block/risingblock/io/YamlNode" "TRUE" "Lcom/example/rising_block/risingblock/io/YamlNode;" (.ref wt)) (SF : Sta Z Z.heap "com/example/rising_block/risingblock/io/YamlNode" "FALSE" "Lcom/example/rising_block/risingblock/io/YamlNode;" (.ref wf)) :
    ownMet l (⟨"com/example/rising_block/risingblock/io/YamlNode", "truth", "(Z)Lcom/example/rising_block/risingblock/io/YamlNode;"⟩ : MethodName) prog_21_method_6_code 1 (some (.object "com/example/rising_block/risingblock/io/YamlNode")) ws ({ frames := 0, cells := 0, slots := 0, locals := 0 } : Room) Z #[(.int (1 : Int32))] h0 (fun v h L => v = some (.ref wt) ∧ Fr Z.heap.size L ∧ h = h0) := by
  refine own_met (plainFor_of_name own_pn_com_example_rising_block_risingblock_io_YamlNode) ?_
  intro p e s m below meth c s₁ hx hby hml hown hnm hret hlk hZ e0 X0
  refine own_cast (show _ = (mkF m 0 #[.val (.int (1 : Int32))] []) by first | (simp [entryFrame, mkF, argsToLocals, Value.category]; done) | rfl) ?_
  refine own_st (s₁.setTop (mkF m 1 #[.val (.int (1 : Int32))] [(.int (1 : Int32))])) (fun tq kq => XS.iloadN X0.here hx rfl (hb hby own_d1_0) rfl kq) ?_
  refine own_st (s₁.setTop (mkF m 4 #[.val (.int (1 : Int32))] [])) (fun tq kq => XS.ifNo X0.here hx rfl (hb hby own_d1_1) rfl ((if0 _ _).trans (feq ((by decide) : ¬ ((1 : Int32) = (0 : Int32)))).1) kq) ?_
  obtain ⟨T1, X1, e1, st1⟩ := getS2 X0 hx hZ hown (host := "") (Or.inl (hw _ (List.mem_of_getElem? (i := 6) rfl))) Via.refl e0 (ST.ext O0.2) (g := (mkF m 4 #[.val (.int (1 : Int32))] [])) rfl (hb hby own_d1_4)
  refine own_st (T1.setTop (mkF m 7 #[.val (.int (1 : Int32))] [(.ref wt)])) st1 ?_
  refine own_st (T1.setTop (mkF m 13 #[.val (.int (1 : Int32))] [(.ref wt)])) (fun tq kq => XS.goto X1.here hx rfl (pc0 := 7) (pc' := 13) rfl (hb hby own_d1_7) (by decide) (by decide) kq) ?_
  exact own_ret X1 hlk (v := some (.ref wt)) (fun h => by rw [hret] at h; cases h) e1 (⟨rfl, (Fr.nil _), rfl⟩) (by decide) (by decide) (fun fs hr => retOut X1 hx hret rfl (Or.inr (Or.inr (Or.inr (Or.inr ⟨rfl, rfl, rfl⟩)))) (hb hby own_d1_13) hr)
theorem own_d7_0 : decode jdk_37_method_2_code 0 = .ok (.aload_n 0, 1) := by decide +kernel
theorem own_d7_1 : decode jdk_37_method_2_code 1 = .ok (.getfield 7, 3) := by decide +kernel
theorem own_d7_4 : decode jdk_37_method_2_code 4 = .ok (.ireturn, 1) := by decide +kernel
theorem own_pn_java_lang_Enum : plainName "java/lang/Enum" = true := by first | (simp [plainName, overriddenIn]; done) | decide +kernel
set_option maxRecDepth 65536 in
set_option maxHeartbeats 40000000 in
theorem own_ord (l : Launch) (Z : State) (a0 : Array Value) (hw : ∀ d ∈ tables_1, d.before a0 Z = true) (ws : List Jvm.Cond) (a : Addr) (n : Int32) (h0 : Heap) (O0 : Old Z Z.heap.size h0) (F : Fld Z h0 a "java/lang/Enum" "ordinal" "I" (.int n)) :
    ownMet l (⟨"java/lang/Enum", "ordinal", "()I"⟩ : MethodName) jdk_37_method_2_code 1 (some .int) ws ({ frames := 0, cells := 0, slots := 0, locals := 0 } : Room) Z #[(.ref a)] h0 (fun v h L => v = some (.int n) ∧ Fr Z.heap.size L ∧ h = h0) := by
  refine own_met (plainFor_of_name own_pn_java_lang_Enum) ?_
  intro p e s m below meth c s₁ hx hby hml hown hnm hret hlk hZ e0 X0
  refine own_cast (show _ = (mkF m 0 #[.val (.ref a)] []) by first | (simp [entryFrame, mkF, argsToLocals, Value.category]; done) | rfl) ?_
  refine own_st (s₁.setTop (mkF m 1 #[.val (.ref a)] [(.ref a)])) (fun tq kq => XS.aloadN X0.here hx rfl (hb hby own_d7_0) rfl (by rfl) kq) ?_
  obtain ⟨T1, X1, e1, st1⟩ := getF X0 hx hZ hown (host := "") (Or.inl (hw _ (List.mem_of_getElem? (i := 56) rfl))) Via.refl e0 F (g := (mkF m 1 #[.val (.ref a)] [(.ref a)])) rfl rfl (hb hby own_d7_1)
  refine own_st (T1.setTop (mkF m 4 #[.val (.ref a)] [(.int n)])) st1 ?_
  exact own_ret X1 hlk (v := some (.int n)) (fun h => by rw [hret] at h; cases h) e1 (⟨rfl, (Fr.nil _), rfl⟩) (by decide) (by decide) (fun fs hr => retI X1 hx hret (hb hby own_d7_4) hr)
theorem own_d4_0 : decode jdk_68_method_2_code 0 = .ok (.aload_n 0, 1) := by decide +kernel
theorem own_d4_1 : decode jdk_68_method_2_code 1 = .ok (.invokespecial 3, 3) := by decide +kernel
theorem own_d4_4 : decode jdk_68_method_2_code 4 = .ok (.getstatic 18, 3) := by decide +kernel
theorem own_d4_7 : decode jdk_68_method_2_code 7 = .ok (.ifCond .eq 18, 3) := by decide +kernel
theorem own_d4_10 : decode jdk_68_method_2_code 10 = .ok (.aload_n 0, 1) := by decide +kernel
theorem own_d4_11 : decode jdk_68_method_2_code 11 = .ok (.iload_n 1, 1) := by decide +kernel
theorem own_d4_12 : decode jdk_68_method_2_code 12 = .ok (.newarray .byte, 2) := by decide +kernel
theorem own_d4_14 : decode jdk_68_method_2_code 14 = .ok (.putfield 15, 3) := by decide +kernel
theorem own_d4_17 : decode jdk_68_method_2_code 17 = .ok (.aload_n 0, 1) := by decide +kernel
theorem own_d4_18 : decode jdk_68_method_2_code 18 = .ok (.iconst 0, 1) := by decide +kernel
theorem own_d4_19 : decode jdk_68_method_2_code 19 = .ok (.putfield 22, 3) := by decide +kernel
theorem own_d4_22 : decode jdk_68_method_2_code 22 = .ok (.goto 16, 3) := by decide +kernel
theorem own_d4_38 : decode jdk_68_method_2_code 38 = .ok (.return_, 1) := by decide +kernel
theorem own_pn_java_lang_AbstractStringBuilder : plainName "java/lang/AbstractStringBuilder" = true := by first | (simp [plainName, overriddenIn]; done) | decide +kernel
set_option maxRecDepth 65536 in
set_option maxHeartbeats 40000000 in
theorem own_asbInit_16 (l : Launch) (Z : State) (a0 : Array Value) (hw : ∀ d ∈ tables_1, d.before a0 Z = true) (ws : List Jvm.Cond) (cz : Int32) (a : Addr) (h0 : Heap) (O0 : Old Z Z.heap.size h0) (SC : Sta Z Z.heap "java/lang/String" "COMPACT_STRINGS" "Z" (.int cz)) (hcz : ¬ (cz = (0 : Int32))) (E0 : Exa Z h0 a "java/lang/StringBuilder") (g0 : Z.heap.size ≤ a) (F0 : Fld Z h0 a "java/lang/AbstractStringBuilder" "value" "[B" .null) (F1 : Fld Z h0 a "java/lang/AbstractStringBuilder" "coder" "B" (.int (0 : Int32))) (F2 : Fld Z h0 a "java/lang/AbstractStringBuilder" "count" "I" (.int (0 : Int32))) :
    ownMet l (⟨"java/lang/AbstractStringBuilder", "<init>", "(I)V"⟩ : MethodName) jdk_68_method_2_code 2 none ws ({ frames := 1, cells := 1, slots := 16, locals := 12 } : Room) Z #[(.ref a), (.int (16 : Int32))] h0 (fun v h L => ∃ (b : Addr) (kb : ClassId), v = none ∧ Fr Z.heap.size L ∧ Keep h0 h [a] ∧ Z.heap.size ≤ b ∧ h0.size ≤ b ∧ Fld Z h a "java/lang/AbstractStringBuilder" "value" "[B" (.ref b) ∧ Fld Z h a "java/lang/AbstractStringBuilder" "coder" "B" (.int (0 : Int32)) ∧ Fld Z h a "java/lang/AbstractStringBuilder" "count" "I" (.int (0 : Int32)) ∧ Arv Z h b kb .byte (16 : Int32) [(.int (0 : Int32)), (.int (0 : Int32)), (.int (0 : Int32)), (.int (0 : Int32)), (.int (0 : Int32)), (.int (0 : Int32)), (.int (0 : Int32)), (.int (0 : Int32)), (.int (0 : Int32)), (.int (0 : Int32)), (.int (0 : Int32)), (.int (0 : Int32)), (.int (0 : Int32)), (.int (0 : Int32)), (.int (0 : Int32)), (.int (0 : Int32))] (.int (0 : Int32))) := by
  refine own_met (plainFor_of_name own_pn_java_lang_AbstractStringBuilder) ?_
  intro p e s m below meth c s₁ hx hby hml hown hnm hret hlk hZ e0 X0
  refine own_cast (show _ = (mkF m 0 #[.val (.ref a), .val (.int (16 : Int32))] []) by first | (simp [entryFrame, mkF, argsToLocals, Value.category]; done) | rfl) ?_
  refine own_st (s₁.setTop (mkF m 1 #[.val (.ref a), .val (.int (16 : Int32))] [(.ref a)])) (fun tq kq => XS.aloadN X0.here hx rfl (hb hby own_d4_0) rfl (by rfl) kq) ?_
  obtain ⟨T1, X1, e1, st1⟩ := initO X0 hx hZ hown (hw _ (List.mem_of_getElem? (i := 33) rfl)) (hw _ (List.mem_of_getElem? (i := 34) rfl)) (hw _ (List.mem_of_getElem? (i := 35) rfl)) e0 (g := (mkF m 1 #[.val (.ref a), .val (.int (16 : Int32))] [(.ref a)])) rfl (by rw [hml]; rfl) rfl (hb hby own_d4_1) (by decide) (W := 0) (by show 2 * 0 + _ ≤ _; exact Nat.le_of_eq rfl) (by decide)
  refine own_st (T1.setTop (mkF m 4 #[.val (.ref a), .val (.int (16 : Int32))] [])) st1 ?_
  obtain ⟨T2, X2, e2, st2⟩ := getS2 X1 hx hZ hown (host := "") (Or.inl (hw _ (List.mem_of_getElem? (i := 36) rfl))) Via.refl e1 (SC.ext O0.2) (g := (mkF m 4 #[.val (.ref a), .val (.int (16 : Int32))] [])) rfl (hb hby own_d4_4)
  refine own_st (T2.setTop (mkF m 7 #[.val (.ref a), .val (.int (16 : Int32))] [(.int cz)])) st2 ?_
  refine own_st (T2.setTop (mkF m 10 #[.val (.ref a), .val (.int (16 : Int32))] [])) (fun tq kq => XS.ifNo X2.here hx rfl (hb hby own_d4_7) rfl ((if0 _ _).trans (feq (hcz : ¬ (cz = (0 : Int32)))).1) kq) ?_
  refine own_st (T2.setTop (mkF m 11 #[.val (.ref a), .val (.int (16 : Int32))] [(.ref a)])) (fun tq kq => XS.aloadN X2.here hx rfl (hb hby own_d4_10) rfl (by rfl) kq) ?_
  refine own_st (T2.setTop (mkF m 12 #[.val (.ref a), .val (.int (16 : Int32))] [(.int (16 : Int32)), (.ref a)])) (fun tq kq => XS.iloadN X2.here hx rfl (hb hby own_d4_11) rfl kq) ?_
  obtain ⟨T3, h3, cA3, X3, e3, E3, A3, st3⟩ := newP X2 hx hZ (hw _ (List.mem_of_getElem? (i := 11) rfl)) e2 (g := (mkF m 12 #[.val (.ref a), .val (.int (16 : Int32))] [(.int (16 : Int32)), (.ref a)])) rfl (hb hby own_d4_12) rfl (by decide) (cap := 16) (by decide) (by decide) (by decide) (by decide)
  obtain ⟨b3, g3⟩ : ∃ z, z = h0.size := ⟨_, rfl⟩
  have z3 : Z.heap.size ≤ b3 := Nat.le_trans O0.2.1 (Nat.le_of_eq g3.symm)
  have nea_3 : a ≠ b3 := Nat.ne_of_lt (Nat.lt_of_lt_of_le E0.lt (Nat.le_of_eq g3.symm))
  have s3 : h0.size ≤ b3 := Nat.le_trans (Keep.refl h0 [a]).1 (Nat.le_of_eq g3.symm)
  rw [← g3] at A3 st3
  have f4 := (E0.ext E3)
  have f5 := (F0.ext E3)
  have f6 := (F1.ext E3)
  have f7 := (F2.ext E3)
  have O3 := O0.ext E3
  have K3 := (Keep.refl h0 [a]).ext E3
  have f8 : Arv Z h3 b3 cA3 .byte (16 : Int32) [(.int (0 : Int32)), (.int (0 : Int32)), (.int (0 : Int32)), (.int (0 : Int32)), (.int (0 : Int32)), (.int (0 : Int32)), (.int (0 : Int32)), (.int (0 : Int32)), (.int (0 : Int32)), (.int (0 : Int32)), (.int (0 : Int32)), (.int (0 : Int32)), (.int (0 : Int32)), (.int (0 : Int32)), (.int (0 : Int32)), (.int (0 : Int32))] (.int (0 : Int32)) := (Arv.new A3 (by decide)).pad (pad_rep [] (.int (0 : Int32)) 16)
  refine own_st (T3.setTop (mkF m 14 #[.val (.ref a), .val (.int (16 : Int32))] [(.ref b3), (.ref a)])) st3 ?_
  obtain ⟨T9, h9, X9, e9, W9, st9⟩ := putF X3 hx hZ hown (host := "") (Or.inl (hw _ (List.mem_of_getElem? (i := 37) rfl))) Via.refl e3 f5 f4 (Or.inl (hw _ (List.mem_of_getElem? (i := 38) rfl))) (hw _ (List.mem_of_getElem? (i := 22) rfl)) (ty := (.array .byte)) (by decide) (by rfl) (by rfl) (g := (mkF m 14 #[.val (.ref a), .val (.int (16 : Int32))] [(.ref b3), (.ref a)])) rfl rfl (hb hby own_d4_14)
  have N9 := Fr.snoc X9 (Fr.nil _) g0
  have O9 := O3.wr W9 g0
  have K9 := K3.wr W9 (Or.inl (List.mem_of_getElem? (i := 0) rfl))
  have f10 := (f4.wr W9)
  have f12 := (f6.other W9 (Or.inr (slot_ne (Or.inl (hw _ (List.mem_of_getElem? (i := 40) rfl))) (Or.inl (hw _ (List.mem_of_getElem? (i := 38) rfl))) (by decide) (t := .byte) (t' := (.array .byte)) (by decide) (by decide))))
  have f13 := (f7.other W9 (Or.inr (slot_ne (Or.inl (hw _ (List.mem_of_getElem? (i := 84) rfl))) (Or.inl (hw _ (List.mem_of_getElem? (i := 38) rfl))) (by decide) (t := .int) (t' := (.array .byte)) (by decide) (by decide))))
  have f14 := (f8.other W9 (Ne.symm nea_3))
  have f15 := (f5.same W9)
  refine own_st (T9.setTop (mkF m 17 #[.val (.ref a), .val (.int (16 : Int32))] [])) st9 ?_
  refine own_st (T9.setTop (mkF m 18 #[.val (.ref a), .val (.int (16 : Int32))] [(.ref a)])) (fun tq kq => XS.aloadN X9.here hx rfl (hb hby own_d4_17) rfl (by rfl) kq) ?_
  refine own_st (T9.setTop (mkF m 19 #[.val (.ref a), .val (.int (16 : Int32))] [(.int (0 : Int32)), (.ref a)])) (fun tq kq => XS.iconst X9.here hx rfl (hb hby own_d4_18) kq) ?_
  obtain ⟨T16, h16, X16, e16, W16, st16⟩ := putF X9 hx hZ hown (host := "") (Or.inl (hw _ (List.mem_of_getElem? (i := 39) rfl))) Via.refl e9 f12 f10 (Or.inl (hw _ (List.mem_of_getElem? (i := 40) rfl))) (hw _ (List.mem_of_getElem? (i := 22) rfl)) (ty := .byte) (by decide) (by rfl) (by rfl) (g := (mkF m 19 #[.val (.ref a), .val (.int (16 : Int32))] [(.int (0 : Int32)), (.ref a)])) rfl rfl (hb hby own_d4_19)
  have N16 := Fr.snoc X16 N9 g0
  have O16 := O9.wr W16 g0
  have K16 := K9.wr W16 (Or.inl (List.mem_of_getElem? (i := 0) rfl))
  have f17 := (f10.wr W16)
  have f18 := (f15.other W16 (Or.inr (slot_ne (Or.inl (hw _ (List.mem_of_getElem? (i := 38) rfl))) (Or.inl (hw _ (List.mem_of_getElem? (i := 40) rfl))) (by decide) (t := (.array .byte)) (t' := .byte) (by decide) (by decide))))
  have f20 := (f13.other W16 (Or.inr (slot_ne (Or.inl (hw _ (List.mem_of_getElem? (i := 84) rfl))) (Or.inl (hw _ (List.mem_of_getElem? (i := 40) rfl))) (by decide) (t := .int) (t' := .byte) (by decide) (by decide))))
  have f21 := (f14.other W16 (Ne.symm nea_3))
  have f22 := (f12.same W16)
  refine own_st (T16.setTop (mkF m 22 #[.val (.ref a), .val (.int (16 : Int32))] [])) st16 ?_
  refine own_st (T16.setTop (mkF m 38 #[.val (.ref a), .val (.int (16 : Int32))] [])) (fun tq kq => XS.goto X16.here hx rfl (pc0 := 22) (pc' := 38) rfl (hb hby own_d4_22) (by decide) (by decide) kq) ?_
  exact own_ret X16 hlk (v := none) (fun _ => rfl) e16 (⟨_, _, rfl, N16, K16, z3, s3, f18, f22, f20, f21⟩) (by decide) (by decide) (fun fs hr => X16.returnOut hx hret (hb hby own_d4_38) hr)
theorem own_d3_0 : decode jdk_67_method_1_code 0 = .ok (.aload_n 0, 1) := by decide +kernel
theorem own_d3_1 : decode jdk_67_method_1_code 1 = .ok (.bipush 16, 2) := by decide +kernel
theorem own_pd__28I_29V : parseMethodDescriptor "(I)V" = some ⟨[.int], none⟩ := by decide +kernel
theorem own_d3_3 : decode jdk_67_method_1_code 3 = .ok (.invokespecial 1, 3) := by decide +kernel
theorem own_d3_6 : decode jdk_67_method_1_code 6 = .ok (.return_, 1) := by decide +kernel
theorem own_pn_java_lang_StringBuilder : plainName "java/lang/StringBuilder" = true := by first | (simp [plainName, overriddenIn]; done) | decide +kernel
set_option maxRecDepth 65536 in
set_option maxHeartbeats 40000000 in
theorem own_sbInit (l : Launch) (Z : State) (a0 : Array Value) (hw : ∀ d ∈ tables_1, d.before a0 Z = true) (ws : List Jvm.Cond) (cz : Int32) (a : Addr) (h0 : Heap) (O0 : Old Z Z.heap.size h0) (SC : Sta Z Z.heap "java/lang/String" "COMPACT_STRINGS" "Z" (.int cz)) (hcz : ¬ (cz = (0 : Int32))) (E0 : Exa Z h0 a "java/lang/StringBuilder") (g0 : Z.heap.size ≤ a) (F0 : Fld Z h0 a "java/lang/AbstractStringBuilder" "value" "[B" .null) (F1 : Fld Z h0 a "java/lang/AbstractStringBuilder" "coder" "B" (.int (0 : Int32))) (F2 : Fld Z h0 a "java/lang/AbstractStringBuilder" "count" "I" (.int (0 : Int32))) :
    ownMet l (⟨"java/lang/StringBuilder", "<init>", "()V"⟩ : MethodName) jdk_67_method_1_code 1 none ws ({ frames := 2, cells := 1, slots := 16, locals := 25 } : Room) Z #[(.ref a)] h0 (fun v h L => ∃ (b : Addr) (kb : ClassId), v = none ∧ Fr Z.heap.size L ∧ Keep h0 h [a] ∧ Z.heap.size ≤ b ∧ h0.size ≤ b ∧ Fld Z h a "java/lang/AbstractStringBuilder" "value" "[B" (.ref b) ∧ Fld Z h a "java/lang/AbstractStringBuilder" "coder" "B" (.int (0 : Int32)) ∧ Fld Z h a "java/lang/AbstractStringBuilder" "count" "I" (.int (0 : Int32)) ∧ Arv Z h b kb .byte (16 : Int32) [(.int (0 : Int32)), (.int (0 : Int32)), (.int (0 : Int32)), (.int (0 : Int32)), (.int (0 : Int32)), (.int (0 : Int32)), (.int (0 : Int32)), (.int (0 : Int32)), (.int (0 : Int32)), (.int (0 : Int32)), (.int (0 : Int32)), (.int (0 : Int32)), (.int (0 : Int32)), (.int (0 : Int32)), (.int (0 : Int32)), (.int (0 : Int32))] (.int (0 : Int32))) := by
  refine own_met (plainFor_of_name own_pn_java_lang_StringBuilder) ?_
  intro p e s m below meth c s₁ hx hby hml hown hnm hret hlk hZ e0 X0
  refine own_cast (show _ = (mkF m 0 #[.val (.ref a)] []) by first | (simp [entryFrame, mkF, argsToLocals, Value.category]; done) | rfl) ?_
  refine own_st (s₁.setTop (mkF m 1 #[.val (.ref a)] [(.ref a)])) (fun tq kq => XS.aloadN X0.here hx rfl (hb hby own_d3_0) rfl (by rfl) kq) ?_
  refine own_st (s₁.setTop (mkF m 3 #[.val (.ref a)] [(.int (16 : Int32)), (.ref a)])) (fun tq kq => XS.bipush X0.here hx rfl (hb hby own_d3_1) kq) ?_
  obtain ⟨v1, T1, L1, X1, q1, st1⟩ := own_callI X0 hx hZ hown (y := (⟨"java/lang/AbstractStringBuilder", "<init>", "(I)V"⟩ : MethodName)) rfl (hw _ (List.mem_of_getElem? (i := 27) rfl)) (hw _ (List.mem_of_getElem? (i := 28) rfl)) (hw _ (List.mem_of_getElem? (i := 31) rfl)) (hw _ (List.mem_of_getElem? (i := 32) rfl)) (a := a) (argsL := [(.int (16 : Int32))]) (own_asbInit_16 l Z a0 hw [] cz a h0 O0 SC hcz E0 g0 F0 F1 F2) 0 (by decide) (by decide) (by decide) (by decide) (by decide) e0 (g := (mkF m 3 #[.val (.ref a)] [(.int (16 : Int32)), (.ref a)])) rfl (by rw [hml]; rfl) [] (lenOf own_pd__28I_29V rfl) rfl (by show 2 * 0 + _ ≤ _; exact Nat.le_of_eq rfl) (hb hby own_d3_3)
  obtain ⟨b1, kb1, rfl, N1q, K1q, z1, s1q, fv1, fc1, fn1, f1q⟩ := q1
  have N1 := Fr.app (Fr.nil _) N1q
  have nf1_a : a ≠ b1 := Nat.ne_of_lt (Nat.lt_of_lt_of_le E0.lt s1q)
  have s1 : h0.size ≤ b1 := Nat.le_trans (Keep.refl h0 [a]).1 s1q
  have f2 := (E0.keep K1q)
  have O1 := O0.keep K1q (allS g0 all0)
  have K1 := (Keep.refl h0 [a]).trans K1q (allS (Or.inl (List.mem_of_getElem? (i := 0) rfl)) all0)
  refine own_st (T1.setTop (mkF m 6 #[.val (.ref a)] [])) st1 ?_
  exact own_ret X1 hlk (v := none) (fun _ => rfl) rfl (⟨_, _, rfl, N1, K1, z1, s1, fv1, fc1, fn1, f1q⟩) (by decide) (by decide) (fun fs hr => X1.returnOut hx hret (hb hby own_d3_6) hr)
theorem own_d11_0 : decode jdk_42_method_152_code 0 = .ok (.getstatic 38, 3) := by decide +kernel
theorem own_d11_3 : decode jdk_42_method_152_code 3 = .ok (.ifCond .eq 10, 3) := by decide +kernel
theorem own_d11_6 : decode jdk_42_method_152_code 6 = .ok (.aload_n 0, 1) := by decide +kernel
theorem own_d11_7 : decode jdk_42_method_152_code 7 = .ok (.getfield 15, 3) := by decide +kernel
theorem own_d11_10 : decode jdk_42_method_152_code 10 = .ok (.goto 4, 3) := by decide +kernel
theorem own_d11_14 : decode jdk_42_method_152_code 14 = .ok (.ireturn, 1) := by decide +kernel
theorem own_pn_java_lang_String : plainName "java/lang/String" = true := by first | (simp [plainName, overriddenIn]; done) | decide +kernel
set_option maxRecDepth 65536 in
set_option maxHeartbeats 40000000 in
theorem own_scoder (l : Launch) (Z : State) (a0 : Array Value) (hw : ∀ d ∈ tables_1, d.before a0 Z = true) (ws : List Jvm.Cond) (cz : Int32) (a : Addr) (h0 : Heap) (O0 : Old Z Z.heap.size h0) (SC : Sta Z Z.heap "java/lang/String" "COMPACT_STRINGS" "Z" (.int cz)) (hcz : ¬ (cz = (0 : Int32))) (Ca : Fld Z h0 a "java/lang/String" "coder" "B" (.int (0 : Int32))) :
    ownMet l (⟨"java/lang/String", "coder", "()B"⟩ : MethodName) jdk_42_method_152_code 1 (some .byte) ws ({ frames := 0, cells := 0, slots := 0, locals := 0 } : Room) Z #[(.ref a)] h0 (fun v h L => v = some (.int (0 : Int32)) ∧ Fr Z.heap.size L ∧ h = h0) := by
  refine own_met (plainFor_of_name own_pn_java_lang_String) ?_
  intro p e s m below meth c s₁ hx hby hml hown hnm hret hlk hZ e0 X0
  refine own_cast (show _ = (mkF m 0 #[.val (.ref a)] []) by first | (simp [entryFrame, mkF, argsToLocals, Value.category]; done) | rfl) ?_
  obtain ⟨T1, X1, e1, st1⟩ := getS2 X0 hx hZ hown (host := "") (Or.inl (hw _ (List.mem_of_getElem? (i := 81) rfl))) Via.refl e0 (SC.ext O0.2) (g := (mkF m 0 #[.val (.ref a)] [])) rfl (hb hby own_d11_0)
  refine own_st (T1.setTop (mkF m 3 #[.val (.ref a)] [(.int cz)])) st1 ?_
  refine own_st (T1.setTop (mkF m 6 #[.val (.ref a)] [])) (fun tq kq => XS.ifNo X1.here hx rfl (hb hby own_d11_3) rfl ((if0 _ _).trans (feq (hcz : ¬ (cz = (0 : Int32)))).1) kq) ?_
  refine own_st (T1.setTop (mkF m 7 #[.val (.ref a)] [(.ref a)])) (fun tq kq => XS.aloadN X1.here hx rfl (hb hby own_d11_6) rfl (by rfl) kq) ?_
  obtain ⟨T2, X2, e2, st2⟩ := getF X1 hx hZ hown (host := "") (Or.inl (hw _ (List.mem_of_getElem? (i := 82) rfl))) Via.refl e1 Ca (g := (mkF m 7 #[.val (.ref a)] [(.ref a)])) rfl rfl (hb hby own_d11_7)
  refine own_st (T2.setTop (mkF m 10 #[.val (.ref a)] [(.int (0 : Int32))])) st2 ?_
  refine own_st (T2.setTop (mkF m 14 #[.val (.ref a)] [(.int (0 : Int32))])) (fun tq kq => XS.goto X2.here hx rfl (pc0 := 10) (pc' := 14) rfl (hb hby own_d11_10) (by decide) (by decide) kq) ?_
  exact own_ret X2 hlk (v := some (.int (0 : Int32))) (fun h => by rw [hret] at h; cases h) e2 (⟨rfl, (Fr.nil _), rfl⟩) (by decide) (by decide) (fun fs hr => own_retN X2 hx (t := .byte) hret (by simp) (hb hby own_d11_14) (by decide) hr)
theorem own_d10_0 : decode jdk_42_method_54_code 0 = .ok (.aload_n 0, 1) := by decide +kernel
theorem own_d10_1 : decode jdk_42_method_54_code 1 = .ok (.getfield 9, 3) := by decide +kernel
theorem own_d10_4 : decode jdk_42_method_54_code 4 = .ok (.arraylength, 1) := by decide +kernel
theorem own_d10_5 : decode jdk_42_method_54_code 5 = .ok (.aload_n 0, 1) := by decide +kernel
theorem own_pd__28_29B : parseMethodDescriptor "()B" = some ⟨[], some .byte⟩ := by decide +kernel
theorem own_d10_6 : decode jdk_42_method_54_code 6 = .ok (.invokevirtual 335, 3) := by decide +kernel
theorem own_d10_9 : decode jdk_42_method_54_code 9 = .ok (.ishr, 1) := by decide +kernel
theorem own_d10_10 : decode jdk_42_method_54_code 10 = .ok (.ireturn, 1) := by decide +kernel
set_option maxRecDepth 65536 in
set_option maxHeartbeats 40000000 in
theorem own_slen_4 (l : Launch) (Z : State) (a0 : Array Value) (hw : ∀ d ∈ tables_1, d.before a0 Z = true) (ws : List Jvm.Cond) (cz : Int32) (a t : Addr) (kt : ClassId) (vs : List Value) (h0 : Heap) (O0 : Old Z Z.heap.size h0) (SC : Sta Z Z.heap "java/lang/String" "COMPACT_STRINGS" "Z" (.int cz)) (hcz : ¬ (cz = (0 : Int32))) (Ea : Exa Z h0 a "java/lang/String") (Va : Fld Z h0 a "java/lang/String" "value" "[B" (.ref t)) (Ca : Fld Z h0 a "java/lang/String" "coder" "B" (.int (0 : Int32))) (Aa : Arv Z h0 t kt .byte (4 : Int32) vs (.int (0 : Int32))) :
    ownMet l (⟨"java/lang/String", "length", "()I"⟩ : MethodName) jdk_42_method_54_code 1 (some .int) ws ({ frames := 1, cells := 0, slots := 0, locals := 13 } : Room) Z #[(.ref a)] h0 (fun v h L => v = some (.int (4 : Int32)) ∧ Fr Z.heap.size L ∧ h = h0) := by
  refine own_met (plainFor_of_name own_pn_java_lang_String) ?_
  intro p e s m below meth c s₁ hx hby hml hown hnm hret hlk hZ e0 X0
  refine own_cast (show _ = (mkF m 0 #[.val (.ref a)] []) by first | (simp [entryFrame, mkF, argsToLocals, Value.category]; done) | rfl) ?_
  refine own_st (s₁.setTop (mkF m 1 #[.val (.ref a)] [(.ref a)])) (fun tq kq => XS.aloadN X0.here hx rfl (hb hby own_d10_0) rfl (by rfl) kq) ?_
  obtain ⟨T1, X1, e1, st1⟩ := getF X0 hx hZ hown (host := "") (Or.inl (hw _ (List.mem_of_getElem? (i := 75) rfl))) Via.refl e0 Va (g := (mkF m 1 #[.val (.ref a)] [(.ref a)])) rfl rfl (hb hby own_d10_1)
  refine own_st (T1.setTop (mkF m 4 #[.val (.ref a)] [(.ref t)])) st1 ?_
  obtain ⟨cl2, q2a, q2b, q2c, q2d, q2e, q2f⟩ := id Aa
  refine own_st (T1.setTop (mkF m 5 #[.val (.ref a)] [(.int (4 : Int32))])) (fun tq kq => X1.arraylength hx (by rw [e1]; exact q2a.1) (State.isArrayOf_alike hZ.alike q2a.2.1) (g := (mkF m 4 #[.val (.ref a)] [(.ref t)])) rfl rfl (hb hby own_d10_4) tq (by rw [len_of q2c q2d]; exact kq)) ?_
  refine own_st (T1.setTop (mkF m 6 #[.val (.ref a)] [(.ref a), (.int (4 : Int32))])) (fun tq kq => XS.aloadN X1.here hx rfl (hb hby own_d10_5) rfl (by rfl) kq) ?_
  obtain ⟨v3, T3, L3, X3, q3, st3⟩ := own_callV X1 hx hZ hown (y := (⟨"java/lang/String", "coder", "()B"⟩ : MethodName)) (z := (⟨"java/lang/String", "coder", "()B"⟩ : MethodName)) (hw _ (List.mem_of_getElem? (i := 76) rfl)) (hw _ (List.mem_of_getElem? (i := 77) rfl)) (notFace_of_selects (args := a0) (hw _ (List.mem_of_getElem? (i := 79) rfl))) (hw _ (List.mem_of_getElem? (i := 79) rfl)) (hw _ (List.mem_of_getElem? (i := 78) rfl)) (hw _ (List.mem_of_getElem? (i := 9) rfl)) (hw _ (List.mem_of_getElem? (i := 80) rfl)) Ea (b := a) (argsL := []) (own_scoder l Z a0 hw [] cz a h0 O0 SC hcz Ca) 1 (by decide) (by decide) (by decide) (by decide) (by decide) e1 (g := (mkF m 6 #[.val (.ref a)] [(.ref a), (.int (4 : Int32))])) rfl (by rw [hml]; rfl) [(.int (4 : Int32))] (lenOf own_pd__28_29B rfl) rfl (by show 2 * 0 + _ ≤ _; exact Nat.le_of_eq rfl) (hb hby own_d10_6)
  obtain ⟨rfl, N3q, e3⟩ := q3
  have N3 := Fr.app (Fr.nil _) N3q
  refine own_st (T3.setTop (mkF m 9 #[.val (.ref a)] [(.int (0 : Int32)), (.int (4 : Int32))])) st3 ?_
  refine own_st (T3.setTop (mkF m 10 #[.val (.ref a)] [(.int (4 : Int32))])) (fun tq kq => XS.ishr X3.here hx rfl (hb hby own_d10_9) rfl kq) ?_
  exact own_ret X3 hlk (v := some (.int (4 : Int32))) (fun h => by rw [hret] at h; cases h) e3 (⟨rfl, N3, rfl⟩) (by decide) (by decide) (fun fs hr => retI X3 hx hret (hb hby own_d10_10) hr)
theorem own_d12_0 : decode jdk_68_method_9_code 0 = .ok (.aload_n 0, 1) := by decide +kernel
theorem own_d12_1 : decode jdk_68_method_9_code 1 = .ok (.getfield 15, 3) := by decide +kernel
theorem own_d12_4 : decode jdk_68_method_9_code 4 = .ok (.arraylength, 1) := by decide +kernel
theorem own_d12_5 : decode jdk_68_method_9_code 5 = .ok (.aload_n 0, 1) := by decide +kernel
theorem own_d12_6 : decode jdk_68_method_9_code 6 = .ok (.getfield 22, 3) := by decide +kernel
theorem own_d12_9 : decode jdk_68_method_9_code 9 = .ok (.ishr, 1) := by decide +kernel
theorem own_d12_10 : decode jdk_68_method_9_code 10 = .ok (.istore_n 2, 1) := by decide +kernel
theorem own_d12_11 : decode jdk_68_method_9_code 11 = .ok (.iload_n 1, 1) := by decide +kernel
theorem own_d12_12 : decode jdk_68_method_9_code 12 = .ok (.iload_n 2, 1) := by decide +kernel
theorem own_d12_13 : decode jdk_68_method_9_code 13 = .ok (.isub, 1) := by decide +kernel
theorem own_d12_14 : decode jdk_68_method_9_code 14 = .ok (.ifCond .le 24, 3) := by decide +kernel
theorem own_d12_38 : decode jdk_68_method_9_code 38 = .ok (.return_, 1) := by decide +kernel
set_option maxRecDepth 65536 in
set_option maxHeartbeats 40000000 in
theorem own_ens_16_4 (l : Launch) (Z : State) (a0 : Array Value) (hw : ∀ d ∈ tables_1, d.before a0 Z = true) (ws : List Jvm.Cond) (a b : Addr) (kb : ClassId) (vs : List Value) (h0 : Heap) (O0 : Old Z Z.heap.size h0) (E0 : Exa Z h0 a "java/lang/StringBuilder") (FV : Fld Z h0 a "java/lang/AbstractStringBuilder" "value" "[B" (.ref b)) (FC : Fld Z h0 a "java/lang/AbstractStringBuilder" "coder" "B" (.int (0 : Int32))) (AB : Arv Z h0 b kb .byte (16 : Int32) vs (.int (0 : Int32))) :
    ownMet l (⟨"java/lang/AbstractStringBuilder", "ensureCapacityInternal", "(I)V"⟩ : MethodName) jdk_68_method_9_code 3 none ws ({ frames := 0, cells := 0, slots := 0, locals := 0 } : Room) Z #[(.ref a), (.int (4 : Int32))] h0 (fun v h L => v = none ∧ Fr Z.heap.size L ∧ h = h0) := by
  refine own_met (plainFor_of_name own_pn_java_lang_AbstractStringBuilder) ?_
  intro p e s m below meth c s₁ hx hby hml hown hnm hret hlk hZ e0 X0
  refine own_cast (show _ = (mkF m 0 #[.val (.ref a), .val (.int (4 : Int32)), .unset] []) by first | (simp [entryFrame, mkF, argsToLocals, Value.category]; done) | rfl) ?_
  refine own_st (s₁.setTop (mkF m 1 #[.val (.ref a), .val (.int (4 : Int32)), .unset] [(.ref a)])) (fun tq kq => XS.aloadN X0.here hx rfl (hb hby own_d12_0) rfl (by rfl) kq) ?_
  obtain ⟨T1, X1, e1, st1⟩ := getF X0 hx hZ hown (host := "") (Or.inl (hw _ (List.mem_of_getElem? (i := 37) rfl))) Via.refl e0 FV (g := (mkF m 1 #[.val (.ref a), .val (.int (4 : Int32)), .unset] [(.ref a)])) rfl rfl (hb hby own_d12_1)
  refine own_st (T1.setTop (mkF m 4 #[.val (.ref a), .val (.int (4 : Int32)), .unset] [(.ref b)])) st1 ?_
  obtain ⟨cl2, q2a, q2b, q2c, q2d, q2e, q2f⟩ := id AB
  refine own_st (T1.setTop (mkF m 5 #[.val (.ref a), .val (.int (4 : Int32)), .unset] [(.int (16 : Int32))])) (fun tq kq => X1.arraylength hx (by rw [e1]; exact q2a.1) (State.isArrayOf_alike hZ.alike q2a.2.1) (g := (mkF m 4 #[.val (.ref a), .val (.int (4 : Int32)), .unset] [(.ref b)])) rfl rfl (hb hby own_d12_4) tq (by rw [len_of q2c q2d]; exact kq)) ?_
  refine own_st (T1.setTop (mkF m 6 #[.val (.ref a), .val (.int (4 : Int32)), .unset] [(.ref a), (.int (16 : Int32))])) (fun tq kq => XS.aloadN X1.here hx rfl (hb hby own_d12_5) rfl (by rfl) kq) ?_
  obtain ⟨T3, X3, e3, st3⟩ := getF X1 hx hZ hown (host := "") (Or.inl (hw _ (List.mem_of_getElem? (i := 39) rfl))) Via.refl e1 FC (g := (mkF m 6 #[.val (.ref a), .val (.int (4 : Int32)), .unset] [(.ref a), (.int (16 : Int32))])) rfl rfl (hb hby own_d12_6)
  refine own_st (T3.setTop (mkF m 9 #[.val (.ref a), .val (.int (4 : Int32)), .unset] [(.int (0 : Int32)), (.int (16 : Int32))])) st3 ?_
  refine own_st (T3.setTop (mkF m 10 #[.val (.ref a), .val (.int (4 : Int32)), .unset] [(.int (16 : Int32))])) (fun tq kq => XS.ishr X3.here hx rfl (hb hby own_d12_9) rfl kq) ?_
  refine own_st (T3.setTop (mkF m 11 #[.val (.ref a), .val (.int (4 : Int32)), .val (.int (16 : Int32))] [])) (fun tq kq => XS.istoreN X3.here hx rfl (hb hby own_d12_10) rfl (l' := #[.val (.ref a), .val (.int (4 : Int32)), .val (.int (16 : Int32))]) rfl kq) ?_
  refine own_st (T3.setTop (mkF m 12 #[.val (.ref a), .val (.int (4 : Int32)), .val (.int (16 : Int32))] [(.int (4 : Int32))])) (fun tq kq => XS.iloadN X3.here hx rfl (hb hby own_d12_11) rfl kq) ?_
  refine own_st (T3.setTop (mkF m 13 #[.val (.ref a), .val (.int (4 : Int32)), .val (.int (16 : Int32))] [(.int (16 : Int32)), (.int (4 : Int32))])) (fun tq kq => XS.iloadN X3.here hx rfl (hb hby own_d12_12) rfl kq) ?_
  refine own_st (T3.setTop (mkF m 14 #[.val (.ref a), .val (.int (4 : Int32)), .val (.int (16 : Int32))] [(.int (-12 : Int32))])) (fun tq kq => XS.isub X3.here hx rfl (hb hby own_d12_13) rfl kq) ?_
  refine own_st (T3.setTop (mkF m 38 #[.val (.ref a), .val (.int (4 : Int32)), .val (.int (16 : Int32))] [])) (fun tq kq => XS.ifYes X3.here hx rfl (pc0 := 14) (pc' := 38) rfl (hb hby own_d12_14) rfl ((if0 _ _).trans (flt ((by decide) : ¬ ((0 : Int32) < (-12 : Int32)))).2.2.2) (by decide) (by decide) kq) ?_
  exact own_ret X3 hlk (v := none) (fun _ => rfl) e3 (⟨rfl, (Fr.nil _), rfl⟩) (by decide) (by decide) (fun fs hr => X3.returnOut hx hret (hb hby own_d12_38) hr)
theorem own_d14_0 : decode jdk_68_method_71_code 0 = .ok (.getstatic 18, 3) := by decide +kernel
theorem own_d14_3 : decode jdk_68_method_71_code 3 = .ok (.ifCond .eq 18, 3) := by decide +kernel
theorem own_d14_6 : decode jdk_68_method_71_code 6 = .ok (.aload_n 0, 1) := by decide +kernel
theorem own_d14_7 : decode jdk_68_method_71_code 7 = .ok (.getfield 22, 3) := by decide +kernel
theorem own_d14_10 : decode jdk_68_method_71_code 10 = .ok (.aload_n 1, 1) := by decide +kernel
theorem own_d14_11 : decode jdk_68_method_71_code 11 = .ok (.invokevirtual 40, 3) := by decide +kernel
theorem own_d14_14 : decode jdk_68_method_71_code 14 = .ok (.if_icmp .eq 7, 3) := by decide +kernel
theorem own_d14_21 : decode jdk_68_method_71_code 21 = .ok (.return_, 1) := by decide +kernel
set_option maxRecDepth 65536 in
set_option maxHeartbeats 40000000 in
theorem own_infl (l : Launch) (Z : State) (a0 : Array Value) (hw : ∀ d ∈ tables_1, d.before a0 Z = true) (ws : List Jvm.Cond) (cz : Int32) (a sx : Addr) (h0 : Heap) (O0 : Old Z Z.heap.size h0) (SC : Sta Z Z.heap "java/lang/String" "COMPACT_STRINGS" "Z" (.int cz)) (hcz : ¬ (cz = (0 : Int32))) (E0 : Exa Z h0 a "java/lang/StringBuilder") (FC : Fld Z h0 a "java/lang/AbstractStringBuilder" "coder" "B" (.int (0 : Int32))) (ES : Exa Z h0 sx "java/lang/String") (CS : Fld Z h0 sx "java/lang/String" "coder" "B" (.int (0 : Int32))) :
    ownMet l (⟨"java/lang/AbstractStringBuilder", "inflateIfNeededFor", "(Ljava/lang/String;)V"⟩ : MethodName) jdk_68_method_71_code 2 none ws ({ frames := 1, cells := 0, slots := 0, locals := 13 } : Room) Z #[(.ref a), (.ref sx)] h0 (fun v h L => v = none ∧ Fr Z.heap.size L ∧ h = h0) := by
  refine own_met (plainFor_of_name own_pn_java_lang_AbstractStringBuilder) ?_
  intro p e s m below meth c s₁ hx hby hml hown hnm hret hlk hZ e0 X0
  refine own_cast (show _ = (mkF m 0 #[.val (.ref a), .val (.ref sx)] []) by first | (simp [entryFrame, mkF, argsToLocals, Value.category]; done) | rfl) ?_
  obtain ⟨T1, X1, e1, st1⟩ := getS2 X0 hx hZ hown (host := "") (Or.inl (hw _ (List.mem_of_getElem? (i := 36) rfl))) Via.refl e0 (SC.ext O0.2) (g := (mkF m 0 #[.val (.ref a), .val (.ref sx)] [])) rfl (hb hby own_d14_0)
  refine own_st (T1.setTop (mkF m 3 #[.val (.ref a), .val (.ref sx)] [(.int cz)])) st1 ?_
  refine own_st (T1.setTop (mkF m 6 #[.val (.ref a), .val (.ref sx)] [])) (fun tq kq => XS.ifNo X1.here hx rfl (hb hby own_d14_3) rfl ((if0 _ _).trans (feq (hcz : ¬ (cz = (0 : Int32)))).1) kq) ?_
  refine own_st (T1.setTop (mkF m 7 #[.val (.ref a), .val (.ref sx)] [(.ref a)])) (fun tq kq => XS.aloadN X1.here hx rfl (hb hby own_d14_6) rfl (by rfl) kq) ?_
  obtain ⟨T2, X2, e2, st2⟩ := getF X1 hx hZ hown (host := "") (Or.inl (hw _ (List.mem_of_getElem? (i := 39) rfl))) Via.refl e1 FC (g := (mkF m 7 #[.val (.ref a), .val (.ref sx)] [(.ref a)])) rfl rfl (hb hby own_d14_7)
  refine own_st (T2.setTop (mkF m 10 #[.val (.ref a), .val (.ref sx)] [(.int (0 : Int32))])) st2 ?_
  refine own_st (T2.setTop (mkF m 11 #[.val (.ref a), .val (.ref sx)] [(.ref sx), (.int (0 : Int32))])) (fun tq kq => XS.aloadN X2.here hx rfl (hb hby own_d14_10) rfl (by rfl) kq) ?_
  obtain ⟨v3, T3, L3, X3, q3, st3⟩ := own_callV X2 hx hZ hown (y := (⟨"java/lang/String", "coder", "()B"⟩ : MethodName)) (z := (⟨"java/lang/String", "coder", "()B"⟩ : MethodName)) (hw _ (List.mem_of_getElem? (i := 100) rfl)) (hw _ (List.mem_of_getElem? (i := 77) rfl)) (notFace_of_selects (args := a0) (hw _ (List.mem_of_getElem? (i := 79) rfl))) (hw _ (List.mem_of_getElem? (i := 79) rfl)) (hw _ (List.mem_of_getElem? (i := 78) rfl)) (hw _ (List.mem_of_getElem? (i := 9) rfl)) (hw _ (List.mem_of_getElem? (i := 80) rfl)) ES (b := sx) (argsL := []) (own_scoder l Z a0 hw [] cz sx h0 O0 SC hcz CS) 1 (by decide) (by decide) (by decide) (by decide) (by decide) e2 (g := (mkF m 11 #[.val (.ref a), .val (.ref sx)] [(.ref sx), (.int (0 : Int32))])) rfl (by rw [hml]; rfl) [(.int (0 : Int32))] (lenOf own_pd__28_29B rfl) rfl (by show 2 * 0 + _ ≤ _; exact Nat.le_of_eq rfl) (hb hby own_d14_11)
  obtain ⟨rfl, N3q, e3⟩ := q3
  have N3 := Fr.app (Fr.nil _) N3q
  refine own_st (T3.setTop (mkF m 14 #[.val (.ref a), .val (.ref sx)] [(.int (0 : Int32)), (.int (0 : Int32))])) st3 ?_
  refine own_st (T3.setTop (mkF m 21 #[.val (.ref a), .val (.ref sx)] [])) (fun tq kq => XS.icmpYes X3.here hx rfl (pc0 := 14) (pc' := 21) rfl (hb hby own_d14_14) rfl (teq ((by decide) : (0 : Int32) = (0 : Int32))).1 (by decide) (by decide) kq) ?_
  exact own_ret X3 hlk (v := none) (fun _ => rfl) e3 (⟨rfl, N3, rfl⟩) (by decide) (by decide) (fun fs hr => X3.returnOut hx hret (hb hby own_d14_21) hr)
theorem own_d15_0 : decode jdk_42_method_147_code 0 = .ok (.aload_n 0, 1) := by decide +kernel
theorem own_d15_1 : decode jdk_42_method_147_code 1 = .ok (.invokevirtual 335, 3) := by decide +kernel
theorem own_d15_4 : decode jdk_42_method_147_code 4 = .ok (.iload_n 3, 1) := by decide +kernel
theorem own_d15_5 : decode jdk_42_method_147_code 5 = .ok (.if_icmp .ne 23, 3) := by decide +kernel
theorem own_d15_8 : decode jdk_42_method_147_code 8 = .ok (.aload_n 0, 1) := by decide +kernel
theorem own_d15_9 : decode jdk_42_method_147_code 9 = .ok (.getfield 9, 3) := by decide +kernel
theorem own_d15_12 : decode jdk_42_method_147_code 12 = .ok (.iconst 0, 1) := by decide +kernel
theorem own_d15_13 : decode jdk_42_method_147_code 13 = .ok (.aload_n 1, 1) := by decide +kernel
theorem own_d15_14 : decode jdk_42_method_147_code 14 = .ok (.iload_n 2, 1) := by decide +kernel
theorem own_d15_15 : decode jdk_42_method_147_code 15 = .ok (.iload_n 3, 1) := by decide +kernel
theorem own_d15_16 : decode jdk_42_method_147_code 16 = .ok (.ishl, 1) := by decide +kernel
theorem own_d15_17 : decode jdk_42_method_147_code 17 = .ok (.aload_n 0, 1) := by decide +kernel
theorem own_d15_18 : decode jdk_42_method_147_code 18 = .ok (.getfield 9, 3) := by decide +kernel
theorem own_d15_21 : decode jdk_42_method_147_code 21 = .ok (.arraylength, 1) := by decide +kernel
theorem own_d15_22 : decode jdk_42_method_147_code 22 = .ok (.invokestatic 212, 3) := by decide +kernel
theorem own_d15_25 : decode jdk_42_method_147_code 25 = .ok (.goto 18, 3) := by decide +kernel
theorem own_d15_43 : decode jdk_42_method_147_code 43 = .ok (.return_, 1) := by decide +kernel
set_option maxRecDepth 65536 in
set_option maxHeartbeats 40000000 in
theorem own_gb_4_16_0 (l : Launch) (Z : State) (a0 : Array Value) (hw : ∀ d ∈ tables_1, d.before a0 Z = true) (ws : List Jvm.Cond) (cz : Int32) (sx t b : Addr) (kt kb : ClassId) (x0 x1 x2 x3 : Int32) (y0 y1 y2 y3 y4 y5 y6 y7 y8 y9 y10 y11 y12 y13 y14 y15 : Int32) (h0 : Heap) (O0 : Old Z Z.heap.size h0) (SC : Sta Z Z.heap "java/lang/String" "COMPACT_STRINGS" "Z" (.int cz)) (hcz : ¬ (cz = (0 : Int32))) (Esx : Exa Z h0 sx "java/lang/String") (Vsx : Fld Z h0 sx "java/lang/String" "value" "[B" (.ref t)) (Csx : Fld Z h0 sx "java/lang/String" "coder" "B" (.int (0 : Int32))) (Asx : Arv Z h0 t kt .byte (4 : Int32) [(.int x0), (.int x1), (.int x2), (.int x3)] (.int (0 : Int32))) (AB : Arv Z h0 b kb .byte (16 : Int32) [(.int y0), (.int y1), (.int y2), (.int y3), (.int y4), (.int y5), (.int y6), (.int y7), (.int y8), (.int y9), (.int y10), (.int y11), (.int y12), (.int y13), (.int y14), (.int y15)] (.int (0 : Int32))) (gb : Z.heap.size ≤ b) (tb : t ≠ b) (sxb : sx ≠ b) :
    ownMet l (⟨"java/lang/String", "getBytes", "([BIB)V"⟩ : MethodName) jdk_42_method_147_code 4 none ws ({ frames := 1, cells := 0, slots := 0, locals := 18 } : Room) Z #[(.ref sx), (.ref b), (.int (0 : Int32)), (.int (0 : Int32))] h0 (fun v h L => v = none ∧ Fr Z.heap.size L ∧ Keep h0 h [b] ∧ Arv Z h b kb .byte (16 : Int32) [(.int x0), (.int x1), (.int x2), (.int x3), (.int y4), (.int y5), (.int y6), (.int y7), (.int y8), (.int y9), (.int y10), (.int y11), (.int y12), (.int y13), (.int y14), (.int y15)] (.int (0 : Int32))) := by
  refine own_met (plainFor_of_name own_pn_java_lang_String) ?_
  intro p e s m below meth c s₁ hx hby hml hown hnm hret hlk hZ e0 X0
  refine own_cast (show _ = (mkF m 0 #[.val (.ref sx), .val (.ref b), .val (.int (0 : Int32)), .val (.int (0 : Int32))] []) by first | (simp [entryFrame, mkF, argsToLocals, Value.category]; done) | rfl) ?_
  refine own_st (s₁.setTop (mkF m 1 #[.val (.ref sx), .val (.ref b), .val (.int (0 : Int32)), .val (.int (0 : Int32))] [(.ref sx)])) (fun tq kq => XS.aloadN X0.here hx rfl (hb hby own_d15_0) rfl (by rfl) kq) ?_
  obtain ⟨v1, T1, L1, X1, q1, st1⟩ := own_callV X0 hx hZ hown (y := (⟨"java/lang/String", "coder", "()B"⟩ : MethodName)) (z := (⟨"java/lang/String", "coder", "()B"⟩ : MethodName)) (hw _ (List.mem_of_getElem? (i := 76) rfl)) (hw _ (List.mem_of_getElem? (i := 77) rfl)) (notFace_of_selects (args := a0) (hw _ (List.mem_of_getElem? (i := 79) rfl))) (hw _ (List.mem_of_getElem? (i := 79) rfl)) (hw _ (List.mem_of_getElem? (i := 78) rfl)) (hw _ (List.mem_of_getElem? (i := 9) rfl)) (hw _ (List.mem_of_getElem? (i := 80) rfl)) Esx (b := sx) (argsL := []) (own_scoder l Z a0 hw [] cz sx h0 O0 SC hcz Csx) 0 (by decide) (by decide) (by decide) (by decide) (by decide) e0 (g := (mkF m 1 #[.val (.ref sx), .val (.ref b), .val (.int (0 : Int32)), .val (.int (0 : Int32))] [(.ref sx)])) rfl (by rw [hml]; rfl) [] (lenOf own_pd__28_29B rfl) rfl (by show 2 * 0 + _ ≤ _; exact Nat.le_of_eq rfl) (hb hby own_d15_1)
  obtain ⟨rfl, N1q, e1⟩ := q1
  have N1 := Fr.app (Fr.nil _) N1q
  refine own_st (T1.setTop (mkF m 4 #[.val (.ref sx), .val (.ref b), .val (.int (0 : Int32)), .val (.int (0 : Int32))] [(.int (0 : Int32))])) st1 ?_
  refine own_st (T1.setTop (mkF m 5 #[.val (.ref sx), .val (.ref b), .val (.int (0 : Int32)), .val (.int (0 : Int32))] [(.int (0 : Int32)), (.int (0 : Int32))])) (fun tq kq => XS.iloadN X1.here hx rfl (hb hby own_d15_4) rfl kq) ?_
  refine own_st (T1.setTop (mkF m 8 #[.val (.ref sx), .val (.ref b), .val (.int (0 : Int32)), .val (.int (0 : Int32))] [])) (fun tq kq => XS.icmpNo X1.here hx rfl (hb hby own_d15_5) rfl (teq ((by decide) : (0 : Int32) = (0 : Int32))).2 kq) ?_
  refine own_st (T1.setTop (mkF m 9 #[.val (.ref sx), .val (.ref b), .val (.int (0 : Int32)), .val (.int (0 : Int32))] [(.ref sx)])) (fun tq kq => XS.aloadN X1.here hx rfl (hb hby own_d15_8) rfl (by rfl) kq) ?_
  obtain ⟨T2, X2, e2, st2⟩ := getF X1 hx hZ hown (host := "") (Or.inl (hw _ (List.mem_of_getElem? (i := 75) rfl))) Via.refl e1 Vsx (g := (mkF m 9 #[.val (.ref sx), .val (.ref b), .val (.int (0 : Int32)), .val (.int (0 : Int32))] [(.ref sx)])) rfl rfl (hb hby own_d15_9)
  refine own_st (T2.setTop (mkF m 12 #[.val (.ref sx), .val (.ref b), .val (.int (0 : Int32)), .val (.int (0 : Int32))] [(.ref t)])) st2 ?_
  refine own_st (T2.setTop (mkF m 13 #[.val (.ref sx), .val (.ref b), .val (.int (0 : Int32)), .val (.int (0 : Int32))] [(.int (0 : Int32)), (.ref t)])) (fun tq kq => XS.iconst X2.here hx rfl (hb hby own_d15_12) kq) ?_
  refine own_st (T2.setTop (mkF m 14 #[.val (.ref sx), .val (.ref b), .val (.int (0 : Int32)), .val (.int (0 : Int32))] [(.ref b), (.int (0 : Int32)), (.ref t)])) (fun tq kq => XS.aloadN X2.here hx rfl (hb hby own_d15_13) rfl (by rfl) kq) ?_
  refine own_st (T2.setTop (mkF m 15 #[.val (.ref sx), .val (.ref b), .val (.int (0 : Int32)), .val (.int (0 : Int32))] [(.int (0 : Int32)), (.ref b), (.int (0 : Int32)), (.ref t)])) (fun tq kq => XS.iloadN X2.here hx rfl (hb hby own_d15_14) rfl kq) ?_
  refine own_st (T2.setTop (mkF m 16 #[.val (.ref sx), .val (.ref b), .val (.int (0 : Int32)), .val (.int (0 : Int32))] [(.int (0 : Int32)), (.int (0 : Int32)), (.ref b), (.int (0 : Int32)), (.ref t)])) (fun tq kq => XS.iloadN X2.here hx rfl (hb hby own_d15_15) rfl kq) ?_
  refine own_st (T2.setTop (mkF m 17 #[.val (.ref sx), .val (.ref b), .val (.int (0 : Int32)), .val (.int (0 : Int32))] [(.int (0 : Int32)), (.ref b), (.int (0 : Int32)), (.ref t)])) (fun tq kq => XS.ishl X2.here hx rfl (hb hby own_d15_16) rfl kq) ?_
  refine own_st (T2.setTop (mkF m 18 #[.val (.ref sx), .val (.ref b), .val (.int (0 : Int32)), .val (.int (0 : Int32))] [(.ref sx), (.int (0 : Int32)), (.ref b), (.int (0 : Int32)), (.ref t)])) (fun tq kq => XS.aloadN X2.here hx rfl (hb hby own_d15_17) rfl (by rfl) kq) ?_
  obtain ⟨T3, X3, e3, st3⟩ := getF X2 hx hZ hown (host := "") (Or.inl (hw _ (List.mem_of_getElem? (i := 75) rfl))) Via.refl e2 Vsx (g := (mkF m 18 #[.val (.ref sx), .val (.ref b), .val (.int (0 : Int32)), .val (.int (0 : Int32))] [(.ref sx), (.int (0 : Int32)), (.ref b), (.int (0 : Int32)), (.ref t)])) rfl rfl (hb hby own_d15_18)
  refine own_st (T3.setTop (mkF m 21 #[.val (.ref sx), .val (.ref b), .val (.int (0 : Int32)), .val (.int (0 : Int32))] [(.ref t), (.int (0 : Int32)), (.ref b), (.int (0 : Int32)), (.ref t)])) st3 ?_
  obtain ⟨cl4, q4a, q4b, q4c, q4d, q4e, q4f⟩ := id Asx
  refine own_st (T3.setTop (mkF m 22 #[.val (.ref sx), .val (.ref b), .val (.int (0 : Int32)), .val (.int (0 : Int32))] [(.int (4 : Int32)), (.int (0 : Int32)), (.ref b), (.int (0 : Int32)), (.ref t)])) (fun tq kq => X3.arraylength hx (by rw [e3]; exact q4a.1) (State.isArrayOf_alike hZ.alike q4a.2.1) (g := (mkF m 21 #[.val (.ref sx), .val (.ref b), .val (.int (0 : Int32)), .val (.int (0 : Int32))] [(.ref t), (.int (0 : Int32)), (.ref b), (.int (0 : Int32)), (.ref t)])) rfl rfl (hb hby own_d15_21) tq (by rw [len_of q4c q4d]; exact kq)) ?_
  obtain ⟨T5, h5, L5, X5, e5, N5, K5q, f5q, st5⟩ := cpA X3 hx hZ hown (hw _ (List.mem_of_getElem? (i := 106) rfl)) (hw _ (List.mem_of_getElem? (i := 109) rfl)) (hw _ (List.mem_of_getElem? (i := 107) rfl)) (hw _ (List.mem_of_getElem? (i := 108) rfl)) e3 Asx AB (us := [(.int x0), (.int x1), (.int x2), (.int x3)]) (Or.inl ⟨rfl, rfl⟩) (by decide) (by decide) (by decide) (by decide) (by decide) (by rfl) (Nat.le_of_ble_eq_true rfl) N1 gb (g := (mkF m 22 #[.val (.ref sx), .val (.ref b), .val (.int (0 : Int32)), .val (.int (0 : Int32))] [(.int (4 : Int32)), (.int (0 : Int32)), (.ref b), (.int (0 : Int32)), (.ref t)])) rfl (by rw [hml]; rfl) rfl (hb hby own_d15_22) (by decide) (W := 0) (by show 2 * 0 + _ ≤ _; exact Nat.le_of_eq rfl) (by decide)
  have f6 : Arv Z h5 b kb .byte (16 : Int32) [(.int x0), (.int x1), (.int x2), (.int x3), (.int y4), (.int y5), (.int y6), (.int y7), (.int y8), (.int y9), (.int y10), (.int y11), (.int y12), (.int y13), (.int y14), (.int y15)] (.int (0 : Int32)) := f5q
  have f7 := (Esx.keep K5q)
  have f8 := (Vsx.keep K5q (ninS sxb nin0))
  have f9 := (Csx.keep K5q (ninS sxb nin0))
  have f10 := (Asx.keep K5q (ninS tb nin0))
  have O5 := O0.keep K5q (allS gb all0)
  have K5 := (Keep.refl h0 [b]).trans K5q (allS (Or.inl (List.mem_of_getElem? (i := 0) rfl)) all0)
  refine own_st (T5.setTop (mkF m 25 #[.val (.ref sx), .val (.ref b), .val (.int (0 : Int32)), .val (.int (0 : Int32))] [])) st5 ?_
  refine own_st (T5.setTop (mkF m 43 #[.val (.ref sx), .val (.ref b), .val (.int (0 : Int32)), .val (.int (0 : Int32))] [])) (fun tq kq => XS.goto X5.here hx rfl (pc0 := 25) (pc' := 43) rfl (hb hby own_d15_25) (by decide) (by decide) kq) ?_
  exact own_ret X5 hlk (v := none) (fun _ => rfl) e5 (⟨rfl, N5, K5, f6⟩) (by decide) (by decide) (fun fs hr => X5.returnOut hx hret (hb hby own_d15_43) hr)
theorem own_d13_0 : decode jdk_68_method_73_code 0 = .ok (.aload_n 0, 1) := by decide +kernel
theorem own_d13_1 : decode jdk_68_method_73_code 1 = .ok (.aload_n 2, 1) := by decide +kernel
theorem own_pd__28Ljava_2flang_2fString_3b_29V : parseMethodDescriptor "(Ljava/lang/String;)V" = some ⟨[(.object "java/lang/String")], none⟩ := by decide +kernel
theorem own_d13_2 : decode jdk_68_method_73_code 2 = .ok (.invokevirtual 397, 3) := by decide +kernel
theorem own_d13_5 : decode jdk_68_method_73_code 5 = .ok (.aload_n 2, 1) := by decide +kernel
theorem own_d13_6 : decode jdk_68_method_73_code 6 = .ok (.aload_n 0, 1) := by decide +kernel
theorem own_d13_7 : decode jdk_68_method_73_code 7 = .ok (.getfield 15, 3) := by decide +kernel
theorem own_d13_10 : decode jdk_68_method_73_code 10 = .ok (.iload_n 1, 1) := by decide +kernel
theorem own_d13_11 : decode jdk_68_method_73_code 11 = .ok (.aload_n 0, 1) := by decide +kernel
theorem own_d13_12 : decode jdk_68_method_73_code 12 = .ok (.getfield 22, 3) := by decide +kernel
theorem own_pd__28_5bBIB_29V : parseMethodDescriptor "([BIB)V" = some ⟨[(.array .byte), .int, .byte], none⟩ := by decide +kernel
theorem own_d13_15 : decode jdk_68_method_73_code 15 = .ok (.invokevirtual 399, 3) := by decide +kernel
theorem own_d13_18 : decode jdk_68_method_73_code 18 = .ok (.return_, 1) := by decide +kernel
set_option maxRecDepth 65536 in
set_option maxHeartbeats 40000000 in
theorem own_put_4_16_0 (l : Launch) (Z : State) (a0 : Array Value) (hw : ∀ d ∈ tables_1, d.before a0 Z = true) (ws : List Jvm.Cond) (cz : Int32) (a b sx t : Addr) (kb kt : ClassId) (x0 x1 x2 x3 : Int32)  (h0 : Heap) (O0 : Old Z Z.heap.size h0) (SC : Sta Z Z.heap "java/lang/String" "COMPACT_STRINGS" "Z" (.int cz)) (hcz : ¬ (cz = (0 : Int32))) (E0 : Exa Z h0 a "java/lang/StringBuilder") (g0 : Z.heap.size ≤ a) (FV : Fld Z h0 a "java/lang/AbstractStringBuilder" "value" "[B" (.ref b)) (FC : Fld Z h0 a "java/lang/AbstractStringBuilder" "coder" "B" (.int (0 : Int32))) (FN : Fld Z h0 a "java/lang/AbstractStringBuilder" "count" "I" (.int (0 : Int32))) (AB : Arv Z h0 b kb .byte (16 : Int32) [(.int (0 : Int32)), (.int (0 : Int32)), (.int (0 : Int32)), (.int (0 : Int32)), (.int (0 : Int32)), (.int (0 : Int32)), (.int (0 : Int32)), (.int (0 : Int32)), (.int (0 : Int32)), (.int (0 : Int32)), (.int (0 : Int32)), (.int (0 : Int32)), (.int (0 : Int32)), (.int (0 : Int32)), (.int (0 : Int32)), (.int (0 : Int32))] (.int (0 : Int32))) (gb : Z.heap.size ≤ b) (Esx : Exa Z h0 sx "java/lang/String") (Vsx : Fld Z h0 sx "java/lang/String" "value" "[B" (.ref t)) (Csx : Fld Z h0 sx "java/lang/String" "coder" "B" (.int (0 : Int32))) (Asx : Arv Z h0 t kt .byte (4 : Int32) [(.int x0), (.int x1), (.int x2), (.int x3)] (.int (0 : Int32))) (tb : t ≠ b) (sxb : sx ≠ b) (sxa : sx ≠ a) (ta : t ≠ a) (ba : b ≠ a) :
    ownMet l (⟨"java/lang/AbstractStringBuilder", "putStringAt", "(ILjava/lang/String;)V"⟩ : MethodName) jdk_68_method_73_code 3 none ws ({ frames := 2, cells := 0, slots := 0, locals := 33 } : Room) Z #[(.ref a), (.int (0 : Int32)), (.ref sx)] h0 (fun v h L => v = none ∧ Fr Z.heap.size L ∧ Keep h0 h [b] ∧ Arv Z h b kb .byte (16 : Int32) [(.int x0), (.int x1), (.int x2), (.int x3), (.int (0 : Int32)), (.int (0 : Int32)), (.int (0 : Int32)), (.int (0 : Int32)), (.int (0 : Int32)), (.int (0 : Int32)), (.int (0 : Int32)), (.int (0 : Int32)), (.int (0 : Int32)), (.int (0 : Int32)), (.int (0 : Int32)), (.int (0 : Int32))] (.int (0 : Int32))) := by
  refine own_met (plainFor_of_name own_pn_java_lang_AbstractStringBuilder) ?_
  intro p e s m below meth c s₁ hx hby hml hown hnm hret hlk hZ e0 X0
  refine own_cast (show _ = (mkF m 0 #[.val (.ref a), .val (.int (0 : Int32)), .val (.ref sx)] []) by first | (simp [entryFrame, mkF, argsToLocals, Value.category]; done) | rfl) ?_
  refine own_st (s₁.setTop (mkF m 1 #[.val (.ref a), .val (.int (0 : Int32)), .val (.ref sx)] [(.ref a)])) (fun tq kq => XS.aloadN X0.here hx rfl (hb hby own_d13_0) rfl (by rfl) kq) ?_
  refine own_st (s₁.setTop (mkF m 2 #[.val (.ref a), .val (.int (0 : Int32)), .val (.ref sx)] [(.ref sx), (.ref a)])) (fun tq kq => XS.aloadN X0.here hx rfl (hb hby own_d13_1) rfl (by rfl) kq) ?_
  obtain ⟨v1, T1, L1, X1, q1, st1⟩ := own_callP X0 hx hZ hown (y := (⟨"java/lang/AbstractStringBuilder", "inflateIfNeededFor", "(Ljava/lang/String;)V"⟩ : MethodName)) (hw _ (List.mem_of_getElem? (i := 95) rfl)) (hw _ (List.mem_of_getElem? (i := 97) rfl)) (notFace_of_selects (args := a0) (hw _ (List.mem_of_getElem? (i := 98) rfl))) (hw _ (List.mem_of_getElem? (i := 96) rfl)) (hw _ (List.mem_of_getElem? (i := 31) rfl)) (hw _ (List.mem_of_getElem? (i := 99) rfl)) E0 (b := a) (argsL := [(.ref sx)]) (own_infl l Z a0 hw [] cz a sx h0 O0 SC hcz E0 FC Esx Csx) 0 (by decide) (by decide) (by decide) (by decide) (by decide) e0 (g := (mkF m 2 #[.val (.ref a), .val (.int (0 : Int32)), .val (.ref sx)] [(.ref sx), (.ref a)])) rfl (by rw [hml]; rfl) [] (lenOf own_pd__28Ljava_2flang_2fString_3b_29V rfl) rfl (by show 2 * 0 + _ ≤ _; exact Nat.le_of_eq rfl) (hb hby own_d13_2)
  obtain ⟨rfl, N1q, e1⟩ := q1
  have N1 := Fr.app (Fr.nil _) N1q
  refine own_st (T1.setTop (mkF m 5 #[.val (.ref a), .val (.int (0 : Int32)), .val (.ref sx)] [])) st1 ?_
  refine own_st (T1.setTop (mkF m 6 #[.val (.ref a), .val (.int (0 : Int32)), .val (.ref sx)] [(.ref sx)])) (fun tq kq => XS.aloadN X1.here hx rfl (hb hby own_d13_5) rfl (by rfl) kq) ?_
  refine own_st (T1.setTop (mkF m 7 #[.val (.ref a), .val (.int (0 : Int32)), .val (.ref sx)] [(.ref a), (.ref sx)])) (fun tq kq => XS.aloadN X1.here hx rfl (hb hby own_d13_6) rfl (by rfl) kq) ?_
  obtain ⟨T2, X2, e2, st2⟩ := getF X1 hx hZ hown (host := "") (Or.inl (hw _ (List.mem_of_getElem? (i := 37) rfl))) Via.refl e1 FV (g := (mkF m 7 #[.val (.ref a), .val (.int (0 : Int32)), .val (.ref sx)] [(.ref a), (.ref sx)])) rfl rfl (hb hby own_d13_7)
  refine own_st (T2.setTop (mkF m 10 #[.val (.ref a), .val (.int (0 : Int32)), .val (.ref sx)] [(.ref b), (.ref sx)])) st2 ?_
  refine own_st (T2.setTop (mkF m 11 #[.val (.ref a), .val (.int (0 : Int32)), .val (.ref sx)] [(.int (0 : Int32)), (.ref b), (.ref sx)])) (fun tq kq => XS.iloadN X2.here hx rfl (hb hby own_d13_10) rfl kq) ?_
  refine own_st (T2.setTop (mkF m 12 #[.val (.ref a), .val (.int (0 : Int32)), .val (.ref sx)] [(.ref a), (.int (0 : Int32)), (.ref b), (.ref sx)])) (fun tq kq => XS.aloadN X2.here hx rfl (hb hby own_d13_11) rfl (by rfl) kq) ?_
  obtain ⟨T3, X3, e3, st3⟩ := getF X2 hx hZ hown (host := "") (Or.inl (hw _ (List.mem_of_getElem? (i := 39) rfl))) Via.refl e2 FC (g := (mkF m 12 #[.val (.ref a), .val (.int (0 : Int32)), .val (.ref sx)] [(.ref a), (.int (0 : Int32)), (.ref b), (.ref sx)])) rfl rfl (hb hby own_d13_12)
  refine own_st (T3.setTop (mkF m 15 #[.val (.ref a), .val (.int (0 : Int32)), .val (.ref sx)] [(.int (0 : Int32)), (.int (0 : Int32)), (.ref b), (.ref sx)])) st3 ?_
  obtain ⟨v4, T4, L4, X4, q4, st4⟩ := own_callV X3 hx hZ hown (y := (⟨"java/lang/String", "getBytes", "([BIB)V"⟩ : MethodName)) (z := (⟨"java/lang/String", "getBytes", "([BIB)V"⟩ : MethodName)) (hw _ (List.mem_of_getElem? (i := 101) rfl)) (hw _ (List.mem_of_getElem? (i := 102) rfl)) (notFace_of_selects (args := a0) (hw _ (List.mem_of_getElem? (i := 104) rfl))) (hw _ (List.mem_of_getElem? (i := 104) rfl)) (hw _ (List.mem_of_getElem? (i := 103) rfl)) (hw _ (List.mem_of_getElem? (i := 9) rfl)) (hw _ (List.mem_of_getElem? (i := 105) rfl)) Esx (b := sx) (argsL := [(.ref b), (.int (0 : Int32)), (.int (0 : Int32))]) (own_gb_4_16_0 l Z a0 hw [] cz sx t b kt kb x0 x1 x2 x3 (0 : Int32) (0 : Int32) (0 : Int32) (0 : Int32) (0 : Int32) (0 : Int32) (0 : Int32) (0 : Int32) (0 : Int32) (0 : Int32) (0 : Int32) (0 : Int32) (0 : Int32) (0 : Int32) (0 : Int32) (0 : Int32) h0 O0 SC hcz Esx Vsx Csx Asx AB gb tb sxb) 0 (by decide) (by decide) (by decide) (by decide) (by decide) e3 (g := (mkF m 15 #[.val (.ref a), .val (.int (0 : Int32)), .val (.ref sx)] [(.int (0 : Int32)), (.int (0 : Int32)), (.ref b), (.ref sx)])) rfl (by rw [hml]; rfl) [] (lenOf own_pd__28_5bBIB_29V rfl) rfl (by show 2 * 0 + _ ≤ _; exact Nat.le_of_eq rfl) (hb hby own_d13_15)
  obtain ⟨rfl, N4q, K4q, f4q⟩ := q4
  have N4 := Fr.app N1 N4q
  have f5 := (E0.keep K4q)
  have f6 := (FV.keep K4q (ninS (Ne.symm ba) nin0))
  have f7 := (FC.keep K4q (ninS (Ne.symm ba) nin0))
  have f8 := (FN.keep K4q (ninS (Ne.symm ba) nin0))
  have f10 := (Esx.keep K4q)
  have f11 := (Vsx.keep K4q (ninS sxb nin0))
  have f12 := (Csx.keep K4q (ninS sxb nin0))
  have f13 := (Asx.keep K4q (ninS tb nin0))
  have O4 := O0.keep K4q (allS gb all0)
  have K4 := (Keep.refl h0 [b]).trans K4q (allS (Or.inl (List.mem_of_getElem? (i := 0) rfl)) all0)
  refine own_st (T4.setTop (mkF m 18 #[.val (.ref a), .val (.int (0 : Int32)), .val (.ref sx)] [])) st4 ?_
  exact own_ret X4 hlk (v := none) (fun _ => rfl) rfl (⟨rfl, N4, K4, f4q⟩) (by decide) (by decide) (fun fs hr => X4.returnOut hx hret (hb hby own_d13_18) hr)
theorem own_d9_0 : decode jdk_68_method_22_code 0 = .ok (.aload_n 1, 1) := by decide +kernel
theorem own_d9_1 : decode jdk_68_method_22_code 1 = .ok (.ifnonnull 8, 3) := by decide +kernel
theorem own_d9_9 : decode jdk_68_method_22_code 9 = .ok (.aload_n 1, 1) := by decide +kernel
theorem own_pd__28_29I : parseMethodDescriptor "()I" = some ⟨[], some .int⟩ := by decide +kernel
theorem own_d9_10 : decode jdk_68_method_22_code 10 = .ok (.invokevirtual 32, 3) := by decide +kernel
theorem own_d9_13 : decode jdk_68_method_22_code 13 = .ok (.istore_n 2, 1) := by decide +kernel
theorem own_d9_14 : decode jdk_68_method_22_code 14 = .ok (.aload_n 0, 1) := by decide +kernel
theorem own_d9_15 : decode jdk_68_method_22_code 15 = .ok (.aload_n 0, 1) := by decide +kernel
theorem own_d9_16 : decode jdk_68_method_22_code 16 = .ok (.getfield 79, 3) := by decide +kernel
theorem own_d9_19 : decode jdk_68_method_22_code 19 = .ok (.iload_n 2, 1) := by decide +kernel
theorem own_d9_20 : decode jdk_68_method_22_code 20 = .ok (.iadd, 1) := by decide +kernel
theorem own_d9_21 : decode jdk_68_method_22_code 21 = .ok (.invokevirtual 100, 3) := by decide +kernel
theorem own_d9_24 : decode jdk_68_method_22_code 24 = .ok (.aload_n 0, 1) := by decide +kernel
theorem own_d9_25 : decode jdk_68_method_22_code 25 = .ok (.aload_n 0, 1) := by decide +kernel
theorem own_d9_26 : decode jdk_68_method_22_code 26 = .ok (.getfield 79, 3) := by decide +kernel
theorem own_d9_29 : decode jdk_68_method_22_code 29 = .ok (.aload_n 1, 1) := by decide +kernel
theorem own_pd__28ILjava_2flang_2fString_3b_29V : parseMethodDescriptor "(ILjava/lang/String;)V" = some ⟨[.int, (.object "java/lang/String")], none⟩ := by decide +kernel
theorem own_d9_30 : decode jdk_68_method_22_code 30 = .ok (.invokevirtual 208, 3) := by decide +kernel
theorem own_d9_33 : decode jdk_68_method_22_code 33 = .ok (.aload_n 0, 1) := by decide +kernel
theorem own_d9_34 : decode jdk_68_method_22_code 34 = .ok (.dup, 1) := by decide +kernel
theorem own_d9_35 : decode jdk_68_method_22_code 35 = .ok (.getfield 79, 3) := by decide +kernel
theorem own_d9_38 : decode jdk_68_method_22_code 38 = .ok (.iload_n 2, 1) := by decide +kernel
theorem own_d9_39 : decode jdk_68_method_22_code 39 = .ok (.iadd, 1) := by decide +kernel
theorem own_d9_40 : decode jdk_68_method_22_code 40 = .ok (.putfield 79, 3) := by decide +kernel
theorem own_d9_43 : decode jdk_68_method_22_code 43 = .ok (.aload_n 0, 1) := by decide +kernel
theorem own_d9_44 : decode jdk_68_method_22_code 44 = .ok (.areturn, 1) := by decide +kernel
set_option maxRecDepth 65536 in
set_option maxHeartbeats 40000000 in
theorem own_asbApp_4_16_0 (l : Launch) (Z : State) (a0 : Array Value) (hw : ∀ d ∈ tables_1, d.before a0 Z = true) (ws : List Jvm.Cond) (cz : Int32) (a b sx t : Addr) (kb kt : ClassId) (x0 x1 x2 x3 : Int32)  (h0 : Heap) (O0 : Old Z Z.heap.size h0) (SC : Sta Z Z.heap "java/lang/String" "COMPACT_STRINGS" "Z" (.int cz)) (hcz : ¬ (cz = (0 : Int32))) (E0 : Exa Z h0 a "java/lang/StringBuilder") (g0 : Z.heap.size ≤ a) (FV : Fld Z h0 a "java/lang/AbstractStringBuilder" "value" "[B" (.ref b)) (FC : Fld Z h0 a "java/lang/AbstractStringBuilder" "coder" "B" (.int (0 : Int32))) (FN : Fld Z h0 a "java/lang/AbstractStringBuilder" "count" "I" (.int (0 : Int32))) (AB : Arv Z h0 b kb .byte (16 : Int32) [(.int (0 : Int32)), (.int (0 : Int32)), (.int (0 : Int32)), (.int (0 : Int32)), (.int (0 : Int32)), (.int (0 : Int32)), (.int (0 : Int32)), (.int (0 : Int32)), (.int (0 : Int32)), (.int (0 : Int32)), (.int (0 : Int32)), (.int (0 : Int32)), (.int (0 : Int32)), (.int (0 : Int32)), (.int (0 : Int32)), (.int (0 : Int32))] (.int (0 : Int32))) (gb : Z.heap.size ≤ b) (Esx : Exa Z h0 sx "java/lang/String") (Vsx : Fld Z h0 sx "java/lang/String" "value" "[B" (.ref t)) (Csx : Fld Z h0 sx "java/lang/String" "coder" "B" (.int (0 : Int32))) (Asx : Arv Z h0 t kt .byte (4 : Int32) [(.int x0), (.int x1), (.int x2), (.int x3)] (.int (0 : Int32))) (tb : t ≠ b) (sxb : sx ≠ b) (sxa : sx ≠ a) (ta : t ≠ a) (ba : b ≠ a) :
    ownMet l (⟨"java/lang/AbstractStringBuilder", "append", "(Ljava/lang/String;)Ljava/lang/AbstractStringBuilder;"⟩ : MethodName) jdk_68_method_22_code 3 (some (.object "java/lang/AbstractStringBuilder")) ws ({ frames := 3, cells := 0, slots := 0, locals := 47 } : Room) Z #[(.ref a), (.ref sx)] h0 (fun v h L => v = some (.ref a) ∧ Fr Z.heap.size L ∧ Keep h0 h [a, b] ∧ Fld Z h a "java/lang/AbstractStringBuilder" "value" "[B" (.ref b) ∧ Fld Z h a "java/lang/AbstractStringBuilder" "coder" "B" (.int (0 : Int32)) ∧ Fld Z h a "java/lang/AbstractStringBuilder" "count" "I" (.int (4 : Int32)) ∧ Arv Z h b kb .byte (16 : Int32) [(.int x0), (.int x1), (.int x2), (.int x3), (.int (0 : Int32)), (.int (0 : Int32)), (.int (0 : Int32)), (.int (0 : Int32)), (.int (0 : Int32)), (.int (0 : Int32)), (.int (0 : Int32)), (.int (0 : Int32)), (.int (0 : Int32)), (.int (0 : Int32)), (.int (0 : Int32)), (.int (0 : Int32))] (.int (0 : Int32))) := by
  refine own_met (plainFor_of_name own_pn_java_lang_AbstractStringBuilder) ?_
  intro p e s m below meth c s₁ hx hby hml hown hnm hret hlk hZ e0 X0
  refine own_cast (show _ = (mkF m 0 #[.val (.ref a), .val (.ref sx), .unset] []) by first | (simp [entryFrame, mkF, argsToLocals, Value.category]; done) | rfl) ?_
  refine own_st (s₁.setTop (mkF m 1 #[.val (.ref a), .val (.ref sx), .unset] [(.ref sx)])) (fun tq kq => XS.aloadN X0.here hx rfl (hb hby own_d9_0) rfl (by rfl) kq) ?_
  refine own_st (s₁.setTop (mkF m 9 #[.val (.ref a), .val (.ref sx), .unset] [])) (fun tq kq => XS.ifnonnullYes X0.here hx rfl (pc0 := 1) (pc' := 9) rfl (hb hby own_d9_1) rfl (by decide) (by decide) kq) ?_
  refine own_st (s₁.setTop (mkF m 10 #[.val (.ref a), .val (.ref sx), .unset] [(.ref sx)])) (fun tq kq => XS.aloadN X0.here hx rfl (hb hby own_d9_9) rfl (by rfl) kq) ?_
  obtain ⟨v1, T1, L1, X1, q1, st1⟩ := own_callV X0 hx hZ hown (y := (⟨"java/lang/String", "length", "()I"⟩ : MethodName)) (z := (⟨"java/lang/String", "length", "()I"⟩ : MethodName)) (hw _ (List.mem_of_getElem? (i := 70) rfl)) (hw _ (List.mem_of_getElem? (i := 71) rfl)) (notFace_of_selects (args := a0) (hw _ (List.mem_of_getElem? (i := 73) rfl))) (hw _ (List.mem_of_getElem? (i := 73) rfl)) (hw _ (List.mem_of_getElem? (i := 72) rfl)) (hw _ (List.mem_of_getElem? (i := 9) rfl)) (hw _ (List.mem_of_getElem? (i := 74) rfl)) Esx (b := sx) (argsL := []) (own_slen_4 l Z a0 hw [] cz sx t kt [(.int x0), (.int x1), (.int x2), (.int x3)] h0 O0 SC hcz Esx Vsx Csx Asx) 0 (by decide) (by decide) (by decide) (by decide) (by decide) e0 (g := (mkF m 10 #[.val (.ref a), .val (.ref sx), .unset] [(.ref sx)])) rfl (by rw [hml]; rfl) [] (lenOf own_pd__28_29I rfl) rfl (by show 2 * 0 + _ ≤ _; exact Nat.le_of_eq rfl) (hb hby own_d9_10)
  obtain ⟨rfl, N1q, e1⟩ := q1
  have N1 := Fr.app (Fr.nil _) N1q
  refine own_st (T1.setTop (mkF m 13 #[.val (.ref a), .val (.ref sx), .unset] [(.int (4 : Int32))])) st1 ?_
  refine own_st (T1.setTop (mkF m 14 #[.val (.ref a), .val (.ref sx), .val (.int (4 : Int32))] [])) (fun tq kq => XS.istoreN X1.here hx rfl (hb hby own_d9_13) rfl (l' := #[.val (.ref a), .val (.ref sx), .val (.int (4 : Int32))]) rfl kq) ?_
  refine own_st (T1.setTop (mkF m 15 #[.val (.ref a), .val (.ref sx), .val (.int (4 : Int32))] [(.ref a)])) (fun tq kq => XS.aloadN X1.here hx rfl (hb hby own_d9_14) rfl (by rfl) kq) ?_
  refine own_st (T1.setTop (mkF m 16 #[.val (.ref a), .val (.ref sx), .val (.int (4 : Int32))] [(.ref a), (.ref a)])) (fun tq kq => XS.aloadN X1.here hx rfl (hb hby own_d9_15) rfl (by rfl) kq) ?_
  obtain ⟨T2, X2, e2, st2⟩ := getF X1 hx hZ hown (host := "") (Or.inl (hw _ (List.mem_of_getElem? (i := 83) rfl))) Via.refl e1 FN (g := (mkF m 16 #[.val (.ref a), .val (.ref sx), .val (.int (4 : Int32))] [(.ref a), (.ref a)])) rfl rfl (hb hby own_d9_16)
  refine own_st (T2.setTop (mkF m 19 #[.val (.ref a), .val (.ref sx), .val (.int (4 : Int32))] [(.int (0 : Int32)), (.ref a)])) st2 ?_
  refine own_st (T2.setTop (mkF m 20 #[.val (.ref a), .val (.ref sx), .val (.int (4 : Int32))] [(.int (4 : Int32)), (.int (0 : Int32)), (.ref a)])) (fun tq kq => XS.iloadN X2.here hx rfl (hb hby own_d9_19) rfl kq) ?_
  refine own_st (T2.setTop (mkF m 21 #[.val (.ref a), .val (.ref sx), .val (.int (4 : Int32))] [(.int (4 : Int32)), (.ref a)])) (fun tq kq => XS.iadd X2.here hx rfl (hb hby own_d9_20) rfl kq) ?_
  obtain ⟨v3, T3, L3, X3, q3, st3⟩ := own_callP X2 hx hZ hown (y := (⟨"java/lang/AbstractStringBuilder", "ensureCapacityInternal", "(I)V"⟩ : MethodName)) (hw _ (List.mem_of_getElem? (i := 85) rfl)) (hw _ (List.mem_of_getElem? (i := 87) rfl)) (notFace_of_selects (args := a0) (hw _ (List.mem_of_getElem? (i := 88) rfl))) (hw _ (List.mem_of_getElem? (i := 86) rfl)) (hw _ (List.mem_of_getElem? (i := 31) rfl)) (hw _ (List.mem_of_getElem? (i := 89) rfl)) E0 (b := a) (argsL := [(.int (4 : Int32))]) (own_ens_16_4 l Z a0 hw [] a b kb [(.int (0 : Int32)), (.int (0 : Int32)), (.int (0 : Int32)), (.int (0 : Int32)), (.int (0 : Int32)), (.int (0 : Int32)), (.int (0 : Int32)), (.int (0 : Int32)), (.int (0 : Int32)), (.int (0 : Int32)), (.int (0 : Int32)), (.int (0 : Int32)), (.int (0 : Int32)), (.int (0 : Int32)), (.int (0 : Int32)), (.int (0 : Int32))] h0 O0 E0 FV FC AB) 0 (by decide) (by decide) (by decide) (by decide) (by decide) e2 (g := (mkF m 21 #[.val (.ref a), .val (.ref sx), .val (.int (4 : Int32))] [(.int (4 : Int32)), (.ref a)])) rfl (by rw [hml]; rfl) [] (lenOf own_pd__28I_29V rfl) rfl (by show 2 * 0 + _ ≤ _; exact Nat.le_of_eq rfl) (hb hby own_d9_21)
  obtain ⟨rfl, N3q, e3⟩ := q3
  have N3 := Fr.app N1 N3q
  refine own_st (T3.setTop (mkF m 24 #[.val (.ref a), .val (.ref sx), .val (.int (4 : Int32))] [])) st3 ?_
  refine own_st (T3.setTop (mkF m 25 #[.val (.ref a), .val (.ref sx), .val (.int (4 : Int32))] [(.ref a)])) (fun tq kq => XS.aloadN X3.here hx rfl (hb hby own_d9_24) rfl (by rfl) kq) ?_
  refine own_st (T3.setTop (mkF m 26 #[.val (.ref a), .val (.ref sx), .val (.int (4 : Int32))] [(.ref a), (.ref a)])) (fun tq kq => XS.aloadN X3.here hx rfl (hb hby own_d9_25) rfl (by rfl) kq) ?_
  obtain ⟨T4, X4, e4, st4⟩ := getF X3 hx hZ hown (host := "") (Or.inl (hw _ (List.mem_of_getElem? (i := 83) rfl))) Via.refl e3 FN (g := (mkF m 26 #[.val (.ref a), .val (.ref sx), .val (.int (4 : Int32))] [(.ref a), (.ref a)])) rfl rfl (hb hby own_d9_26)
  refine own_st (T4.setTop (mkF m 29 #[.val (.ref a), .val (.ref sx), .val (.int (4 : Int32))] [(.int (0 : Int32)), (.ref a)])) st4 ?_
  refine own_st (T4.setTop (mkF m 30 #[.val (.ref a), .val (.ref sx), .val (.int (4 : Int32))] [(.ref sx), (.int (0 : Int32)), (.ref a)])) (fun tq kq => XS.aloadN X4.here hx rfl (hb hby own_d9_29) rfl (by rfl) kq) ?_
  obtain ⟨v5, T5, L5, X5, q5, st5⟩ := own_callP X4 hx hZ hown (y := (⟨"java/lang/AbstractStringBuilder", "putStringAt", "(ILjava/lang/String;)V"⟩ : MethodName)) (hw _ (List.mem_of_getElem? (i := 90) rfl)) (hw _ (List.mem_of_getElem? (i := 92) rfl)) (notFace_of_selects (args := a0) (hw _ (List.mem_of_getElem? (i := 93) rfl))) (hw _ (List.mem_of_getElem? (i := 91) rfl)) (hw _ (List.mem_of_getElem? (i := 31) rfl)) (hw _ (List.mem_of_getElem? (i := 94) rfl)) E0 (b := a) (argsL := [(.int (0 : Int32)), (.ref sx)]) (own_put_4_16_0 l Z a0 hw [] cz a b sx t kb kt x0 x1 x2 x3  h0 O0 SC hcz E0 g0 FV FC FN AB gb Esx Vsx Csx Asx tb sxb sxa ta ba) 0 (by decide) (by decide) (by decide) (by decide) (by decide) e4 (g := (mkF m 30 #[.val (.ref a), .val (.ref sx), .val (.int (4 : Int32))] [(.ref sx), (.int (0 : Int32)), (.ref a)])) rfl (by rw [hml]; rfl) [] (lenOf own_pd__28ILjava_2flang_2fString_3b_29V rfl) rfl (by show 2 * 0 + _ ≤ _; exact Nat.le_of_eq rfl) (hb hby own_d9_30)
  obtain ⟨rfl, N5q, K5q, f5q⟩ := q5
  have N5 := Fr.app N3 N5q
  have f6 := (E0.keep K5q)
  have f7 := (FV.keep K5q (ninS (Ne.symm ba) nin0))
  have f8 := (FC.keep K5q (ninS (Ne.symm ba) nin0))
  have f9 := (FN.keep K5q (ninS (Ne.symm ba) nin0))
  have f11 := (Esx.keep K5q)
  have f12 := (Vsx.keep K5q (ninS sxb nin0))
  have f13 := (Csx.keep K5q (ninS sxb nin0))
  have f14 := (Asx.keep K5q (ninS tb nin0))
  have O5 := O0.keep K5q (allS gb all0)
  have K5 := (Keep.refl h0 [a, b]).trans K5q (allS (Or.inl (List.mem_of_getElem? (i := 1) rfl)) all0)
  refine own_st (T5.setTop (mkF m 33 #[.val (.ref a), .val (.ref sx), .val (.int (4 : Int32))] [])) st5 ?_
  refine own_st (T5.setTop (mkF m 34 #[.val (.ref a), .val (.ref sx), .val (.int (4 : Int32))] [(.ref a)])) (fun tq kq => XS.aloadN X5.here hx rfl (hb hby own_d9_33) rfl (by rfl) kq) ?_
  refine own_st (T5.setTop (mkF m 35 #[.val (.ref a), .val (.ref sx), .val (.int (4 : Int32))] [(.ref a), (.ref a)])) (fun tq kq => XS.dup X5.here hx rfl (hb hby own_d9_34) rfl (by rfl) kq) ?_
  obtain ⟨T15, X15, e15, st15⟩ := getF X5 hx hZ hown (host := "") (Or.inl (hw _ (List.mem_of_getElem? (i := 83) rfl))) Via.refl rfl f9 (g := (mkF m 35 #[.val (.ref a), .val (.ref sx), .val (.int (4 : Int32))] [(.ref a), (.ref a)])) rfl rfl (hb hby own_d9_35)
  refine own_st (T15.setTop (mkF m 38 #[.val (.ref a), .val (.ref sx), .val (.int (4 : Int32))] [(.int (0 : Int32)), (.ref a)])) st15 ?_
  refine own_st (T15.setTop (mkF m 39 #[.val (.ref a), .val (.ref sx), .val (.int (4 : Int32))] [(.int (4 : Int32)), (.int (0 : Int32)), (.ref a)])) (fun tq kq => XS.iloadN X15.here hx rfl (hb hby own_d9_38) rfl kq) ?_
  refine own_st (T15.setTop (mkF m 40 #[.val (.ref a), .val (.ref sx), .val (.int (4 : Int32))] [(.int (4 : Int32)), (.ref a)])) (fun tq kq => XS.iadd X15.here hx rfl (hb hby own_d9_39) rfl kq) ?_
  obtain ⟨T16, h16, X16, e16, W16, st16⟩ := putF X15 hx hZ hown (host := "") (Or.inl (hw _ (List.mem_of_getElem? (i := 83) rfl))) Via.refl e15 f9 f6 (Or.inl (hw _ (List.mem_of_getElem? (i := 84) rfl))) (hw _ (List.mem_of_getElem? (i := 22) rfl)) (ty := .int) (by decide) (by rfl) (by rfl) (g := (mkF m 40 #[.val (.ref a), .val (.ref sx), .val (.int (4 : Int32))] [(.int (4 : Int32)), (.ref a)])) rfl rfl (hb hby own_d9_40)
  have N16 := Fr.snoc X16 N5 g0
  have O16 := O5.wr W16 g0
  have K16 := K5.wr W16 (Or.inl (List.mem_of_getElem? (i := 0) rfl))
  have f17 := (f6.wr W16)
  have f18 := (f7.other W16 (Or.inr (slot_ne (Or.inl (hw _ (List.mem_of_getElem? (i := 38) rfl))) (Or.inl (hw _ (List.mem_of_getElem? (i := 84) rfl))) (by decide) (t := (.array .byte)) (t' := .int) (by decide) (by decide))))
  have f19 := (f8.other W16 (Or.inr (slot_ne (Or.inl (hw _ (List.mem_of_getElem? (i := 40) rfl))) (Or.inl (hw _ (List.mem_of_getElem? (i := 84) rfl))) (by decide) (t := .byte) (t' := .int) (by decide) (by decide))))
  have f21 := (f11.wr W16)
  have f22 := (f12.other W16 (Or.inl sxa))
  have f23 := (f13.other W16 (Or.inl sxa))
  have f24 := (f14.other W16 ta)
  have f25 := (f5q.other W16 ba)
  have f26 := (f9.same W16)
  refine own_st (T16.setTop (mkF m 43 #[.val (.ref a), .val (.ref sx), .val (.int (4 : Int32))] [])) st16 ?_
  refine own_st (T16.setTop (mkF m 44 #[.val (.ref a), .val (.ref sx), .val (.int (4 : Int32))] [(.ref a)])) (fun tq kq => XS.aloadN X16.here hx rfl (hb hby own_d9_43) rfl (by rfl) kq) ?_
  exact own_ret X16 hlk (v := some (.ref a)) (fun h => by rw [hret] at h; cases h) e16 (⟨rfl, N16, K16, f18, f19, f26, f25⟩) (by decide) (by decide) (fun fs hr => retOut X16 hx hret rfl (Or.inr (Or.inr (Or.inr (Or.inr ⟨rfl, rfl, rfl⟩)))) (hb hby own_d9_44) hr)
theorem own_d8_0 : decode jdk_67_method_7_code 0 = .ok (.aload_n 0, 1) := by decide +kernel
theorem own_d8_1 : decode jdk_67_method_7_code 1 = .ok (.aload_n 1, 1) := by decide +kernel
theorem own_pd__28Ljava_2flang_2fString_3b_29Ljava_2flang_2fAbstractStringBuilder_3b : parseMethodDescriptor "(Ljava/lang/String;)Ljava/lang/AbstractStringBuilder;" = some ⟨[(.object "java/lang/String")], some (.object "java/lang/AbstractStringBuilder")⟩ := by decide +kernel
theorem own_d8_2 : decode jdk_67_method_7_code 2 = .ok (.invokespecial 29, 3) := by decide +kernel
theorem own_nf9 {Z : State} {a0 : Array Value} (hw : ∀ d ∈ tables_1, d.before a0 Z = true) : NotFace Z (⟨"java/lang/AbstractStringBuilder", "append", "(Ljava/lang/String;)Ljava/lang/AbstractStringBuilder;"⟩ : MethodName) := by
  obtain ⟨r, hr⟩ := own_named (hw _ (List.mem_of_getElem? (i := 86) rfl))
  exact own_nfc (notFace_of_selects (args := a0) (hw _ (List.mem_of_getElem? (i := 88) rfl))) hr rfl
theorem own_d8_5 : decode jdk_67_method_7_code 5 = .ok (.pop, 1) := by decide +kernel
theorem own_d8_6 : decode jdk_67_method_7_code 6 = .ok (.aload_n 0, 1) := by decide +kernel
theorem own_d8_7 : decode jdk_67_method_7_code 7 = .ok (.areturn, 1) := by decide +kernel
set_option maxRecDepth 65536 in
set_option maxHeartbeats 40000000 in
theorem own_sbApp_4_16_0 (l : Launch) (Z : State) (a0 : Array Value) (hw : ∀ d ∈ tables_1, d.before a0 Z = true) (ws : List Jvm.Cond) (cz : Int32) (a b sx t : Addr) (kb kt : ClassId) (x0 x1 x2 x3 : Int32)  (h0 : Heap) (O0 : Old Z Z.heap.size h0) (SC : Sta Z Z.heap "java/lang/String" "COMPACT_STRINGS" "Z" (.int cz)) (hcz : ¬ (cz = (0 : Int32))) (E0 : Exa Z h0 a "java/lang/StringBuilder") (g0 : Z.heap.size ≤ a) (FV : Fld Z h0 a "java/lang/AbstractStringBuilder" "value" "[B" (.ref b)) (FC : Fld Z h0 a "java/lang/AbstractStringBuilder" "coder" "B" (.int (0 : Int32))) (FN : Fld Z h0 a "java/lang/AbstractStringBuilder" "count" "I" (.int (0 : Int32))) (AB : Arv Z h0 b kb .byte (16 : Int32) [(.int (0 : Int32)), (.int (0 : Int32)), (.int (0 : Int32)), (.int (0 : Int32)), (.int (0 : Int32)), (.int (0 : Int32)), (.int (0 : Int32)), (.int (0 : Int32)), (.int (0 : Int32)), (.int (0 : Int32)), (.int (0 : Int32)), (.int (0 : Int32)), (.int (0 : Int32)), (.int (0 : Int32)), (.int (0 : Int32)), (.int (0 : Int32))] (.int (0 : Int32))) (gb : Z.heap.size ≤ b) (Esx : Exa Z h0 sx "java/lang/String") (Vsx : Fld Z h0 sx "java/lang/String" "value" "[B" (.ref t)) (Csx : Fld Z h0 sx "java/lang/String" "coder" "B" (.int (0 : Int32))) (Asx : Arv Z h0 t kt .byte (4 : Int32) [(.int x0), (.int x1), (.int x2), (.int x3)] (.int (0 : Int32))) (tb : t ≠ b) (sxb : sx ≠ b) (sxa : sx ≠ a) (ta : t ≠ a) (ba : b ≠ a) :
    ownMet l (⟨"java/lang/StringBuilder", "append", "(Ljava/lang/String;)Ljava/lang/StringBuilder;"⟩ : MethodName) jdk_67_method_7_code 2 (some (.object "java/lang/StringBuilder")) ws ({ frames := 4, cells := 0, slots := 0, locals := 61 } : Room) Z #[(.ref a), (.ref sx)] h0 (fun v h L => v = some (.ref a) ∧ Fr Z.heap.size L ∧ Keep h0 h [a, b] ∧ Fld Z h a "java/lang/AbstractStringBuilder" "value" "[B" (.ref b) ∧ Fld Z h a "java/lang/AbstractStringBuilder" "coder" "B" (.int (0 : Int32)) ∧ Fld Z h a "java/lang/AbstractStringBuilder" "count" "I" (.int (4 : Int32)) ∧ Arv Z h b kb .byte (16 : Int32) [(.int x0), (.int x1), (.int x2), (.int x3), (.int (0 : Int32)), (.int (0 : Int32)), (.int (0 : Int32)), (.int (0 : Int32)), (.int (0 : Int32)), (.int (0 : Int32)), (.int (0 : Int32)), (.int (0 : Int32)), (.int (0 : Int32)), (.int (0 : Int32)), (.int (0 : Int32)), (.int (0 : Int32))] (.int (0 : Int32))) := by
  refine own_met (plainFor_of_name own_pn_java_lang_StringBuilder) ?_
  intro p e s m below meth c s₁ hx hby hml hown hnm hret hlk hZ e0 X0
  refine own_cast (show _ = (mkF m 0 #[.val (.ref a), .val (.ref sx)] []) by first | (simp [entryFrame, mkF, argsToLocals, Value.category]; done) | rfl) ?_
  refine own_st (s₁.setTop (mkF m 1 #[.val (.ref a), .val (.ref sx)] [(.ref a)])) (fun tq kq => XS.aloadN X0.here hx rfl (hb hby own_d8_0) rfl (by rfl) kq) ?_
  refine own_st (s₁.setTop (mkF m 2 #[.val (.ref a), .val (.ref sx)] [(.ref sx), (.ref a)])) (fun tq kq => XS.aloadN X0.here hx rfl (hb hby own_d8_1) rfl (by rfl) kq) ?_
  obtain ⟨v1, T1, L1, X1, q1, st1⟩ := own_callSup X0 hx hZ hown (y := (⟨"java/lang/AbstractStringBuilder", "append", "(Ljava/lang/String;)Ljava/lang/AbstractStringBuilder;"⟩ : MethodName)) (hw _ (List.mem_of_getElem? (i := 65) rfl)) (own_nf9 hw) (hw _ (List.mem_of_getElem? (i := 66) rfl)) (hw _ (List.mem_of_getElem? (i := 67) rfl)) (by decide) (hw _ (List.mem_of_getElem? (i := 31) rfl)) (hw _ (List.mem_of_getElem? (i := 69) rfl)) E0 (b := a) (argsL := [(.ref sx)]) (own_asbApp_4_16_0 l Z a0 hw [] cz a b sx t kb kt x0 x1 x2 x3  h0 O0 SC hcz E0 g0 FV FC FN AB gb Esx Vsx Csx Asx tb sxb sxa ta ba) 0 (by decide) (by decide) (by decide) (by decide) (by decide) e0 (g := (mkF m 2 #[.val (.ref a), .val (.ref sx)] [(.ref sx), (.ref a)])) rfl (by rw [hml]; rfl) [] (lenOf own_pd__28Ljava_2flang_2fString_3b_29Ljava_2flang_2fAbstractStringBuilder_3b rfl) rfl (by show 2 * 0 + _ ≤ _; exact Nat.le_of_eq rfl) (hb hby own_d8_2)
  obtain ⟨rfl, N1q, K1q, fv1, fc1, fn1, f1q⟩ := q1
  have N1 := Fr.app (Fr.nil _) N1q
  have f2 := (E0.keep K1q)
  have f7 := (Esx.keep K1q)
  have f8 := (Vsx.keep K1q (ninS sxa (ninS sxb nin0)))
  have f9 := (Csx.keep K1q (ninS sxa (ninS sxb nin0)))
  have f10 := (Asx.keep K1q (ninS ta (ninS tb nin0)))
  have O1 := O0.keep K1q (allS g0 (allS gb all0))
  have K1 := (Keep.refl h0 [a, b]).trans K1q (allS (Or.inl (List.mem_of_getElem? (i := 0) rfl)) (allS (Or.inl (List.mem_of_getElem? (i := 1) rfl)) all0))
  refine own_st (T1.setTop (mkF m 5 #[.val (.ref a), .val (.ref sx)] [(.ref a)])) st1 ?_
  refine own_st (T1.setTop (mkF m 6 #[.val (.ref a), .val (.ref sx)] [])) (fun tq kq => XS.pop X1.here hx rfl (hb hby own_d8_5) rfl (by rfl) kq) ?_
  refine own_st (T1.setTop (mkF m 7 #[.val (.ref a), .val (.ref sx)] [(.ref a)])) (fun tq kq => XS.aloadN X1.here hx rfl (hb hby own_d8_6) rfl (by rfl) kq) ?_
  exact own_ret X1 hlk (v := some (.ref a)) (fun h => by rw [hret] at h; cases h) rfl (⟨rfl, N1, K1, fv1, fc1, fn1, f1q⟩) (by decide) (by decide) (fun fs hr => retOut X1 hx hret rfl (Or.inr (Or.inr (Or.inr (Or.inr ⟨rfl, rfl, rfl⟩)))) (hb hby own_d8_7) hr)
theorem own_d19_0 : decode jdk_68_method_64_code 0 = .ok (.aload_n 0, 1) := by decide +kernel
theorem own_d19_1 : decode jdk_68_method_64_code 1 = .ok (.getfield 15, 3) := by decide +kernel
theorem own_d19_4 : decode jdk_68_method_64_code 4 = .ok (.areturn, 1) := by decide +kernel
set_option maxRecDepth 65536 in
set_option maxHeartbeats 40000000 in
theorem own_asbVal (l : Launch) (Z : State) (a0 : Array Value) (hw : ∀ d ∈ tables_1, d.before a0 Z = true) (ws : List Jvm.Cond) (a b : Addr) (h0 : Heap) (O0 : Old Z Z.heap.size h0) (FV : Fld Z h0 a "java/lang/AbstractStringBuilder" "value" "[B" (.ref b)) :
    ownMet l (⟨"java/lang/AbstractStringBuilder", "getValue", "()[B"⟩ : MethodName) jdk_68_method_64_code 1 (some (.array .byte)) ws ({ frames := 0, cells := 0, slots := 0, locals := 0 } : Room) Z #[(.ref a)] h0 (fun v h L => v = some (.ref b) ∧ Fr Z.heap.size L ∧ h = h0) := by
  refine own_met (plainFor_of_name own_pn_java_lang_AbstractStringBuilder) ?_
  intro p e s m below meth c s₁ hx hby hml hown hnm hret hlk hZ e0 X0
  refine own_cast (show _ = (mkF m 0 #[.val (.ref a)] []) by first | (simp [entryFrame, mkF, argsToLocals, Value.category]; done) | rfl) ?_
  refine own_st (s₁.setTop (mkF m 1 #[.val (.ref a)] [(.ref a)])) (fun tq kq => XS.aloadN X0.here hx rfl (hb hby own_d19_0) rfl (by rfl) kq) ?_
  obtain ⟨T1, X1, e1, st1⟩ := getF X0 hx hZ hown (host := "") (Or.inl (hw _ (List.mem_of_getElem? (i := 37) rfl))) Via.refl e0 FV (g := (mkF m 1 #[.val (.ref a)] [(.ref a)])) rfl rfl (hb hby own_d19_1)
  refine own_st (T1.setTop (mkF m 4 #[.val (.ref a)] [(.ref b)])) st1 ?_
  exact own_ret X1 hlk (v := some (.ref b)) (fun h => by rw [hret] at h; cases h) e1 (⟨rfl, (Fr.nil _), rfl⟩) (by decide) (by decide) (fun fs hr => retOut X1 hx hret rfl (Or.inr (Or.inr (Or.inr (Or.inr ⟨rfl, rfl, rfl⟩)))) (hb hby own_d19_4) hr)
theorem own_d21_0 : decode jdk_68_method_6_code 0 = .ok (.aload_n 0, 1) := by decide +kernel
theorem own_d21_1 : decode jdk_68_method_6_code 1 = .ok (.getfield 79, 3) := by decide +kernel
theorem own_d21_4 : decode jdk_68_method_6_code 4 = .ok (.ireturn, 1) := by decide +kernel
set_option maxRecDepth 65536 in
set_option maxHeartbeats 40000000 in
theorem own_asbLen (l : Launch) (Z : State) (a0 : Array Value) (hw : ∀ d ∈ tables_1, d.before a0 Z = true) (ws : List Jvm.Cond) (a : Addr) (n : Int32) (h0 : Heap) (O0 : Old Z Z.heap.size h0) (FN : Fld Z h0 a "java/lang/AbstractStringBuilder" "count" "I" (.int n)) :
    ownMet l (⟨"java/lang/AbstractStringBuilder", "length", "()I"⟩ : MethodName) jdk_68_method_6_code 1 (some .int) ws ({ frames := 0, cells := 0, slots := 0, locals := 0 } : Room) Z #[(.ref a)] h0 (fun v h L => v = some (.int n) ∧ Fr Z.heap.size L ∧ h = h0) := by
  refine own_met (plainFor_of_name own_pn_java_lang_AbstractStringBuilder) ?_
  intro p e s m below meth c s₁ hx hby hml hown hnm hret hlk hZ e0 X0
  refine own_cast (show _ = (mkF m 0 #[.val (.ref a)] []) by first | (simp [entryFrame, mkF, argsToLocals, Value.category]; done) | rfl) ?_
  refine own_st (s₁.setTop (mkF m 1 #[.val (.ref a)] [(.ref a)])) (fun tq kq => XS.aloadN X0.here hx rfl (hb hby own_d21_0) rfl (by rfl) kq) ?_
  obtain ⟨T1, X1, e1, st1⟩ := getF X0 hx hZ hown (host := "") (Or.inl (hw _ (List.mem_of_getElem? (i := 83) rfl))) Via.refl e0 FN (g := (mkF m 1 #[.val (.ref a)] [(.ref a)])) rfl rfl (hb hby own_d21_1)
  refine own_st (T1.setTop (mkF m 4 #[.val (.ref a)] [(.int n)])) st1 ?_
  exact own_ret X1 hlk (v := some (.int n)) (fun h => by rw [hret] at h; cases h) e1 (⟨rfl, (Fr.nil _), rfl⟩) (by decide) (by decide) (fun fs hr => retI X1 hx hret (hb hby own_d21_4) hr)
theorem own_d20_0 : decode jdk_67_method_93_code 0 = .ok (.aload_n 0, 1) := by decide +kernel
theorem own_d20_1 : decode jdk_67_method_93_code 1 = .ok (.invokespecial 343, 3) := by decide +kernel
theorem own_nf21 {Z : State} {a0 : Array Value} (hw : ∀ d ∈ tables_1, d.before a0 Z = true) : NotFace Z (⟨"java/lang/AbstractStringBuilder", "length", "()I"⟩ : MethodName) := by
  obtain ⟨r, hr⟩ := own_named (hw _ (List.mem_of_getElem? (i := 86) rfl))
  exact own_nfc (notFace_of_selects (args := a0) (hw _ (List.mem_of_getElem? (i := 88) rfl))) hr rfl
theorem own_d20_4 : decode jdk_67_method_93_code 4 = .ok (.ireturn, 1) := by decide +kernel
set_option maxRecDepth 65536 in
set_option maxHeartbeats 40000000 in
theorem own_sbLen (l : Launch) (Z : State) (a0 : Array Value) (hw : ∀ d ∈ tables_1, d.before a0 Z = true) (ws : List Jvm.Cond) (a : Addr) (n : Int32) (h0 : Heap) (O0 : Old Z Z.heap.size h0) (E0 : Exa Z h0 a "java/lang/StringBuilder") (FN : Fld Z h0 a "java/lang/AbstractStringBuilder" "count" "I" (.int n)) :
    ownMet l (⟨"java/lang/StringBuilder", "length", "()I"⟩ : MethodName) jdk_67_method_93_code 1 (some .int) ws ({ frames := 1, cells := 0, slots := 0, locals := 12 } : Room) Z #[(.ref a)] h0 (fun v h L => v = some (.int n) ∧ Fr Z.heap.size L ∧ h = h0) := by
  refine own_met (plainFor_of_name own_pn_java_lang_StringBuilder) ?_
  intro p e s m below meth c s₁ hx hby hml hown hnm hret hlk hZ e0 X0
  refine own_cast (show _ = (mkF m 0 #[.val (.ref a)] []) by first | (simp [entryFrame, mkF, argsToLocals, Value.category]; done) | rfl) ?_
  refine own_st (s₁.setTop (mkF m 1 #[.val (.ref a)] [(.ref a)])) (fun tq kq => XS.aloadN X0.here hx rfl (hb hby own_d20_0) rfl (by rfl) kq) ?_
  obtain ⟨v1, T1, L1, X1, q1, st1⟩ := own_callSup X0 hx hZ hown (y := (⟨"java/lang/AbstractStringBuilder", "length", "()I"⟩ : MethodName)) (hw _ (List.mem_of_getElem? (i := 135) rfl)) (own_nf21 hw) (hw _ (List.mem_of_getElem? (i := 131) rfl)) (hw _ (List.mem_of_getElem? (i := 67) rfl)) (by decide) (hw _ (List.mem_of_getElem? (i := 31) rfl)) (hw _ (List.mem_of_getElem? (i := 136) rfl)) E0 (b := a) (argsL := []) (own_asbLen l Z a0 hw [] a n h0 O0 FN) 0 (by decide) (by decide) (by decide) (by decide) (by decide) e0 (g := (mkF m 1 #[.val (.ref a)] [(.ref a)])) rfl (by rw [hml]; rfl) [] (lenOf own_pd__28_29I rfl) rfl (by show 2 * 0 + _ ≤ _; exact Nat.le_of_eq rfl) (hb hby own_d20_1)
  obtain ⟨rfl, N1q, e1⟩ := q1
  have N1 := Fr.app (Fr.nil _) N1q
  refine own_st (T1.setTop (mkF m 4 #[.val (.ref a)] [(.int n)])) st1 ?_
  exact own_ret X1 hlk (v := some (.int n)) (fun h => by rw [hret] at h; cases h) e1 (⟨rfl, N1, rfl⟩) (by decide) (by decide) (fun fs hr => retI X1 hx hret (hb hby own_d20_4) hr)
theorem own_d22_0 : decode jdk_68_method_68_code 0 = .ok (.getstatic 18, 3) := by decide +kernel
theorem own_d22_3 : decode jdk_68_method_68_code 3 = .ok (.ifCond .eq 14, 3) := by decide +kernel
theorem own_d22_6 : decode jdk_68_method_68_code 6 = .ok (.aload_n 0, 1) := by decide +kernel
theorem own_d22_7 : decode jdk_68_method_68_code 7 = .ok (.getfield 22, 3) := by decide +kernel
theorem own_d22_10 : decode jdk_68_method_68_code 10 = .ok (.ifCond .ne 7, 3) := by decide +kernel
theorem own_d22_13 : decode jdk_68_method_68_code 13 = .ok (.iconst 1, 1) := by decide +kernel
theorem own_d22_14 : decode jdk_68_method_68_code 14 = .ok (.goto 4, 3) := by decide +kernel
theorem own_d22_18 : decode jdk_68_method_68_code 18 = .ok (.ireturn, 1) := by decide +kernel
set_option maxRecDepth 65536 in
set_option maxHeartbeats 40000000 in
theorem own_asbLat (l : Launch) (Z : State) (a0 : Array Value) (hw : ∀ d ∈ tables_1, d.before a0 Z = true) (ws : List Jvm.Cond) (cz : Int32) (a : Addr) (h0 : Heap) (O0 : Old Z Z.heap.size h0) (SC : Sta Z Z.heap "java/lang/String" "COMPACT_STRINGS" "Z" (.int cz)) (hcz : ¬ (cz = (0 : Int32))) (FC : Fld Z h0 a "java/lang/AbstractStringBuilder" "coder" "B" (.int (0 : Int32))) :
    ownMet l (⟨"java/lang/AbstractStringBuilder", "isLatin1", "()Z"⟩ : MethodName) jdk_68_method_68_code 1 (some .boolean) ws ({ frames := 0, cells := 0, slots := 0, locals := 0 } : Room) Z #[(.ref a)] h0 (fun v h L => v = some (.int (1 : Int32)) ∧ Fr Z.heap.size L ∧ h = h0) := by
  refine own_met (plainFor_of_name own_pn_java_lang_AbstractStringBuilder) ?_
  intro p e s m below meth c s₁ hx hby hml hown hnm hret hlk hZ e0 X0
  refine own_cast (show _ = (mkF m 0 #[.val (.ref a)] []) by first | (simp [entryFrame, mkF, argsToLocals, Value.category]; done) | rfl) ?_
  obtain ⟨T1, X1, e1, st1⟩ := getS2 X0 hx hZ hown (host := "") (Or.inl (hw _ (List.mem_of_getElem? (i := 36) rfl))) Via.refl e0 (SC.ext O0.2) (g := (mkF m 0 #[.val (.ref a)] [])) rfl (hb hby own_d22_0)
  refine own_st (T1.setTop (mkF m 3 #[.val (.ref a)] [(.int cz)])) st1 ?_
  refine own_st (T1.setTop (mkF m 6 #[.val (.ref a)] [])) (fun tq kq => XS.ifNo X1.here hx rfl (hb hby own_d22_3) rfl ((if0 _ _).trans (feq (hcz : ¬ (cz = (0 : Int32)))).1) kq) ?_
  refine own_st (T1.setTop (mkF m 7 #[.val (.ref a)] [(.ref a)])) (fun tq kq => XS.aloadN X1.here hx rfl (hb hby own_d22_6) rfl (by rfl) kq) ?_
  obtain ⟨T2, X2, e2, st2⟩ := getF X1 hx hZ hown (host := "") (Or.inl (hw _ (List.mem_of_getElem? (i := 39) rfl))) Via.refl e1 FC (g := (mkF m 7 #[.val (.ref a)] [(.ref a)])) rfl rfl (hb hby own_d22_7)
  refine own_st (T2.setTop (mkF m 10 #[.val (.ref a)] [(.int (0 : Int32))])) st2 ?_
  refine own_st (T2.setTop (mkF m 13 #[.val (.ref a)] [])) (fun tq kq => XS.ifNo X2.here hx rfl (hb hby own_d22_10) rfl ((if0 _ _).trans (teq ((by decide) : (0 : Int32) = (0 : Int32))).2) kq) ?_
  refine own_st (T2.setTop (mkF m 14 #[.val (.ref a)] [(.int (1 : Int32))])) (fun tq kq => XS.iconst X2.here hx rfl (hb hby own_d22_13) kq) ?_
  refine own_st (T2.setTop (mkF m 18 #[.val (.ref a)] [(.int (1 : Int32))])) (fun tq kq => XS.goto X2.here hx rfl (pc0 := 14) (pc' := 18) rfl (hb hby own_d22_14) (by decide) (by decide) kq) ?_
  exact own_ret X2 hlk (v := some (.int (1 : Int32))) (fun h => by rw [hret] at h; cases h) e2 (⟨rfl, (Fr.nil _), rfl⟩) (by decide) (by decide) (fun fs hr => own_retN X2 hx (t := .boolean) hret (by simp) (hb hby own_d22_18) rfl hr)
theorem own_d25_0 : decode jdk_65_method_131_code 0 = .ok (.iload_n 1, 1) := by decide +kernel
theorem own_d25_1 : decode jdk_65_method_131_code 1 = .ok (.iload_n 0, 1) := by decide +kernel
theorem own_d25_2 : decode jdk_65_method_131_code 2 = .ok (.if_icmp .ge 35, 3) := by decide +kernel
theorem own_d25_37 : decode jdk_65_method_131_code 37 = .ok (.return_, 1) := by decide +kernel
theorem own_pn_java_util_Arrays : plainName "java/util/Arrays" = true := by first | (simp [plainName, overriddenIn]; done) | decide +kernel
set_option maxRecDepth 65536 in
set_option maxHeartbeats 40000000 in
theorem own_ckLen_0_4 (l : Launch) (Z : State) (a0 : Array Value) (hw : ∀ d ∈ tables_1, d.before a0 Z = true) (ws : List Jvm.Cond)  (h0 : Heap) (O0 : Old Z Z.heap.size h0) :
    ownMet l (⟨"java/util/Arrays", "checkLength", "(II)V"⟩ : MethodName) jdk_65_method_131_code 2 none ws ({ frames := 0, cells := 0, slots := 0, locals := 0 } : Room) Z #[(.int (0 : Int32)), (.int (4 : Int32))] h0 (fun v h L => v = none ∧ Fr Z.heap.size L ∧ h = h0) := by
  refine own_met (plainFor_of_name own_pn_java_util_Arrays) ?_
  intro p e s m below meth c s₁ hx hby hml hown hnm hret hlk hZ e0 X0
  refine own_cast (show _ = (mkF m 0 #[.val (.int (0 : Int32)), .val (.int (4 : Int32))] []) by first | (simp [entryFrame, mkF, argsToLocals, Value.category]; done) | rfl) ?_
  refine own_st (s₁.setTop (mkF m 1 #[.val (.int (0 : Int32)), .val (.int (4 : Int32))] [(.int (4 : Int32))])) (fun tq kq => XS.iloadN X0.here hx rfl (hb hby own_d25_0) rfl kq) ?_
  refine own_st (s₁.setTop (mkF m 2 #[.val (.int (0 : Int32)), .val (.int (4 : Int32))] [(.int (0 : Int32)), (.int (4 : Int32))])) (fun tq kq => XS.iloadN X0.here hx rfl (hb hby own_d25_1) rfl kq) ?_
  refine own_st (s₁.setTop (mkF m 37 #[.val (.int (0 : Int32)), .val (.int (4 : Int32))] [])) (fun tq kq => XS.icmpYes X0.here hx rfl (pc0 := 2) (pc' := 37) rfl (hb hby own_d25_2) rfl (flt ((by decide) : ¬ ((4 : Int32) < (0 : Int32)))).2.1 (by decide) (by decide) kq) ?_
  exact own_ret X0 hlk (v := none) (fun _ => rfl) e0 (⟨rfl, (Fr.nil _), rfl⟩) (by decide) (by decide) (fun fs hr => X0.returnOut hx hret (hb hby own_d25_37) hr)
theorem own_d26_0 : decode jdk_29_method_69_code 0 = .ok (.iload_n 0, 1) := by decide +kernel
theorem own_d26_1 : decode jdk_29_method_69_code 1 = .ok (.iload_n 1, 1) := by decide +kernel
theorem own_d26_2 : decode jdk_29_method_69_code 2 = .ok (.if_icmp .gt 7, 3) := by decide +kernel
theorem own_d26_9 : decode jdk_29_method_69_code 9 = .ok (.iload_n 1, 1) := by decide +kernel
theorem own_d26_10 : decode jdk_29_method_69_code 10 = .ok (.ireturn, 1) := by decide +kernel
set_option maxRecDepth 65536 in
set_option maxHeartbeats 40000000 in
theorem own_min_16_4 (l : Launch) (Z : State) (a0 : Array Value) (hw : ∀ d ∈ tables_1, d.before a0 Z = true) (ws : List Jvm.Cond)  (h0 : Heap) (O0 : Old Z Z.heap.size h0) :
    ownMet l (⟨"java/lang/Math", "min", "(II)I"⟩ : MethodName) jdk_29_method_69_code 2 (some .int) ws ({ frames := 0, cells := 0, slots := 0, locals := 0 } : Room) Z #[(.int (16 : Int32)), (.int (4 : Int32))] h0 (fun v h L => v = some (.int (4 : Int32)) ∧ Fr Z.heap.size L ∧ h = h0) := by
  refine own_met (Jvm.Free.JP.mathPlain rfl (by decide +kernel)) ?_
  intro p e s m below meth c s₁ hx hby hml hown hnm hret hlk hZ e0 X0
  refine own_cast (show _ = (mkF m 0 #[.val (.int (16 : Int32)), .val (.int (4 : Int32))] []) by first | (simp [entryFrame, mkF, argsToLocals, Value.category]; done) | rfl) ?_
  refine own_st (s₁.setTop (mkF m 1 #[.val (.int (16 : Int32)), .val (.int (4 : Int32))] [(.int (16 : Int32))])) (fun tq kq => XS.iloadN X0.here hx rfl (hb hby own_d26_0) rfl kq) ?_
  refine own_st (s₁.setTop (mkF m 2 #[.val (.int (16 : Int32)), .val (.int (4 : Int32))] [(.int (4 : Int32)), (.int (16 : Int32))])) (fun tq kq => XS.iloadN X0.here hx rfl (hb hby own_d26_1) rfl kq) ?_
  refine own_st (s₁.setTop (mkF m 9 #[.val (.int (16 : Int32)), .val (.int (4 : Int32))] [])) (fun tq kq => XS.icmpYes X0.here hx rfl (pc0 := 2) (pc' := 9) rfl (hb hby own_d26_2) rfl (tlt ((by decide) : (4 : Int32) < (16 : Int32))).2.2.1 (by decide) (by decide) kq) ?_
  refine own_st (s₁.setTop (mkF m 10 #[.val (.int (16 : Int32)), .val (.int (4 : Int32))] [(.int (4 : Int32))])) (fun tq kq => XS.iloadN X0.here hx rfl (hb hby own_d26_9) rfl kq) ?_
  exact own_ret X0 hlk (v := some (.int (4 : Int32))) (fun h => by rw [hret] at h; cases h) e0 (⟨rfl, (Fr.nil _), rfl⟩) (by decide) (by decide) (fun fs hr => retI X0 hx hret (hb hby own_d26_10) hr)
theorem own_d24_0 : decode jdk_65_method_133_code 0 = .ok (.iload_n 1, 1) := by decide +kernel
theorem own_d24_1 : decode jdk_65_method_133_code 1 = .ok (.iload_n 2, 1) := by decide +kernel
theorem own_pd__28II_29V : parseMethodDescriptor "(II)V" = some ⟨[.int, .int], none⟩ := by decide +kernel
theorem own_d24_2 : decode jdk_65_method_133_code 2 = .ok (.invokestatic 343, 3) := by decide +kernel
theorem own_d24_5 : decode jdk_65_method_133_code 5 = .ok (.iload_n 2, 1) := by decide +kernel
theorem own_d24_6 : decode jdk_65_method_133_code 6 = .ok (.iload_n 1, 1) := by decide +kernel
theorem own_d24_7 : decode jdk_65_method_133_code 7 = .ok (.isub, 1) := by decide +kernel
theorem own_d24_8 : decode jdk_65_method_133_code 8 = .ok (.istore_n 3, 1) := by decide +kernel
theorem own_d24_9 : decode jdk_65_method_133_code 9 = .ok (.iload_n 3, 1) := by decide +kernel
theorem own_d24_10 : decode jdk_65_method_133_code 10 = .ok (.newarray .byte, 2) := by decide +kernel
theorem own_d24_12 : decode jdk_65_method_133_code 12 = .ok (.astore 4, 2) := by decide +kernel
theorem own_d24_14 : decode jdk_65_method_133_code 14 = .ok (.aload_n 0, 1) := by decide +kernel
theorem own_d24_15 : decode jdk_65_method_133_code 15 = .ok (.iload_n 1, 1) := by decide +kernel
theorem own_d24_16 : decode jdk_65_method_133_code 16 = .ok (.aload 4, 2) := by decide +kernel
theorem own_d24_18 : decode jdk_65_method_133_code 18 = .ok (.iconst 0, 1) := by decide +kernel
theorem own_d24_19 : decode jdk_65_method_133_code 19 = .ok (.aload_n 0, 1) := by decide +kernel
theorem own_d24_20 : decode jdk_65_method_133_code 20 = .ok (.arraylength, 1) := by decide +kernel
theorem own_d24_21 : decode jdk_65_method_133_code 21 = .ok (.iload_n 1, 1) := by decide +kernel
theorem own_d24_22 : decode jdk_65_method_133_code 22 = .ok (.isub, 1) := by decide +kernel
theorem own_d24_23 : decode jdk_65_method_133_code 23 = .ok (.iload_n 3, 1) := by decide +kernel
theorem own_pd__28II_29I : parseMethodDescriptor "(II)I" = some ⟨[.int, .int], some .int⟩ := by decide +kernel
theorem own_d24_24 : decode jdk_65_method_133_code 24 = .ok (.invokestatic 304, 3) := by decide +kernel
theorem own_d24_27 : decode jdk_65_method_133_code 27 = .ok (.invokestatic 150, 3) := by decide +kernel
theorem own_d24_30 : decode jdk_65_method_133_code 30 = .ok (.aload 4, 2) := by decide +kernel
theorem own_d24_32 : decode jdk_65_method_133_code 32 = .ok (.areturn, 1) := by decide +kernel
set_option maxRecDepth 65536 in
set_option maxHeartbeats 40000000 in
theorem own_cprb_16_4 (l : Launch) (Z : State) (a0 : Array Value) (hw : ∀ d ∈ tables_1, d.before a0 Z = true) (ws : List Jvm.Cond) (b : Addr) (kb : ClassId) (y0 y1 y2 y3 y4 y5 y6 y7 y8 y9 y10 y11 y12 y13 y14 y15 : Int32) (h0 : Heap) (O0 : Old Z Z.heap.size h0) (AB : Arv Z h0 b kb .byte (16 : Int32) [(.int y0), (.int y1), (.int y2), (.int y3), (.int y4), (.int y5), (.int y6), (.int y7), (.int y8), (.int y9), (.int y10), (.int y11), (.int y12), (.int y13), (.int y14), (.int y15)] (.int (0 : Int32))) :
    ownMet l (⟨"java/util/Arrays", "copyOfRangeByte", "([BII)[B"⟩ : MethodName) jdk_65_method_133_code 5 (some (.array .byte)) ws ({ frames := 1, cells := 1, slots := 4, locals := 18 } : Room) Z #[(.ref b), (.int (0 : Int32)), (.int (4 : Int32))] h0 (fun v h L => ∃ (r : Addr) (kr : ClassId), v = some (.ref r) ∧ Fr Z.heap.size L ∧ Keep h0 h [] ∧ Z.heap.size ≤ r ∧ h0.size ≤ r ∧ Arv Z h r kr .byte (4 : Int32) [(.int y0), (.int y1), (.int y2), (.int y3)] (.int (0 : Int32))) := by
  refine own_met (plainFor_of_name own_pn_java_util_Arrays) ?_
  intro p e s m below meth c s₁ hx hby hml hown hnm hret hlk hZ e0 X0
  refine own_cast (show _ = (mkF m 0 #[.val (.ref b), .val (.int (0 : Int32)), .val (.int (4 : Int32)), .unset, .unset] []) by first | (simp [entryFrame, mkF, argsToLocals, Value.category]; done) | rfl) ?_
  refine own_st (s₁.setTop (mkF m 1 #[.val (.ref b), .val (.int (0 : Int32)), .val (.int (4 : Int32)), .unset, .unset] [(.int (0 : Int32))])) (fun tq kq => XS.iloadN X0.here hx rfl (hb hby own_d24_0) rfl kq) ?_
  refine own_st (s₁.setTop (mkF m 2 #[.val (.ref b), .val (.int (0 : Int32)), .val (.int (4 : Int32)), .unset, .unset] [(.int (4 : Int32)), (.int (0 : Int32))])) (fun tq kq => XS.iloadN X0.here hx rfl (hb hby own_d24_1) rfl kq) ?_
  obtain ⟨v1, T1, L1, X1, q1, st1⟩ := own_callS X0 hx hZ hown (hw _ (List.mem_of_getElem? (i := 149) rfl)) (hw _ (List.mem_of_getElem? (i := 150) rfl)) (hw _ (List.mem_of_getElem? (i := 144) rfl)) (hw _ (List.mem_of_getElem? (i := 151) rfl)) (argsL := [(.int (0 : Int32)), (.int (4 : Int32))]) (own_ckLen_0_4 l Z a0 hw [] h0 O0) 0 (by decide) (by decide) (by decide) (by decide) (by decide) e0 (g := (mkF m 2 #[.val (.ref b), .val (.int (0 : Int32)), .val (.int (4 : Int32)), .unset, .unset] [(.int (4 : Int32)), (.int (0 : Int32))])) rfl (by rw [hml]; rfl) [] (lenOf own_pd__28II_29V rfl) rfl (by show 2 * 0 + _ ≤ _; exact Nat.le_of_eq rfl) (hb hby own_d24_2)
  obtain ⟨rfl, N1q, e1⟩ := q1
  have N1 := Fr.app (Fr.nil _) N1q
  refine own_st (T1.setTop (mkF m 5 #[.val (.ref b), .val (.int (0 : Int32)), .val (.int (4 : Int32)), .unset, .unset] [])) st1 ?_
  refine own_st (T1.setTop (mkF m 6 #[.val (.ref b), .val (.int (0 : Int32)), .val (.int (4 : Int32)), .unset, .unset] [(.int (4 : Int32))])) (fun tq kq => XS.iloadN X1.here hx rfl (hb hby own_d24_5) rfl kq) ?_
  refine own_st (T1.setTop (mkF m 7 #[.val (.ref b), .val (.int (0 : Int32)), .val (.int (4 : Int32)), .unset, .unset] [(.int (0 : Int32)), (.int (4 : Int32))])) (fun tq kq => XS.iloadN X1.here hx rfl (hb hby own_d24_6) rfl kq) ?_
  refine own_st (T1.setTop (mkF m 8 #[.val (.ref b), .val (.int (0 : Int32)), .val (.int (4 : Int32)), .unset, .unset] [(.int (4 : Int32))])) (fun tq kq => XS.isub X1.here hx rfl (hb hby own_d24_7) rfl kq) ?_
  refine own_st (T1.setTop (mkF m 9 #[.val (.ref b), .val (.int (0 : Int32)), .val (.int (4 : Int32)), .val (.int (4 : Int32)), .unset] [])) (fun tq kq => XS.istoreN X1.here hx rfl (hb hby own_d24_8) rfl (l' := #[.val (.ref b), .val (.int (0 : Int32)), .val (.int (4 : Int32)), .val (.int (4 : Int32)), .unset]) rfl kq) ?_
  refine own_st (T1.setTop (mkF m 10 #[.val (.ref b), .val (.int (0 : Int32)), .val (.int (4 : Int32)), .val (.int (4 : Int32)), .unset] [(.int (4 : Int32))])) (fun tq kq => XS.iloadN X1.here hx rfl (hb hby own_d24_9) rfl kq) ?_
  obtain ⟨T2, h2, cA2, X2, e2, E2, A2, st2⟩ := newP X1 hx hZ (hw _ (List.mem_of_getElem? (i := 11) rfl)) e1 (g := (mkF m 10 #[.val (.ref b), .val (.int (0 : Int32)), .val (.int (4 : Int32)), .val (.int (4 : Int32)), .unset] [(.int (4 : Int32))])) rfl (hb hby own_d24_10) rfl (by decide) (cap := 4) (by decide) (by decide) (by decide) (by decide)
  obtain ⟨b2, g2⟩ : ∃ z, z = h0.size := ⟨_, rfl⟩
  have z2 : Z.heap.size ≤ b2 := Nat.le_trans O0.2.1 (Nat.le_of_eq g2.symm)
  have neb_2 : b ≠ b2 := Nat.ne_of_lt (Nat.lt_of_lt_of_le AB.lt (Nat.le_of_eq g2.symm))
  have s2 : h0.size ≤ b2 := Nat.le_trans (Keep.refl h0 []).1 (Nat.le_of_eq g2.symm)
  rw [← g2] at A2 st2
  have f3 := (AB.ext E2)
  have O2 := O0.ext E2
  have K2 := (Keep.refl h0 []).ext E2
  have f4 : Arv Z h2 b2 cA2 .byte (4 : Int32) [(.int (0 : Int32)), (.int (0 : Int32)), (.int (0 : Int32)), (.int (0 : Int32))] (.int (0 : Int32)) := (Arv.new A2 (by decide)).pad (pad_rep [] (.int (0 : Int32)) 4)
  refine own_st (T2.setTop (mkF m 12 #[.val (.ref b), .val (.int (0 : Int32)), .val (.int (4 : Int32)), .val (.int (4 : Int32)), .unset] [(.ref b2)])) st2 ?_
  refine own_st (T2.setTop (mkF m 14 #[.val (.ref b), .val (.int (0 : Int32)), .val (.int (4 : Int32)), .val (.int (4 : Int32)), .val (.ref b2)] [])) (fun tq kq => XS.astore X2.here hx rfl (hb hby own_d24_12) rfl (by rfl) (l' := #[.val (.ref b), .val (.int (0 : Int32)), .val (.int (4 : Int32)), .val (.int (4 : Int32)), .val (.ref b2)]) rfl kq) ?_
  refine own_st (T2.setTop (mkF m 15 #[.val (.ref b), .val (.int (0 : Int32)), .val (.int (4 : Int32)), .val (.int (4 : Int32)), .val (.ref b2)] [(.ref b)])) (fun tq kq => XS.aloadN X2.here hx rfl (hb hby own_d24_14) rfl (by rfl) kq) ?_
  refine own_st (T2.setTop (mkF m 16 #[.val (.ref b), .val (.int (0 : Int32)), .val (.int (4 : Int32)), .val (.int (4 : Int32)), .val (.ref b2)] [(.int (0 : Int32)), (.ref b)])) (fun tq kq => XS.iloadN X2.here hx rfl (hb hby own_d24_15) rfl kq) ?_
  refine own_st (T2.setTop (mkF m 18 #[.val (.ref b), .val (.int (0 : Int32)), .val (.int (4 : Int32)), .val (.int (4 : Int32)), .val (.ref b2)] [(.ref b2), (.int (0 : Int32)), (.ref b)])) (fun tq kq => XS.aload X2.here hx rfl (hb hby own_d24_16) rfl (by rfl) kq) ?_
  refine own_st (T2.setTop (mkF m 19 #[.val (.ref b), .val (.int (0 : Int32)), .val (.int (4 : Int32)), .val (.int (4 : Int32)), .val (.ref b2)] [(.int (0 : Int32)), (.ref b2), (.int (0 : Int32)), (.ref b)])) (fun tq kq => XS.iconst X2.here hx rfl (hb hby own_d24_18) kq) ?_
  refine own_st (T2.setTop (mkF m 20 #[.val (.ref b), .val (.int (0 : Int32)), .val (.int (4 : Int32)), .val (.int (4 : Int32)), .val (.ref b2)] [(.ref b), (.int (0 : Int32)), (.ref b2), (.int (0 : Int32)), (.ref b)])) (fun tq kq => XS.aloadN X2.here hx rfl (hb hby own_d24_19) rfl (by rfl) kq) ?_
  obtain ⟨cl5, q5a, q5b, q5c, q5d, q5e, q5f⟩ := id f3
  refine own_st (T2.setTop (mkF m 21 #[.val (.ref b), .val (.int (0 : Int32)), .val (.int (4 : Int32)), .val (.int (4 : Int32)), .val (.ref b2)] [(.int (16 : Int32)), (.int (0 : Int32)), (.ref b2), (.int (0 : Int32)), (.ref b)])) (fun tq kq => X2.arraylength hx (by rw [e2]; exact q5a.1) (State.isArrayOf_alike hZ.alike q5a.2.1) (g := (mkF m 20 #[.val (.ref b), .val (.int (0 : Int32)), .val (.int (4 : Int32)), .val (.int (4 : Int32)), .val (.ref b2)] [(.ref b), (.int (0 : Int32)), (.ref b2), (.int (0 : Int32)), (.ref b)])) rfl rfl (hb hby own_d24_20) tq (by rw [len_of q5c q5d]; exact kq)) ?_
  refine own_st (T2.setTop (mkF m 22 #[.val (.ref b), .val (.int (0 : Int32)), .val (.int (4 : Int32)), .val (.int (4 : Int32)), .val (.ref b2)] [(.int (0 : Int32)), (.int (16 : Int32)), (.int (0 : Int32)), (.ref b2), (.int (0 : Int32)), (.ref b)])) (fun tq kq => XS.iloadN X2.here hx rfl (hb hby own_d24_21) rfl kq) ?_
  refine own_st (T2.setTop (mkF m 23 #[.val (.ref b), .val (.int (0 : Int32)), .val (.int (4 : Int32)), .val (.int (4 : Int32)), .val (.ref b2)] [(.int (16 : Int32)), (.int (0 : Int32)), (.ref b2), (.int (0 : Int32)), (.ref b)])) (fun tq kq => XS.isub X2.here hx rfl (hb hby own_d24_22) rfl kq) ?_
  refine own_st (T2.setTop (mkF m 24 #[.val (.ref b), .val (.int (0 : Int32)), .val (.int (4 : Int32)), .val (.int (4 : Int32)), .val (.ref b2)] [(.int (4 : Int32)), (.int (16 : Int32)), (.int (0 : Int32)), (.ref b2), (.int (0 : Int32)), (.ref b)])) (fun tq kq => XS.iloadN X2.here hx rfl (hb hby own_d24_23) rfl kq) ?_
  obtain ⟨v6, T6, L6, X6, q6, st6⟩ := own_callS X2 hx hZ hown (hw _ (List.mem_of_getElem? (i := 152) rfl)) (hw _ (List.mem_of_getElem? (i := 153) rfl)) (hw _ (List.mem_of_getElem? (i := 154) rfl)) (hw _ (List.mem_of_getElem? (i := 155) rfl)) (argsL := [(.int (16 : Int32)), (.int (4 : Int32))]) (own_min_16_4 l Z a0 hw [] h2 O2) 4 (by decide) (by decide) (by decide) (by decide) (by decide) e2 (g := (mkF m 24 #[.val (.ref b), .val (.int (0 : Int32)), .val (.int (4 : Int32)), .val (.int (4 : Int32)), .val (.ref b2)] [(.int (4 : Int32)), (.int (16 : Int32)), (.int (0 : Int32)), (.ref b2), (.int (0 : Int32)), (.ref b)])) rfl (by rw [hml]; rfl) [(.int (0 : Int32)), (.ref b2), (.int (0 : Int32)), (.ref b)] (lenOf own_pd__28II_29I rfl) rfl (by show 2 * 0 + _ ≤ _; exact Nat.le_of_eq rfl) (hb hby own_d24_24)
  obtain ⟨rfl, N6q, e6⟩ := q6
  have N6 := Fr.app N1 N6q
  refine own_st (T6.setTop (mkF m 27 #[.val (.ref b), .val (.int (0 : Int32)), .val (.int (4 : Int32)), .val (.int (4 : Int32)), .val (.ref b2)] [(.int (4 : Int32)), (.int (0 : Int32)), (.ref b2), (.int (0 : Int32)), (.ref b)])) st6 ?_
  obtain ⟨T7, h7, L7, X7, e7, N7, K7q, f7q, st7⟩ := cpA X6 hx hZ hown (hw _ (List.mem_of_getElem? (i := 156) rfl)) (hw _ (List.mem_of_getElem? (i := 109) rfl)) (hw _ (List.mem_of_getElem? (i := 107) rfl)) (hw _ (List.mem_of_getElem? (i := 108) rfl)) e6 f3 f4 (us := [(.int y0), (.int y1), (.int y2), (.int y3)]) (Or.inl ⟨rfl, rfl⟩) (by decide) (by decide) (by decide) (by decide) (by decide) (by rfl) (Nat.le_of_ble_eq_true rfl) N6 z2 (g := (mkF m 27 #[.val (.ref b), .val (.int (0 : Int32)), .val (.int (4 : Int32)), .val (.int (4 : Int32)), .val (.ref b2)] [(.int (4 : Int32)), (.int (0 : Int32)), (.ref b2), (.int (0 : Int32)), (.ref b)])) rfl (by rw [hml]; rfl) rfl (hb hby own_d24_27) (by decide) (W := 0) (by show 2 * 0 + _ ≤ _; exact Nat.le_of_eq rfl) (by decide)
  have f8 : Arv Z h7 b2 cA2 .byte (4 : Int32) [(.int y0), (.int y1), (.int y2), (.int y3)] (.int (0 : Int32)) := f7q
  have f9 := (f3.keep K7q (ninS neb_2 nin0))
  have O7 := O2.keep K7q (allS z2 all0)
  have K7 := K2.trans K7q (allS (Or.inr s2) all0)
  refine own_st (T7.setTop (mkF m 30 #[.val (.ref b), .val (.int (0 : Int32)), .val (.int (4 : Int32)), .val (.int (4 : Int32)), .val (.ref b2)] [])) st7 ?_
  refine own_st (T7.setTop (mkF m 32 #[.val (.ref b), .val (.int (0 : Int32)), .val (.int (4 : Int32)), .val (.int (4 : Int32)), .val (.ref b2)] [(.ref b2)])) (fun tq kq => XS.aload X7.here hx rfl (hb hby own_d24_30) rfl (by rfl) kq) ?_
  exact own_ret X7 hlk (v := some (.ref b2)) (fun h => by rw [hret] at h; cases h) e7 (⟨_, _, rfl, N7, K7, z2, s2, f8⟩) (by decide) (by decide) (fun fs hr => retOut X7 hx hret rfl (Or.inr (Or.inr (Or.inr (Or.inr ⟨rfl, rfl, rfl⟩)))) (hb hby own_d24_32) hr)
theorem own_d23_0 : decode jdk_65_method_132_code 0 = .ok (.iload_n 1, 1) := by decide +kernel
theorem own_d23_1 : decode jdk_65_method_132_code 1 = .ok (.ifCond .ne 9, 3) := by decide +kernel
theorem own_d23_4 : decode jdk_65_method_132_code 4 = .ok (.iload_n 2, 1) := by decide +kernel
theorem own_d23_5 : decode jdk_65_method_132_code 5 = .ok (.aload_n 0, 1) := by decide +kernel
theorem own_d23_6 : decode jdk_65_method_132_code 6 = .ok (.arraylength, 1) := by decide +kernel
theorem own_d23_7 : decode jdk_65_method_132_code 7 = .ok (.if_icmp .eq 10, 3) := by decide +kernel
theorem own_d23_10 : decode jdk_65_method_132_code 10 = .ok (.aload_n 0, 1) := by decide +kernel
theorem own_d23_11 : decode jdk_65_method_132_code 11 = .ok (.iload_n 1, 1) := by decide +kernel
theorem own_d23_12 : decode jdk_65_method_132_code 12 = .ok (.iload_n 2, 1) := by decide +kernel
theorem own_pd__28_5bBII_29_5bB : parseMethodDescriptor "([BII)[B" = some ⟨[(.array .byte), .int, .int], some (.array .byte)⟩ := by decide +kernel
theorem own_d23_13 : decode jdk_65_method_132_code 13 = .ok (.invokestatic 339, 3) := by decide +kernel
theorem own_d23_16 : decode jdk_65_method_132_code 16 = .ok (.areturn, 1) := by decide +kernel
set_option maxRecDepth 65536 in
set_option maxHeartbeats 40000000 in
theorem own_cpr_16_4 (l : Launch) (Z : State) (a0 : Array Value) (hw : ∀ d ∈ tables_1, d.before a0 Z = true) (ws : List Jvm.Cond) (b : Addr) (kb : ClassId) (y0 y1 y2 y3 y4 y5 y6 y7 y8 y9 y10 y11 y12 y13 y14 y15 : Int32) (h0 : Heap) (O0 : Old Z Z.heap.size h0) (AB : Arv Z h0 b kb .byte (16 : Int32) [(.int y0), (.int y1), (.int y2), (.int y3), (.int y4), (.int y5), (.int y6), (.int y7), (.int y8), (.int y9), (.int y10), (.int y11), (.int y12), (.int y13), (.int y14), (.int y15)] (.int (0 : Int32))) :
    ownMet l (⟨"java/util/Arrays", "copyOfRange", "([BII)[B"⟩ : MethodName) jdk_65_method_132_code 3 (some (.array .byte)) ws ({ frames := 2, cells := 1, slots := 4, locals := 34 } : Room) Z #[(.ref b), (.int (0 : Int32)), (.int (4 : Int32))] h0 (fun v h L => ∃ (r : Addr) (kr : ClassId), v = some (.ref r) ∧ Fr Z.heap.size L ∧ Keep h0 h [] ∧ Z.heap.size ≤ r ∧ h0.size ≤ r ∧ Arv Z h r kr .byte (4 : Int32) [(.int y0), (.int y1), (.int y2), (.int y3)] (.int (0 : Int32))) := by
  refine own_met (plainFor_of_name own_pn_java_util_Arrays) ?_
  intro p e s m below meth c s₁ hx hby hml hown hnm hret hlk hZ e0 X0
  refine own_cast (show _ = (mkF m 0 #[.val (.ref b), .val (.int (0 : Int32)), .val (.int (4 : Int32))] []) by first | (simp [entryFrame, mkF, argsToLocals, Value.category]; done) | rfl) ?_
  refine own_st (s₁.setTop (mkF m 1 #[.val (.ref b), .val (.int (0 : Int32)), .val (.int (4 : Int32))] [(.int (0 : Int32))])) (fun tq kq => XS.iloadN X0.here hx rfl (hb hby own_d23_0) rfl kq) ?_
  refine own_st (s₁.setTop (mkF m 4 #[.val (.ref b), .val (.int (0 : Int32)), .val (.int (4 : Int32))] [])) (fun tq kq => XS.ifNo X0.here hx rfl (hb hby own_d23_1) rfl ((if0 _ _).trans (teq ((by decide) : (0 : Int32) = (0 : Int32))).2) kq) ?_
  refine own_st (s₁.setTop (mkF m 5 #[.val (.ref b), .val (.int (0 : Int32)), .val (.int (4 : Int32))] [(.int (4 : Int32))])) (fun tq kq => XS.iloadN X0.here hx rfl (hb hby own_d23_4) rfl kq) ?_
  refine own_st (s₁.setTop (mkF m 6 #[.val (.ref b), .val (.int (0 : Int32)), .val (.int (4 : Int32))] [(.ref b), (.int (4 : Int32))])) (fun tq kq => XS.aloadN X0.here hx rfl (hb hby own_d23_5) rfl (by rfl) kq) ?_
  obtain ⟨cl1, q1a, q1b, q1c, q1d, q1e, q1f⟩ := id AB
  refine own_st (s₁.setTop (mkF m 7 #[.val (.ref b), .val (.int (0 : Int32)), .val (.int (4 : Int32))] [(.int (16 : Int32)), (.int (4 : Int32))])) (fun tq kq => X0.arraylength hx (by rw [e0]; exact q1a.1) (State.isArrayOf_alike hZ.alike q1a.2.1) (g := (mkF m 6 #[.val (.ref b), .val (.int (0 : Int32)), .val (.int (4 : Int32))] [(.ref b), (.int (4 : Int32))])) rfl rfl (hb hby own_d23_6) tq (by rw [len_of q1c q1d]; exact kq)) ?_
  refine own_st (s₁.setTop (mkF m 10 #[.val (.ref b), .val (.int (0 : Int32)), .val (.int (4 : Int32))] [])) (fun tq kq => XS.icmpNo X0.here hx rfl (hb hby own_d23_7) rfl (feq ((by decide) : ¬ ((4 : Int32) = (16 : Int32)))).1 kq) ?_
  refine own_st (s₁.setTop (mkF m 11 #[.val (.ref b), .val (.int (0 : Int32)), .val (.int (4 : Int32))] [(.ref b)])) (fun tq kq => XS.aloadN X0.here hx rfl (hb hby own_d23_10) rfl (by rfl) kq) ?_
  refine own_st (s₁.setTop (mkF m 12 #[.val (.ref b), .val (.int (0 : Int32)), .val (.int (4 : Int32))] [(.int (0 : Int32)), (.ref b)])) (fun tq kq => XS.iloadN X0.here hx rfl (hb hby own_d23_11) rfl kq) ?_
  refine own_st (s₁.setTop (mkF m 13 #[.val (.ref b), .val (.int (0 : Int32)), .val (.int (4 : Int32))] [(.int (4 : Int32)), (.int (0 : Int32)), (.ref b)])) (fun tq kq => XS.iloadN X0.here hx rfl (hb hby own_d23_12) rfl kq) ?_
  obtain ⟨v2, T2, L2, X2, q2, st2⟩ := own_callS X0 hx hZ hown (hw _ (List.mem_of_getElem? (i := 146) rfl)) (hw _ (List.mem_of_getElem? (i := 147) rfl)) (hw _ (List.mem_of_getElem? (i := 144) rfl)) (hw _ (List.mem_of_getElem? (i := 148) rfl)) (argsL := [(.ref b), (.int (0 : Int32)), (.int (4 : Int32))]) (own_cprb_16_4 l Z a0 hw [] b kb y0 y1 y2 y3 y4 y5 y6 y7 y8 y9 y10 y11 y12 y13 y14 y15 h0 O0 AB) 0 (by decide) (by decide) (by decide) (by decide) (by decide) e0 (g := (mkF m 13 #[.val (.ref b), .val (.int (0 : Int32)), .val (.int (4 : Int32))] [(.int (4 : Int32)), (.int (0 : Int32)), (.ref b)])) rfl (by rw [hml]; rfl) [] (lenOf own_pd__28_5bBII_29_5bB rfl) rfl (by show 2 * 0 + _ ≤ _; exact Nat.le_of_eq rfl) (hb hby own_d23_13)
  obtain ⟨b2, kb2, rfl, N2q, K2q, z2, s2q, f2q⟩ := q2
  have N2 := Fr.app (Fr.nil _) N2q
  have nf2_b : b ≠ b2 := Nat.ne_of_lt (Nat.lt_of_lt_of_le AB.lt s2q)
  have s2 : h0.size ≤ b2 := Nat.le_trans (Keep.refl h0 []).1 s2q
  have f3 := (AB.keep K2q nin0)
  have O2 := O0.keep K2q all0
  have K2 := (Keep.refl h0 []).trans K2q all0
  refine own_st (T2.setTop (mkF m 16 #[.val (.ref b), .val (.int (0 : Int32)), .val (.int (4 : Int32))] [(.ref b2)])) st2 ?_
  exact own_ret X2 hlk (v := some (.ref b2)) (fun h => by rw [hret] at h; cases h) rfl (⟨_, _, rfl, N2, K2, z2, s2, f2q⟩) (by decide) (by decide) (fun fs hr => retOut X2 hx hret rfl (Or.inr (Or.inr (Or.inr (Or.inr ⟨rfl, rfl, rfl⟩)))) (hb hby own_d23_16) hr)
theorem own_d18_0 : decode jdk_42_method_150_code 0 = .ok (.aload_n 0, 1) := by decide +kernel
theorem own_d18_1 : decode jdk_42_method_150_code 1 = .ok (.invokespecial 1, 3) := by decide +kernel
theorem own_d18_4 : decode jdk_42_method_150_code 4 = .ok (.aload_n 1, 1) := by decide +kernel
theorem own_pd__28_29_5bB : parseMethodDescriptor "()[B" = some ⟨[], some (.array .byte)⟩ := by decide +kernel
theorem own_d18_5 : decode jdk_42_method_150_code 5 = .ok (.invokevirtual 552, 3) := by decide +kernel
theorem own_d18_8 : decode jdk_42_method_150_code 8 = .ok (.astore_n 3, 1) := by decide +kernel
theorem own_d18_9 : decode jdk_42_method_150_code 9 = .ok (.aload_n 1, 1) := by decide +kernel
theorem own_d18_10 : decode jdk_42_method_150_code 10 = .ok (.invokevirtual 549, 3) := by decide +kernel
theorem own_d18_13 : decode jdk_42_method_150_code 13 = .ok (.istore 4, 2) := by decide +kernel
theorem own_d18_15 : decode jdk_42_method_150_code 15 = .ok (.aload_n 1, 1) := by decide +kernel
theorem own_pd__28_29Z : parseMethodDescriptor "()Z" = some ⟨[], some .boolean⟩ := by decide +kernel
theorem own_d18_16 : decode jdk_42_method_150_code 16 = .ok (.invokevirtual 1047, 3) := by decide +kernel
theorem own_d18_19 : decode jdk_42_method_150_code 19 = .ok (.ifCond .eq 22, 3) := by decide +kernel
theorem own_d18_22 : decode jdk_42_method_150_code 22 = .ok (.aload_n 0, 1) := by decide +kernel
theorem own_d18_23 : decode jdk_42_method_150_code 23 = .ok (.iconst 0, 1) := by decide +kernel
theorem own_d18_24 : decode jdk_42_method_150_code 24 = .ok (.putfield 15, 3) := by decide +kernel
theorem own_d18_27 : decode jdk_42_method_150_code 27 = .ok (.aload_n 0, 1) := by decide +kernel
theorem own_d18_28 : decode jdk_42_method_150_code 28 = .ok (.aload_n 3, 1) := by decide +kernel
theorem own_d18_29 : decode jdk_42_method_150_code 29 = .ok (.iconst 0, 1) := by decide +kernel
theorem own_d18_30 : decode jdk_42_method_150_code 30 = .ok (.iload 4, 2) := by decide +kernel
theorem own_d18_32 : decode jdk_42_method_150_code 32 = .ok (.invokestatic 54, 3) := by decide +kernel
theorem own_d18_35 : decode jdk_42_method_150_code 35 = .ok (.putfield 9, 3) := by decide +kernel
theorem own_d18_38 : decode jdk_42_method_150_code 38 = .ok (.goto 59, 3) := by decide +kernel
theorem own_d18_97 : decode jdk_42_method_150_code 97 = .ok (.return_, 1) := by decide +kernel
set_option maxRecDepth 65536 in
set_option maxHeartbeats 40000000 in
theorem own_strASB_16_4 (l : Launch) (Z : State) (a0 : Array Value) (hw : ∀ d ∈ tables_1, d.before a0 Z = true) (ws : List Jvm.Cond) (cz : Int32) (r a b : Addr) (kb : ClassId) (y0 y1 y2 y3 : Int32) (h0 : Heap) (O0 : Old Z Z.heap.size h0) (SC : Sta Z Z.heap "java/lang/String" "COMPACT_STRINGS" "Z" (.int cz)) (hcz : ¬ (cz = (0 : Int32))) (ER : Exa Z h0 r "java/lang/String") (RV : Fld Z h0 r "java/lang/String" "value" "[B" .null) (RC : Fld Z h0 r "java/lang/String" "coder" "B" (.int (0 : Int32))) (gr : Z.heap.size ≤ r) (E0 : Exa Z h0 a "java/lang/StringBuilder") (g0 : Z.heap.size ≤ a) (FV : Fld Z h0 a "java/lang/AbstractStringBuilder" "value" "[B" (.ref b)) (FC : Fld Z h0 a "java/lang/AbstractStringBuilder" "coder" "B" (.int (0 : Int32))) (FN : Fld Z h0 a "java/lang/AbstractStringBuilder" "count" "I" (.int (4 : Int32))) (AB : Arv Z h0 b kb .byte (16 : Int32) [(.int y0), (.int y1), (.int y2), (.int y3), (.int (0 : Int32)), (.int (0 : Int32)), (.int (0 : Int32)), (.int (0 : Int32)), (.int (0 : Int32)), (.int (0 : Int32)), (.int (0 : Int32)), (.int (0 : Int32)), (.int (0 : Int32)), (.int (0 : Int32)), (.int (0 : Int32)), (.int (0 : Int32))] (.int (0 : Int32))) (gb : Z.heap.size ≤ b) (ra : r ≠ a) (rb : r ≠ b) :
    ownMet l (⟨"java/lang/String", "<init>", "(Ljava/lang/AbstractStringBuilder;Ljava/lang/Void;)V"⟩ : MethodName) jdk_42_method_150_code 5 none ws ({ frames := 3, cells := 1, slots := 4, locals := 49 } : Room) Z #[(.ref r), (.ref a), .null] h0 (fun v h L => ∃ (t : Addr) (kt : ClassId), v = none ∧ Fr Z.heap.size L ∧ Keep h0 h [r] ∧ Z.heap.size ≤ t ∧ h0.size ≤ t ∧ Fld Z h r "java/lang/String" "value" "[B" (.ref t) ∧ Fld Z h r "java/lang/String" "coder" "B" (.int (0 : Int32)) ∧ Arv Z h t kt .byte (4 : Int32) [(.int y0), (.int y1), (.int y2), (.int y3)] (.int (0 : Int32))) := by
  refine own_met (plainFor_of_name own_pn_java_lang_String) ?_
  intro p e s m below meth c s₁ hx hby hml hown hnm hret hlk hZ e0 X0
  refine own_cast (show _ = (mkF m 0 #[.val (.ref r), .val (.ref a), .val .null, .unset, .unset] []) by first | (simp [entryFrame, mkF, argsToLocals, Value.category]; done) | rfl) ?_
  refine own_st (s₁.setTop (mkF m 1 #[.val (.ref r), .val (.ref a), .val .null, .unset, .unset] [(.ref r)])) (fun tq kq => XS.aloadN X0.here hx rfl (hb hby own_d18_0) rfl (by rfl) kq) ?_
  obtain ⟨T1, X1, e1, st1⟩ := initO X0 hx hZ hown (hw _ (List.mem_of_getElem? (i := 123) rfl)) (hw _ (List.mem_of_getElem? (i := 34) rfl)) (hw _ (List.mem_of_getElem? (i := 35) rfl)) e0 (g := (mkF m 1 #[.val (.ref r), .val (.ref a), .val .null, .unset, .unset] [(.ref r)])) rfl (by rw [hml]; rfl) rfl (hb hby own_d18_1) (by decide) (W := 0) (by show 2 * 0 + _ ≤ _; exact Nat.le_of_eq rfl) (by decide)
  refine own_st (T1.setTop (mkF m 4 #[.val (.ref r), .val (.ref a), .val .null, .unset, .unset] [])) st1 ?_
  refine own_st (T1.setTop (mkF m 5 #[.val (.ref r), .val (.ref a), .val .null, .unset, .unset] [(.ref a)])) (fun tq kq => XS.aloadN X1.here hx rfl (hb hby own_d18_4) rfl (by rfl) kq) ?_
  obtain ⟨v2, T2, L2, X2, q2, st2⟩ := own_callV X1 hx hZ hown (y := (⟨"java/lang/AbstractStringBuilder", "getValue", "()[B"⟩ : MethodName)) (z := (⟨"java/lang/AbstractStringBuilder", "getValue", "()[B"⟩ : MethodName)) (hw _ (List.mem_of_getElem? (i := 124) rfl)) (hw _ (List.mem_of_getElem? (i := 125) rfl)) (notFace_of_selects (args := a0) (hw _ (List.mem_of_getElem? (i := 127) rfl))) (hw _ (List.mem_of_getElem? (i := 127) rfl)) (hw _ (List.mem_of_getElem? (i := 126) rfl)) (hw _ (List.mem_of_getElem? (i := 31) rfl)) (hw _ (List.mem_of_getElem? (i := 128) rfl)) E0 (b := a) (argsL := []) (own_asbVal l Z a0 hw [] a b h0 O0 FV) 0 (by decide) (by decide) (by decide) (by decide) (by decide) e1 (g := (mkF m 5 #[.val (.ref r), .val (.ref a), .val .null, .unset, .unset] [(.ref a)])) rfl (by rw [hml]; rfl) [] (lenOf own_pd__28_29_5bB rfl) rfl (by show 2 * 0 + _ ≤ _; exact Nat.le_of_eq rfl) (hb hby own_d18_5)
  obtain ⟨rfl, N2q, e2⟩ := q2
  have N2 := Fr.app (Fr.nil _) N2q
  refine own_st (T2.setTop (mkF m 8 #[.val (.ref r), .val (.ref a), .val .null, .unset, .unset] [(.ref b)])) st2 ?_
  refine own_st (T2.setTop (mkF m 9 #[.val (.ref r), .val (.ref a), .val .null, .val (.ref b), .unset] [])) (fun tq kq => XS.astoreN X2.here hx rfl (hb hby own_d18_8) rfl (by rfl) (l' := #[.val (.ref r), .val (.ref a), .val .null, .val (.ref b), .unset]) rfl kq) ?_
  refine own_st (T2.setTop (mkF m 10 #[.val (.ref r), .val (.ref a), .val .null, .val (.ref b), .unset] [(.ref a)])) (fun tq kq => XS.aloadN X2.here hx rfl (hb hby own_d18_9) rfl (by rfl) kq) ?_
  obtain ⟨v3, T3, L3, X3, q3, st3⟩ := own_callV X2 hx hZ hown (y := (⟨"java/lang/AbstractStringBuilder", "length", "()I"⟩ : MethodName)) (z := (⟨"java/lang/StringBuilder", "length", "()I"⟩ : MethodName)) (hw _ (List.mem_of_getElem? (i := 129) rfl)) (hw _ (List.mem_of_getElem? (i := 130) rfl)) (own_nf21 hw) (hw _ (List.mem_of_getElem? (i := 132) rfl)) (hw _ (List.mem_of_getElem? (i := 133) rfl)) (hw _ (List.mem_of_getElem? (i := 23) rfl)) (hw _ (List.mem_of_getElem? (i := 134) rfl)) E0 (b := a) (argsL := []) (own_sbLen l Z a0 hw [] a (4 : Int32) h0 O0 E0 FN) 0 (by decide) (by decide) (by decide) (by decide) (by decide) e2 (g := (mkF m 10 #[.val (.ref r), .val (.ref a), .val .null, .val (.ref b), .unset] [(.ref a)])) rfl (by rw [hml]; rfl) [] (lenOf own_pd__28_29I rfl) rfl (by show 2 * 0 + _ ≤ _; exact Nat.le_of_eq rfl) (hb hby own_d18_10)
  obtain ⟨rfl, N3q, e3⟩ := q3
  have N3 := Fr.app N2 N3q
  refine own_st (T3.setTop (mkF m 13 #[.val (.ref r), .val (.ref a), .val .null, .val (.ref b), .unset] [(.int (4 : Int32))])) st3 ?_
  refine own_st (T3.setTop (mkF m 15 #[.val (.ref r), .val (.ref a), .val .null, .val (.ref b), .val (.int (4 : Int32))] [])) (fun tq kq => XS.istore X3.here hx rfl (hb hby own_d18_13) rfl (l' := #[.val (.ref r), .val (.ref a), .val .null, .val (.ref b), .val (.int (4 : Int32))]) rfl kq) ?_
  refine own_st (T3.setTop (mkF m 16 #[.val (.ref r), .val (.ref a), .val .null, .val (.ref b), .val (.int (4 : Int32))] [(.ref a)])) (fun tq kq => XS.aloadN X3.here hx rfl (hb hby own_d18_15) rfl (by rfl) kq) ?_
  obtain ⟨v4, T4, L4, X4, q4, st4⟩ := own_callV X3 hx hZ hown (y := (⟨"java/lang/AbstractStringBuilder", "isLatin1", "()Z"⟩ : MethodName)) (z := (⟨"java/lang/AbstractStringBuilder", "isLatin1", "()Z"⟩ : MethodName)) (hw _ (List.mem_of_getElem? (i := 137) rfl)) (hw _ (List.mem_of_getElem? (i := 138) rfl)) (notFace_of_selects (args := a0) (hw _ (List.mem_of_getElem? (i := 140) rfl))) (hw _ (List.mem_of_getElem? (i := 140) rfl)) (hw _ (List.mem_of_getElem? (i := 139) rfl)) (hw _ (List.mem_of_getElem? (i := 31) rfl)) (hw _ (List.mem_of_getElem? (i := 141) rfl)) E0 (b := a) (argsL := []) (own_asbLat l Z a0 hw [] cz a h0 O0 SC hcz FC) 0 (by decide) (by decide) (by decide) (by decide) (by decide) e3 (g := (mkF m 16 #[.val (.ref r), .val (.ref a), .val .null, .val (.ref b), .val (.int (4 : Int32))] [(.ref a)])) rfl (by rw [hml]; rfl) [] (lenOf own_pd__28_29Z rfl) rfl (by show 2 * 0 + _ ≤ _; exact Nat.le_of_eq rfl) (hb hby own_d18_16)
  obtain ⟨rfl, N4q, e4⟩ := q4
  have N4 := Fr.app N3 N4q
  refine own_st (T4.setTop (mkF m 19 #[.val (.ref r), .val (.ref a), .val .null, .val (.ref b), .val (.int (4 : Int32))] [(.int (1 : Int32))])) st4 ?_
  refine own_st (T4.setTop (mkF m 22 #[.val (.ref r), .val (.ref a), .val .null, .val (.ref b), .val (.int (4 : Int32))] [])) (fun tq kq => XS.ifNo X4.here hx rfl (hb hby own_d18_19) rfl ((if0 _ _).trans (feq ((by decide) : ¬ ((1 : Int32) = (0 : Int32)))).1) kq) ?_
  refine own_st (T4.setTop (mkF m 23 #[.val (.ref r), .val (.ref a), .val .null, .val (.ref b), .val (.int (4 : Int32))] [(.ref r)])) (fun tq kq => XS.aloadN X4.here hx rfl (hb hby own_d18_22) rfl (by rfl) kq) ?_
  refine own_st (T4.setTop (mkF m 24 #[.val (.ref r), .val (.ref a), .val .null, .val (.ref b), .val (.int (4 : Int32))] [(.int (0 : Int32)), (.ref r)])) (fun tq kq => XS.iconst X4.here hx rfl (hb hby own_d18_23) kq) ?_
  obtain ⟨T5, h5, X5, e5, W5, st5⟩ := putF X4 hx hZ hown (host := "") (Or.inl (hw _ (List.mem_of_getElem? (i := 82) rfl))) Via.refl e4 RC ER (Or.inr ⟨(hw _ (List.mem_of_getElem? (i := 13) rfl)), rfl, hnm⟩) (hw _ (List.mem_of_getElem? (i := 10) rfl)) (ty := .byte) (by decide) (by rfl) (by rfl) (g := (mkF m 24 #[.val (.ref r), .val (.ref a), .val .null, .val (.ref b), .val (.int (4 : Int32))] [(.int (0 : Int32)), (.ref r)])) rfl rfl (hb hby own_d18_24)
  have N5 := Fr.snoc X5 N4 gr
  have O5 := O0.wr W5 gr
  have K5 := (Keep.refl h0 [r]).wr W5 (Or.inl (List.mem_of_getElem? (i := 0) rfl))
  have f6 := (ER.wr W5)
  have f7 := (RV.other W5 (Or.inr (slot_ne (Or.inr (hw _ (List.mem_of_getElem? (i := 12) rfl))) (Or.inr (hw _ (List.mem_of_getElem? (i := 13) rfl))) (by decide) (t := (.array .byte)) (t' := .byte) (by decide) (by decide))))
  have f9 := (E0.wr W5)
  have f10 := (FV.other W5 (Or.inl (Ne.symm ra)))
  have f11 := (FC.other W5 (Or.inl (Ne.symm ra)))
  have f12 := (FN.other W5 (Or.inl (Ne.symm ra)))
  have f13 := (AB.other W5 (Ne.symm rb))
  have f14 := (RC.same W5)
  refine own_st (T5.setTop (mkF m 27 #[.val (.ref r), .val (.ref a), .val .null, .val (.ref b), .val (.int (4 : Int32))] [])) st5 ?_
  refine own_st (T5.setTop (mkF m 28 #[.val (.ref r), .val (.ref a), .val .null, .val (.ref b), .val (.int (4 : Int32))] [(.ref r)])) (fun tq kq => XS.aloadN X5.here hx rfl (hb hby own_d18_27) rfl (by rfl) kq) ?_
  refine own_st (T5.setTop (mkF m 29 #[.val (.ref r), .val (.ref a), .val .null, .val (.ref b), .val (.int (4 : Int32))] [(.ref b), (.ref r)])) (fun tq kq => XS.aloadN X5.here hx rfl (hb hby own_d18_28) rfl (by rfl) kq) ?_
  refine own_st (T5.setTop (mkF m 30 #[.val (.ref r), .val (.ref a), .val .null, .val (.ref b), .val (.int (4 : Int32))] [(.int (0 : Int32)), (.ref b), (.ref r)])) (fun tq kq => XS.iconst X5.here hx rfl (hb hby own_d18_29) kq) ?_
  refine own_st (T5.setTop (mkF m 32 #[.val (.ref r), .val (.ref a), .val .null, .val (.ref b), .val (.int (4 : Int32))] [(.int (4 : Int32)), (.int (0 : Int32)), (.ref b), (.ref r)])) (fun tq kq => XS.iload X5.here hx rfl (hb hby own_d18_30) rfl kq) ?_
  obtain ⟨v15, T15, L15, X15, q15, st15⟩ := own_callS X5 hx hZ hown (hw _ (List.mem_of_getElem? (i := 142) rfl)) (hw _ (List.mem_of_getElem? (i := 143) rfl)) (hw _ (List.mem_of_getElem? (i := 144) rfl)) (hw _ (List.mem_of_getElem? (i := 145) rfl)) (argsL := [(.ref b), (.int (0 : Int32)), (.int (4 : Int32))]) (own_cpr_16_4 l Z a0 hw [] b kb y0 y1 y2 y3 (0 : Int32) (0 : Int32) (0 : Int32) (0 : Int32) (0 : Int32) (0 : Int32) (0 : Int32) (0 : Int32) (0 : Int32) (0 : Int32) (0 : Int32) (0 : Int32) h5 O5 f13) 1 (by decide) (by decide) (by decide) (by decide) (by decide) e5 (g := (mkF m 32 #[.val (.ref r), .val (.ref a), .val .null, .val (.ref b), .val (.int (4 : Int32))] [(.int (4 : Int32)), (.int (0 : Int32)), (.ref b), (.ref r)])) rfl (by rw [hml]; rfl) [(.ref r)] (lenOf own_pd__28_5bBII_29_5bB rfl) rfl (by show 2 * 0 + _ ≤ _; exact Nat.le_of_eq rfl) (hb hby own_d18_32)
  obtain ⟨b15, kb15, rfl, N15q, K15q, z15, s15q, f15q⟩ := q15
  have N15 := Fr.app N5 N15q
  have nf15_r : r ≠ b15 := Nat.ne_of_lt (Nat.lt_of_lt_of_le f6.lt s15q)
  have nf15_a : a ≠ b15 := Nat.ne_of_lt (Nat.lt_of_lt_of_le f9.lt s15q)
  have nf15_b : b ≠ b15 := Nat.ne_of_lt (Nat.lt_of_lt_of_le f13.lt s15q)
  have s15 : h0.size ≤ b15 := Nat.le_trans K5.1 s15q
  have f16 := (f6.keep K15q)
  have f17 := (f7.keep K15q nin0)
  have f18 := (f14.keep K15q nin0)
  have f19 := (f9.keep K15q)
  have f20 := (f10.keep K15q nin0)
  have f21 := (f11.keep K15q nin0)
  have f22 := (f12.keep K15q nin0)
  have f23 := (f13.keep K15q nin0)
  have O15 := O5.keep K15q all0
  have K15 := K5.trans K15q all0
  refine own_st (T15.setTop (mkF m 35 #[.val (.ref r), .val (.ref a), .val .null, .val (.ref b), .val (.int (4 : Int32))] [(.ref b15), (.ref r)])) st15 ?_
  obtain ⟨T24, h24, X24, e24, W24, st24⟩ := putF X15 hx hZ hown (host := "") (Or.inl (hw _ (List.mem_of_getElem? (i := 75) rfl))) Via.refl rfl f17 f16 (Or.inr ⟨(hw _ (List.mem_of_getElem? (i := 12) rfl)), rfl, hnm⟩) (hw _ (List.mem_of_getElem? (i := 10) rfl)) (ty := (.array .byte)) (by decide) (by rfl) (by rfl) (g := (mkF m 35 #[.val (.ref r), .val (.ref a), .val .null, .val (.ref b), .val (.int (4 : Int32))] [(.ref b15), (.ref r)])) rfl rfl (hb hby own_d18_35)
  have N24 := Fr.snoc X24 N15 gr
  have O24 := O15.wr W24 gr
  have K24 := K15.wr W24 (Or.inl (List.mem_of_getElem? (i := 0) rfl))
  have f25 := (f16.wr W24)
  have f27 := (f18.other W24 (Or.inr (slot_ne (Or.inr (hw _ (List.mem_of_getElem? (i := 13) rfl))) (Or.inr (hw _ (List.mem_of_getElem? (i := 12) rfl))) (by decide) (t := .byte) (t' := (.array .byte)) (by decide) (by decide))))
  have f28 := (f19.wr W24)
  have f29 := (f20.other W24 (Or.inl (Ne.symm ra)))
  have f30 := (f21.other W24 (Or.inl (Ne.symm ra)))
  have f31 := (f22.other W24 (Or.inl (Ne.symm ra)))
  have f32 := (f23.other W24 (Ne.symm rb))
  have f33 := (f15q.other W24 (Ne.symm nf15_r))
  have f34 := (f17.same W24)
  refine own_st (T24.setTop (mkF m 38 #[.val (.ref r), .val (.ref a), .val .null, .val (.ref b), .val (.int (4 : Int32))] [])) st24 ?_
  refine own_st (T24.setTop (mkF m 97 #[.val (.ref r), .val (.ref a), .val .null, .val (.ref b), .val (.int (4 : Int32))] [])) (fun tq kq => XS.goto X24.here hx rfl (pc0 := 38) (pc' := 97) rfl (hb hby own_d18_38) (by decide) (by decide) kq) ?_
  exact own_ret X24 hlk (v := none) (fun _ => rfl) e24 (⟨_, _, rfl, N24, K24, z15, s15, f34, f27, f33⟩) (by decide) (by decide) (fun fs hr => X24.returnOut hx hret (hb hby own_d18_97) hr)
theorem own_d17_0 : decode jdk_42_method_53_code 0 = .ok (.aload_n 0, 1) := by decide +kernel
theorem own_d17_1 : decode jdk_42_method_53_code 1 = .ok (.aload_n 1, 1) := by decide +kernel
theorem own_d17_2 : decode jdk_42_method_53_code 2 = .ok (.aconst_null, 1) := by decide +kernel
theorem own_pd__28Ljava_2flang_2fAbstractStringBuilder_3bLjava_2flang_2fVoid_3b_29V : parseMethodDescriptor "(Ljava/lang/AbstractStringBuilder;Ljava/lang/Void;)V" = some ⟨[(.object "java/lang/AbstractStringBuilder"), (.object "java/lang/Void")], none⟩ := by decide +kernel
theorem own_d17_3 : decode jdk_42_method_53_code 3 = .ok (.invokespecial 489, 3) := by decide +kernel
theorem own_d17_6 : decode jdk_42_method_53_code 6 = .ok (.return_, 1) := by decide +kernel
set_option maxRecDepth 65536 in
set_option maxHeartbeats 40000000 in
theorem own_strSB_16_4 (l : Launch) (Z : State) (a0 : Array Value) (hw : ∀ d ∈ tables_1, d.before a0 Z = true) (ws : List Jvm.Cond) (cz : Int32) (r a b : Addr) (kb : ClassId) (y0 y1 y2 y3 : Int32) (h0 : Heap) (O0 : Old Z Z.heap.size h0) (SC : Sta Z Z.heap "java/lang/String" "COMPACT_STRINGS" "Z" (.int cz)) (hcz : ¬ (cz = (0 : Int32))) (ER : Exa Z h0 r "java/lang/String") (RV : Fld Z h0 r "java/lang/String" "value" "[B" .null) (RC : Fld Z h0 r "java/lang/String" "coder" "B" (.int (0 : Int32))) (gr : Z.heap.size ≤ r) (E0 : Exa Z h0 a "java/lang/StringBuilder") (g0 : Z.heap.size ≤ a) (FV : Fld Z h0 a "java/lang/AbstractStringBuilder" "value" "[B" (.ref b)) (FC : Fld Z h0 a "java/lang/AbstractStringBuilder" "coder" "B" (.int (0 : Int32))) (FN : Fld Z h0 a "java/lang/AbstractStringBuilder" "count" "I" (.int (4 : Int32))) (AB : Arv Z h0 b kb .byte (16 : Int32) [(.int y0), (.int y1), (.int y2), (.int y3), (.int (0 : Int32)), (.int (0 : Int32)), (.int (0 : Int32)), (.int (0 : Int32)), (.int (0 : Int32)), (.int (0 : Int32)), (.int (0 : Int32)), (.int (0 : Int32)), (.int (0 : Int32)), (.int (0 : Int32)), (.int (0 : Int32)), (.int (0 : Int32))] (.int (0 : Int32))) (gb : Z.heap.size ≤ b) (ra : r ≠ a) (rb : r ≠ b) :
    ownMet l (⟨"java/lang/String", "<init>", "(Ljava/lang/StringBuilder;)V"⟩ : MethodName) jdk_42_method_53_code 2 none ws ({ frames := 4, cells := 1, slots := 4, locals := 65 } : Room) Z #[(.ref r), (.ref a)] h0 (fun v h L => ∃ (t : Addr) (kt : ClassId), v = none ∧ Fr Z.heap.size L ∧ Keep h0 h [r] ∧ Z.heap.size ≤ t ∧ h0.size ≤ t ∧ Fld Z h r "java/lang/String" "value" "[B" (.ref t) ∧ Fld Z h r "java/lang/String" "coder" "B" (.int (0 : Int32)) ∧ Arv Z h t kt .byte (4 : Int32) [(.int y0), (.int y1), (.int y2), (.int y3)] (.int (0 : Int32))) := by
  refine own_met (plainFor_of_name own_pn_java_lang_String) ?_
  intro p e s m below meth c s₁ hx hby hml hown hnm hret hlk hZ e0 X0
  refine own_cast (show _ = (mkF m 0 #[.val (.ref r), .val (.ref a)] []) by first | (simp [entryFrame, mkF, argsToLocals, Value.category]; done) | rfl) ?_
  refine own_st (s₁.setTop (mkF m 1 #[.val (.ref r), .val (.ref a)] [(.ref r)])) (fun tq kq => XS.aloadN X0.here hx rfl (hb hby own_d17_0) rfl (by rfl) kq) ?_
  refine own_st (s₁.setTop (mkF m 2 #[.val (.ref r), .val (.ref a)] [(.ref a), (.ref r)])) (fun tq kq => XS.aloadN X0.here hx rfl (hb hby own_d17_1) rfl (by rfl) kq) ?_
  refine own_st (s₁.setTop (mkF m 3 #[.val (.ref r), .val (.ref a)] [.null, (.ref a), (.ref r)])) (fun tq kq => XS.aconstNull X0.here hx rfl (hb hby own_d17_2) kq) ?_
  obtain ⟨v1, T1, L1, X1, q1, st1⟩ := own_callI X0 hx hZ hown (y := (⟨"java/lang/String", "<init>", "(Ljava/lang/AbstractStringBuilder;Ljava/lang/Void;)V"⟩ : MethodName)) rfl (hw _ (List.mem_of_getElem? (i := 120) rfl)) (hw _ (List.mem_of_getElem? (i := 121) rfl)) (hw _ (List.mem_of_getElem? (i := 9) rfl)) (hw _ (List.mem_of_getElem? (i := 122) rfl)) (a := r) (argsL := [(.ref a), .null]) (own_strASB_16_4 l Z a0 hw [] cz r a b kb y0 y1 y2 y3 h0 O0 SC hcz ER RV RC gr E0 g0 FV FC FN AB gb ra rb) 0 (by decide) (by decide) (by decide) (by decide) (by decide) e0 (g := (mkF m 3 #[.val (.ref r), .val (.ref a)] [.null, (.ref a), (.ref r)])) rfl (by rw [hml]; rfl) [] (lenOf own_pd__28Ljava_2flang_2fAbstractStringBuilder_3bLjava_2flang_2fVoid_3b_29V rfl) rfl (by show 2 * 0 + _ ≤ _; exact Nat.le_of_eq rfl) (hb hby own_d17_3)
  obtain ⟨b1, kb1, rfl, N1q, K1q, z1, s1q, fv1, fc1, f1q⟩ := q1
  have N1 := Fr.app (Fr.nil _) N1q
  have nf1_r : r ≠ b1 := Nat.ne_of_lt (Nat.lt_of_lt_of_le ER.lt s1q)
  have nf1_a : a ≠ b1 := Nat.ne_of_lt (Nat.lt_of_lt_of_le E0.lt s1q)
  have nf1_b : b ≠ b1 := Nat.ne_of_lt (Nat.lt_of_lt_of_le AB.lt s1q)
  have s1 : h0.size ≤ b1 := Nat.le_trans (Keep.refl h0 [r]).1 s1q
  have f2 := (ER.keep K1q)
  have f5 := (E0.keep K1q)
  have f6 := (FV.keep K1q (ninS (Ne.symm ra) nin0))
  have f7 := (FC.keep K1q (ninS (Ne.symm ra) nin0))
  have f8 := (FN.keep K1q (ninS (Ne.symm ra) nin0))
  have f9 := (AB.keep K1q (ninS (Ne.symm rb) nin0))
  have O1 := O0.keep K1q (allS gr all0)
  have K1 := (Keep.refl h0 [r]).trans K1q (allS (Or.inl (List.mem_of_getElem? (i := 0) rfl)) all0)
  refine own_st (T1.setTop (mkF m 6 #[.val (.ref r), .val (.ref a)] [])) st1 ?_
  exact own_ret X1 hlk (v := none) (fun _ => rfl) rfl (⟨_, _, rfl, N1, K1, z1, s1, fv1, fc1, f1q⟩) (by decide) (by decide) (fun fs hr => X1.returnOut hx hret (hb hby own_d17_6) hr)
theorem own_d16_0 : decode jdk_67_method_42_code 0 = .ok (.new 18, 3) := by decide +kernel
theorem own_d16_3 : decode jdk_67_method_42_code 3 = .ok (.dup, 1) := by decide +kernel
theorem own_d16_4 : decode jdk_67_method_42_code 4 = .ok (.aload_n 0, 1) := by decide +kernel
theorem own_pd__28Ljava_2flang_2fStringBuilder_3b_29V : parseMethodDescriptor "(Ljava/lang/StringBuilder;)V" = some ⟨[(.object "java/lang/StringBuilder")], none⟩ := by decide +kernel
theorem own_d16_5 : decode jdk_67_method_42_code 5 = .ok (.invokespecial 137, 3) := by decide +kernel
theorem own_d16_8 : decode jdk_67_method_42_code 8 = .ok (.areturn, 1) := by decide +kernel
set_option maxRecDepth 65536 in
set_option maxHeartbeats 40000000 in
theorem own_sbStr_16_4 (l : Launch) (Z : State) (a0 : Array Value) (hw : ∀ d ∈ tables_1, d.before a0 Z = true) (ws : List Jvm.Cond) (cz : Int32) (a b : Addr) (kb : ClassId) (y0 y1 y2 y3 : Int32) (h0 : Heap) (O0 : Old Z Z.heap.size h0) (SC : Sta Z Z.heap "java/lang/String" "COMPACT_STRINGS" "Z" (.int cz)) (hcz : ¬ (cz = (0 : Int32))) (E0 : Exa Z h0 a "java/lang/StringBuilder") (g0 : Z.heap.size ≤ a) (FV : Fld Z h0 a "java/lang/AbstractStringBuilder" "value" "[B" (.ref b)) (FC : Fld Z h0 a "java/lang/AbstractStringBuilder" "coder" "B" (.int (0 : Int32))) (FN : Fld Z h0 a "java/lang/AbstractStringBuilder" "count" "I" (.int (4 : Int32))) (AB : Arv Z h0 b kb .byte (16 : Int32) [(.int y0), (.int y1), (.int y2), (.int y3), (.int (0 : Int32)), (.int (0 : Int32)), (.int (0 : Int32)), (.int (0 : Int32)), (.int (0 : Int32)), (.int (0 : Int32)), (.int (0 : Int32)), (.int (0 : Int32)), (.int (0 : Int32)), (.int (0 : Int32)), (.int (0 : Int32)), (.int (0 : Int32))] (.int (0 : Int32))) (gb : Z.heap.size ≤ b) :
    ownMet l (⟨"java/lang/StringBuilder", "toString", "()Ljava/lang/String;"⟩ : MethodName) jdk_67_method_42_code 1 (some (.object "java/lang/String")) ws ({ frames := 5, cells := 2, slots := 8, locals := 79 } : Room) Z #[(.ref a)] h0 (fun v h L => ∃ (r t : Addr) (kt : ClassId), v = some (.ref r) ∧ Fr Z.heap.size L ∧ Keep h0 h [] ∧ Z.heap.size ≤ r ∧ h0.size ≤ r ∧ Z.heap.size ≤ t ∧ h0.size ≤ t ∧ Exa Z h r "java/lang/String" ∧ Fld Z h r "java/lang/String" "value" "[B" (.ref t) ∧ Fld Z h r "java/lang/String" "coder" "B" (.int (0 : Int32)) ∧ Arv Z h t kt .byte (4 : Int32) [(.int y0), (.int y1), (.int y2), (.int y3)] (.int (0 : Int32))) := by
  refine own_met (plainFor_of_name own_pn_java_lang_StringBuilder) ?_
  intro p e s m below meth c s₁ hx hby hml hown hnm hret hlk hZ e0 X0
  refine own_cast (show _ = (mkF m 0 #[.val (.ref a)] []) by first | (simp [entryFrame, mkF, argsToLocals, Value.category]; done) | rfl) ?_
  obtain ⟨T1, h1, X1, e1, E1, A1, D1, -, st1⟩ := newO X0 hx hZ hown (hw _ (List.mem_of_getElem? (i := 115) rfl)) (hw _ (List.mem_of_getElem? (i := 10) rfl)) (hw _ (List.mem_of_getElem? (i := 9) rfl)) e0 (g := (mkF m 0 #[.val (.ref a)] [])) rfl (hb hby own_d16_0) (by decide) (by decide)
  obtain ⟨b1, g1⟩ : ∃ z, z = h0.size := ⟨_, rfl⟩
  have z1 : Z.heap.size ≤ b1 := Nat.le_trans O0.2.1 (Nat.le_of_eq g1.symm)
  have nea_1 : a ≠ b1 := Nat.ne_of_lt (Nat.lt_of_lt_of_le E0.lt (Nat.le_of_eq g1.symm))
  have neb_1 : b ≠ b1 := Nat.ne_of_lt (Nat.lt_of_lt_of_le AB.lt (Nat.le_of_eq g1.symm))
  have s1 : h0.size ≤ b1 := Nat.le_trans (Keep.refl h0 []).1 (Nat.le_of_eq g1.symm)
  rw [← g1] at A1 D1 st1
  have f2 := (E0.ext E1)
  have f3 := (FV.ext E1)
  have f4 := (FC.ext E1)
  have f5 := (FN.ext E1)
  have f6 := (AB.ext E1)
  have O1 := O0.ext E1
  have K1 := (Keep.refl h0 []).ext E1
  have f7 : Fld Z h1 b1 "java/lang/String" "value" "[B" .null := D1 (Or.inr (hw _ (List.mem_of_getElem? (i := 12) rfl))) (ty := (.array .byte)) (by decide)
  have f8 : Fld Z h1 b1 "java/lang/String" "coder" "B" (.int (0 : Int32)) := D1 (Or.inr (hw _ (List.mem_of_getElem? (i := 13) rfl))) (ty := .byte) (by decide)
  refine own_st (T1.setTop (mkF m 3 #[.val (.ref a)] [(.ref b1)])) st1 ?_
  refine own_st (T1.setTop (mkF m 4 #[.val (.ref a)] [(.ref b1), (.ref b1)])) (fun tq kq => XS.dup X1.here hx rfl (hb hby own_d16_3) rfl (by rfl) kq) ?_
  refine own_st (T1.setTop (mkF m 5 #[.val (.ref a)] [(.ref a), (.ref b1), (.ref b1)])) (fun tq kq => XS.aloadN X1.here hx rfl (hb hby own_d16_4) rfl (by rfl) kq) ?_
  obtain ⟨v9, T9, L9, X9, q9, st9⟩ := own_callI X1 hx hZ hown (y := (⟨"java/lang/String", "<init>", "(Ljava/lang/StringBuilder;)V"⟩ : MethodName)) rfl (hw _ (List.mem_of_getElem? (i := 116) rfl)) (hw _ (List.mem_of_getElem? (i := 117) rfl)) (hw _ (List.mem_of_getElem? (i := 9) rfl)) (hw _ (List.mem_of_getElem? (i := 119) rfl)) (a := b1) (argsL := [(.ref a)]) (own_strSB_16_4 l Z a0 hw [] cz b1 a b kb y0 y1 y2 y3 h1 O1 SC hcz A1 f7 f8 z1 f2 g0 f3 f4 f5 f6 gb (Ne.symm nea_1) (Ne.symm neb_1)) 1 (by decide) (by decide) (by decide) (by decide) (by decide) e1 (g := (mkF m 5 #[.val (.ref a)] [(.ref a), (.ref b1), (.ref b1)])) rfl (by rw [hml]; rfl) [(.ref b1)] (lenOf own_pd__28Ljava_2flang_2fStringBuilder_3b_29V rfl) rfl (by show 2 * 0 + _ ≤ _; exact Nat.le_of_eq rfl) (hb hby own_d16_5)
  obtain ⟨b9, kb9, rfl, N9q, K9q, z9, s9q, fv9, fc9, f9q⟩ := q9
  have N9 := Fr.app (Fr.nil _) N9q
  have nf9_a : a ≠ b9 := Nat.ne_of_lt (Nat.lt_of_lt_of_le f2.lt s9q)
  have nf9_b : b ≠ b9 := Nat.ne_of_lt (Nat.lt_of_lt_of_le f6.lt s9q)
  have nf9_b1 : b1 ≠ b9 := Nat.ne_of_lt (Nat.lt_of_lt_of_le A1.lt s9q)
  have s9 : h0.size ≤ b9 := Nat.le_trans K1.1 s9q
  have f10 := (f2.keep K9q)
  have f11 := (f3.keep K9q (ninS nea_1 nin0))
  have f12 := (f4.keep K9q (ninS nea_1 nin0))
  have f13 := (f5.keep K9q (ninS nea_1 nin0))
  have f14 := (f6.keep K9q (ninS neb_1 nin0))
  have f15 := (A1.keep K9q)
  have O9 := O1.keep K9q (allS z1 all0)
  have K9 := K1.trans K9q (allS (Or.inr s1) all0)
  refine own_st (T9.setTop (mkF m 8 #[.val (.ref a)] [(.ref b1)])) st9 ?_
  exact own_ret X9 hlk (v := some (.ref b1)) (fun h => by rw [hret] at h; cases h) rfl (⟨_, _, _, rfl, N9, K9, z1, s1, z9, s9, f15, fv9, fc9, f9q⟩) (by decide) (by decide) (fun fs hr => retOut X9 hx hret rfl (Or.inr (Or.inr (Or.inr (Or.inr ⟨rfl, rfl, rfl⟩)))) (hb hby own_d16_8) hr)
theorem own_d6_0 : decode prog_21_method_25_code 0 = .ok (.aload_n 0, 1) := by decide +kernel
theorem own_d6_1 : decode prog_21_method_25_code 1 = .ok (.getfield 7, 3) := by decide +kernel
theorem own_d6_4 : decode prog_21_method_25_code 4 = .ok (.invokevirtual 126, 3) := by decide +kernel
theorem own_d6_7 : decode prog_21_method_25_code 7 = .ok (.tableswitch 235 0 6 #[41, 146, 212, 223, 235, 235, 212], 41) := by decide +kernel
theorem own_d6_242 : decode prog_21_method_25_code 242 = .ok (.aload_n 1, 1) := by decide +kernel
theorem own_d6_243 : decode prog_21_method_25_code 243 = .ok (.aload_n 0, 1) := by decide +kernel
theorem own_d6_244 : decode prog_21_method_25_code 244 = .ok (.getfield 13, 3) := by decide +kernel
theorem own_pd__28Ljava_2flang_2fString_3b_29Ljava_2flang_2fStringBuilder_3b : parseMethodDescriptor "(Ljava/lang/String;)Ljava/lang/StringBuilder;" = some ⟨[(.object "java/lang/String")], some (.object "java/lang/StringBuilder")⟩ := by decide +kernel
theorem own_d6_247 : decode prog_21_method_25_code 247 = .ok (.invokevirtual 156, 3) := by decide +kernel
theorem own_d6_250 : decode prog_21_method_25_code 250 = .ok (.pop, 1) := by decide +kernel
theorem own_d6_251 : decode prog_21_method_25_code 251 = .ok (.return_, 1) := by decide +kernel
set_option maxRecDepth 65536 in
set_option maxHeartbeats 40000000 in
theorem own_write4 (l : Launch) (Z : State) (a0 : Array Value) (hw : ∀ d ∈ tables_1, d.before a0 Z = true) (ws : List Jvm.Cond) (cz : Int32) (nd k0 sx t a b : Addr) (kt kb : ClassId) (x0 x1 x2 x3 : Int32) (h0 : Heap) (O0 : Old Z Z.heap.size h0) (SC : Sta Z Z.heap "java/lang/String" "COMPACT_STRINGS" "Z" (.int cz)) (hcz : ¬ (cz = (0 : Int32))) (NE : Exa Z Z.heap nd "com/example/rising_block/risingblock/io/YamlNode") (NK : Fld Z Z.heap nd "com/example/rising_block/risingblock/io/YamlNode" "kind" "Lcom/example/rising_block/risingblock/io/YamlNode$Kind;" (.ref k0)) (KE : Exa Z Z.heap k0 "com/example/rising_block/risingblock/io/YamlNode$Kind") (KO : Fld Z Z.heap k0 "java/lang/Enum" "ordinal" "I" (.int (4 : Int32))) (NT : Fld Z Z.heap nd "com/example/rising_block/risingblock/io/YamlNode" "text" "Ljava/lang/String;" (.ref sx)) (Es : Exa Z Z.heap sx "java/lang/String") (Vs : Fld Z Z.heap sx "java/lang/String" "value" "[B" (.ref t)) (Cs : Fld Z Z.heap sx "java/lang/String" "coder" "B" (.int (0 : Int32))) (As : Arv Z Z.heap t kt .byte (4 : Int32) [(.int x0), (.int x1), (.int x2), (.int x3)] (.int (0 : Int32))) (E0 : Exa Z h0 a "java/lang/StringBuilder") (g0 : Z.heap.size ≤ a) (FV : Fld Z h0 a "java/lang/AbstractStringBuilder" "value" "[B" (.ref b)) (FC : Fld Z h0 a "java/lang/AbstractStringBuilder" "coder" "B" (.int (0 : Int32))) (FN : Fld Z h0 a "java/lang/AbstractStringBuilder" "count" "I" (.int (0 : Int32))) (AB : Arv Z h0 b kb .byte (16 : Int32) [(.int (0 : Int32)), (.int (0 : Int32)), (.int (0 : Int32)), (.int (0 : Int32)), (.int (0 : Int32)), (.int (0 : Int32)), (.int (0 : Int32)), (.int (0 : Int32)), (.int (0 : Int32)), (.int (0 : Int32)), (.int (0 : Int32)), (.int (0 : Int32)), (.int (0 : Int32)), (.int (0 : Int32)), (.int (0 : Int32)), (.int (0 : Int32))] (.int (0 : Int32))) (gb : Z.heap.size ≤ b) (ba : b ≠ a) :
    ownMet l (⟨"com/example/rising_block/risingblock/io/YamlNode", "write", "(Ljava/lang/StringBuilder;)V"⟩ : MethodName) prog_21_method_25_code 5 none ws ({ frames := 5, cells := 0, slots := 0, locals := 74 } : Room) Z #[(.ref nd), (.ref a)] h0 (fun v h L => v = none ∧ Fr Z.heap.size L ∧ Keep h0 h [a, b] ∧ Fld Z h a "java/lang/AbstractStringBuilder" "value" "[B" (.ref b) ∧ Fld Z h a "java/lang/AbstractStringBuilder" "coder" "B" (.int (0 : Int32)) ∧ Fld Z h a "java/lang/AbstractStringBuilder" "count" "I" (.int (4 : Int32)) ∧ Arv Z h b kb .byte (16 : Int32) [(.int x0), (.int x1), (.int x2), (.int x3), (.int (0 : Int32)), (.int (0 : Int32)), (.int (0 : Int32)), (.int (0 : Int32)), (.int (0 : Int32)), (.int (0 : Int32)), (.int (0 : Int32)), (.int (0 : Int32)), (.int (0 : Int32)), (.int (0 : Int32)), (.int (0 : Int32)), (.int (0 : Int32))] (.int (0 : Int32))) := by
  refine own_met (plainFor_of_name own_pn_com_example_rising_block_risingblock_io_YamlNode) ?_
  intro p e s m below meth c s₁ hx hby hml hown hnm hret hlk hZ e0 X0
  refine own_cast (show _ = (mkF m 0 #[.val (.ref nd), .val (.ref a), .unset, .unset, .unset] []) by first | (simp [entryFrame, mkF, argsToLocals, Value.category]; done) | rfl) ?_
  refine own_st (s₁.setTop (mkF m 1 #[.val (.ref nd), .val (.ref a), .unset, .unset, .unset] [(.ref nd)])) (fun tq kq => XS.aloadN X0.here hx rfl (hb hby own_d6_0) rfl (by rfl) kq) ?_
  obtain ⟨T1, X1, e1, st1⟩ := getF X0 hx hZ hown (host := "") (Or.inl (hw _ (List.mem_of_getElem? (i := 45) rfl))) Via.refl e0 (NK.ext O0.2) (g := (mkF m 1 #[.val (.ref nd), .val (.ref a), .unset, .unset, .unset] [(.ref nd)])) rfl rfl (hb hby own_d6_1)
  refine own_st (T1.setTop (mkF m 4 #[.val (.ref nd), .val (.ref a), .unset, .unset, .unset] [(.ref k0)])) st1 ?_
  obtain ⟨v2, T2, L2, X2, q2, st2⟩ := own_callU X1 hx hZ hown (y := (⟨"com/example/rising_block/risingblock/io/YamlNode$Kind", "ordinal", "()I"⟩ : MethodName)) (z := (⟨"java/lang/Enum", "ordinal", "()I"⟩ : MethodName)) (owner := "java/lang/Enum") (hw _ (List.mem_of_getElem? (i := 49) rfl)) (hw _ (List.mem_of_getElem? (i := 50) rfl)) (hw _ (List.mem_of_getElem? (i := 51) rfl)) (by decide) (hw _ (List.mem_of_getElem? (i := 53) rfl)) (hw _ (List.mem_of_getElem? (i := 52) rfl)) (hw _ (List.mem_of_getElem? (i := 54) rfl)) (hw _ (List.mem_of_getElem? (i := 55) rfl)) (KE.ext O0.2) (b := k0) (argsL := []) (own_ord l Z a0 hw [] k0 (4 : Int32) h0 O0 (KO.ext O0.2)) 0 (by decide) (by decide) (by decide) (by decide) e1 (g := (mkF m 4 #[.val (.ref nd), .val (.ref a), .unset, .unset, .unset] [(.ref k0)])) rfl (by rw [hml]; rfl) [] (lenOf own_pd__28_29I rfl) rfl (by show 2 * 0 + _ ≤ _; exact Nat.le_of_eq rfl) (hb hby own_d6_4)
  obtain ⟨rfl, N2q, e2⟩ := q2
  have N2 := Fr.app (Fr.nil _) N2q
  refine own_st (T2.setTop (mkF m 7 #[.val (.ref nd), .val (.ref a), .unset, .unset, .unset] [(.int (4 : Int32))])) st2 ?_
  refine own_st (T2.setTop (mkF m 242 #[.val (.ref nd), .val (.ref a), .unset, .unset, .unset] [])) (fun tq kq => XS.tswIn X2.here hx rfl (pc0 := 7) (pc' := 242) rfl (hb hby own_d6_7) rfl (by decide) (by rfl) (by decide) (by decide) kq) ?_
  refine own_st (T2.setTop (mkF m 243 #[.val (.ref nd), .val (.ref a), .unset, .unset, .unset] [(.ref a)])) (fun tq kq => XS.aloadN X2.here hx rfl (hb hby own_d6_242) rfl (by rfl) kq) ?_
  refine own_st (T2.setTop (mkF m 244 #[.val (.ref nd), .val (.ref a), .unset, .unset, .unset] [(.ref nd), (.ref a)])) (fun tq kq => XS.aloadN X2.here hx rfl (hb hby own_d6_243) rfl (by rfl) kq) ?_
  obtain ⟨T3, X3, e3, st3⟩ := getF X2 hx hZ hown (host := "") (Or.inl (hw _ (List.mem_of_getElem? (i := 58) rfl))) Via.refl e2 (NT.ext O0.2) (g := (mkF m 244 #[.val (.ref nd), .val (.ref a), .unset, .unset, .unset] [(.ref nd), (.ref a)])) rfl rfl (hb hby own_d6_244)
  refine own_st (T3.setTop (mkF m 247 #[.val (.ref nd), .val (.ref a), .unset, .unset, .unset] [(.ref sx), (.ref a)])) st3 ?_
  obtain ⟨v4, T4, L4, X4, q4, st4⟩ := own_callV X3 hx hZ hown (y := (⟨"java/lang/StringBuilder", "append", "(Ljava/lang/String;)Ljava/lang/StringBuilder;"⟩ : MethodName)) (z := (⟨"java/lang/StringBuilder", "append", "(Ljava/lang/String;)Ljava/lang/StringBuilder;"⟩ : MethodName)) (hw _ (List.mem_of_getElem? (i := 60) rfl)) (hw _ (List.mem_of_getElem? (i := 61) rfl)) (notFace_of_selects (args := a0) (hw _ (List.mem_of_getElem? (i := 63) rfl))) (hw _ (List.mem_of_getElem? (i := 63) rfl)) (hw _ (List.mem_of_getElem? (i := 62) rfl)) (hw _ (List.mem_of_getElem? (i := 23) rfl)) (hw _ (List.mem_of_getElem? (i := 64) rfl)) E0 (b := a) (argsL := [(.ref sx)]) (own_sbApp_4_16_0 l Z a0 hw [] cz a b sx t kb kt x0 x1 x2 x3  h0 O0 SC hcz E0 g0 FV FC FN AB gb (Es.ext O0.2) (Vs.ext O0.2) (Cs.ext O0.2) (As.ext O0.2) (O0.ne As.lt gb) (O0.ne Es.lt gb) (O0.ne Es.lt g0) (O0.ne As.lt g0) ba) 0 (by decide) (by decide) (by decide) (by decide) (by decide) e3 (g := (mkF m 247 #[.val (.ref nd), .val (.ref a), .unset, .unset, .unset] [(.ref sx), (.ref a)])) rfl (by rw [hml]; rfl) [] (lenOf own_pd__28Ljava_2flang_2fString_3b_29Ljava_2flang_2fStringBuilder_3b rfl) rfl (by show 2 * 0 + _ ≤ _; exact Nat.le_of_eq rfl) (hb hby own_d6_247)
  obtain ⟨rfl, N4q, K4q, fv4, fc4, fn4, f4q⟩ := q4
  have N4 := Fr.app N2 N4q
  have f5 := (E0.keep K4q)
  have O4 := O0.keep K4q (allS g0 (allS gb all0))
  have K4 := (Keep.refl h0 [a, b]).trans K4q (allS (Or.inl (List.mem_of_getElem? (i := 0) rfl)) (allS (Or.inl (List.mem_of_getElem? (i := 1) rfl)) all0))
  refine own_st (T4.setTop (mkF m 250 #[.val (.ref nd), .val (.ref a), .unset, .unset, .unset] [(.ref a)])) st4 ?_
  refine own_st (T4.setTop (mkF m 251 #[.val (.ref nd), .val (.ref a), .unset, .unset, .unset] [])) (fun tq kq => XS.pop X4.here hx rfl (hb hby own_d6_250) rfl (by rfl) kq) ?_
  exact own_ret X4 hlk (v := none) (fun _ => rfl) rfl (⟨rfl, N4, K4, fv4, fc4, fn4, f4q⟩) (by decide) (by decide) (fun fs hr => X4.returnOut hx hret (hb hby own_d6_251) hr)
theorem own_d2_0 : decode prog_21_method_24_code 0 = .ok (.new 115, 3) := by decide +kernel
theorem own_d2_3 : decode prog_21_method_24_code 3 = .ok (.dup, 1) := by decide +kernel
theorem own_pd__28_29V : parseMethodDescriptor "()V" = some ⟨[], none⟩ := by decide +kernel
theorem own_d2_4 : decode prog_21_method_24_code 4 = .ok (.invokespecial 117, 3) := by decide +kernel
theorem own_d2_7 : decode prog_21_method_24_code 7 = .ok (.astore_n 1, 1) := by decide +kernel
theorem own_d2_8 : decode prog_21_method_24_code 8 = .ok (.aload_n 0, 1) := by decide +kernel
theorem own_d2_9 : decode prog_21_method_24_code 9 = .ok (.aload_n 1, 1) := by decide +kernel
theorem own_d2_10 : decode prog_21_method_24_code 10 = .ok (.invokevirtual 118, 3) := by decide +kernel
theorem own_nf6 {Z : State} {a0 : Array Value} (hw : ∀ d ∈ tables_1, d.before a0 Z = true) : NotFace Z (⟨"com/example/rising_block/risingblock/io/YamlNode", "write", "(Ljava/lang/StringBuilder;)V"⟩ : MethodName) := by
  obtain ⟨r, hr⟩ := own_named (hw _ (List.mem_of_getElem? (i := 18) rfl))
  exact own_nfc (notFace_of_selects (args := a0) (hw _ (List.mem_of_getElem? (i := 19) rfl))) hr rfl
theorem own_d2_13 : decode prog_21_method_24_code 13 = .ok (.aload_n 1, 1) := by decide +kernel
theorem own_pd__28_29Ljava_2flang_2fString_3b : parseMethodDescriptor "()Ljava/lang/String;" = some ⟨[], some (.object "java/lang/String")⟩ := by decide +kernel
theorem own_d2_14 : decode prog_21_method_24_code 14 = .ok (.invokevirtual 122, 3) := by decide +kernel
theorem own_d2_17 : decode prog_21_method_24_code 17 = .ok (.areturn, 1) := by decide +kernel
set_option maxRecDepth 65536 in
set_option maxHeartbeats 40000000 in
theorem own_tos4 (l : Launch) (Z : State) (a0 : Array Value) (hw : ∀ d ∈ tables_1, d.before a0 Z = true) (ws : List Jvm.Cond) (cz : Int32) (nd k0 sx t : Addr) (kt : ClassId) (x0 x1 x2 x3 : Int32) (h0 : Heap) (O0 : Old Z Z.heap.size h0) (SC : Sta Z Z.heap "java/lang/String" "COMPACT_STRINGS" "Z" (.int cz)) (hcz : ¬ (cz = (0 : Int32))) (NE : Exa Z Z.heap nd "com/example/rising_block/risingblock/io/YamlNode") (NK : Fld Z Z.heap nd "com/example/rising_block/risingblock/io/YamlNode" "kind" "Lcom/example/rising_block/risingblock/io/YamlNode$Kind;" (.ref k0)) (KE : Exa Z Z.heap k0 "com/example/rising_block/risingblock/io/YamlNode$Kind") (KO : Fld Z Z.heap k0 "java/lang/Enum" "ordinal" "I" (.int (4 : Int32))) (NT : Fld Z Z.heap nd "com/example/rising_block/risingblock/io/YamlNode" "text" "Ljava/lang/String;" (.ref sx)) (Es : Exa Z Z.heap sx "java/lang/String") (Vs : Fld Z Z.heap sx "java/lang/String" "value" "[B" (.ref t)) (Cs : Fld Z Z.heap sx "java/lang/String" "coder" "B" (.int (0 : Int32))) (As : Arv Z Z.heap t kt .byte (4 : Int32) [(.int x0), (.int x1), (.int x2), (.int x3)] (.int (0 : Int32))) :
    ownMet l (⟨"com/example/rising_block/risingblock/io/YamlNode", "toString", "()Ljava/lang/String;"⟩ : MethodName) prog_21_method_24_code 2 (some (.object "java/lang/String")) ws ({ frames := 6, cells := 4, slots := 28, locals := 91 } : Room) Z #[(.ref nd)] h0 (fun v h L => ∃ (a b : Addr) (kb : ClassId), v = some (.ref a) ∧ Fr Z.heap.size L ∧ Keep h0 h [] ∧ Z.heap.size ≤ a ∧ h0.size ≤ a ∧ Z.heap.size ≤ b ∧ h0.size ≤ b ∧ Exa Z h a "java/lang/String" ∧ Fld Z h a "java/lang/String" "value" "[B" (.ref b) ∧ Fld Z h a "java/lang/String" "coder" "B" (.int (0 : Int32)) ∧ Arv Z h b kb .byte (4 : Int32) [(.int x0), (.int x1), (.int x2), (.int x3)] (.int (0 : Int32))) := by
  refine own_met (plainFor_of_name own_pn_com_example_rising_block_risingblock_io_YamlNode) ?_
  intro p e s m below meth c s₁ hx hby hml hown hnm hret hlk hZ e0 X0
  refine own_cast (show _ = (mkF m 0 #[.val (.ref nd), .unset] []) by first | (simp [entryFrame, mkF, argsToLocals, Value.category]; done) | rfl) ?_
  obtain ⟨T1, h1, X1, e1, E1, A1, D1, -, st1⟩ := newO X0 hx hZ hown (hw _ (List.mem_of_getElem? (i := 21) rfl)) (hw _ (List.mem_of_getElem? (i := 22) rfl)) (hw _ (List.mem_of_getElem? (i := 23) rfl)) e0 (g := (mkF m 0 #[.val (.ref nd), .unset] [])) rfl (hb hby own_d2_0) (by decide) (by decide)
  obtain ⟨b1, g1⟩ : ∃ z, z = h0.size := ⟨_, rfl⟩
  have z1 : Z.heap.size ≤ b1 := Nat.le_trans O0.2.1 (Nat.le_of_eq g1.symm)
  have s1 : h0.size ≤ b1 := Nat.le_trans (Keep.refl h0 []).1 (Nat.le_of_eq g1.symm)
  rw [← g1] at A1 D1 st1
  have O1 := O0.ext E1
  have K1 := (Keep.refl h0 []).ext E1
  have f2 : Fld Z h1 b1 "java/lang/AbstractStringBuilder" "value" "[B" .null := D1 (Or.inl (hw _ (List.mem_of_getElem? (i := 38) rfl))) (ty := (.array .byte)) (by decide)
  have f3 : Fld Z h1 b1 "java/lang/AbstractStringBuilder" "coder" "B" (.int (0 : Int32)) := D1 (Or.inl (hw _ (List.mem_of_getElem? (i := 40) rfl))) (ty := .byte) (by decide)
  have f4 : Fld Z h1 b1 "java/lang/AbstractStringBuilder" "count" "I" (.int (0 : Int32)) := D1 (Or.inl (hw _ (List.mem_of_getElem? (i := 84) rfl))) (ty := .int) (by decide)
  refine own_st (T1.setTop (mkF m 3 #[.val (.ref nd), .unset] [(.ref b1)])) st1 ?_
  refine own_st (T1.setTop (mkF m 4 #[.val (.ref nd), .unset] [(.ref b1), (.ref b1)])) (fun tq kq => XS.dup X1.here hx rfl (hb hby own_d2_3) rfl (by rfl) kq) ?_
  obtain ⟨v5, T5, L5, X5, q5, st5⟩ := own_callI X1 hx hZ hown (y := (⟨"java/lang/StringBuilder", "<init>", "()V"⟩ : MethodName)) rfl (hw _ (List.mem_of_getElem? (i := 24) rfl)) (hw _ (List.mem_of_getElem? (i := 25) rfl)) (hw _ (List.mem_of_getElem? (i := 23) rfl)) (hw _ (List.mem_of_getElem? (i := 26) rfl)) (a := b1) (argsL := []) (own_sbInit l Z a0 hw [] cz b1 h1 O1 SC hcz A1 z1 f2 f3 f4) 1 (by decide) (by decide) (by decide) (by decide) (by decide) e1 (g := (mkF m 4 #[.val (.ref nd), .unset] [(.ref b1), (.ref b1)])) rfl (by rw [hml]; rfl) [(.ref b1)] (lenOf own_pd__28_29V rfl) rfl (by show 2 * 0 + _ ≤ _; exact Nat.le_of_eq rfl) (hb hby own_d2_4)
  obtain ⟨b5, kb5, rfl, N5q, K5q, z5, s5q, fv5, fc5, fn5, f5q⟩ := q5
  have N5 := Fr.app (Fr.nil _) N5q
  have nf5_b1 : b1 ≠ b5 := Nat.ne_of_lt (Nat.lt_of_lt_of_le A1.lt s5q)
  have s5 : h0.size ≤ b5 := Nat.le_trans K1.1 s5q
  have f6 := (A1.keep K5q)
  have O5 := O1.keep K5q (allS z1 all0)
  have K5 := K1.trans K5q (allS (Or.inr s1) all0)
  refine own_st (T5.setTop (mkF m 7 #[.val (.ref nd), .unset] [(.ref b1)])) st5 ?_
  refine own_st (T5.setTop (mkF m 8 #[.val (.ref nd), .val (.ref b1)] [])) (fun tq kq => XS.astoreN X5.here hx rfl (hb hby own_d2_7) rfl (by rfl) (l' := #[.val (.ref nd), .val (.ref b1)]) rfl kq) ?_
  refine own_st (T5.setTop (mkF m 9 #[.val (.ref nd), .val (.ref b1)] [(.ref nd)])) (fun tq kq => XS.aloadN X5.here hx rfl (hb hby own_d2_8) rfl (by rfl) kq) ?_
  refine own_st (T5.setTop (mkF m 10 #[.val (.ref nd), .val (.ref b1)] [(.ref b1), (.ref nd)])) (fun tq kq => XS.aloadN X5.here hx rfl (hb hby own_d2_9) rfl (by rfl) kq) ?_
  obtain ⟨v10, T10, L10, X10, q10, st10⟩ := own_callP X5 hx hZ hown (y := (⟨"com/example/rising_block/risingblock/io/YamlNode", "write", "(Ljava/lang/StringBuilder;)V"⟩ : MethodName)) (hw _ (List.mem_of_getElem? (i := 41) rfl)) (hw _ (List.mem_of_getElem? (i := 43) rfl)) (own_nf6 hw) (hw _ (List.mem_of_getElem? (i := 42) rfl)) (hw _ (List.mem_of_getElem? (i := 2) rfl)) (hw _ (List.mem_of_getElem? (i := 44) rfl)) (NE.ext O5.2) (b := nd) (argsL := [(.ref b1)]) (own_write4 l Z a0 hw [] cz nd k0 sx t b1 b5 kt kb5 x0 x1 x2 x3 T5.heap O5 SC hcz NE NK KE KO NT Es Vs Cs As f6 z1 fv5 fc5 fn5 f5q z5 (Ne.symm nf5_b1)) 0 (by decide) (by decide) (by decide) (by decide) (by decide) rfl (g := (mkF m 10 #[.val (.ref nd), .val (.ref b1)] [(.ref b1), (.ref nd)])) rfl (by rw [hml]; rfl) [] (lenOf own_pd__28Ljava_2flang_2fStringBuilder_3b_29V rfl) rfl (by show 2 * 0 + _ ≤ _; exact Nat.le_of_eq rfl) (hb hby own_d2_10)
  obtain ⟨rfl, N10q, K10q, fv10, fc10, fn10, f10q⟩ := q10
  have N10 := Fr.app N5 N10q
  have f11 := (f6.keep K10q)
  have O10 := O5.keep K10q (allS z1 (allS z5 all0))
  have K10 := K5.trans K10q (allS (Or.inr s1) (allS (Or.inr s5) all0))
  refine own_st (T10.setTop (mkF m 13 #[.val (.ref nd), .val (.ref b1)] [])) st10 ?_
  refine own_st (T10.setTop (mkF m 14 #[.val (.ref nd), .val (.ref b1)] [(.ref b1)])) (fun tq kq => XS.aloadN X10.here hx rfl (hb hby own_d2_13) rfl (by rfl) kq) ?_
  obtain ⟨v16, T16, L16, X16, q16, st16⟩ := own_callV X10 hx hZ hown (y := (⟨"java/lang/StringBuilder", "toString", "()Ljava/lang/String;"⟩ : MethodName)) (z := (⟨"java/lang/StringBuilder", "toString", "()Ljava/lang/String;"⟩ : MethodName)) (hw _ (List.mem_of_getElem? (i := 110) rfl)) (hw _ (List.mem_of_getElem? (i := 111) rfl)) (notFace_of_selects (args := a0) (hw _ (List.mem_of_getElem? (i := 113) rfl))) (hw _ (List.mem_of_getElem? (i := 113) rfl)) (hw _ (List.mem_of_getElem? (i := 112) rfl)) (hw _ (List.mem_of_getElem? (i := 23) rfl)) (hw _ (List.mem_of_getElem? (i := 114) rfl)) f11 (b := b1) (argsL := []) (own_sbStr_16_4 l Z a0 hw [] cz b1 b5 kb5 x0 x1 x2 x3 T10.heap O10 SC hcz f11 z1 fv10 fc10 fn10 f10q z5) 0 (by decide) (by decide) (by decide) (by decide) (by decide) rfl (g := (mkF m 14 #[.val (.ref nd), .val (.ref b1)] [(.ref b1)])) rfl (by rw [hml]; rfl) [] (lenOf own_pd__28_29Ljava_2flang_2fString_3b rfl) rfl (by show 2 * 0 + _ ≤ _; exact Nat.le_of_eq rfl) (hb hby own_d2_14)
  obtain ⟨a16, b16, kb16, rfl, N16q, K16q, za16, sa16q, z16, s16q, E16q, fv16, fc16, f16q⟩ := q16
  have N16 := Fr.app N10 N16q
  have nf16a_b1 : b1 ≠ a16 := Nat.ne_of_lt (Nat.lt_of_lt_of_le f11.lt sa16q)
  have nf16a_b5 : b5 ≠ a16 := Nat.ne_of_lt (Nat.lt_of_lt_of_le f10q.lt sa16q)
  have nf16_b1 : b1 ≠ b16 := Nat.ne_of_lt (Nat.lt_of_lt_of_le f11.lt s16q)
  have nf16_b5 : b5 ≠ b16 := Nat.ne_of_lt (Nat.lt_of_lt_of_le f10q.lt s16q)
  have s16 : h0.size ≤ b16 := Nat.le_trans K10.1 s16q
  have sa16 : h0.size ≤ a16 := Nat.le_trans K10.1 sa16q
  have f17 := (f11.keep K16q)
  have f18 := (f10q.keep K16q nin0)
  have f19 := (fv10.keep K16q nin0)
  have f20 := (fc10.keep K16q nin0)
  have f21 := (fn10.keep K16q nin0)
  have O16 := O10.keep K16q all0
  have K16 := K10.trans K16q all0
  refine own_st (T16.setTop (mkF m 17 #[.val (.ref nd), .val (.ref b1)] [(.ref a16)])) st16 ?_
  exact own_ret X16 hlk (v := some (.ref a16)) (fun h => by rw [hret] at h; cases h) rfl (⟨_, _, _, rfl, N16, K16, za16, sa16, z16, s16, E16q, fv16, fc16, f16q⟩) (by decide) (by decide) (fun fs hr => retOut X16 hx hret rfl (Or.inr (Or.inr (Or.inr (Or.inr ⟨rfl, rfl, rfl⟩)))) (hb hby own_d2_17) hr)
set_option maxRecDepth 65536 in
set_option maxHeartbeats 40000000 in
theorem own_slen_5 (l : Launch) (Z : State) (a0 : Array Value) (hw : ∀ d ∈ tables_1, d.before a0 Z = true) (ws : List Jvm.Cond) (cz : Int32) (a t : Addr) (kt : ClassId) (vs : List Value) (h0 : Heap) (O0 : Old Z Z.heap.size h0) (SC : Sta Z Z.heap "java/lang/String" "COMPACT_STRINGS" "Z" (.int cz)) (hcz : ¬ (cz = (0 : Int32))) (Ea : Exa Z h0 a "java/lang/String") (Va : Fld Z h0 a "java/lang/String" "value" "[B" (.ref t)) (Ca : Fld Z h0 a "java/lang/String" "coder" "B" (.int (0 : Int32))) (Aa : Arv Z h0 t kt .byte (5 : Int32) vs (.int (0 : Int32))) :
    ownMet l (⟨"java/lang/String", "length", "()I"⟩ : MethodName) jdk_42_method_54_code 1 (some .int) ws ({ frames := 1, cells := 0, slots := 0, locals := 13 } : Room) Z #[(.ref a)] h0 (fun v h L => v = some (.int (5 : Int32)) ∧ Fr Z.heap.size L ∧ h = h0) := by
  refine own_met (plainFor_of_name own_pn_java_lang_String) ?_
  intro p e s m below meth c s₁ hx hby hml hown hnm hret hlk hZ e0 X0
  refine own_cast (show _ = (mkF m 0 #[.val (.ref a)] []) by first | (simp [entryFrame, mkF, argsToLocals, Value.category]; done) | rfl) ?_
  refine own_st (s₁.setTop (mkF m 1 #[.val (.ref a)] [(.ref a)])) (fun tq kq => XS.aloadN X0.here hx rfl (hb hby own_d10_0) rfl (by rfl) kq) ?_
  obtain ⟨T1, X1, e1, st1⟩ := getF X0 hx hZ hown (host := "") (Or.inl (hw _ (List.mem_of_getElem? (i := 75) rfl))) Via.refl e0 Va (g := (mkF m 1 #[.val (.ref a)] [(.ref a)])) rfl rfl (hb hby own_d10_1)
  refine own_st (T1.setTop (mkF m 4 #[.val (.ref a)] [(.ref t)])) st1 ?_
  obtain ⟨cl2, q2a, q2b, q2c, q2d, q2e, q2f⟩ := id Aa
  refine own_st (T1.setTop (mkF m 5 #[.val (.ref a)] [(.int (5 : Int32))])) (fun tq kq => X1.arraylength hx (by rw [e1]; exact q2a.1) (State.isArrayOf_alike hZ.alike q2a.2.1) (g := (mkF m 4 #[.val (.ref a)] [(.ref t)])) rfl rfl (hb hby own_d10_4) tq (by rw [len_of q2c q2d]; exact kq)) ?_
  refine own_st (T1.setTop (mkF m 6 #[.val (.ref a)] [(.ref a), (.int (5 : Int32))])) (fun tq kq => XS.aloadN X1.here hx rfl (hb hby own_d10_5) rfl (by rfl) kq) ?_
  obtain ⟨v3, T3, L3, X3, q3, st3⟩ := own_callV X1 hx hZ hown (y := (⟨"java/lang/String", "coder", "()B"⟩ : MethodName)) (z := (⟨"java/lang/String", "coder", "()B"⟩ : MethodName)) (hw _ (List.mem_of_getElem? (i := 76) rfl)) (hw _ (List.mem_of_getElem? (i := 77) rfl)) (notFace_of_selects (args := a0) (hw _ (List.mem_of_getElem? (i := 79) rfl))) (hw _ (List.mem_of_getElem? (i := 79) rfl)) (hw _ (List.mem_of_getElem? (i := 78) rfl)) (hw _ (List.mem_of_getElem? (i := 9) rfl)) (hw _ (List.mem_of_getElem? (i := 80) rfl)) Ea (b := a) (argsL := []) (own_scoder l Z a0 hw [] cz a h0 O0 SC hcz Ca) 1 (by decide) (by decide) (by decide) (by decide) (by decide) e1 (g := (mkF m 6 #[.val (.ref a)] [(.ref a), (.int (5 : Int32))])) rfl (by rw [hml]; rfl) [(.int (5 : Int32))] (lenOf own_pd__28_29B rfl) rfl (by show 2 * 0 + _ ≤ _; exact Nat.le_of_eq rfl) (hb hby own_d10_6)
  obtain ⟨rfl, N3q, e3⟩ := q3
  have N3 := Fr.app (Fr.nil _) N3q
  refine own_st (T3.setTop (mkF m 9 #[.val (.ref a)] [(.int (0 : Int32)), (.int (5 : Int32))])) st3 ?_
  refine own_st (T3.setTop (mkF m 10 #[.val (.ref a)] [(.int (5 : Int32))])) (fun tq kq => XS.ishr X3.here hx rfl (hb hby own_d10_9) rfl kq) ?_
  exact own_ret X3 hlk (v := some (.int (5 : Int32))) (fun h => by rw [hret] at h; cases h) e3 (⟨rfl, N3, rfl⟩) (by decide) (by decide) (fun fs hr => retI X3 hx hret (hb hby own_d10_10) hr)
set_option maxRecDepth 65536 in
set_option maxHeartbeats 40000000 in
theorem own_ens_16_5 (l : Launch) (Z : State) (a0 : Array Value) (hw : ∀ d ∈ tables_1, d.before a0 Z = true) (ws : List Jvm.Cond) (a b : Addr) (kb : ClassId) (vs : List Value) (h0 : Heap) (O0 : Old Z Z.heap.size h0) (E0 : Exa Z h0 a "java/lang/StringBuilder") (FV : Fld Z h0 a "java/lang/AbstractStringBuilder" "value" "[B" (.ref b)) (FC : Fld Z h0 a "java/lang/AbstractStringBuilder" "coder" "B" (.int (0 : Int32))) (AB : Arv Z h0 b kb .byte (16 : Int32) vs (.int (0 : Int32))) :
    ownMet l (⟨"java/lang/AbstractStringBuilder", "ensureCapacityInternal", "(I)V"⟩ : MethodName) jdk_68_method_9_code 3 none ws ({ frames := 0, cells := 0, slots := 0, locals := 0 } : Room) Z #[(.ref a), (.int (5 : Int32))] h0 (fun v h L => v = none ∧ Fr Z.heap.size L ∧ h = h0) := by
  refine own_met (plainFor_of_name own_pn_java_lang_AbstractStringBuilder) ?_
  intro p e s m below meth c s₁ hx hby hml hown hnm hret hlk hZ e0 X0
  refine own_cast (show _ = (mkF m 0 #[.val (.ref a), .val (.int (5 : Int32)), .unset] []) by first | (simp [entryFrame, mkF, argsToLocals, Value.category]; done) | rfl) ?_
  refine own_st (s₁.setTop (mkF m 1 #[.val (.ref a), .val (.int (5 : Int32)), .unset] [(.ref a)])) (fun tq kq => XS.aloadN X0.here hx rfl (hb hby own_d12_0) rfl (by rfl) kq) ?_
  obtain ⟨T1, X1, e1, st1⟩ := getF X0 hx hZ hown (host := "") (Or.inl (hw _ (List.mem_of_getElem? (i := 37) rfl))) Via.refl e0 FV (g := (mkF m 1 #[.val (.ref a), .val (.int (5 : Int32)), .unset] [(.ref a)])) rfl rfl (hb hby own_d12_1)
  refine own_st (T1.setTop (mkF m 4 #[.val (.ref a), .val (.int (5 : Int32)), .unset] [(.ref b)])) st1 ?_
  obtain ⟨cl2, q2a, q2b, q2c, q2d, q2e, q2f⟩ := id AB
  refine own_st (T1.setTop (mkF m 5 #[.val (.ref a), .val (.int (5 : Int32)), .unset] [(.int (16 : Int32))])) (fun tq kq => X1.arraylength hx (by rw [e1]; exact q2a.1) (State.isArrayOf_alike hZ.alike q2a.2.1) (g := (mkF m 4 #[.val (.ref a), .val (.int (5 : Int32)), .unset] [(.ref b)])) rfl rfl (hb hby own_d12_4) tq (by rw [len_of q2c q2d]; exact kq)) ?_
  refine own_st (T1.setTop (mkF m 6 #[.val (.ref a), .val (.int (5 : Int32)), .unset] [(.ref a), (.int (16 : Int32))])) (fun tq kq => XS.aloadN X1.here hx rfl (hb hby own_d12_5) rfl (by rfl) kq) ?_
  obtain ⟨T3, X3, e3, st3⟩ := getF X1 hx hZ hown (host := "") (Or.inl (hw _ (List.mem_of_getElem? (i := 39) rfl))) Via.refl e1 FC (g := (mkF m 6 #[.val (.ref a), .val (.int (5 : Int32)), .unset] [(.ref a), (.int (16 : Int32))])) rfl rfl (hb hby own_d12_6)
  refine own_st (T3.setTop (mkF m 9 #[.val (.ref a), .val (.int (5 : Int32)), .unset] [(.int (0 : Int32)), (.int (16 : Int32))])) st3 ?_
  refine own_st (T3.setTop (mkF m 10 #[.val (.ref a), .val (.int (5 : Int32)), .unset] [(.int (16 : Int32))])) (fun tq kq => XS.ishr X3.here hx rfl (hb hby own_d12_9) rfl kq) ?_
  refine own_st (T3.setTop (mkF m 11 #[.val (.ref a), .val (.int (5 : Int32)), .val (.int (16 : Int32))] [])) (fun tq kq => XS.istoreN X3.here hx rfl (hb hby own_d12_10) rfl (l' := #[.val (.ref a), .val (.int (5 : Int32)), .val (.int (16 : Int32))]) rfl kq) ?_
  refine own_st (T3.setTop (mkF m 12 #[.val (.ref a), .val (.int (5 : Int32)), .val (.int (16 : Int32))] [(.int (5 : Int32))])) (fun tq kq => XS.iloadN X3.here hx rfl (hb hby own_d12_11) rfl kq) ?_
  refine own_st (T3.setTop (mkF m 13 #[.val (.ref a), .val (.int (5 : Int32)), .val (.int (16 : Int32))] [(.int (16 : Int32)), (.int (5 : Int32))])) (fun tq kq => XS.iloadN X3.here hx rfl (hb hby own_d12_12) rfl kq) ?_
  refine own_st (T3.setTop (mkF m 14 #[.val (.ref a), .val (.int (5 : Int32)), .val (.int (16 : Int32))] [(.int (-11 : Int32))])) (fun tq kq => XS.isub X3.here hx rfl (hb hby own_d12_13) rfl kq) ?_
  refine own_st (T3.setTop (mkF m 38 #[.val (.ref a), .val (.int (5 : Int32)), .val (.int (16 : Int32))] [])) (fun tq kq => XS.ifYes X3.here hx rfl (pc0 := 14) (pc' := 38) rfl (hb hby own_d12_14) rfl ((if0 _ _).trans (flt ((by decide) : ¬ ((0 : Int32) < (-11 : Int32)))).2.2.2) (by decide) (by decide) kq) ?_
  exact own_ret X3 hlk (v := none) (fun _ => rfl) e3 (⟨rfl, (Fr.nil _), rfl⟩) (by decide) (by decide) (fun fs hr => X3.returnOut hx hret (hb hby own_d12_38) hr)
set_option maxRecDepth 65536 in
set_option maxHeartbeats 40000000 in
theorem own_gb_5_16_0 (l : Launch) (Z : State) (a0 : Array Value) (hw : ∀ d ∈ tables_1, d.before a0 Z = true) (ws : List Jvm.Cond) (cz : Int32) (sx t b : Addr) (kt kb : ClassId) (x0 x1 x2 x3 x4 : Int32) (y0 y1 y2 y3 y4 y5 y6 y7 y8 y9 y10 y11 y12 y13 y14 y15 : Int32) (h0 : Heap) (O0 : Old Z Z.heap.size h0) (SC : Sta Z Z.heap "java/lang/String" "COMPACT_STRINGS" "Z" (.int cz)) (hcz : ¬ (cz = (0 : Int32))) (Esx : Exa Z h0 sx "java/lang/String") (Vsx : Fld Z h0 sx "java/lang/String" "value" "[B" (.ref t)) (Csx : Fld Z h0 sx "java/lang/String" "coder" "B" (.int (0 : Int32))) (Asx : Arv Z h0 t kt .byte (5 : Int32) [(.int x0), (.int x1), (.int x2), (.int x3), (.int x4)] (.int (0 : Int32))) (AB : Arv Z h0 b kb .byte (16 : Int32) [(.int y0), (.int y1), (.int y2), (.int y3), (.int y4), (.int y5), (.int y6), (.int y7), (.int y8), (.int y9), (.int y10), (.int y11), (.int y12), (.int y13), (.int y14), (.int y15)] (.int (0 : Int32))) (gb : Z.heap.size ≤ b) (tb : t ≠ b) (sxb : sx ≠ b) :
    ownMet l (⟨"java/lang/String", "getBytes", "([BIB)V"⟩ : MethodName) jdk_42_method_147_code 4 none ws ({ frames := 1, cells := 0, slots := 0, locals := 18 } : Room) Z #[(.ref sx), (.ref b), (.int (0 : Int32)), (.int (0 : Int32))] h0 (fun v h L => v = none ∧ Fr Z.heap.size L ∧ Keep h0 h [b] ∧ Arv Z h b kb .byte (16 : Int32) [(.int x0), (.int x1), (.int x2), (.int x3), (.int x4), (.int y5), (.int y6), (.int y7), (.int y8), (.int y9), (.int y10), (.int y11), (.int y12), (.int y13), (.int y14), (.int y15)] (.int (0 : Int32))) := by
  refine own_met (plainFor_of_name own_pn_java_lang_String) ?_
  intro p e s m below meth c s₁ hx hby hml hown hnm hret hlk hZ e0 X0
  refine own_cast (show _ = (mkF m 0 #[.val (.ref sx), .val (.ref b), .val (.int (0 : Int32)), .val (.int (0 : Int32))] []) by first | (simp [entryFrame, mkF, argsToLocals, Value.category]; done) | rfl) ?_
  refine own_st (s₁.setTop (mkF m 1 #[.val (.ref sx), .val (.ref b), .val (.int (0 : Int32)), .val (.int (0 : Int32))] [(.ref sx)])) (fun tq kq => XS.aloadN X0.here hx rfl (hb hby own_d15_0) rfl (by rfl) kq) ?_
  obtain ⟨v1, T1, L1, X1, q1, st1⟩ := own_callV X0 hx hZ hown (y := (⟨"java/lang/String", "coder", "()B"⟩ : MethodName)) (z := (⟨"java/lang/String", "coder", "()B"⟩ : MethodName)) (hw _ (List.mem_of_getElem? (i := 76) rfl)) (hw _ (List.mem_of_getElem? (i := 77) rfl)) (notFace_of_selects (args := a0) (hw _ (List.mem_of_getElem? (i := 79) rfl))) (hw _ (List.mem_of_getElem? (i := 79) rfl)) (hw _ (List.mem_of_getElem? (i := 78) rfl)) (hw _ (List.mem_of_getElem? (i := 9) rfl)) (hw _ (List.mem_of_getElem? (i := 80) rfl)) Esx (b := sx) (argsL := []) (own_scoder l Z a0 hw [] cz sx h0 O0 SC hcz Csx) 0 (by decide) (by decide) (by decide) (by decide) (by decide) e0 (g := (mkF m 1 #[.val (.ref sx), .val (.ref b), .val (.int (0 : Int32)), .val (.int (0 : Int32))] [(.ref sx)])) rfl (by rw [hml]; rfl) [] (lenOf own_pd__28_29B rfl) rfl (by show 2 * 0 + _ ≤ _; exact Nat.le_of_eq rfl) (hb hby own_d15_1)
  obtain ⟨rfl, N1q, e1⟩ := q1
  have N1 := Fr.app (Fr.nil _) N1q
  refine own_st (T1.setTop (mkF m 4 #[.val (.ref sx), .val (.ref b), .val (.int (0 : Int32)), .val (.int (0 : Int32))] [(.int (0 : Int32))])) st1 ?_
  refine own_st (T1.setTop (mkF m 5 #[.val (.ref sx), .val (.ref b), .val (.int (0 : Int32)), .val (.int (0 : Int32))] [(.int (0 : Int32)), (.int (0 : Int32))])) (fun tq kq => XS.iloadN X1.here hx rfl (hb hby own_d15_4) rfl kq) ?_
  refine own_st (T1.setTop (mkF m 8 #[.val (.ref sx), .val (.ref b), .val (.int (0 : Int32)), .val (.int (0 : Int32))] [])) (fun tq kq => XS.icmpNo X1.here hx rfl (hb hby own_d15_5) rfl (teq ((by decide) : (0 : Int32) = (0 : Int32))).2 kq) ?_
  refine own_st (T1.setTop (mkF m 9 #[.val (.ref sx), .val (.ref b), .val (.int (0 : Int32)), .val (.int (0 : Int32))] [(.ref sx)])) (fun tq kq => XS.aloadN X1.here hx rfl (hb hby own_d15_8) rfl (by rfl) kq) ?_
  obtain ⟨T2, X2, e2, st2⟩ := getF X1 hx hZ hown (host := "") (Or.inl (hw _ (List.mem_of_getElem? (i := 75) rfl))) Via.refl e1 Vsx (g := (mkF m 9 #[.val (.ref sx), .val (.ref b), .val (.int (0 : Int32)), .val (.int (0 : Int32))] [(.ref sx)])) rfl rfl (hb hby own_d15_9)
  refine own_st (T2.setTop (mkF m 12 #[.val (.ref sx), .val (.ref b), .val (.int (0 : Int32)), .val (.int (0 : Int32))] [(.ref t)])) st2 ?_
  refine own_st (T2.setTop (mkF m 13 #[.val (.ref sx), .val (.ref b), .val (.int (0 : Int32)), .val (.int (0 : Int32))] [(.int (0 : Int32)), (.ref t)])) (fun tq kq => XS.iconst X2.here hx rfl (hb hby own_d15_12) kq) ?_
  refine own_st (T2.setTop (mkF m 14 #[.val (.ref sx), .val (.ref b), .val (.int (0 : Int32)), .val (.int (0 : Int32))] [(.ref b), (.int (0 : Int32)), (.ref t)])) (fun tq kq => XS.aloadN X2.here hx rfl (hb hby own_d15_13) rfl (by rfl) kq) ?_
  refine own_st (T2.setTop (mkF m 15 #[.val (.ref sx), .val (.ref b), .val (.int (0 : Int32)), .val (.int (0 : Int32))] [(.int (0 : Int32)), (.ref b), (.int (0 : Int32)), (.ref t)])) (fun tq kq => XS.iloadN X2.here hx rfl (hb hby own_d15_14) rfl kq) ?_
  refine own_st (T2.setTop (mkF m 16 #[.val (.ref sx), .val (.ref b), .val (.int (0 : Int32)), .val (.int (0 : Int32))] [(.int (0 : Int32)), (.int (0 : Int32)), (.ref b), (.int (0 : Int32)), (.ref t)])) (fun tq kq => XS.iloadN X2.here hx rfl (hb hby own_d15_15) rfl kq) ?_
  refine own_st (T2.setTop (mkF m 17 #[.val (.ref sx), .val (.ref b), .val (.int (0 : Int32)), .val (.int (0 : Int32))] [(.int (0 : Int32)), (.ref b), (.int (0 : Int32)), (.ref t)])) (fun tq kq => XS.ishl X2.here hx rfl (hb hby own_d15_16) rfl kq) ?_
  refine own_st (T2.setTop (mkF m 18 #[.val (.ref sx), .val (.ref b), .val (.int (0 : Int32)), .val (.int (0 : Int32))] [(.ref sx), (.int (0 : Int32)), (.ref b), (.int (0 : Int32)), (.ref t)])) (fun tq kq => XS.aloadN X2.here hx rfl (hb hby own_d15_17) rfl (by rfl) kq) ?_
  obtain ⟨T3, X3, e3, st3⟩ := getF X2 hx hZ hown (host := "") (Or.inl (hw _ (List.mem_of_getElem? (i := 75) rfl))) Via.refl e2 Vsx (g := (mkF m 18 #[.val (.ref sx), .val (.ref b), .val (.int (0 : Int32)), .val (.int (0 : Int32))] [(.ref sx), (.int (0 : Int32)), (.ref b), (.int (0 : Int32)), (.ref t)])) rfl rfl (hb hby own_d15_18)
  refine own_st (T3.setTop (mkF m 21 #[.val (.ref sx), .val (.ref b), .val (.int (0 : Int32)), .val (.int (0 : Int32))] [(.ref t), (.int (0 : Int32)), (.ref b), (.int (0 : Int32)), (.ref t)])) st3 ?_
  obtain ⟨cl4, q4a, q4b, q4c, q4d, q4e, q4f⟩ := id Asx
  refine own_st (T3.setTop (mkF m 22 #[.val (.ref sx), .val (.ref b), .val (.int (0 : Int32)), .val (.int (0 : Int32))] [(.int (5 : Int32)), (.int (0 : Int32)), (.ref b), (.int (0 : Int32)), (.ref t)])) (fun tq kq => X3.arraylength hx (by rw [e3]; exact q4a.1) (State.isArrayOf_alike hZ.alike q4a.2.1) (g := (mkF m 21 #[.val (.ref sx), .val (.ref b), .val (.int (0 : Int32)), .val (.int (0 : Int32))] [(.ref t), (.int (0 : Int32)), (.ref b), (.int (0 : Int32)), (.ref t)])) rfl rfl (hb hby own_d15_21) tq (by rw [len_of q4c q4d]; exact kq)) ?_
  obtain ⟨T5, h5, L5, X5, e5, N5, K5q, f5q, st5⟩ := cpA X3 hx hZ hown (hw _ (List.mem_of_getElem? (i := 106) rfl)) (hw _ (List.mem_of_getElem? (i := 109) rfl)) (hw _ (List.mem_of_getElem? (i := 107) rfl)) (hw _ (List.mem_of_getElem? (i := 108) rfl)) e3 Asx AB (us := [(.int x0), (.int x1), (.int x2), (.int x3), (.int x4)]) (Or.inl ⟨rfl, rfl⟩) (by decide) (by decide) (by decide) (by decide) (by decide) (by rfl) (Nat.le_of_ble_eq_true rfl) N1 gb (g := (mkF m 22 #[.val (.ref sx), .val (.ref b), .val (.int (0 : Int32)), .val (.int (0 : Int32))] [(.int (5 : Int32)), (.int (0 : Int32)), (.ref b), (.int (0 : Int32)), (.ref t)])) rfl (by rw [hml]; rfl) rfl (hb hby own_d15_22) (by decide) (W := 0) (by show 2 * 0 + _ ≤ _; exact Nat.le_of_eq rfl) (by decide)
  have f6 : Arv Z h5 b kb .byte (16 : Int32) [(.int x0), (.int x1), (.int x2), (.int x3), (.int x4), (.int y5), (.int y6), (.int y7), (.int y8), (.int y9), (.int y10), (.int y11), (.int y12), (.int y13), (.int y14), (.int y15)] (.int (0 : Int32)) := f5q
  have f7 := (Esx.keep K5q)
  have f8 := (Vsx.keep K5q (ninS sxb nin0))
  have f9 := (Csx.keep K5q (ninS sxb nin0))
  have f10 := (Asx.keep K5q (ninS tb nin0))
  have O5 := O0.keep K5q (allS gb all0)
  have K5 := (Keep.refl h0 [b]).trans K5q (allS (Or.inl (List.mem_of_getElem? (i := 0) rfl)) all0)
  refine own_st (T5.setTop (mkF m 25 #[.val (.ref sx), .val (.ref b), .val (.int (0 : Int32)), .val (.int (0 : Int32))] [])) st5 ?_
  refine own_st (T5.setTop (mkF m 43 #[.val (.ref sx), .val (.ref b), .val (.int (0 : Int32)), .val (.int (0 : Int32))] [])) (fun tq kq => XS.goto X5.here hx rfl (pc0 := 25) (pc' := 43) rfl (hb hby own_d15_25) (by decide) (by decide) kq) ?_
  exact own_ret X5 hlk (v := none) (fun _ => rfl) e5 (⟨rfl, N5, K5, f6⟩) (by decide) (by decide) (fun fs hr => X5.returnOut hx hret (hb hby own_d15_43) hr)
set_option maxRecDepth 65536 in
set_option maxHeartbeats 40000000 in
theorem own_put_5_16_0 (l : Launch) (Z : State) (a0 : Array Value) (hw : ∀ d ∈ tables_1, d.before a0 Z = true) (ws : List Jvm.Cond) (cz : Int32) (a b sx t : Addr) (kb kt : ClassId) (x0 x1 x2 x3 x4 : Int32)  (h0 : Heap) (O0 : Old Z Z.heap.size h0) (SC : Sta Z Z.heap "java/lang/String" "COMPACT_STRINGS" "Z" (.int cz)) (hcz : ¬ (cz = (0 : Int32))) (E0 : Exa Z h0 a "java/lang/StringBuilder") (g0 : Z.heap.size ≤ a) (FV : Fld Z h0 a "java/lang/AbstractStringBuilder" "value" "[B" (.ref b)) (FC : Fld Z h0 a "java/lang/AbstractStringBuilder" "coder" "B" (.int (0 : Int32))) (FN : Fld Z h0 a "java/lang/AbstractStringBuilder" "count" "I" (.int (0 : Int32))) (AB : Arv Z h0 b kb .byte (16 : Int32) [(.int (0 : Int32)), (.int (0 : Int32)), (.int (0 : Int32)), (.int (0 : Int32)), (.int (0 : Int32)), (.int (0 : Int32)), (.int (0 : Int32)), (.int (0 : Int32)), (.int (0 : Int32)), (.int (0 : Int32)), (.int (0 : Int32)), (.int (0 : Int32)), (.int (0 : Int32)), (.int (0 : Int32)), (.int (0 : Int32)), (.int (0 : Int32))] (.int (0 : Int32))) (gb : Z.heap.size ≤ b) (Esx : Exa Z h0 sx "java/lang/String") (Vsx : Fld Z h0 sx "java/lang/String" "value" "[B" (.ref t)) (Csx : Fld Z h0 sx "java/lang/String" "coder" "B" (.int (0 : Int32))) (Asx : Arv Z h0 t kt .byte (5 : Int32) [(.int x0), (.int x1), (.int x2), (.int x3), (.int x4)] (.int (0 : Int32))) (tb : t ≠ b) (sxb : sx ≠ b) (sxa : sx ≠ a) (ta : t ≠ a) (ba : b ≠ a) :
    ownMet l (⟨"java/lang/AbstractStringBuilder", "putStringAt", "(ILjava/lang/String;)V"⟩ : MethodName) jdk_68_method_73_code 3 none ws ({ frames := 2, cells := 0, slots := 0, locals := 33 } : Room) Z #[(.ref a), (.int (0 : Int32)), (.ref sx)] h0 (fun v h L => v = none ∧ Fr Z.heap.size L ∧ Keep h0 h [b] ∧ Arv Z h b kb .byte (16 : Int32) [(.int x0), (.int x1), (.int x2), (.int x3), (.int x4), (.int (0 : Int32)), (.int (0 : Int32)), (.int (0 : Int32)), (.int (0 : Int32)), (.int (0 : Int32)), (.int (0 : Int32)), (.int (0 : Int32)), (.int (0 : Int32)), (.int (0 : Int32)), (.int (0 : Int32)), (.int (0 : Int32))] (.int (0 : Int32))) := by
  refine own_met (plainFor_of_name own_pn_java_lang_AbstractStringBuilder) ?_
  intro p e s m below meth c s₁ hx hby hml hown hnm hret hlk hZ e0 X0
  refine own_cast (show _ = (mkF m 0 #[.val (.ref a), .val (.int (0 : Int32)), .val (.ref sx)] []) by first | (simp [entryFrame, mkF, argsToLocals, Value.category]; done) | rfl) ?_
  refine own_st (s₁.setTop (mkF m 1 #[.val (.ref a), .val (.int (0 : Int32)), .val (.ref sx)] [(.ref a)])) (fun tq kq => XS.aloadN X0.here hx rfl (hb hby own_d13_0) rfl (by rfl) kq) ?_
  refine own_st (s₁.setTop (mkF m 2 #[.val (.ref a), .val (.int (0 : Int32)), .val (.ref sx)] [(.ref sx), (.ref a)])) (fun tq kq => XS.aloadN X0.here hx rfl (hb hby own_d13_1) rfl (by rfl) kq) ?_
  obtain ⟨v1, T1, L1, X1, q1, st1⟩ := own_callP X0 hx hZ hown (y := (⟨"java/lang/AbstractStringBuilder", "inflateIfNeededFor", "(Ljava/lang/String;)V"⟩ : MethodName)) (hw _ (List.mem_of_getElem? (i := 95) rfl)) (hw _ (List.mem_of_getElem? (i := 97) rfl)) (notFace_of_selects (args := a0) (hw _ (List.mem_of_getElem? (i := 98) rfl))) (hw _ (List.mem_of_getElem? (i := 96) rfl)) (hw _ (List.mem_of_getElem? (i := 31) rfl)) (hw _ (List.mem_of_getElem? (i := 99) rfl)) E0 (b := a) (argsL := [(.ref sx)]) (own_infl l Z a0 hw [] cz a sx h0 O0 SC hcz E0 FC Esx Csx) 0 (by decide) (by decide) (by decide) (by decide) (by decide) e0 (g := (mkF m 2 #[.val (.ref a), .val (.int (0 : Int32)), .val (.ref sx)] [(.ref sx), (.ref a)])) rfl (by rw [hml]; rfl) [] (lenOf own_pd__28Ljava_2flang_2fString_3b_29V rfl) rfl (by show 2 * 0 + _ ≤ _; exact Nat.le_of_eq rfl) (hb hby own_d13_2)
  obtain ⟨rfl, N1q, e1⟩ := q1
  have N1 := Fr.app (Fr.nil _) N1q
  refine own_st (T1.setTop (mkF m 5 #[.val (.ref a), .val (.int (0 : Int32)), .val (.ref sx)] [])) st1 ?_
  refine own_st (T1.setTop (mkF m 6 #[.val (.ref a), .val (.int (0 : Int32)), .val (.ref sx)] [(.ref sx)])) (fun tq kq => XS.aloadN X1.here hx rfl (hb hby own_d13_5) rfl (by rfl) kq) ?_
  refine own_st (T1.setTop (mkF m 7 #[.val (.ref a), .val (.int (0 : Int32)), .val (.ref sx)] [(.ref a), (.ref sx)])) (fun tq kq => XS.aloadN X1.here hx rfl (hb hby own_d13_6) rfl (by rfl) kq) ?_
  obtain ⟨T2, X2, e2, st2⟩ := getF X1 hx hZ hown (host := "") (Or.inl (hw _ (List.mem_of_getElem? (i := 37) rfl))) Via.refl e1 FV (g := (mkF m 7 #[.val (.ref a), .val (.int (0 : Int32)), .val (.ref sx)] [(.ref a), (.ref sx)])) rfl rfl (hb hby own_d13_7)
  refine own_st (T2.setTop (mkF m 10 #[.val (.ref a), .val (.int (0 : Int32)), .val (.ref sx)] [(.ref b), (.ref sx)])) st2 ?_
  refine own_st (T2.setTop (mkF m 11 #[.val (.ref a), .val (.int (0 : Int32)), .val (.ref sx)] [(.int (0 : Int32)), (.ref b), (.ref sx)])) (fun tq kq => XS.iloadN X2.here hx rfl (hb hby own_d13_10) rfl kq) ?_
  refine own_st (T2.setTop (mkF m 12 #[.val (.ref a), .val (.int (0 : Int32)), .val (.ref sx)] [(.ref a), (.int (0 : Int32)), (.ref b), (.ref sx)])) (fun tq kq => XS.aloadN X2.here hx rfl (hb hby own_d13_11) rfl (by rfl) kq) ?_
  obtain ⟨T3, X3, e3, st3⟩ := getF X2 hx hZ hown (host := "") (Or.inl (hw _ (List.mem_of_getElem? (i := 39) rfl))) Via.refl e2 FC (g := (mkF m 12 #[.val (.ref a), .val (.int (0 : Int32)), .val (.ref sx)] [(.ref a), (.int (0 : Int32)), (.ref b), (.ref sx)])) rfl rfl (hb hby own_d13_12)
  refine own_st (T3.setTop (mkF m 15 #[.val (.ref a), .val (.int (0 : Int32)), .val (.ref sx)] [(.int (0 : Int32)), (.int (0 : Int32)), (.ref b), (.ref sx)])) st3 ?_
  obtain ⟨v4, T4, L4, X4, q4, st4⟩ := own_callV X3 hx hZ hown (y := (⟨"java/lang/String", "getBytes", "([BIB)V"⟩ : MethodName)) (z := (⟨"java/lang/String", "getBytes", "([BIB)V"⟩ : MethodName)) (hw _ (List.mem_of_getElem? (i := 101) rfl)) (hw _ (List.mem_of_getElem? (i := 102) rfl)) (notFace_of_selects (args := a0) (hw _ (List.mem_of_getElem? (i := 104) rfl))) (hw _ (List.mem_of_getElem? (i := 104) rfl)) (hw _ (List.mem_of_getElem? (i := 103) rfl)) (hw _ (List.mem_of_getElem? (i := 9) rfl)) (hw _ (List.mem_of_getElem? (i := 105) rfl)) Esx (b := sx) (argsL := [(.ref b), (.int (0 : Int32)), (.int (0 : Int32))]) (own_gb_5_16_0 l Z a0 hw [] cz sx t b kt kb x0 x1 x2 x3 x4 (0 : Int32) (0 : Int32) (0 : Int32) (0 : Int32) (0 : Int32) (0 : Int32) (0 : Int32) (0 : Int32) (0 : Int32) (0 : Int32) (0 : Int32) (0 : Int32) (0 : Int32) (0 : Int32) (0 : Int32) (0 : Int32) h0 O0 SC hcz Esx Vsx Csx Asx AB gb tb sxb) 0 (by decide) (by decide) (by decide) (by decide) (by decide) e3 (g := (mkF m 15 #[.val (.ref a), .val (.int (0 : Int32)), .val (.ref sx)] [(.int (0 : Int32)), (.int (0 : Int32)), (.ref b), (.ref sx)])) rfl (by rw [hml]; rfl) [] (lenOf own_pd__28_5bBIB_29V rfl) rfl (by show 2 * 0 + _ ≤ _; exact Nat.le_of_eq rfl) (hb hby own_d13_15)
  obtain ⟨rfl, N4q, K4q, f4q⟩ := q4
  have N4 := Fr.app N1 N4q
  have f5 := (E0.keep K4q)
  have f6 := (FV.keep K4q (ninS (Ne.symm ba) nin0))
  have f7 := (FC.keep K4q (ninS (Ne.symm ba) nin0))
  have f8 := (FN.keep K4q (ninS (Ne.symm ba) nin0))
  have f10 := (Esx.keep K4q)
  have f11 := (Vsx.keep K4q (ninS sxb nin0))
  have f12 := (Csx.keep K4q (ninS sxb nin0))
  have f13 := (Asx.keep K4q (ninS tb nin0))
  have O4 := O0.keep K4q (allS gb all0)
  have K4 := (Keep.refl h0 [b]).trans K4q (allS (Or.inl (List.mem_of_getElem? (i := 0) rfl)) all0)
  refine own_st (T4.setTop (mkF m 18 #[.val (.ref a), .val (.int (0 : Int32)), .val (.ref sx)] [])) st4 ?_
  exact own_ret X4 hlk (v := none) (fun _ => rfl) rfl (⟨rfl, N4, K4, f4q⟩) (by decide) (by decide) (fun fs hr => X4.returnOut hx hret (hb hby own_d13_18) hr)
set_option maxRecDepth 65536 in
set_option maxHeartbeats 40000000 in
theorem own_asbApp_5_16_0 (l : Launch) (Z : State) (a0 : Array Value) (hw : ∀ d ∈ tables_1, d.before a0 Z = true) (ws : List Jvm.Cond) (cz : Int32) (a b sx t : Addr) (kb kt : ClassId) (x0 x1 x2 x3 x4 : Int32)  (h0 : Heap) (O0 : Old Z Z.heap.size h0) (SC : Sta Z Z.heap "java/lang/String" "COMPACT_STRINGS" "Z" (.int cz)) (hcz : ¬ (cz = (0 : Int32))) (E0 : Exa Z h0 a "java/lang/StringBuilder") (g0 : Z.heap.size ≤ a) (FV : Fld Z h0 a "java/lang/AbstractStringBuilder" "value" "[B" (.ref b)) (FC : Fld Z h0 a "java/lang/AbstractStringBuilder" "coder" "B" (.int (0 : Int32))) (FN : Fld Z h0 a "java/lang/AbstractStringBuilder" "count" "I" (.int (0 : Int32))) (AB : Arv Z h0 b kb .byte (16 : Int32) [(.int (0 : Int32)), (.int (0 : Int32)), (.int (0 : Int32)), (.int (0 : Int32)), (.int (0 : Int32)), (.int (0 : Int32)), (.int (0 : Int32)), (.int (0 : Int32)), (.int (0 : Int32)), (.int (0 : Int32)), (.int (0 : Int32)), (.int (0 : Int32)), (.int (0 : Int32)), (.int (0 : Int32)), (.int (0 : Int32)), (.int (0 : Int32))] (.int (0 : Int32))) (gb : Z.heap.size ≤ b) (Esx : Exa Z h0 sx "java/lang/String") (Vsx : Fld Z h0 sx "java/lang/String" "value" "[B" (.ref t)) (Csx : Fld Z h0 sx "java/lang/String" "coder" "B" (.int (0 : Int32))) (Asx : Arv Z h0 t kt .byte (5 : Int32) [(.int x0), (.int x1), (.int x2), (.int x3), (.int x4)] (.int (0 : Int32))) (tb : t ≠ b) (sxb : sx ≠ b) (sxa : sx ≠ a) (ta : t ≠ a) (ba : b ≠ a) :
    ownMet l (⟨"java/lang/AbstractStringBuilder", "append", "(Ljava/lang/String;)Ljava/lang/AbstractStringBuilder;"⟩ : MethodName) jdk_68_method_22_code 3 (some (.object "java/lang/AbstractStringBuilder")) ws ({ frames := 3, cells := 0, slots := 0, locals := 47 } : Room) Z #[(.ref a), (.ref sx)] h0 (fun v h L => v = some (.ref a) ∧ Fr Z.heap.size L ∧ Keep h0 h [a, b] ∧ Fld Z h a "java/lang/AbstractStringBuilder" "value" "[B" (.ref b) ∧ Fld Z h a "java/lang/AbstractStringBuilder" "coder" "B" (.int (0 : Int32)) ∧ Fld Z h a "java/lang/AbstractStringBuilder" "count" "I" (.int (5 : Int32)) ∧ Arv Z h b kb .byte (16 : Int32) [(.int x0), (.int x1), (.int x2), (.int x3), (.int x4), (.int (0 : Int32)), (.int (0 : Int32)), (.int (0 : Int32)), (.int (0 : Int32)), (.int (0 : Int32)), (.int (0 : Int32)), (.int (0 : Int32)), (.int (0 : Int32)), (.int (0 : Int32)), (.int (0 : Int32)), (.int (0 : Int32))] (.int (0 : Int32))) := by
  refine own_met (plainFor_of_name own_pn_java_lang_AbstractStringBuilder) ?_
  intro p e s m below meth c s₁ hx hby hml hown hnm hret hlk hZ e0 X0
  refine own_cast (show _ = (mkF m 0 #[.val (.ref a), .val (.ref sx), .unset] []) by first | (simp [entryFrame, mkF, argsToLocals, Value.category]; done) | rfl) ?_
  refine own_st (s₁.setTop (mkF m 1 #[.val (.ref a), .val (.ref sx), .unset] [(.ref sx)])) (fun tq kq => XS.aloadN X0.here hx rfl (hb hby own_d9_0) rfl (by rfl) kq) ?_
  refine own_st (s₁.setTop (mkF m 9 #[.val (.ref a), .val (.ref sx), .unset] [])) (fun tq kq => XS.ifnonnullYes X0.here hx rfl (pc0 := 1) (pc' := 9) rfl (hb hby own_d9_1) rfl (by decide) (by decide) kq) ?_
  refine own_st (s₁.setTop (mkF m 10 #[.val (.ref a), .val (.ref sx), .unset] [(.ref sx)])) (fun tq kq => XS.aloadN X0.here hx rfl (hb hby own_d9_9) rfl (by rfl) kq) ?_
  obtain ⟨v1, T1, L1, X1, q1, st1⟩ := own_callV X0 hx hZ hown (y := (⟨"java/lang/String", "length", "()I"⟩ : MethodName)) (z := (⟨"java/lang/String", "length", "()I"⟩ : MethodName)) (hw _ (List.mem_of_getElem? (i := 70) rfl)) (hw _ (List.mem_of_getElem? (i := 71) rfl)) (notFace_of_selects (args := a0) (hw _ (List.mem_of_getElem? (i := 73) rfl))) (hw _ (List.mem_of_getElem? (i := 73) rfl)) (hw _ (List.mem_of_getElem? (i := 72) rfl)) (hw _ (List.mem_of_getElem? (i := 9) rfl)) (hw _ (List.mem_of_getElem? (i := 74) rfl)) Esx (b := sx) (argsL := []) (own_slen_5 l Z a0 hw [] cz sx t kt [(.int x0), (.int x1), (.int x2), (.int x3), (.int x4)] h0 O0 SC hcz Esx Vsx Csx Asx) 0 (by decide) (by decide) (by decide) (by decide) (by decide) e0 (g := (mkF m 10 #[.val (.ref a), .val (.ref sx), .unset] [(.ref sx)])) rfl (by rw [hml]; rfl) [] (lenOf own_pd__28_29I rfl) rfl (by show 2 * 0 + _ ≤ _; exact Nat.le_of_eq rfl) (hb hby own_d9_10)
  obtain ⟨rfl, N1q, e1⟩ := q1
  have N1 := Fr.app (Fr.nil _) N1q
  refine own_st (T1.setTop (mkF m 13 #[.val (.ref a), .val (.ref sx), .unset] [(.int (5 : Int32))])) st1 ?_
  refine own_st (T1.setTop (mkF m 14 #[.val (.ref a), .val (.ref sx), .val (.int (5 : Int32))] [])) (fun tq kq => XS.istoreN X1.here hx rfl (hb hby own_d9_13) rfl (l' := #[.val (.ref a), .val (.ref sx), .val (.int (5 : Int32))]) rfl kq) ?_
  refine own_st (T1.setTop (mkF m 15 #[.val (.ref a), .val (.ref sx), .val (.int (5 : Int32))] [(.ref a)])) (fun tq kq => XS.aloadN X1.here hx rfl (hb hby own_d9_14) rfl (by rfl) kq) ?_
  refine own_st (T1.setTop (mkF m 16 #[.val (.ref a), .val (.ref sx), .val (.int (5 : Int32))] [(.ref a), (.ref a)])) (fun tq kq => XS.aloadN X1.here hx rfl (hb hby own_d9_15) rfl (by rfl) kq) ?_
  obtain ⟨T2, X2, e2, st2⟩ := getF X1 hx hZ hown (host := "") (Or.inl (hw _ (List.mem_of_getElem? (i := 83) rfl))) Via.refl e1 FN (g := (mkF m 16 #[.val (.ref a), .val (.ref sx), .val (.int (5 : Int32))] [(.ref a), (.ref a)])) rfl rfl (hb hby own_d9_16)
  refine own_st (T2.setTop (mkF m 19 #[.val (.ref a), .val (.ref sx), .val (.int (5 : Int32))] [(.int (0 : Int32)), (.ref a)])) st2 ?_
  refine own_st (T2.setTop (mkF m 20 #[.val (.ref a), .val (.ref sx), .val (.int (5 : Int32))] [(.int (5 : Int32)), (.int (0 : Int32)), (.ref a)])) (fun tq kq => XS.iloadN X2.here hx rfl (hb hby own_d9_19) rfl kq) ?_
  refine own_st (T2.setTop (mkF m 21 #[.val (.ref a), .val (.ref sx), .val (.int (5 : Int32))] [(.int (5 : Int32)), (.ref a)])) (fun tq kq => XS.iadd X2.here hx rfl (hb hby own_d9_20) rfl kq) ?_
  obtain ⟨v3, T3, L3, X3, q3, st3⟩ := own_callP X2 hx hZ hown (y := (⟨"java/lang/AbstractStringBuilder", "ensureCapacityInternal", "(I)V"⟩ : MethodName)) (hw _ (List.mem_of_getElem? (i := 85) rfl)) (hw _ (List.mem_of_getElem? (i := 87) rfl)) (notFace_of_selects (args := a0) (hw _ (List.mem_of_getElem? (i := 88) rfl))) (hw _ (List.mem_of_getElem? (i := 86) rfl)) (hw _ (List.mem_of_getElem? (i := 31) rfl)) (hw _ (List.mem_of_getElem? (i := 89) rfl)) E0 (b := a) (argsL := [(.int (5 : Int32))]) (own_ens_16_5 l Z a0 hw [] a b kb [(.int (0 : Int32)), (.int (0 : Int32)), (.int (0 : Int32)), (.int (0 : Int32)), (.int (0 : Int32)), (.int (0 : Int32)), (.int (0 : Int32)), (.int (0 : Int32)), (.int (0 : Int32)), (.int (0 : Int32)), (.int (0 : Int32)), (.int (0 : Int32)), (.int (0 : Int32)), (.int (0 : Int32)), (.int (0 : Int32)), (.int (0 : Int32))] h0 O0 E0 FV FC AB) 0 (by decide) (by decide) (by decide) (by decide) (by decide) e2 (g := (mkF m 21 #[.val (.ref a), .val (.ref sx), .val (.int (5 : Int32))] [(.int (5 : Int32)), (.ref a)])) rfl (by rw [hml]; rfl) [] (lenOf own_pd__28I_29V rfl) rfl (by show 2 * 0 + _ ≤ _; exact Nat.le_of_eq rfl) (hb hby own_d9_21)
  obtain ⟨rfl, N3q, e3⟩ := q3
  have N3 := Fr.app N1 N3q
  refine own_st (T3.setTop (mkF m 24 #[.val (.ref a), .val (.ref sx), .val (.int (5 : Int32))] [])) st3 ?_
  refine own_st (T3.setTop (mkF m 25 #[.val (.ref a), .val (.ref sx), .val (.int (5 : Int32))] [(.ref a)])) (fun tq kq => XS.aloadN X3.here hx rfl (hb hby own_d9_24) rfl (by rfl) kq) ?_
  refine own_st (T3.setTop (mkF m 26 #[.val (.ref a), .val (.ref sx), .val (.int (5 : Int32))] [(.ref a), (.ref a)])) (fun tq kq => XS.aloadN X3.here hx rfl (hb hby own_d9_25) rfl (by rfl) kq) ?_
  obtain ⟨T4, X4, e4, st4⟩ := getF X3 hx hZ hown (host := "") (Or.inl (hw _ (List.mem_of_getElem? (i := 83) rfl))) Via.refl e3 FN (g := (mkF m 26 #[.val (.ref a), .val (.ref sx), .val (.int (5 : Int32))] [(.ref a), (.ref a)])) rfl rfl (hb hby own_d9_26)
  refine own_st (T4.setTop (mkF m 29 #[.val (.ref a), .val (.ref sx), .val (.int (5 : Int32))] [(.int (0 : Int32)), (.ref a)])) st4 ?_
  refine own_st (T4.setTop (mkF m 30 #[.val (.ref a), .val (.ref sx), .val (.int (5 : Int32))] [(.ref sx), (.int (0 : Int32)), (.ref a)])) (fun tq kq => XS.aloadN X4.here hx rfl (hb hby own_d9_29) rfl (by rfl) kq) ?_
  obtain ⟨v5, T5, L5, X5, q5, st5⟩ := own_callP X4 hx hZ hown (y := (⟨"java/lang/AbstractStringBuilder", "putStringAt", "(ILjava/lang/String;)V"⟩ : MethodName)) (hw _ (List.mem_of_getElem? (i := 90) rfl)) (hw _ (List.mem_of_getElem? (i := 92) rfl)) (notFace_of_selects (args := a0) (hw _ (List.mem_of_getElem? (i := 93) rfl))) (hw _ (List.mem_of_getElem? (i := 91) rfl)) (hw _ (List.mem_of_getElem? (i := 31) rfl)) (hw _ (List.mem_of_getElem? (i := 94) rfl)) E0 (b := a) (argsL := [(.int (0 : Int32)), (.ref sx)]) (own_put_5_16_0 l Z a0 hw [] cz a b sx t kb kt x0 x1 x2 x3 x4  h0 O0 SC hcz E0 g0 FV FC FN AB gb Esx Vsx Csx Asx tb sxb sxa ta ba) 0 (by decide) (by decide) (by decide) (by decide) (by decide) e4 (g := (mkF m 30 #[.val (.ref a), .val (.ref sx), .val (.int (5 : Int32))] [(.ref sx), (.int (0 : Int32)), (.ref a)])) rfl (by rw [hml]; rfl) [] (lenOf own_pd__28ILjava_2flang_2fString_3b_29V rfl) rfl (by show 2 * 0 + _ ≤ _; exact Nat.le_of_eq rfl) (hb hby own_d9_30)
  obtain ⟨rfl, N5q, K5q, f5q⟩ := q5
  have N5 := Fr.app N3 N5q
  have f6 := (E0.keep K5q)
  have f7 := (FV.keep K5q (ninS (Ne.symm ba) nin0))
  have f8 := (FC.keep K5q (ninS (Ne.symm ba) nin0))
  have f9 := (FN.keep K5q (ninS (Ne.symm ba) nin0))
  have f11 := (Esx.keep K5q)
  have f12 := (Vsx.keep K5q (ninS sxb nin0))
  have f13 := (Csx.keep K5q (ninS sxb nin0))
  have f14 := (Asx.keep K5q (ninS tb nin0))
  have O5 := O0.keep K5q (allS gb all0)
  have K5 := (Keep.refl h0 [a, b]).trans K5q (allS (Or.inl (List.mem_of_getElem? (i := 1) rfl)) all0)
  refine own_st (T5.setTop (mkF m 33 #[.val (.ref a), .val (.ref sx), .val (.int (5 : Int32))] [])) st5 ?_
  refine own_st (T5.setTop (mkF m 34 #[.val (.ref a), .val (.ref sx), .val (.int (5 : Int32))] [(.ref a)])) (fun tq kq => XS.aloadN X5.here hx rfl (hb hby own_d9_33) rfl (by rfl) kq) ?_
  refine own_st (T5.setTop (mkF m 35 #[.val (.ref a), .val (.ref sx), .val (.int (5 : Int32))] [(.ref a), (.ref a)])) (fun tq kq => XS.dup X5.here hx rfl (hb hby own_d9_34) rfl (by rfl) kq) ?_
  obtain ⟨T15, X15, e15, st15⟩ := getF X5 hx hZ hown (host := "") (Or.inl (hw _ (List.mem_of_getElem? (i := 83) rfl))) Via.refl rfl f9 (g := (mkF m 35 #[.val (.ref a), .val (.ref sx), .val (.int (5 : Int32))] [(.ref a), (.ref a)])) rfl rfl (hb hby own_d9_35)
  refine own_st (T15.setTop (mkF m 38 #[.val (.ref a), .val (.ref sx), .val (.int (5 : Int32))] [(.int (0 : Int32)), (.ref a)])) st15 ?_
  refine own_st (T15.setTop (mkF m 39 #[.val (.ref a), .val (.ref sx), .val (.int (5 : Int32))] [(.int (5 : Int32)), (.int (0 : Int32)), (.ref a)])) (fun tq kq => XS.iloadN X15.here hx rfl (hb hby own_d9_38) rfl kq) ?_
  refine own_st (T15.setTop (mkF m 40 #[.val (.ref a), .val (.ref sx), .val (.int (5 : Int32))] [(.int (5 : Int32)), (.ref a)])) (fun tq kq => XS.iadd X15.here hx rfl (hb hby own_d9_39) rfl kq) ?_
  obtain ⟨T16, h16, X16, e16, W16, st16⟩ := putF X15 hx hZ hown (host := "") (Or.inl (hw _ (List.mem_of_getElem? (i := 83) rfl))) Via.refl e15 f9 f6 (Or.inl (hw _ (List.mem_of_getElem? (i := 84) rfl))) (hw _ (List.mem_of_getElem? (i := 22) rfl)) (ty := .int) (by decide) (by rfl) (by rfl) (g := (mkF m 40 #[.val (.ref a), .val (.ref sx), .val (.int (5 : Int32))] [(.int (5 : Int32)), (.ref a)])) rfl rfl (hb hby own_d9_40)
  have N16 := Fr.snoc X16 N5 g0
  have O16 := O5.wr W16 g0
  have K16 := K5.wr W16 (Or.inl (List.mem_of_getElem? (i := 0) rfl))
  have f17 := (f6.wr W16)
  have f18 := (f7.other W16 (Or.inr (slot_ne (Or.inl (hw _ (List.mem_of_getElem? (i := 38) rfl))) (Or.inl (hw _ (List.mem_of_getElem? (i := 84) rfl))) (by decide) (t := (.array .byte)) (t' := .int) (by decide) (by decide))))
  have f19 := (f8.other W16 (Or.inr (slot_ne (Or.inl (hw _ (List.mem_of_getElem? (i := 40) rfl))) (Or.inl (hw _ (List.mem_of_getElem? (i := 84) rfl))) (by decide) (t := .byte) (t' := .int) (by decide) (by decide))))
  have f21 := (f11.wr W16)
  have f22 := (f12.other W16 (Or.inl sxa))
  have f23 := (f13.other W16 (Or.inl sxa))
  have f24 := (f14.other W16 ta)
  have f25 := (f5q.other W16 ba)
  have f26 := (f9.same W16)
  refine own_st (T16.setTop (mkF m 43 #[.val (.ref a), .val (.ref sx), .val (.int (5 : Int32))] [])) st16 ?_
  refine own_st (T16.setTop (mkF m 44 #[.val (.ref a), .val (.ref sx), .val (.int (5 : Int32))] [(.ref a)])) (fun tq kq => XS.aloadN X16.here hx rfl (hb hby own_d9_43) rfl (by rfl) kq) ?_
  exact own_ret X16 hlk (v := some (.ref a)) (fun h => by rw [hret] at h; cases h) e16 (⟨rfl, N16, K16, f18, f19, f26, f25⟩) (by decide) (by decide) (fun fs hr => retOut X16 hx hret rfl (Or.inr (Or.inr (Or.inr (Or.inr ⟨rfl, rfl, rfl⟩)))) (hb hby own_d9_44) hr)
set_option maxRecDepth 65536 in
set_option maxHeartbeats 40000000 in
theorem own_sbApp_5_16_0 (l : Launch) (Z : State) (a0 : Array Value) (hw : ∀ d ∈ tables_1, d.before a0 Z = true) (ws : List Jvm.Cond) (cz : Int32) (a b sx t : Addr) (kb kt : ClassId) (x0 x1 x2 x3 x4 : Int32)  (h0 : Heap) (O0 : Old Z Z.heap.size h0) (SC : Sta Z Z.heap "java/lang/String" "COMPACT_STRINGS" "Z" (.int cz)) (hcz : ¬ (cz = (0 : Int32))) (E0 : Exa Z h0 a "java/lang/StringBuilder") (g0 : Z.heap.size ≤ a) (FV : Fld Z h0 a "java/lang/AbstractStringBuilder" "value" "[B" (.ref b)) (FC : Fld Z h0 a "java/lang/AbstractStringBuilder" "coder" "B" (.int (0 : Int32))) (FN : Fld Z h0 a "java/lang/AbstractStringBuilder" "count" "I" (.int (0 : Int32))) (AB : Arv Z h0 b kb .byte (16 : Int32) [(.int (0 : Int32)), (.int (0 : Int32)), (.int (0 : Int32)), (.int (0 : Int32)), (.int (0 : Int32)), (.int (0 : Int32)), (.int (0 : Int32)), (.int (0 : Int32)), (.int (0 : Int32)), (.int (0 : Int32)), (.int (0 : Int32)), (.int (0 : Int32)), (.int (0 : Int32)), (.int (0 : Int32)), (.int (0 : Int32)), (.int (0 : Int32))] (.int (0 : Int32))) (gb : Z.heap.size ≤ b) (Esx : Exa Z h0 sx "java/lang/String") (Vsx : Fld Z h0 sx "java/lang/String" "value" "[B" (.ref t)) (Csx : Fld Z h0 sx "java/lang/String" "coder" "B" (.int (0 : Int32))) (Asx : Arv Z h0 t kt .byte (5 : Int32) [(.int x0), (.int x1), (.int x2), (.int x3), (.int x4)] (.int (0 : Int32))) (tb : t ≠ b) (sxb : sx ≠ b) (sxa : sx ≠ a) (ta : t ≠ a) (ba : b ≠ a) :
    ownMet l (⟨"java/lang/StringBuilder", "append", "(Ljava/lang/String;)Ljava/lang/StringBuilder;"⟩ : MethodName) jdk_67_method_7_code 2 (some (.object "java/lang/StringBuilder")) ws ({ frames := 4, cells := 0, slots := 0, locals := 61 } : Room) Z #[(.ref a), (.ref sx)] h0 (fun v h L => v = some (.ref a) ∧ Fr Z.heap.size L ∧ Keep h0 h [a, b] ∧ Fld Z h a "java/lang/AbstractStringBuilder" "value" "[B" (.ref b) ∧ Fld Z h a "java/lang/AbstractStringBuilder" "coder" "B" (.int (0 : Int32)) ∧ Fld Z h a "java/lang/AbstractStringBuilder" "count" "I" (.int (5 : Int32)) ∧ Arv Z h b kb .byte (16 : Int32) [(.int x0), (.int x1), (.int x2), (.int x3), (.int x4), (.int (0 : Int32)), (.int (0 : Int32)), (.int (0 : Int32)), (.int (0 : Int32)), (.int (0 : Int32)), (.int (0 : Int32)), (.int (0 : Int32)), (.int (0 : Int32)), (.int (0 : Int32)), (.int (0 : Int32)), (.int (0 : Int32))] (.int (0 : Int32))) := by
  refine own_met (plainFor_of_name own_pn_java_lang_StringBuilder) ?_
  intro p e s m below meth c s₁ hx hby hml hown hnm hret hlk hZ e0 X0
  refine own_cast (show _ = (mkF m 0 #[.val (.ref a), .val (.ref sx)] []) by first | (simp [entryFrame, mkF, argsToLocals, Value.category]; done) | rfl) ?_
  refine own_st (s₁.setTop (mkF m 1 #[.val (.ref a), .val (.ref sx)] [(.ref a)])) (fun tq kq => XS.aloadN X0.here hx rfl (hb hby own_d8_0) rfl (by rfl) kq) ?_
  refine own_st (s₁.setTop (mkF m 2 #[.val (.ref a), .val (.ref sx)] [(.ref sx), (.ref a)])) (fun tq kq => XS.aloadN X0.here hx rfl (hb hby own_d8_1) rfl (by rfl) kq) ?_
  obtain ⟨v1, T1, L1, X1, q1, st1⟩ := own_callSup X0 hx hZ hown (y := (⟨"java/lang/AbstractStringBuilder", "append", "(Ljava/lang/String;)Ljava/lang/AbstractStringBuilder;"⟩ : MethodName)) (hw _ (List.mem_of_getElem? (i := 65) rfl)) (own_nf9 hw) (hw _ (List.mem_of_getElem? (i := 66) rfl)) (hw _ (List.mem_of_getElem? (i := 67) rfl)) (by decide) (hw _ (List.mem_of_getElem? (i := 31) rfl)) (hw _ (List.mem_of_getElem? (i := 69) rfl)) E0 (b := a) (argsL := [(.ref sx)]) (own_asbApp_5_16_0 l Z a0 hw [] cz a b sx t kb kt x0 x1 x2 x3 x4  h0 O0 SC hcz E0 g0 FV FC FN AB gb Esx Vsx Csx Asx tb sxb sxa ta ba) 0 (by decide) (by decide) (by decide) (by decide) (by decide) e0 (g := (mkF m 2 #[.val (.ref a), .val (.ref sx)] [(.ref sx), (.ref a)])) rfl (by rw [hml]; rfl) [] (lenOf own_pd__28Ljava_2flang_2fString_3b_29Ljava_2flang_2fAbstractStringBuilder_3b rfl) rfl (by show 2 * 0 + _ ≤ _; exact Nat.le_of_eq rfl) (hb hby own_d8_2)
  obtain ⟨rfl, N1q, K1q, fv1, fc1, fn1, f1q⟩ := q1
  have N1 := Fr.app (Fr.nil _) N1q
  have f2 := (E0.keep K1q)
  have f7 := (Esx.keep K1q)
  have f8 := (Vsx.keep K1q (ninS sxa (ninS sxb nin0)))
  have f9 := (Csx.keep K1q (ninS sxa (ninS sxb nin0)))
  have f10 := (Asx.keep K1q (ninS ta (ninS tb nin0)))
  have O1 := O0.keep K1q (allS g0 (allS gb all0))
  have K1 := (Keep.refl h0 [a, b]).trans K1q (allS (Or.inl (List.mem_of_getElem? (i := 0) rfl)) (allS (Or.inl (List.mem_of_getElem? (i := 1) rfl)) all0))
  refine own_st (T1.setTop (mkF m 5 #[.val (.ref a), .val (.ref sx)] [(.ref a)])) st1 ?_
  refine own_st (T1.setTop (mkF m 6 #[.val (.ref a), .val (.ref sx)] [])) (fun tq kq => XS.pop X1.here hx rfl (hb hby own_d8_5) rfl (by rfl) kq) ?_
  refine own_st (T1.setTop (mkF m 7 #[.val (.ref a), .val (.ref sx)] [(.ref a)])) (fun tq kq => XS.aloadN X1.here hx rfl (hb hby own_d8_6) rfl (by rfl) kq) ?_
  exact own_ret X1 hlk (v := some (.ref a)) (fun h => by rw [hret] at h; cases h) rfl (⟨rfl, N1, K1, fv1, fc1, fn1, f1q⟩) (by decide) (by decide) (fun fs hr => retOut X1 hx hret rfl (Or.inr (Or.inr (Or.inr (Or.inr ⟨rfl, rfl, rfl⟩)))) (hb hby own_d8_7) hr)
set_option maxRecDepth 65536 in
set_option maxHeartbeats 40000000 in
theorem own_ckLen_0_5 (l : Launch) (Z : State) (a0 : Array Value) (hw : ∀ d ∈ tables_1, d.before a0 Z = true) (ws : List Jvm.Cond)  (h0 : Heap) (O0 : Old Z Z.heap.size h0) :
    ownMet l (⟨"java/util/Arrays", "checkLength", "(II)V"⟩ : MethodName) jdk_65_method_131_code 2 none ws ({ frames := 0, cells := 0, slots := 0, locals := 0 } : Room) Z #[(.int (0 : Int32)), (.int (5 : Int32))] h0 (fun v h L => v = none ∧ Fr Z.heap.size L ∧ h = h0) := by
  refine own_met (plainFor_of_name own_pn_java_util_Arrays) ?_
  intro p e s m below meth c s₁ hx hby hml hown hnm hret hlk hZ e0 X0
  refine own_cast (show _ = (mkF m 0 #[.val (.int (0 : Int32)), .val (.int (5 : Int32))] []) by first | (simp [entryFrame, mkF, argsToLocals, Value.category]; done) | rfl) ?_
  refine own_st (s₁.setTop (mkF m 1 #[.val (.int (0 : Int32)), .val (.int (5 : Int32))] [(.int (5 : Int32))])) (fun tq kq => XS.iloadN X0.here hx rfl (hb hby own_d25_0) rfl kq) ?_
  refine own_st (s₁.setTop (mkF m 2 #[.val (.int (0 : Int32)), .val (.int (5 : Int32))] [(.int (0 : Int32)), (.int (5 : Int32))])) (fun tq kq => XS.iloadN X0.here hx rfl (hb hby own_d25_1) rfl kq) ?_
  refine own_st (s₁.setTop (mkF m 37 #[.val (.int (0 : Int32)), .val (.int (5 : Int32))] [])) (fun tq kq => XS.icmpYes X0.here hx rfl (pc0 := 2) (pc' := 37) rfl (hb hby own_d25_2) rfl (flt ((by decide) : ¬ ((5 : Int32) < (0 : Int32)))).2.1 (by decide) (by decide) kq) ?_
  exact own_ret X0 hlk (v := none) (fun _ => rfl) e0 (⟨rfl, (Fr.nil _), rfl⟩) (by decide) (by decide) (fun fs hr => X0.returnOut hx hret (hb hby own_d25_37) hr)
set_option maxRecDepth 65536 in
set_option maxHeartbeats 40000000 in
theorem own_min_16_5 (l : Launch) (Z : State) (a0 : Array Value) (hw : ∀ d ∈ tables_1, d.before a0 Z = true) (ws : List Jvm.Cond)  (h0 : Heap) (O0 : Old Z Z.heap.size h0) :
    ownMet l (⟨"java/lang/Math", "min", "(II)I"⟩ : MethodName) jdk_29_method_69_code 2 (some .int) ws ({ frames := 0, cells := 0, slots := 0, locals := 0 } : Room) Z #[(.int (16 : Int32)), (.int (5 : Int32))] h0 (fun v h L => v = some (.int (5 : Int32)) ∧ Fr Z.heap.size L ∧ h = h0) := by
  refine own_met (Jvm.Free.JP.mathPlain rfl (by decide +kernel)) ?_
  intro p e s m below meth c s₁ hx hby hml hown hnm hret hlk hZ e0 X0
  refine own_cast (show _ = (mkF m 0 #[.val (.int (16 : Int32)), .val (.int (5 : Int32))] []) by first | (simp [entryFrame, mkF, argsToLocals, Value.category]; done) | rfl) ?_
  refine own_st (s₁.setTop (mkF m 1 #[.val (.int (16 : Int32)), .val (.int (5 : Int32))] [(.int (16 : Int32))])) (fun tq kq => XS.iloadN X0.here hx rfl (hb hby own_d26_0) rfl kq) ?_
  refine own_st (s₁.setTop (mkF m 2 #[.val (.int (16 : Int32)), .val (.int (5 : Int32))] [(.int (5 : Int32)), (.int (16 : Int32))])) (fun tq kq => XS.iloadN X0.here hx rfl (hb hby own_d26_1) rfl kq) ?_
  refine own_st (s₁.setTop (mkF m 9 #[.val (.int (16 : Int32)), .val (.int (5 : Int32))] [])) (fun tq kq => XS.icmpYes X0.here hx rfl (pc0 := 2) (pc' := 9) rfl (hb hby own_d26_2) rfl (tlt ((by decide) : (5 : Int32) < (16 : Int32))).2.2.1 (by decide) (by decide) kq) ?_
  refine own_st (s₁.setTop (mkF m 10 #[.val (.int (16 : Int32)), .val (.int (5 : Int32))] [(.int (5 : Int32))])) (fun tq kq => XS.iloadN X0.here hx rfl (hb hby own_d26_9) rfl kq) ?_
  exact own_ret X0 hlk (v := some (.int (5 : Int32))) (fun h => by rw [hret] at h; cases h) e0 (⟨rfl, (Fr.nil _), rfl⟩) (by decide) (by decide) (fun fs hr => retI X0 hx hret (hb hby own_d26_10) hr)
set_option maxRecDepth 65536 in
set_option maxHeartbeats 40000000 in
theorem own_cprb_16_5 (l : Launch) (Z : State) (a0 : Array Value) (hw : ∀ d ∈ tables_1, d.before a0 Z = true) (ws : List Jvm.Cond) (b : Addr) (kb : ClassId) (y0 y1 y2 y3 y4 y5 y6 y7 y8 y9 y10 y11 y12 y13 y14 y15 : Int32) (h0 : Heap) (O0 : Old Z Z.heap.size h0) (AB : Arv Z h0 b kb .byte (16 : Int32) [(.int y0), (.int y1), (.int y2), (.int y3), (.int y4), (.int y5), (.int y6), (.int y7), (.int y8), (.int y9), (.int y10), (.int y11), (.int y12), (.int y13), (.int y14), (.int y15)] (.int (0 : Int32))) :
    ownMet l (⟨"java/util/Arrays", "copyOfRangeByte", "([BII)[B"⟩ : MethodName) jdk_65_method_133_code 5 (some (.array .byte)) ws ({ frames := 1, cells := 1, slots := 5, locals := 18 } : Room) Z #[(.ref b), (.int (0 : Int32)), (.int (5 : Int32))] h0 (fun v h L => ∃ (r : Addr) (kr : ClassId), v = some (.ref r) ∧ Fr Z.heap.size L ∧ Keep h0 h [] ∧ Z.heap.size ≤ r ∧ h0.size ≤ r ∧ Arv Z h r kr .byte (5 : Int32) [(.int y0), (.int y1), (.int y2), (.int y3), (.int y4)] (.int (0 : Int32))) := by
  refine own_met (plainFor_of_name own_pn_java_util_Arrays) ?_
  intro p e s m below meth c s₁ hx hby hml hown hnm hret hlk hZ e0 X0
  refine own_cast (show _ = (mkF m 0 #[.val (.ref b), .val (.int (0 : Int32)), .val (.int (5 : Int32)), .unset, .unset] []) by first | (simp [entryFrame, mkF, argsToLocals, Value.category]; done) | rfl) ?_
  refine own_st (s₁.setTop (mkF m 1 #[.val (.ref b), .val (.int (0 : Int32)), .val (.int (5 : Int32)), .unset, .unset] [(.int (0 : Int32))])) (fun tq kq => XS.iloadN X0.here hx rfl (hb hby own_d24_0) rfl kq) ?_
  refine own_st (s₁.setTop (mkF m 2 #[.val (.ref b), .val (.int (0 : Int32)), .val (.int (5 : Int32)), .unset, .unset] [(.int (5 : Int32)), (.int (0 : Int32))])) (fun tq kq => XS.iloadN X0.here hx rfl (hb hby own_d24_1) rfl kq) ?_
  obtain ⟨v1, T1, L1, X1, q1, st1⟩ := own_callS X0 hx hZ hown (hw _ (List.mem_of_getElem? (i := 149) rfl)) (hw _ (List.mem_of_getElem? (i := 150) rfl)) (hw _ (List.mem_of_getElem? (i := 144) rfl)) (hw _ (List.mem_of_getElem? (i := 151) rfl)) (argsL := [(.int (0 : Int32)), (.int (5 : Int32))]) (own_ckLen_0_5 l Z a0 hw [] h0 O0) 0 (by decide) (by decide) (by decide) (by decide) (by decide) e0 (g := (mkF m 2 #[.val (.ref b), .val (.int (0 : Int32)), .val (.int (5 : Int32)), .unset, .unset] [(.int (5 : Int32)), (.int (0 : Int32))])) rfl (by rw [hml]; rfl) [] (lenOf own_pd__28II_29V rfl) rfl (by show 2 * 0 + _ ≤ _; exact Nat.le_of_eq rfl) (hb hby own_d24_2)
  obtain ⟨rfl, N1q, e1⟩ := q1
  have N1 := Fr.app (Fr.nil _) N1q
  refine own_st (T1.setTop (mkF m 5 #[.val (.ref b), .val (.int (0 : Int32)), .val (.int (5 : Int32)), .unset, .unset] [])) st1 ?_
  refine own_st (T1.setTop (mkF m 6 #[.val (.ref b), .val (.int (0 : Int32)), .val (.int (5 : Int32)), .unset, .unset] [(.int (5 : Int32))])) (fun tq kq => XS.iloadN X1.here hx rfl (hb hby own_d24_5) rfl kq) ?_
  refine own_st (T1.setTop (mkF m 7 #[.val (.ref b), .val (.int (0 : Int32)), .val (.int (5 : Int32)), .unset, .unset] [(.int (0 : Int32)), (.int (5 : Int32))])) (fun tq kq => XS.iloadN X1.here hx rfl (hb hby own_d24_6) rfl kq) ?_
  refine own_st (T1.setTop (mkF m 8 #[.val (.ref b), .val (.int (0 : Int32)), .val (.int (5 : Int32)), .unset, .unset] [(.int (5 : Int32))])) (fun tq kq => XS.isub X1.here hx rfl (hb hby own_d24_7) rfl kq) ?_
  refine own_st (T1.setTop (mkF m 9 #[.val (.ref b), .val (.int (0 : Int32)), .val (.int (5 : Int32)), .val (.int (5 : Int32)), .unset] [])) (fun tq kq => XS.istoreN X1.here hx rfl (hb hby own_d24_8) rfl (l' := #[.val (.ref b), .val (.int (0 : Int32)), .val (.int (5 : Int32)), .val (.int (5 : Int32)), .unset]) rfl kq) ?_
  refine own_st (T1.setTop (mkF m 10 #[.val (.ref b), .val (.int (0 : Int32)), .val (.int (5 : Int32)), .val (.int (5 : Int32)), .unset] [(.int (5 : Int32))])) (fun tq kq => XS.iloadN X1.here hx rfl (hb hby own_d24_9) rfl kq) ?_
  obtain ⟨T2, h2, cA2, X2, e2, E2, A2, st2⟩ := newP X1 hx hZ (hw _ (List.mem_of_getElem? (i := 11) rfl)) e1 (g := (mkF m 10 #[.val (.ref b), .val (.int (0 : Int32)), .val (.int (5 : Int32)), .val (.int (5 : Int32)), .unset] [(.int (5 : Int32))])) rfl (hb hby own_d24_10) rfl (by decide) (cap := 5) (by decide) (by decide) (by decide) (by decide)
  obtain ⟨b2, g2⟩ : ∃ z, z = h0.size := ⟨_, rfl⟩
  have z2 : Z.heap.size ≤ b2 := Nat.le_trans O0.2.1 (Nat.le_of_eq g2.symm)
  have neb_2 : b ≠ b2 := Nat.ne_of_lt (Nat.lt_of_lt_of_le AB.lt (Nat.le_of_eq g2.symm))
  have s2 : h0.size ≤ b2 := Nat.le_trans (Keep.refl h0 []).1 (Nat.le_of_eq g2.symm)
  rw [← g2] at A2 st2
  have f3 := (AB.ext E2)
  have O2 := O0.ext E2
  have K2 := (Keep.refl h0 []).ext E2
  have f4 : Arv Z h2 b2 cA2 .byte (5 : Int32) [(.int (0 : Int32)), (.int (0 : Int32)), (.int (0 : Int32)), (.int (0 : Int32)), (.int (0 : Int32))] (.int (0 : Int32)) := (Arv.new A2 (by decide)).pad (pad_rep [] (.int (0 : Int32)) 5)
  refine own_st (T2.setTop (mkF m 12 #[.val (.ref b), .val (.int (0 : Int32)), .val (.int (5 : Int32)), .val (.int (5 : Int32)), .unset] [(.ref b2)])) st2 ?_
  refine own_st (T2.setTop (mkF m 14 #[.val (.ref b), .val (.int (0 : Int32)), .val (.int (5 : Int32)), .val (.int (5 : Int32)), .val (.ref b2)] [])) (fun tq kq => XS.astore X2.here hx rfl (hb hby own_d24_12) rfl (by rfl) (l' := #[.val (.ref b), .val (.int (0 : Int32)), .val (.int (5 : Int32)), .val (.int (5 : Int32)), .val (.ref b2)]) rfl kq) ?_
  refine own_st (T2.setTop (mkF m 15 #[.val (.ref b), .val (.int (0 : Int32)), .val (.int (5 : Int32)), .val (.int (5 : Int32)), .val (.ref b2)] [(.ref b)])) (fun tq kq => XS.aloadN X2.here hx rfl (hb hby own_d24_14) rfl (by rfl) kq) ?_
  refine own_st (T2.setTop (mkF m 16 #[.val (.ref b), .val (.int (0 : Int32)), .val (.int (5 : Int32)), .val (.int (5 : Int32)), .val (.ref b2)] [(.int (0 : Int32)), (.ref b)])) (fun tq kq => XS.iloadN X2.here hx rfl (hb hby own_d24_15) rfl kq) ?_
  refine own_st (T2.setTop (mkF m 18 #[.val (.ref b), .val (.int (0 : Int32)), .val (.int (5 : Int32)), .val (.int (5 : Int32)), .val (.ref b2)] [(.ref b2), (.int (0 : Int32)), (.ref b)])) (fun tq kq => XS.aload X2.here hx rfl (hb hby own_d24_16) rfl (by rfl) kq) ?_
  refine own_st (T2.setTop (mkF m 19 #[.val (.ref b), .val (.int (0 : Int32)), .val (.int (5 : Int32)), .val (.int (5 : Int32)), .val (.ref b2)] [(.int (0 : Int32)), (.ref b2), (.int (0 : Int32)), (.ref b)])) (fun tq kq => XS.iconst X2.here hx rfl (hb hby own_d24_18) kq) ?_
  refine own_st (T2.setTop (mkF m 20 #[.val (.ref b), .val (.int (0 : Int32)), .val (.int (5 : Int32)), .val (.int (5 : Int32)), .val (.ref b2)] [(.ref b), (.int (0 : Int32)), (.ref b2), (.int (0 : Int32)), (.ref b)])) (fun tq kq => XS.aloadN X2.here hx rfl (hb hby own_d24_19) rfl (by rfl) kq) ?_
  obtain ⟨cl5, q5a, q5b, q5c, q5d, q5e, q5f⟩ := id f3
  refine own_st (T2.setTop (mkF m 21 #[.val (.ref b), .val (.int (0 : Int32)), .val (.int (5 : Int32)), .val (.int (5 : Int32)), .val (.ref b2)] [(.int (16 : Int32)), (.int (0 : Int32)), (.ref b2), (.int (0 : Int32)), (.ref b)])) (fun tq kq => X2.arraylength hx (by rw [e2]; exact q5a.1) (State.isArrayOf_alike hZ.alike q5a.2.1) (g := (mkF m 20 #[.val (.ref b), .val (.int (0 : Int32)), .val (.int (5 : Int32)), .val (.int (5 : Int32)), .val (.ref b2)] [(.ref b), (.int (0 : Int32)), (.ref b2), (.int (0 : Int32)), (.ref b)])) rfl rfl (hb hby own_d24_20) tq (by rw [len_of q5c q5d]; exact kq)) ?_
  refine own_st (T2.setTop (mkF m 22 #[.val (.ref b), .val (.int (0 : Int32)), .val (.int (5 : Int32)), .val (.int (5 : Int32)), .val (.ref b2)] [(.int (0 : Int32)), (.int (16 : Int32)), (.int (0 : Int32)), (.ref b2), (.int (0 : Int32)), (.ref b)])) (fun tq kq => XS.iloadN X2.here hx rfl (hb hby own_d24_21) rfl kq) ?_
  refine own_st (T2.setTop (mkF m 23 #[.val (.ref b), .val (.int (0 : Int32)), .val (.int (5 : Int32)), .val (.int (5 : Int32)), .val (.ref b2)] [(.int (16 : Int32)), (.int (0 : Int32)), (.ref b2), (.int (0 : Int32)), (.ref b)])) (fun tq kq => XS.isub X2.here hx rfl (hb hby own_d24_22) rfl kq) ?_
  refine own_st (T2.setTop (mkF m 24 #[.val (.ref b), .val (.int (0 : Int32)), .val (.int (5 : Int32)), .val (.int (5 : Int32)), .val (.ref b2)] [(.int (5 : Int32)), (.int (16 : Int32)), (.int (0 : Int32)), (.ref b2), (.int (0 : Int32)), (.ref b)])) (fun tq kq => XS.iloadN X2.here hx rfl (hb hby own_d24_23) rfl kq) ?_
  obtain ⟨v6, T6, L6, X6, q6, st6⟩ := own_callS X2 hx hZ hown (hw _ (List.mem_of_getElem? (i := 152) rfl)) (hw _ (List.mem_of_getElem? (i := 153) rfl)) (hw _ (List.mem_of_getElem? (i := 154) rfl)) (hw _ (List.mem_of_getElem? (i := 155) rfl)) (argsL := [(.int (16 : Int32)), (.int (5 : Int32))]) (own_min_16_5 l Z a0 hw [] h2 O2) 4 (by decide) (by decide) (by decide) (by decide) (by decide) e2 (g := (mkF m 24 #[.val (.ref b), .val (.int (0 : Int32)), .val (.int (5 : Int32)), .val (.int (5 : Int32)), .val (.ref b2)] [(.int (5 : Int32)), (.int (16 : Int32)), (.int (0 : Int32)), (.ref b2), (.int (0 : Int32)), (.ref b)])) rfl (by rw [hml]; rfl) [(.int (0 : Int32)), (.ref b2), (.int (0 : Int32)), (.ref b)] (lenOf own_pd__28II_29I rfl) rfl (by show 2 * 0 + _ ≤ _; exact Nat.le_of_eq rfl) (hb hby own_d24_24)
  obtain ⟨rfl, N6q, e6⟩ := q6
  have N6 := Fr.app N1 N6q
  refine own_st (T6.setTop (mkF m 27 #[.val (.ref b), .val (.int (0 : Int32)), .val (.int (5 : Int32)), .val (.int (5 : Int32)), .val (.ref b2)] [(.int (5 : Int32)), (.int (0 : Int32)), (.ref b2), (.int (0 : Int32)), (.ref b)])) st6 ?_
  obtain ⟨T7, h7, L7, X7, e7, N7, K7q, f7q, st7⟩ := cpA X6 hx hZ hown (hw _ (List.mem_of_getElem? (i := 156) rfl)) (hw _ (List.mem_of_getElem? (i := 109) rfl)) (hw _ (List.mem_of_getElem? (i := 107) rfl)) (hw _ (List.mem_of_getElem? (i := 108) rfl)) e6 f3 f4 (us := [(.int y0), (.int y1), (.int y2), (.int y3), (.int y4)]) (Or.inl ⟨rfl, rfl⟩) (by decide) (by decide) (by decide) (by decide) (by decide) (by rfl) (Nat.le_of_ble_eq_true rfl) N6 z2 (g := (mkF m 27 #[.val (.ref b), .val (.int (0 : Int32)), .val (.int (5 : Int32)), .val (.int (5 : Int32)), .val (.ref b2)] [(.int (5 : Int32)), (.int (0 : Int32)), (.ref b2), (.int (0 : Int32)), (.ref b)])) rfl (by rw [hml]; rfl) rfl (hb hby own_d24_27) (by decide) (W := 0) (by show 2 * 0 + _ ≤ _; exact Nat.le_of_eq rfl) (by decide)
  have f8 : Arv Z h7 b2 cA2 .byte (5 : Int32) [(.int y0), (.int y1), (.int y2), (.int y3), (.int y4)] (.int (0 : Int32)) := f7q
  have f9 := (f3.keep K7q (ninS neb_2 nin0))
  have O7 := O2.keep K7q (allS z2 all0)
  have K7 := K2.trans K7q (allS (Or.inr s2) all0)
  refine own_st (T7.setTop (mkF m 30 #[.val (.ref b), .val (.int (0 : Int32)), .val (.int (5 : Int32)), .val (.int (5 : Int32)), .val (.ref b2)] [])) st7 ?_
  refine own_st (T7.setTop (mkF m 32 #[.val (.ref b), .val (.int (0 : Int32)), .val (.int (5 : Int32)), .val (.int (5 : Int32)), .val (.ref b2)] [(.ref b2)])) (fun tq kq => XS.aload X7.here hx rfl (hb hby own_d24_30) rfl (by rfl) kq) ?_
  exact own_ret X7 hlk (v := some (.ref b2)) (fun h => by rw [hret] at h; cases h) e7 (⟨_, _, rfl, N7, K7, z2, s2, f8⟩) (by decide) (by decide) (fun fs hr => retOut X7 hx hret rfl (Or.inr (Or.inr (Or.inr (Or.inr ⟨rfl, rfl, rfl⟩)))) (hb hby own_d24_32) hr)
set_option maxRecDepth 65536 in
set_option maxHeartbeats 40000000 in
theorem own_cpr_16_5 (l : Launch) (Z : State) (a0 : Array Value) (hw : ∀ d ∈ tables_1, d.before a0 Z = true) (ws : List Jvm.Cond) (b : Addr) (kb : ClassId) (y0 y1 y2 y3 y4 y5 y6 y7 y8 y9 y10 y11 y12 y13 y14 y15 : Int32) (h0 : Heap) (O0 : Old Z Z.heap.size h0) (AB : Arv Z h0 b kb .byte (16 : Int32) [(.int y0), (.int y1), (.int y2), (.int y3), (.int y4), (.int y5), (.int y6), (.int y7), (.int y8), (.int y9), (.int y10), (.int y11), (.int y12), (.int y13), (.int y14), (.int y15)] (.int (0 : Int32))) :
    ownMet l (⟨"java/util/Arrays", "copyOfRange", "([BII)[B"⟩ : MethodName) jdk_65_method_132_code 3 (some (.array .byte)) ws ({ frames := 2, cells := 1, slots := 5, locals := 34 } : Room) Z #[(.ref b), (.int (0 : Int32)), (.int (5 : Int32))] h0 (fun v h L => ∃ (r : Addr) (kr : ClassId), v = some (.ref r) ∧ Fr Z.heap.size L ∧ Keep h0 h [] ∧ Z.heap.size ≤ r ∧ h0.size ≤ r ∧ Arv Z h r kr .byte (5 : Int32) [(.int y0), (.int y1), (.int y2), (.int y3), (.int y4)] (.int (0 : Int32))) := by
  refine own_met (plainFor_of_name own_pn_java_util_Arrays) ?_
  intro p e s m below meth c s₁ hx hby hml hown hnm hret hlk hZ e0 X0
  refine own_cast (show _ = (mkF m 0 #[.val (.ref b), .val (.int (0 : Int32)), .val (.int (5 : Int32))] []) by first | (simp [entryFrame, mkF, argsToLocals, Value.category]; done) | rfl) ?_
  refine own_st (s₁.setTop (mkF m 1 #[.val (.ref b), .val (.int (0 : Int32)), .val (.int (5 : Int32))] [(.int (0 : Int32))])) (fun tq kq => XS.iloadN X0.here hx rfl (hb hby own_d23_0) rfl kq) ?_
  refine own_st (s₁.setTop (mkF m 4 #[.val (.ref b), .val (.int (0 : Int32)), .val (.int (5 : Int32))] [])) (fun tq kq => XS.ifNo X0.here hx rfl (hb hby own_d23_1) rfl ((if0 _ _).trans (teq ((by decide) : (0 : Int32) = (0 : Int32))).2) kq) ?_
  refine own_st (s₁.setTop (mkF m 5 #[.val (.ref b), .val (.int (0 : Int32)), .val (.int (5 : Int32))] [(.int (5 : Int32))])) (fun tq kq => XS.iloadN X0.here hx rfl (hb hby own_d23_4) rfl kq) ?_
  refine own_st (s₁.setTop (mkF m 6 #[.val (.ref b), .val (.int (0 : Int32)), .val (.int (5 : Int32))] [(.ref b), (.int (5 : Int32))])) (fun tq kq => XS.aloadN X0.here hx rfl (hb hby own_d23_5) rfl (by rfl) kq) ?_
  obtain ⟨cl1, q1a, q1b, q1c, q1d, q1e, q1f⟩ := id AB
  refine own_st (s₁.setTop (mkF m 7 #[.val (.ref b), .val (.int (0 : Int32)), .val (.int (5 : Int32))] [(.int (16 : Int32)), (.int (5 : Int32))])) (fun tq kq => X0.arraylength hx (by rw [e0]; exact q1a.1) (State.isArrayOf_alike hZ.alike q1a.2.1) (g := (mkF m 6 #[.val (.ref b), .val (.int (0 : Int32)), .val (.int (5 : Int32))] [(.ref b), (.int (5 : Int32))])) rfl rfl (hb hby own_d23_6) tq (by rw [len_of q1c q1d]; exact kq)) ?_
  refine own_st (s₁.setTop (mkF m 10 #[.val (.ref b), .val (.int (0 : Int32)), .val (.int (5 : Int32))] [])) (fun tq kq => XS.icmpNo X0.here hx rfl (hb hby own_d23_7) rfl (feq ((by decide) : ¬ ((5 : Int32) = (16 : Int32)))).1 kq) ?_
  refine own_st (s₁.setTop (mkF m 11 #[.val (.ref b), .val (.int (0 : Int32)), .val (.int (5 : Int32))] [(.ref b)])) (fun tq kq => XS.aloadN X0.here hx rfl (hb hby own_d23_10) rfl (by rfl) kq) ?_
  refine own_st (s₁.setTop (mkF m 12 #[.val (.ref b), .val (.int (0 : Int32)), .val (.int (5 : Int32))] [(.int (0 : Int32)), (.ref b)])) (fun tq kq => XS.iloadN X0.here hx rfl (hb hby own_d23_11) rfl kq) ?_
  refine own_st (s₁.setTop (mkF m 13 #[.val (.ref b), .val (.int (0 : Int32)), .val (.int (5 : Int32))] [(.int (5 : Int32)), (.int (0 : Int32)), (.ref b)])) (fun tq kq => XS.iloadN X0.here hx rfl (hb hby own_d23_12) rfl kq) ?_
  obtain ⟨v2, T2, L2, X2, q2, st2⟩ := own_callS X0 hx hZ hown (hw _ (List.mem_of_getElem? (i := 146) rfl)) (hw _ (List.mem_of_getElem? (i := 147) rfl)) (hw _ (List.mem_of_getElem? (i := 144) rfl)) (hw _ (List.mem_of_getElem? (i := 148) rfl)) (argsL := [(.ref b), (.int (0 : Int32)), (.int (5 : Int32))]) (own_cprb_16_5 l Z a0 hw [] b kb y0 y1 y2 y3 y4 y5 y6 y7 y8 y9 y10 y11 y12 y13 y14 y15 h0 O0 AB) 0 (by decide) (by decide) (by decide) (by decide) (by decide) e0 (g := (mkF m 13 #[.val (.ref b), .val (.int (0 : Int32)), .val (.int (5 : Int32))] [(.int (5 : Int32)), (.int (0 : Int32)), (.ref b)])) rfl (by rw [hml]; rfl) [] (lenOf own_pd__28_5bBII_29_5bB rfl) rfl (by show 2 * 0 + _ ≤ _; exact Nat.le_of_eq rfl) (hb hby own_d23_13)
  obtain ⟨b2, kb2, rfl, N2q, K2q, z2, s2q, f2q⟩ := q2
  have N2 := Fr.app (Fr.nil _) N2q
  have nf2_b : b ≠ b2 := Nat.ne_of_lt (Nat.lt_of_lt_of_le AB.lt s2q)
  have s2 : h0.size ≤ b2 := Nat.le_trans (Keep.refl h0 []).1 s2q
  have f3 := (AB.keep K2q nin0)
  have O2 := O0.keep K2q all0
  have K2 := (Keep.refl h0 []).trans K2q all0
  refine own_st (T2.setTop (mkF m 16 #[.val (.ref b), .val (.int (0 : Int32)), .val (.int (5 : Int32))] [(.ref b2)])) st2 ?_
  exact own_ret X2 hlk (v := some (.ref b2)) (fun h => by rw [hret] at h; cases h) rfl (⟨_, _, rfl, N2, K2, z2, s2, f2q⟩) (by decide) (by decide) (fun fs hr => retOut X2 hx hret rfl (Or.inr (Or.inr (Or.inr (Or.inr ⟨rfl, rfl, rfl⟩)))) (hb hby own_d23_16) hr)
set_option maxRecDepth 65536 in
set_option maxHeartbeats 40000000 in
theorem own_strASB_16_5 (l : Launch) (Z : State) (a0 : Array Value) (hw : ∀ d ∈ tables_1, d.before a0 Z = true) (ws : List Jvm.Cond) (cz : Int32) (r a b : Addr) (kb : ClassId) (y0 y1 y2 y3 y4 : Int32) (h0 : Heap) (O0 : Old Z Z.heap.size h0) (SC : Sta Z Z.heap "java/lang/String" "COMPACT_STRINGS" "Z" (.int cz)) (hcz : ¬ (cz = (0 : Int32))) (ER : Exa Z h0 r "java/lang/String") (RV : Fld Z h0 r "java/lang/String" "value" "[B" .null) (RC : Fld Z h0 r "java/lang/String" "coder" "B" (.int (0 : Int32))) (gr : Z.heap.size ≤ r) (E0 : Exa Z h0 a "java/lang/StringBuilder") (g0 : Z.heap.size ≤ a) (FV : Fld Z h0 a "java/lang/AbstractStringBuilder" "value" "[B" (.ref b)) (FC : Fld Z h0 a "java/lang/AbstractStringBuilder" "coder" "B" (.int (0 : Int32))) (FN : Fld Z h0 a "java/lang/AbstractStringBuilder" "count" "I" (.int (5 : Int32))) (AB : Arv Z h0 b kb .byte (16 : Int32) [(.int y0), (.int y1), (.int y2), (.int y3), (.int y4), (.int (0 : Int32)), (.int (0 : Int32)), (.int (0 : Int32)), (.int (0 : Int32)), (.int (0 : Int32)), (.int (0 : Int32)), (.int (0 : Int32)), (.int (0 : Int32)), (.int (0 : Int32)), (.int (0 : Int32)), (.int (0 : Int32))] (.int (0 : Int32))) (gb : Z.heap.size ≤ b) (ra : r ≠ a) (rb : r ≠ b) :
    ownMet l (⟨"java/lang/String", "<init>", "(Ljava/lang/AbstractStringBuilder;Ljava/lang/Void;)V"⟩ : MethodName) jdk_42_method_150_code 5 none ws ({ frames := 3, cells := 1, slots := 5, locals := 49 } : Room) Z #[(.ref r), (.ref a), .null] h0 (fun v h L => ∃ (t : Addr) (kt : ClassId), v = none ∧ Fr Z.heap.size L ∧ Keep h0 h [r] ∧ Z.heap.size ≤ t ∧ h0.size ≤ t ∧ Fld Z h r "java/lang/String" "value" "[B" (.ref t) ∧ Fld Z h r "java/lang/String" "coder" "B" (.int (0 : Int32)) ∧ Arv Z h t kt .byte (5 : Int32) [(.int y0), (.int y1), (.int y2), (.int y3), (.int y4)] (.int (0 : Int32))) := by
  refine own_met (plainFor_of_name own_pn_java_lang_String) ?_
  intro p e s m below meth c s₁ hx hby hml hown hnm hret hlk hZ e0 X0
  refine own_cast (show _ = (mkF m 0 #[.val (.ref r), .val (.ref a), .val .null, .unset, .unset] []) by first | (simp [entryFrame, mkF, argsToLocals, Value.category]; done) | rfl) ?_
  refine own_st (s₁.setTop (mkF m 1 #[.val (.ref r), .val (.ref a), .val .null, .unset, .unset] [(.ref r)])) (fun tq kq => XS.aloadN X0.here hx rfl (hb hby own_d18_0) rfl (by rfl) kq) ?_
  obtain ⟨T1, X1, e1, st1⟩ := initO X0 hx hZ hown (hw _ (List.mem_of_getElem? (i := 123) rfl)) (hw _ (List.mem_of_getElem? (i := 34) rfl)) (hw _ (List.mem_of_getElem? (i := 35) rfl)) e0 (g := (mkF m 1 #[.val (.ref r), .val (.ref a), .val .null, .unset, .unset] [(.ref r)])) rfl (by rw [hml]; rfl) rfl (hb hby own_d18_1) (by decide) (W := 0) (by show 2 * 0 + _ ≤ _; exact Nat.le_of_eq rfl) (by decide)
  refine own_st (T1.setTop (mkF m 4 #[.val (.ref r), .val (.ref a), .val .null, .unset, .unset] [])) st1 ?_
  refine own_st (T1.setTop (mkF m 5 #[.val (.ref r), .val (.ref a), .val .null, .unset, .unset] [(.ref a)])) (fun tq kq => XS.aloadN X1.here hx rfl (hb hby own_d18_4) rfl (by rfl) kq) ?_
  obtain ⟨v2, T2, L2, X2, q2, st2⟩ := own_callV X1 hx hZ hown (y := (⟨"java/lang/AbstractStringBuilder", "getValue", "()[B"⟩ : MethodName)) (z := (⟨"java/lang/AbstractStringBuilder", "getValue", "()[B"⟩ : MethodName)) (hw _ (List.mem_of_getElem? (i := 124) rfl)) (hw _ (List.mem_of_getElem? (i := 125) rfl)) (notFace_of_selects (args := a0) (hw _ (List.mem_of_getElem? (i := 127) rfl))) (hw _ (List.mem_of_getElem? (i := 127) rfl)) (hw _ (List.mem_of_getElem? (i := 126) rfl)) (hw _ (List.mem_of_getElem? (i := 31) rfl)) (hw _ (List.mem_of_getElem? (i := 128) rfl)) E0 (b := a) (argsL := []) (own_asbVal l Z a0 hw [] a b h0 O0 FV) 0 (by decide) (by decide) (by decide) (by decide) (by decide) e1 (g := (mkF m 5 #[.val (.ref r), .val (.ref a), .val .null, .unset, .unset] [(.ref a)])) rfl (by rw [hml]; rfl) [] (lenOf own_pd__28_29_5bB rfl) rfl (by show 2 * 0 + _ ≤ _; exact Nat.le_of_eq rfl) (hb hby own_d18_5)
  obtain ⟨rfl, N2q, e2⟩ := q2
  have N2 := Fr.app (Fr.nil _) N2q
  refine own_st (T2.setTop (mkF m 8 #[.val (.ref r), .val (.ref a), .val .null, .unset, .unset] [(.ref b)])) st2 ?_
  refine own_st (T2.setTop (mkF m 9 #[.val (.ref r), .val (.ref a), .val .null, .val (.ref b), .unset] [])) (fun tq kq => XS.astoreN X2.here hx rfl (hb hby own_d18_8) rfl (by rfl) (l' := #[.val (.ref r), .val (.ref a), .val .null, .val (.ref b), .unset]) rfl kq) ?_
  refine own_st (T2.setTop (mkF m 10 #[.val (.ref r), .val (.ref a), .val .null, .val (.ref b), .unset] [(.ref a)])) (fun tq kq => XS.aloadN X2.here hx rfl (hb hby own_d18_9) rfl (by rfl) kq) ?_
  obtain ⟨v3, T3, L3, X3, q3, st3⟩ := own_callV X2 hx hZ hown (y := (⟨"java/lang/AbstractStringBuilder", "length", "()I"⟩ : MethodName)) (z := (⟨"java/lang/StringBuilder", "length", "()I"⟩ : MethodName)) (hw _ (List.mem_of_getElem? (i := 129) rfl)) (hw _ (List.mem_of_getElem? (i := 130) rfl)) (own_nf21 hw) (hw _ (List.mem_of_getElem? (i := 132) rfl)) (hw _ (List.mem_of_getElem? (i := 133) rfl)) (hw _ (List.mem_of_getElem? (i := 23) rfl)) (hw _ (List.mem_of_getElem? (i := 134) rfl)) E0 (b := a) (argsL := []) (own_sbLen l Z a0 hw [] a (5 : Int32) h0 O0 E0 FN) 0 (by decide) (by decide) (by decide) (by decide) (by decide) e2 (g := (mkF m 10 #[.val (.ref r), .val (.ref a), .val .null, .val (.ref b), .unset] [(.ref a)])) rfl (by rw [hml]; rfl) [] (lenOf own_pd__28_29I rfl) rfl (by show 2 * 0 + _ ≤ _; exact Nat.le_of_eq rfl) (hb hby own_d18_10)
  obtain ⟨rfl, N3q, e3⟩ := q3
  have N3 := Fr.app N2 N3q
  refine own_st (T3.setTop (mkF m 13 #[.val (.ref r), .val (.ref a), .val .null, .val (.ref b), .unset] [(.int (5 : Int32))])) st3 ?_
  refine own_st (T3.setTop (mkF m 15 #[.val (.ref r), .val (.ref a), .val .null, .val (.ref b), .val (.int (5 : Int32))] [])) (fun tq kq => XS.istore X3.here hx rfl (hb hby own_d18_13) rfl (l' := #[.val (.ref r), .val (.ref a), .val .null, .val (.ref b), .val (.int (5 : Int32))]) rfl kq) ?_
  refine own_st (T3.setTop (mkF m 16 #[.val (.ref r), .val (.ref a), .val .null, .val (.ref b), .val (.int (5 : Int32))] [(.ref a)])) (fun tq kq => XS.aloadN X3.here hx rfl (hb hby own_d18_15) rfl (by rfl) kq) ?_
  obtain ⟨v4, T4, L4, X4, q4, st4⟩ := own_callV X3 hx hZ hown (y := (⟨"java/lang/AbstractStringBuilder", "isLatin1", "()Z"⟩ : MethodName)) (z := (⟨"java/lang/AbstractStringBuilder", "isLatin1", "()Z"⟩ : MethodName)) (hw _ (List.mem_of_getElem? (i := 137) rfl)) (hw _ (List.mem_of_getElem? (i := 138) rfl)) (notFace_of_selects (args := a0) (hw _ (List.mem_of_getElem? (i := 140) rfl))) (hw _ (List.mem_of_getElem? (i := 140) rfl)) (hw _ (List.mem_of_getElem? (i := 139) rfl)) (hw _ (List.mem_of_getElem? (i := 31) rfl)) (hw _ (List.mem_of_getElem? (i := 141) rfl)) E0 (b := a) (argsL := []) (own_asbLat l Z a0 hw [] cz a h0 O0 SC hcz FC) 0 (by decide) (by decide) (by decide) (by decide) (by decide) e3 (g := (mkF m 16 #[.val (.ref r), .val (.ref a), .val .null, .val (.ref b), .val (.int (5 : Int32))] [(.ref a)])) rfl (by rw [hml]; rfl) [] (lenOf own_pd__28_29Z rfl) rfl (by show 2 * 0 + _ ≤ _; exact Nat.le_of_eq rfl) (hb hby own_d18_16)
  obtain ⟨rfl, N4q, e4⟩ := q4
  have N4 := Fr.app N3 N4q
  refine own_st (T4.setTop (mkF m 19 #[.val (.ref r), .val (.ref a), .val .null, .val (.ref b), .val (.int (5 : Int32))] [(.int (1 : Int32))])) st4 ?_
  refine own_st (T4.setTop (mkF m 22 #[.val (.ref r), .val (.ref a), .val .null, .val (.ref b), .val (.int (5 : Int32))] [])) (fun tq kq => XS.ifNo X4.here hx rfl (hb hby own_d18_19) rfl ((if0 _ _).trans (feq ((by decide) : ¬ ((1 : Int32) = (0 : Int32)))).1) kq) ?_
  refine own_st (T4.setTop (mkF m 23 #[.val (.ref r), .val (.ref a), .val .null, .val (.ref b), .val (.int (5 : Int32))] [(.ref r)])) (fun tq kq => XS.aloadN X4.here hx rfl (hb hby own_d18_22) rfl (by rfl) kq) ?_
  refine own_st (T4.setTop (mkF m 24 #[.val (.ref r), .val (.ref a), .val .null, .val (.ref b), .val (.int (5 : Int32))] [(.int (0 : Int32)), (.ref r)])) (fun tq kq => XS.iconst X4.here hx rfl (hb hby own_d18_23) kq) ?_
  obtain ⟨T5, h5, X5, e5, W5, st5⟩ := putF X4 hx hZ hown (host := "") (Or.inl (hw _ (List.mem_of_getElem? (i := 82) rfl))) Via.refl e4 RC ER (Or.inr ⟨(hw _ (List.mem_of_getElem? (i := 13) rfl)), rfl, hnm⟩) (hw _ (List.mem_of_getElem? (i := 10) rfl)) (ty := .byte) (by decide) (by rfl) (by rfl) (g := (mkF m 24 #[.val (.ref r), .val (.ref a), .val .null, .val (.ref b), .val (.int (5 : Int32))] [(.int (0 : Int32)), (.ref r)])) rfl rfl (hb hby own_d18_24)
  have N5 := Fr.snoc X5 N4 gr
  have O5 := O0.wr W5 gr
  have K5 := (Keep.refl h0 [r]).wr W5 (Or.inl (List.mem_of_getElem? (i := 0) rfl))
  have f6 := (ER.wr W5)
  have f7 := (RV.other W5 (Or.inr (slot_ne (Or.inr (hw _ (List.mem_of_getElem? (i := 12) rfl))) (Or.inr (hw _ (List.mem_of_getElem? (i := 13) rfl))) (by decide) (t := (.array .byte)) (t' := .byte) (by decide) (by decide))))
  have f9 := (E0.wr W5)
  have f10 := (FV.other W5 (Or.inl (Ne.symm ra)))
  have f11 := (FC.other W5 (Or.inl (Ne.symm ra)))
  have f12 := (FN.other W5 (Or.inl (Ne.symm ra)))
  have f13 := (AB.other W5 (Ne.symm rb))
  have f14 := (RC.same W5)
  refine own_st (T5.setTop (mkF m 27 #[.val (.ref r), .val (.ref a), .val .null, .val (.ref b), .val (.int (5 : Int32))] [])) st5 ?_
  refine own_st (T5.setTop (mkF m 28 #[.val (.ref r), .val (.ref a), .val .null, .val (.ref b), .val (.int (5 : Int32))] [(.ref r)])) (fun tq kq => XS.aloadN X5.here hx rfl (hb hby own_d18_27) rfl (by rfl) kq) ?_
  refine own_st (T5.setTop (mkF m 29 #[.val (.ref r), .val (.ref a), .val .null, .val (.ref b), .val (.int (5 : Int32))] [(.ref b), (.ref r)])) (fun tq kq => XS.aloadN X5.here hx rfl (hb hby own_d18_28) rfl (by rfl) kq) ?_
  refine own_st (T5.setTop (mkF m 30 #[.val (.ref r), .val (.ref a), .val .null, .val (.ref b), .val (.int (5 : Int32))] [(.int (0 : Int32)), (.ref b), (.ref r)])) (fun tq kq => XS.iconst X5.here hx rfl (hb hby own_d18_29) kq) ?_
  refine own_st (T5.setTop (mkF m 32 #[.val (.ref r), .val (.ref a), .val .null, .val (.ref b), .val (.int (5 : Int32))] [(.int (5 : Int32)), (.int (0 : Int32)), (.ref b), (.ref r)])) (fun tq kq => XS.iload X5.here hx rfl (hb hby own_d18_30) rfl kq) ?_
  obtain ⟨v15, T15, L15, X15, q15, st15⟩ := own_callS X5 hx hZ hown (hw _ (List.mem_of_getElem? (i := 142) rfl)) (hw _ (List.mem_of_getElem? (i := 143) rfl)) (hw _ (List.mem_of_getElem? (i := 144) rfl)) (hw _ (List.mem_of_getElem? (i := 145) rfl)) (argsL := [(.ref b), (.int (0 : Int32)), (.int (5 : Int32))]) (own_cpr_16_5 l Z a0 hw [] b kb y0 y1 y2 y3 y4 (0 : Int32) (0 : Int32) (0 : Int32) (0 : Int32) (0 : Int32) (0 : Int32) (0 : Int32) (0 : Int32) (0 : Int32) (0 : Int32) (0 : Int32) h5 O5 f13) 1 (by decide) (by decide) (by decide) (by decide) (by decide) e5 (g := (mkF m 32 #[.val (.ref r), .val (.ref a), .val .null, .val (.ref b), .val (.int (5 : Int32))] [(.int (5 : Int32)), (.int (0 : Int32)), (.ref b), (.ref r)])) rfl (by rw [hml]; rfl) [(.ref r)] (lenOf own_pd__28_5bBII_29_5bB rfl) rfl (by show 2 * 0 + _ ≤ _; exact Nat.le_of_eq rfl) (hb hby own_d18_32)
  obtain ⟨b15, kb15, rfl, N15q, K15q, z15, s15q, f15q⟩ := q15
  have N15 := Fr.app N5 N15q
  have nf15_r : r ≠ b15 := Nat.ne_of_lt (Nat.lt_of_lt_of_le f6.lt s15q)
  have nf15_a : a ≠ b15 := Nat.ne_of_lt (Nat.lt_of_lt_of_le f9.lt s15q)
  have nf15_b : b ≠ b15 := Nat.ne_of_lt (Nat.lt_of_lt_of_le f13.lt s15q)
  have s15 : h0.size ≤ b15 := Nat.le_trans K5.1 s15q
  have f16 := (f6.keep K15q)
  have f17 := (f7.keep K15q nin0)
  have f18 := (f14.keep K15q nin0)
  have f19 := (f9.keep K15q)
  have f20 := (f10.keep K15q nin0)
  have f21 := (f11.keep K15q nin0)
  have f22 := (f12.keep K15q nin0)
  have f23 := (f13.keep K15q nin0)
  have O15 := O5.keep K15q all0
  have K15 := K5.trans K15q all0
  refine own_st (T15.setTop (mkF m 35 #[.val (.ref r), .val (.ref a), .val .null, .val (.ref b), .val (.int (5 : Int32))] [(.ref b15), (.ref r)])) st15 ?_
  obtain ⟨T24, h24, X24, e24, W24, st24⟩ := putF X15 hx hZ hown (host := "") (Or.inl (hw _ (List.mem_of_getElem? (i := 75) rfl))) Via.refl rfl f17 f16 (Or.inr ⟨(hw _ (List.mem_of_getElem? (i := 12) rfl)), rfl, hnm⟩) (hw _ (List.mem_of_getElem? (i := 10) rfl)) (ty := (.array .byte)) (by decide) (by rfl) (by rfl) (g := (mkF m 35 #[.val (.ref r), .val (.ref a), .val .null, .val (.ref b), .val (.int (5 : Int32))] [(.ref b15), (.ref r)])) rfl rfl (hb hby own_d18_35)
  have N24 := Fr.snoc X24 N15 gr
  have O24 := O15.wr W24 gr
  have K24 := K15.wr W24 (Or.inl (List.mem_of_getElem? (i := 0) rfl))
  have f25 := (f16.wr W24)
  have f27 := (f18.other W24 (Or.inr (slot_ne (Or.inr (hw _ (List.mem_of_getElem? (i := 13) rfl))) (Or.inr (hw _ (List.mem_of_getElem? (i := 12) rfl))) (by decide) (t := .byte) (t' := (.array .byte)) (by decide) (by decide))))
  have f28 := (f19.wr W24)
  have f29 := (f20.other W24 (Or.inl (Ne.symm ra)))
  have f30 := (f21.other W24 (Or.inl (Ne.symm ra)))
  have f31 := (f22.other W24 (Or.inl (Ne.symm ra)))
  have f32 := (f23.other W24 (Ne.symm rb))
  have f33 := (f15q.other W24 (Ne.symm nf15_r))
  have f34 := (f17.same W24)
  refine own_st (T24.setTop (mkF m 38 #[.val (.ref r), .val (.ref a), .val .null, .val (.ref b), .val (.int (5 : Int32))] [])) st24 ?_
  refine own_st (T24.setTop (mkF m 97 #[.val (.ref r), .val (.ref a), .val .null, .val (.ref b), .val (.int (5 : Int32))] [])) (fun tq kq => XS.goto X24.here hx rfl (pc0 := 38) (pc' := 97) rfl (hb hby own_d18_38) (by decide) (by decide) kq) ?_
  exact own_ret X24 hlk (v := none) (fun _ => rfl) e24 (⟨_, _, rfl, N24, K24, z15, s15, f34, f27, f33⟩) (by decide) (by decide) (fun fs hr => X24.returnOut hx hret (hb hby own_d18_97) hr)
set_option maxRecDepth 65536 in
set_option maxHeartbeats 40000000 in
theorem own_strSB_16_5 (l : Launch) (Z : State) (a0 : Array Value) (hw : ∀ d ∈ tables_1, d.before a0 Z = true) (ws : List Jvm.Cond) (cz : Int32) (r a b : Addr) (kb : ClassId) (y0 y1 y2 y3 y4 : Int32) (h0 : Heap) (O0 : Old Z Z.heap.size h0) (SC : Sta Z Z.heap "java/lang/String" "COMPACT_STRINGS" "Z" (.int cz)) (hcz : ¬ (cz = (0 : Int32))) (ER : Exa Z h0 r "java/lang/String") (RV : Fld Z h0 r "java/lang/String" "value" "[B" .null) (RC : Fld Z h0 r "java/lang/String" "coder" "B" (.int (0 : Int32))) (gr : Z.heap.size ≤ r) (E0 : Exa Z h0 a "java/lang/StringBuilder") (g0 : Z.heap.size ≤ a) (FV : Fld Z h0 a "java/lang/AbstractStringBuilder" "value" "[B" (.ref b)) (FC : Fld Z h0 a "java/lang/AbstractStringBuilder" "coder" "B" (.int (0 : Int32))) (FN : Fld Z h0 a "java/lang/AbstractStringBuilder" "count" "I" (.int (5 : Int32))) (AB : Arv Z h0 b kb .byte (16 : Int32) [(.int y0), (.int y1), (.int y2), (.int y3), (.int y4), (.int (0 : Int32)), (.int (0 : Int32)), (.int (0 : Int32)), (.int (0 : Int32)), (.int (0 : Int32)), (.int (0 : Int32)), (.int (0 : Int32)), (.int (0 : Int32)), (.int (0 : Int32)), (.int (0 : Int32)), (.int (0 : Int32))] (.int (0 : Int32))) (gb : Z.heap.size ≤ b) (ra : r ≠ a) (rb : r ≠ b) :
    ownMet l (⟨"java/lang/String", "<init>", "(Ljava/lang/StringBuilder;)V"⟩ : MethodName) jdk_42_method_53_code 2 none ws ({ frames := 4, cells := 1, slots := 5, locals := 65 } : Room) Z #[(.ref r), (.ref a)] h0 (fun v h L => ∃ (t : Addr) (kt : ClassId), v = none ∧ Fr Z.heap.size L ∧ Keep h0 h [r] ∧ Z.heap.size ≤ t ∧ h0.size ≤ t ∧ Fld Z h r "java/lang/String" "value" "[B" (.ref t) ∧ Fld Z h r "java/lang/String" "coder" "B" (.int (0 : Int32)) ∧ Arv Z h t kt .byte (5 : Int32) [(.int y0), (.int y1), (.int y2), (.int y3), (.int y4)] (.int (0 : Int32))) := by
  refine own_met (plainFor_of_name own_pn_java_lang_String) ?_
  intro p e s m below meth c s₁ hx hby hml hown hnm hret hlk hZ e0 X0
  refine own_cast (show _ = (mkF m 0 #[.val (.ref r), .val (.ref a)] []) by first | (simp [entryFrame, mkF, argsToLocals, Value.category]; done) | rfl) ?_
  refine own_st (s₁.setTop (mkF m 1 #[.val (.ref r), .val (.ref a)] [(.ref r)])) (fun tq kq => XS.aloadN X0.here hx rfl (hb hby own_d17_0) rfl (by rfl) kq) ?_
  refine own_st (s₁.setTop (mkF m 2 #[.val (.ref r), .val (.ref a)] [(.ref a), (.ref r)])) (fun tq kq => XS.aloadN X0.here hx rfl (hb hby own_d17_1) rfl (by rfl) kq) ?_
  refine own_st (s₁.setTop (mkF m 3 #[.val (.ref r), .val (.ref a)] [.null, (.ref a), (.ref r)])) (fun tq kq => XS.aconstNull X0.here hx rfl (hb hby own_d17_2) kq) ?_
  obtain ⟨v1, T1, L1, X1, q1, st1⟩ := own_callI X0 hx hZ hown (y := (⟨"java/lang/String", "<init>", "(Ljava/lang/AbstractStringBuilder;Ljava/lang/Void;)V"⟩ : MethodName)) rfl (hw _ (List.mem_of_getElem? (i := 120) rfl)) (hw _ (List.mem_of_getElem? (i := 121) rfl)) (hw _ (List.mem_of_getElem? (i := 9) rfl)) (hw _ (List.mem_of_getElem? (i := 122) rfl)) (a := r) (argsL := [(.ref a), .null]) (own_strASB_16_5 l Z a0 hw [] cz r a b kb y0 y1 y2 y3 y4 h0 O0 SC hcz ER RV RC gr E0 g0 FV FC FN AB gb ra rb) 0 (by decide) (by decide) (by decide) (by decide) (by decide) e0 (g := (mkF m 3 #[.val (.ref r), .val (.ref a)] [.null, (.ref a), (.ref r)])) rfl (by rw [hml]; rfl) [] (lenOf own_pd__28Ljava_2flang_2fAbstractStringBuilder_3bLjava_2flang_2fVoid_3b_29V rfl) rfl (by show 2 * 0 + _ ≤ _; exact Nat.le_of_eq rfl) (hb hby own_d17_3)
  obtain ⟨b1, kb1, rfl, N1q, K1q, z1, s1q, fv1, fc1, f1q⟩ := q1
  have N1 := Fr.app (Fr.nil _) N1q
  have nf1_r : r ≠ b1 := Nat.ne_of_lt (Nat.lt_of_lt_of_le ER.lt s1q)
  have nf1_a : a ≠ b1 := Nat.ne_of_lt (Nat.lt_of_lt_of_le E0.lt s1q)
  have nf1_b : b ≠ b1 := Nat.ne_of_lt (Nat.lt_of_lt_of_le AB.lt s1q)
  have s1 : h0.size ≤ b1 := Nat.le_trans (Keep.refl h0 [r]).1 s1q
  have f2 := (ER.keep K1q)
  have f5 := (E0.keep K1q)
  have f6 := (FV.keep K1q (ninS (Ne.symm ra) nin0))
  have f7 := (FC.keep K1q (ninS (Ne.symm ra) nin0))
  have f8 := (FN.keep K1q (ninS (Ne.symm ra) nin0))
  have f9 := (AB.keep K1q (ninS (Ne.symm rb) nin0))
  have O1 := O0.keep K1q (allS gr all0)
  have K1 := (Keep.refl h0 [r]).trans K1q (allS (Or.inl (List.mem_of_getElem? (i := 0) rfl)) all0)
  refine own_st (T1.setTop (mkF m 6 #[.val (.ref r), .val (.ref a)] [])) st1 ?_
  exact own_ret X1 hlk (v := none) (fun _ => rfl) rfl (⟨_, _, rfl, N1, K1, z1, s1, fv1, fc1, f1q⟩) (by decide) (by decide) (fun fs hr => X1.returnOut hx hret (hb hby own_d17_6) hr)
set_option maxRecDepth 65536 in
set_option maxHeartbeats 40000000 in
theorem own_sbStr_16_5 (l : Launch) (Z : State) (a0 : Array Value) (hw : ∀ d ∈ tables_1, d.before a0 Z = true) (ws : List Jvm.Cond) (cz : Int32) (a b : Addr) (kb : ClassId) (y0 y1 y2 y3 y4 : Int32) (h0 : Heap) (O0 : Old Z Z.heap.size h0) (SC : Sta Z Z.heap "java/lang/String" "COMPACT_STRINGS" "Z" (.int cz)) (hcz : ¬ (cz = (0 : Int32))) (E0 : Exa Z h0 a "java/lang/StringBuilder") (g0 : Z.heap.size ≤ a) (FV : Fld Z h0 a "java/lang/AbstractStringBuilder" "value" "[B" (.ref b)) (FC : Fld Z h0 a "java/lang/AbstractStringBuilder" "coder" "B" (.int (0 : Int32))) (FN : Fld Z h0 a "java/lang/AbstractStringBuilder" "count" "I" (.int (5 : Int32))) (AB : Arv Z h0 b kb .byte (16 : Int32) [(.int y0), (.int y1), (.int y2), (.int y3), (.int y4), (.int (0 : Int32)), (.int (0 : Int32)), (.int (0 : Int32)), (.int (0 : Int32)), (.int (0 : Int32)), (.int (0 : Int32)), (.int (0 : Int32)), (.int (0 : Int32)), (.int (0 : Int32)), (.int (0 : Int32)), (.int (0 : Int32))] (.int (0 : Int32))) (gb : Z.heap.size ≤ b) :
    ownMet l (⟨"java/lang/StringBuilder", "toString", "()Ljava/lang/String;"⟩ : MethodName) jdk_67_method_42_code 1 (some (.object "java/lang/String")) ws ({ frames := 5, cells := 2, slots := 9, locals := 79 } : Room) Z #[(.ref a)] h0 (fun v h L => ∃ (r t : Addr) (kt : ClassId), v = some (.ref r) ∧ Fr Z.heap.size L ∧ Keep h0 h [] ∧ Z.heap.size ≤ r ∧ h0.size ≤ r ∧ Z.heap.size ≤ t ∧ h0.size ≤ t ∧ Exa Z h r "java/lang/String" ∧ Fld Z h r "java/lang/String" "value" "[B" (.ref t) ∧ Fld Z h r "java/lang/String" "coder" "B" (.int (0 : Int32)) ∧ Arv Z h t kt .byte (5 : Int32) [(.int y0), (.int y1), (.int y2), (.int y3), (.int y4)] (.int (0 : Int32))) := by
  refine own_met (plainFor_of_name own_pn_java_lang_StringBuilder) ?_
  intro p e s m below meth c s₁ hx hby hml hown hnm hret hlk hZ e0 X0
  refine own_cast (show _ = (mkF m 0 #[.val (.ref a)] []) by first | (simp [entryFrame, mkF, argsToLocals, Value.category]; done) | rfl) ?_
  obtain ⟨T1, h1, X1, e1, E1, A1, D1, -, st1⟩ := newO X0 hx hZ hown (hw _ (List.mem_of_getElem? (i := 115) rfl)) (hw _ (List.mem_of_getElem? (i := 10) rfl)) (hw _ (List.mem_of_getElem? (i := 9) rfl)) e0 (g := (mkF m 0 #[.val (.ref a)] [])) rfl (hb hby own_d16_0) (by decide) (by decide)
  obtain ⟨b1, g1⟩ : ∃ z, z = h0.size := ⟨_, rfl⟩
  have z1 : Z.heap.size ≤ b1 := Nat.le_trans O0.2.1 (Nat.le_of_eq g1.symm)
  have nea_1 : a ≠ b1 := Nat.ne_of_lt (Nat.lt_of_lt_of_le E0.lt (Nat.le_of_eq g1.symm))
  have neb_1 : b ≠ b1 := Nat.ne_of_lt (Nat.lt_of_lt_of_le AB.lt (Nat.le_of_eq g1.symm))
  have s1 : h0.size ≤ b1 := Nat.le_trans (Keep.refl h0 []).1 (Nat.le_of_eq g1.symm)
  rw [← g1] at A1 D1 st1
  have f2 := (E0.ext E1)
  have f3 := (FV.ext E1)
  have f4 := (FC.ext E1)
  have f5 := (FN.ext E1)
  have f6 := (AB.ext E1)
  have O1 := O0.ext E1
  have K1 := (Keep.refl h0 []).ext E1
  have f7 : Fld Z h1 b1 "java/lang/String" "value" "[B" .null := D1 (Or.inr (hw _ (List.mem_of_getElem? (i := 12) rfl))) (ty := (.array .byte)) (by decide)
  have f8 : Fld Z h1 b1 "java/lang/String" "coder" "B" (.int (0 : Int32)) := D1 (Or.inr (hw _ (List.mem_of_getElem? (i := 13) rfl))) (ty := .byte) (by decide)
  refine own_st (T1.setTop (mkF m 3 #[.val (.ref a)] [(.ref b1)])) st1 ?_
  refine own_st (T1.setTop (mkF m 4 #[.val (.ref a)] [(.ref b1), (.ref b1)])) (fun tq kq => XS.dup X1.here hx rfl (hb hby own_d16_3) rfl (by rfl) kq) ?_
  refine own_st (T1.setTop (mkF m 5 #[.val (.ref a)] [(.ref a), (.ref b1), (.ref b1)])) (fun tq kq => XS.aloadN X1.here hx rfl (hb hby own_d16_4) rfl (by rfl) kq) ?_
  obtain ⟨v9, T9, L9, X9, q9, st9⟩ := own_callI X1 hx hZ hown (y := (⟨"java/lang/String", "<init>", "(Ljava/lang/StringBuilder;)V"⟩ : MethodName)) rfl (hw _ (List.mem_of_getElem? (i := 116) rfl)) (hw _ (List.mem_of_getElem? (i := 117) rfl)) (hw _ (List.mem_of_getElem? (i := 9) rfl)) (hw _ (List.mem_of_getElem? (i := 119) rfl)) (a := b1) (argsL := [(.ref a)]) (own_strSB_16_5 l Z a0 hw [] cz b1 a b kb y0 y1 y2 y3 y4 h1 O1 SC hcz A1 f7 f8 z1 f2 g0 f3 f4 f5 f6 gb (Ne.symm nea_1) (Ne.symm neb_1)) 1 (by decide) (by decide) (by decide) (by decide) (by decide) e1 (g := (mkF m 5 #[.val (.ref a)] [(.ref a), (.ref b1), (.ref b1)])) rfl (by rw [hml]; rfl) [(.ref b1)] (lenOf own_pd__28Ljava_2flang_2fStringBuilder_3b_29V rfl) rfl (by show 2 * 0 + _ ≤ _; exact Nat.le_of_eq rfl) (hb hby own_d16_5)
  obtain ⟨b9, kb9, rfl, N9q, K9q, z9, s9q, fv9, fc9, f9q⟩ := q9
  have N9 := Fr.app (Fr.nil _) N9q
  have nf9_a : a ≠ b9 := Nat.ne_of_lt (Nat.lt_of_lt_of_le f2.lt s9q)
  have nf9_b : b ≠ b9 := Nat.ne_of_lt (Nat.lt_of_lt_of_le f6.lt s9q)
  have nf9_b1 : b1 ≠ b9 := Nat.ne_of_lt (Nat.lt_of_lt_of_le A1.lt s9q)
  have s9 : h0.size ≤ b9 := Nat.le_trans K1.1 s9q
  have f10 := (f2.keep K9q)
  have f11 := (f3.keep K9q (ninS nea_1 nin0))
  have f12 := (f4.keep K9q (ninS nea_1 nin0))
  have f13 := (f5.keep K9q (ninS nea_1 nin0))
  have f14 := (f6.keep K9q (ninS neb_1 nin0))
  have f15 := (A1.keep K9q)
  have O9 := O1.keep K9q (allS z1 all0)
  have K9 := K1.trans K9q (allS (Or.inr s1) all0)
  refine own_st (T9.setTop (mkF m 8 #[.val (.ref a)] [(.ref b1)])) st9 ?_
  exact own_ret X9 hlk (v := some (.ref b1)) (fun h => by rw [hret] at h; cases h) rfl (⟨_, _, _, rfl, N9, K9, z1, s1, z9, s9, f15, fv9, fc9, f9q⟩) (by decide) (by decide) (fun fs hr => retOut X9 hx hret rfl (Or.inr (Or.inr (Or.inr (Or.inr ⟨rfl, rfl, rfl⟩)))) (hb hby own_d16_8) hr)
set_option maxRecDepth 65536 in
set_option maxHeartbeats 40000000 in
theorem own_write5 (l : Launch) (Z : State) (a0 : Array Value) (hw : ∀ d ∈ tables_1, d.before a0 Z = true) (ws : List Jvm.Cond) (cz : Int32) (nd k0 sx t a b : Addr) (kt kb : ClassId) (x0 x1 x2 x3 x4 : Int32) (h0 : Heap) (O0 : Old Z Z.heap.size h0) (SC : Sta Z Z.heap "java/lang/String" "COMPACT_STRINGS" "Z" (.int cz)) (hcz : ¬ (cz = (0 : Int32))) (NE : Exa Z Z.heap nd "com/example/rising_block/risingblock/io/YamlNode") (NK : Fld Z Z.heap nd "com/example/rising_block/risingblock/io/YamlNode" "kind" "Lcom/example/rising_block/risingblock/io/YamlNode$Kind;" (.ref k0)) (KE : Exa Z Z.heap k0 "com/example/rising_block/risingblock/io/YamlNode$Kind") (KO : Fld Z Z.heap k0 "java/lang/Enum" "ordinal" "I" (.int (4 : Int32))) (NT : Fld Z Z.heap nd "com/example/rising_block/risingblock/io/YamlNode" "text" "Ljava/lang/String;" (.ref sx)) (Es : Exa Z Z.heap sx "java/lang/String") (Vs : Fld Z Z.heap sx "java/lang/String" "value" "[B" (.ref t)) (Cs : Fld Z Z.heap sx "java/lang/String" "coder" "B" (.int (0 : Int32))) (As : Arv Z Z.heap t kt .byte (5 : Int32) [(.int x0), (.int x1), (.int x2), (.int x3), (.int x4)] (.int (0 : Int32))) (E0 : Exa Z h0 a "java/lang/StringBuilder") (g0 : Z.heap.size ≤ a) (FV : Fld Z h0 a "java/lang/AbstractStringBuilder" "value" "[B" (.ref b)) (FC : Fld Z h0 a "java/lang/AbstractStringBuilder" "coder" "B" (.int (0 : Int32))) (FN : Fld Z h0 a "java/lang/AbstractStringBuilder" "count" "I" (.int (0 : Int32))) (AB : Arv Z h0 b kb .byte (16 : Int32) [(.int (0 : Int32)), (.int (0 : Int32)), (.int (0 : Int32)), (.int (0 : Int32)), (.int (0 : Int32)), (.int (0 : Int32)), (.int (0 : Int32)), (.int (0 : Int32)), (.int (0 : Int32)), (.int (0 : Int32)), (.int (0 : Int32)), (.int (0 : Int32)), (.int (0 : Int32)), (.int (0 : Int32)), (.int (0 : Int32)), (.int (0 : Int32))] (.int (0 : Int32))) (gb : Z.heap.size ≤ b) (ba : b ≠ a) :
    ownMet l (⟨"com/example/rising_block/risingblock/io/YamlNode", "write", "(Ljava/lang/StringBuilder;)V"⟩ : MethodName) prog_21_method_25_code 5 none ws ({ frames := 5, cells := 0, slots := 0, locals := 74 } : Room) Z #[(.ref nd), (.ref a)] h0 (fun v h L => v = none ∧ Fr Z.heap.size L ∧ Keep h0 h [a, b] ∧ Fld Z h a "java/lang/AbstractStringBuilder" "value" "[B" (.ref b) ∧ Fld Z h a "java/lang/AbstractStringBuilder" "coder" "B" (.int (0 : Int32)) ∧ Fld Z h a "java/lang/AbstractStringBuilder" "count" "I" (.int (5 : Int32)) ∧ Arv Z h b kb .byte (16 : Int32) [(.int x0), (.int x1), (.int x2), (.int x3), (.int x4), (.int (0 : Int32)), (.int (0 : Int32)), (.int (0 : Int32)), (.int (0 : Int32)), (.int (0 : Int32)), (.int (0 : Int32)), (.int (0 : Int32)), (.int (0 : Int32)), (.int (0 : Int32)), (.int (0 : Int32)), (.int (0 : Int32))] (.int (0 : Int32))) := by
  refine own_met (plainFor_of_name own_pn_com_example_rising_block_risingblock_io_YamlNode) ?_
  intro p e s m below meth c s₁ hx hby hml hown hnm hret hlk hZ e0 X0
  refine own_cast (show _ = (mkF m 0 #[.val (.ref nd), .val (.ref a), .unset, .unset, .unset] []) by first | (simp [entryFrame, mkF, argsToLocals, Value.category]; done) | rfl) ?_
  refine own_st (s₁.setTop (mkF m 1 #[.val (.ref nd), .val (.ref a), .unset, .unset, .unset] [(.ref nd)])) (fun tq kq => XS.aloadN X0.here hx rfl (hb hby own_d6_0) rfl (by rfl) kq) ?_
  obtain ⟨T1, X1, e1, st1⟩ := getF X0 hx hZ hown (host := "") (Or.inl (hw _ (List.mem_of_getElem? (i := 45) rfl))) Via.refl e0 (NK.ext O0.2) (g := (mkF m 1 #[.val (.ref nd), .val (.ref a), .unset, .unset, .unset] [(.ref nd)])) rfl rfl (hb hby own_d6_1)
  refine own_st (T1.setTop (mkF m 4 #[.val (.ref nd), .val (.ref a), .unset, .unset, .unset] [(.ref k0)])) st1 ?_
  obtain ⟨v2, T2, L2, X2, q2, st2⟩ := own_callU X1 hx hZ hown (y := (⟨"com/example/rising_block/risingblock/io/YamlNode$Kind", "ordinal", "()I"⟩ : MethodName)) (z := (⟨"java/lang/Enum", "ordinal", "()I"⟩ : MethodName)) (owner := "java/lang/Enum") (hw _ (List.mem_of_getElem? (i := 49) rfl)) (hw _ (List.mem_of_getElem? (i := 50) rfl)) (hw _ (List.mem_of_getElem? (i := 51) rfl)) (by decide) (hw _ (List.mem_of_getElem? (i := 53) rfl)) (hw _ (List.mem_of_getElem? (i := 52) rfl)) (hw _ (List.mem_of_getElem? (i := 54) rfl)) (hw _ (List.mem_of_getElem? (i := 55) rfl)) (KE.ext O0.2) (b := k0) (argsL := []) (own_ord l Z a0 hw [] k0 (4 : Int32) h0 O0 (KO.ext O0.2)) 0 (by decide) (by decide) (by decide) (by decide) e1 (g := (mkF m 4 #[.val (.ref nd), .val (.ref a), .unset, .unset, .unset] [(.ref k0)])) rfl (by rw [hml]; rfl) [] (lenOf own_pd__28_29I rfl) rfl (by show 2 * 0 + _ ≤ _; exact Nat.le_of_eq rfl) (hb hby own_d6_4)
  obtain ⟨rfl, N2q, e2⟩ := q2
  have N2 := Fr.app (Fr.nil _) N2q
  refine own_st (T2.setTop (mkF m 7 #[.val (.ref nd), .val (.ref a), .unset, .unset, .unset] [(.int (4 : Int32))])) st2 ?_
  refine own_st (T2.setTop (mkF m 242 #[.val (.ref nd), .val (.ref a), .unset, .unset, .unset] [])) (fun tq kq => XS.tswIn X2.here hx rfl (pc0 := 7) (pc' := 242) rfl (hb hby own_d6_7) rfl (by decide) (by rfl) (by decide) (by decide) kq) ?_
  refine own_st (T2.setTop (mkF m 243 #[.val (.ref nd), .val (.ref a), .unset, .unset, .unset] [(.ref a)])) (fun tq kq => XS.aloadN X2.here hx rfl (hb hby own_d6_242) rfl (by rfl) kq) ?_
  refine own_st (T2.setTop (mkF m 244 #[.val (.ref nd), .val (.ref a), .unset, .unset, .unset] [(.ref nd), (.ref a)])) (fun tq kq => XS.aloadN X2.here hx rfl (hb hby own_d6_243) rfl (by rfl) kq) ?_
  obtain ⟨T3, X3, e3, st3⟩ := getF X2 hx hZ hown (host := "") (Or.inl (hw _ (List.mem_of_getElem? (i := 58) rfl))) Via.refl e2 (NT.ext O0.2) (g := (mkF m 244 #[.val (.ref nd), .val (.ref a), .unset, .unset, .unset] [(.ref nd), (.ref a)])) rfl rfl (hb hby own_d6_244)
  refine own_st (T3.setTop (mkF m 247 #[.val (.ref nd), .val (.ref a), .unset, .unset, .unset] [(.ref sx), (.ref a)])) st3 ?_
  obtain ⟨v4, T4, L4, X4, q4, st4⟩ := own_callV X3 hx hZ hown (y := (⟨"java/lang/StringBuilder", "append", "(Ljava/lang/String;)Ljava/lang/StringBuilder;"⟩ : MethodName)) (z := (⟨"java/lang/StringBuilder", "append", "(Ljava/lang/String;)Ljava/lang/StringBuilder;"⟩ : MethodName)) (hw _ (List.mem_of_getElem? (i := 60) rfl)) (hw _ (List.mem_of_getElem? (i := 61) rfl)) (notFace_of_selects (args := a0) (hw _ (List.mem_of_getElem? (i := 63) rfl))) (hw _ (List.mem_of_getElem? (i := 63) rfl)) (hw _ (List.mem_of_getElem? (i := 62) rfl)) (hw _ (List.mem_of_getElem? (i := 23) rfl)) (hw _ (List.mem_of_getElem? (i := 64) rfl)) E0 (b := a) (argsL := [(.ref sx)]) (own_sbApp_5_16_0 l Z a0 hw [] cz a b sx t kb kt x0 x1 x2 x3 x4  h0 O0 SC hcz E0 g0 FV FC FN AB gb (Es.ext O0.2) (Vs.ext O0.2) (Cs.ext O0.2) (As.ext O0.2) (O0.ne As.lt gb) (O0.ne Es.lt gb) (O0.ne Es.lt g0) (O0.ne As.lt g0) ba) 0 (by decide) (by decide) (by decide) (by decide) (by decide) e3 (g := (mkF m 247 #[.val (.ref nd), .val (.ref a), .unset, .unset, .unset] [(.ref sx), (.ref a)])) rfl (by rw [hml]; rfl) [] (lenOf own_pd__28Ljava_2flang_2fString_3b_29Ljava_2flang_2fStringBuilder_3b rfl) rfl (by show 2 * 0 + _ ≤ _; exact Nat.le_of_eq rfl) (hb hby own_d6_247)
  obtain ⟨rfl, N4q, K4q, fv4, fc4, fn4, f4q⟩ := q4
  have N4 := Fr.app N2 N4q
  have f5 := (E0.keep K4q)
  have O4 := O0.keep K4q (allS g0 (allS gb all0))
  have K4 := (Keep.refl h0 [a, b]).trans K4q (allS (Or.inl (List.mem_of_getElem? (i := 0) rfl)) (allS (Or.inl (List.mem_of_getElem? (i := 1) rfl)) all0))
  refine own_st (T4.setTop (mkF m 250 #[.val (.ref nd), .val (.ref a), .unset, .unset, .unset] [(.ref a)])) st4 ?_
  refine own_st (T4.setTop (mkF m 251 #[.val (.ref nd), .val (.ref a), .unset, .unset, .unset] [])) (fun tq kq => XS.pop X4.here hx rfl (hb hby own_d6_250) rfl (by rfl) kq) ?_
  exact own_ret X4 hlk (v := none) (fun _ => rfl) rfl (⟨rfl, N4, K4, fv4, fc4, fn4, f4q⟩) (by decide) (by decide) (fun fs hr => X4.returnOut hx hret (hb hby own_d6_251) hr)
set_option maxRecDepth 65536 in
set_option maxHeartbeats 40000000 in
theorem own_tos5 (l : Launch) (Z : State) (a0 : Array Value) (hw : ∀ d ∈ tables_1, d.before a0 Z = true) (ws : List Jvm.Cond) (cz : Int32) (nd k0 sx t : Addr) (kt : ClassId) (x0 x1 x2 x3 x4 : Int32) (h0 : Heap) (O0 : Old Z Z.heap.size h0) (SC : Sta Z Z.heap "java/lang/String" "COMPACT_STRINGS" "Z" (.int cz)) (hcz : ¬ (cz = (0 : Int32))) (NE : Exa Z Z.heap nd "com/example/rising_block/risingblock/io/YamlNode") (NK : Fld Z Z.heap nd "com/example/rising_block/risingblock/io/YamlNode" "kind" "Lcom/example/rising_block/risingblock/io/YamlNode$Kind;" (.ref k0)) (KE : Exa Z Z.heap k0 "com/example/rising_block/risingblock/io/YamlNode$Kind") (KO : Fld Z Z.heap k0 "java/lang/Enum" "ordinal" "I" (.int (4 : Int32))) (NT : Fld Z Z.heap nd "com/example/rising_block/risingblock/io/YamlNode" "text" "Ljava/lang/String;" (.ref sx)) (Es : Exa Z Z.heap sx "java/lang/String") (Vs : Fld Z Z.heap sx "java/lang/String" "value" "[B" (.ref t)) (Cs : Fld Z Z.heap sx "java/lang/String" "coder" "B" (.int (0 : Int32))) (As : Arv Z Z.heap t kt .byte (5 : Int32) [(.int x0), (.int x1), (.int x2), (.int x3), (.int x4)] (.int (0 : Int32))) :
    ownMet l (⟨"com/example/rising_block/risingblock/io/YamlNode", "toString", "()Ljava/lang/String;"⟩ : MethodName) prog_21_method_24_code 2 (some (.object "java/lang/String")) ws ({ frames := 6, cells := 4, slots := 29, locals := 91 } : Room) Z #[(.ref nd)] h0 (fun v h L => ∃ (a b : Addr) (kb : ClassId), v = some (.ref a) ∧ Fr Z.heap.size L ∧ Keep h0 h [] ∧ Z.heap.size ≤ a ∧ h0.size ≤ a ∧ Z.heap.size ≤ b ∧ h0.size ≤ b ∧ Exa Z h a "java/lang/String" ∧ Fld Z h a "java/lang/String" "value" "[B" (.ref b) ∧ Fld Z h a "java/lang/String" "coder" "B" (.int (0 : Int32)) ∧ Arv Z h b kb .byte (5 : Int32) [(.int x0), (.int x1), (.int x2), (.int x3), (.int x4)] (.int (0 : Int32))) := by
  refine own_met (plainFor_of_name own_pn_com_example_rising_block_risingblock_io_YamlNode) ?_
  intro p e s m below meth c s₁ hx hby hml hown hnm hret hlk hZ e0 X0
  refine own_cast (show _ = (mkF m 0 #[.val (.ref nd), .unset] []) by first | (simp [entryFrame, mkF, argsToLocals, Value.category]; done) | rfl) ?_
  obtain ⟨T1, h1, X1, e1, E1, A1, D1, -, st1⟩ := newO X0 hx hZ hown (hw _ (List.mem_of_getElem? (i := 21) rfl)) (hw _ (List.mem_of_getElem? (i := 22) rfl)) (hw _ (List.mem_of_getElem? (i := 23) rfl)) e0 (g := (mkF m 0 #[.val (.ref nd), .unset] [])) rfl (hb hby own_d2_0) (by decide) (by decide)
  obtain ⟨b1, g1⟩ : ∃ z, z = h0.size := ⟨_, rfl⟩
  have z1 : Z.heap.size ≤ b1 := Nat.le_trans O0.2.1 (Nat.le_of_eq g1.symm)
  have s1 : h0.size ≤ b1 := Nat.le_trans (Keep.refl h0 []).1 (Nat.le_of_eq g1.symm)
  rw [← g1] at A1 D1 st1
  have O1 := O0.ext E1
  have K1 := (Keep.refl h0 []).ext E1
  have f2 : Fld Z h1 b1 "java/lang/AbstractStringBuilder" "value" "[B" .null := D1 (Or.inl (hw _ (List.mem_of_getElem? (i := 38) rfl))) (ty := (.array .byte)) (by decide)
  have f3 : Fld Z h1 b1 "java/lang/AbstractStringBuilder" "coder" "B" (.int (0 : Int32)) := D1 (Or.inl (hw _ (List.mem_of_getElem? (i := 40) rfl))) (ty := .byte) (by decide)
  have f4 : Fld Z h1 b1 "java/lang/AbstractStringBuilder" "count" "I" (.int (0 : Int32)) := D1 (Or.inl (hw _ (List.mem_of_getElem? (i := 84) rfl))) (ty := .int) (by decide)
  refine own_st (T1.setTop (mkF m 3 #[.val (.ref nd), .unset] [(.ref b1)])) st1 ?_
  refine own_st (T1.setTop (mkF m 4 #[.val (.ref nd), .unset] [(.ref b1), (.ref b1)])) (fun tq kq => XS.dup X1.here hx rfl (hb hby own_d2_3) rfl (by rfl) kq) ?_
  obtain ⟨v5, T5, L5, X5, q5, st5⟩ := own_callI X1 hx hZ hown (y := (⟨"java/lang/StringBuilder", "<init>", "()V"⟩ : MethodName)) rfl (hw _ (List.mem_of_getElem? (i := 24) rfl)) (hw _ (List.mem_of_getElem? (i := 25) rfl)) (hw _ (List.mem_of_getElem? (i := 23) rfl)) (hw _ (List.mem_of_getElem? (i := 26) rfl)) (a := b1) (argsL := []) (own_sbInit l Z a0 hw [] cz b1 h1 O1 SC hcz A1 z1 f2 f3 f4) 1 (by decide) (by decide) (by decide) (by decide) (by decide) e1 (g := (mkF m 4 #[.val (.ref nd), .unset] [(.ref b1), (.ref b1)])) rfl (by rw [hml]; rfl) [(.ref b1)] (lenOf own_pd__28_29V rfl) rfl (by show 2 * 0 + _ ≤ _; exact Nat.le_of_eq rfl) (hb hby own_d2_4)
  obtain ⟨b5, kb5, rfl, N5q, K5q, z5, s5q, fv5, fc5, fn5, f5q⟩ := q5
  have N5 := Fr.app (Fr.nil _) N5q
  have nf5_b1 : b1 ≠ b5 := Nat.ne_of_lt (Nat.lt_of_lt_of_le A1.lt s5q)
  have s5 : h0.size ≤ b5 := Nat.le_trans K1.1 s5q
  have f6 := (A1.keep K5q)
  have O5 := O1.keep K5q (allS z1 all0)
  have K5 := K1.trans K5q (allS (Or.inr s1) all0)
  refine own_st (T5.setTop (mkF m 7 #[.val (.ref nd), .unset] [(.ref b1)])) st5 ?_
  refine own_st (T5.setTop (mkF m 8 #[.val (.ref nd), .val (.ref b1)] [])) (fun tq kq => XS.astoreN X5.here hx rfl (hb hby own_d2_7) rfl (by rfl) (l' := #[.val (.ref nd), .val (.ref b1)]) rfl kq) ?_
  refine own_st (T5.setTop (mkF m 9 #[.val (.ref nd), .val (.ref b1)] [(.ref nd)])) (fun tq kq => XS.aloadN X5.here hx rfl (hb hby own_d2_8) rfl (by rfl) kq) ?_
  refine own_st (T5.setTop (mkF m 10 #[.val (.ref nd), .val (.ref b1)] [(.ref b1), (.ref nd)])) (fun tq kq => XS.aloadN X5.here hx rfl (hb hby own_d2_9) rfl (by rfl) kq) ?_
  obtain ⟨v10, T10, L10, X10, q10, st10⟩ := own_callP X5 hx hZ hown (y := (⟨"com/example/rising_block/risingblock/io/YamlNode", "write", "(Ljava/lang/StringBuilder;)V"⟩ : MethodName)) (hw _ (List.mem_of_getElem? (i := 41) rfl)) (hw _ (List.mem_of_getElem? (i := 43) rfl)) (own_nf6 hw) (hw _ (List.mem_of_getElem? (i := 42) rfl)) (hw _ (List.mem_of_getElem? (i := 2) rfl)) (hw _ (List.mem_of_getElem? (i := 44) rfl)) (NE.ext O5.2) (b := nd) (argsL := [(.ref b1)]) (own_write5 l Z a0 hw [] cz nd k0 sx t b1 b5 kt kb5 x0 x1 x2 x3 x4 T5.heap O5 SC hcz NE NK KE KO NT Es Vs Cs As f6 z1 fv5 fc5 fn5 f5q z5 (Ne.symm nf5_b1)) 0 (by decide) (by decide) (by decide) (by decide) (by decide) rfl (g := (mkF m 10 #[.val (.ref nd), .val (.ref b1)] [(.ref b1), (.ref nd)])) rfl (by rw [hml]; rfl) [] (lenOf own_pd__28Ljava_2flang_2fStringBuilder_3b_29V rfl) rfl (by show 2 * 0 + _ ≤ _; exact Nat.le_of_eq rfl) (hb hby own_d2_10)
  obtain ⟨rfl, N10q, K10q, fv10, fc10, fn10, f10q⟩ := q10
  have N10 := Fr.app N5 N10q
  have f11 := (f6.keep K10q)
  have O10 := O5.keep K10q (allS z1 (allS z5 all0))
  have K10 := K5.trans K10q (allS (Or.inr s1) (allS (Or.inr s5) all0))
  refine own_st (T10.setTop (mkF m 13 #[.val (.ref nd), .val (.ref b1)] [])) st10 ?_
  refine own_st (T10.setTop (mkF m 14 #[.val (.ref nd), .val (.ref b1)] [(.ref b1)])) (fun tq kq => XS.aloadN X10.here hx rfl (hb hby own_d2_13) rfl (by rfl) kq) ?_
  obtain ⟨v16, T16, L16, X16, q16, st16⟩ := own_callV X10 hx hZ hown (y := (⟨"java/lang/StringBuilder", "toString", "()Ljava/lang/String;"⟩ : MethodName)) (z := (⟨"java/lang/StringBuilder", "toString", "()Ljava/lang/String;"⟩ : MethodName)) (hw _ (List.mem_of_getElem? (i := 110) rfl)) (hw _ (List.mem_of_getElem? (i := 111) rfl)) (notFace_of_selects (args := a0) (hw _ (List.mem_of_getElem? (i := 113) rfl))) (hw _ (List.mem_of_getElem? (i := 113) rfl)) (hw _ (List.mem_of_getElem? (i := 112) rfl)) (hw _ (List.mem_of_getElem? (i := 23) rfl)) (hw _ (List.mem_of_getElem? (i := 114) rfl)) f11 (b := b1) (argsL := []) (own_sbStr_16_5 l Z a0 hw [] cz b1 b5 kb5 x0 x1 x2 x3 x4 T10.heap O10 SC hcz f11 z1 fv10 fc10 fn10 f10q z5) 0 (by decide) (by decide) (by decide) (by decide) (by decide) rfl (g := (mkF m 14 #[.val (.ref nd), .val (.ref b1)] [(.ref b1)])) rfl (by rw [hml]; rfl) [] (lenOf own_pd__28_29Ljava_2flang_2fString_3b rfl) rfl (by show 2 * 0 + _ ≤ _; exact Nat.le_of_eq rfl) (hb hby own_d2_14)
  obtain ⟨a16, b16, kb16, rfl, N16q, K16q, za16, sa16q, z16, s16q, E16q, fv16, fc16, f16q⟩ := q16
  have N16 := Fr.app N10 N16q
  have nf16a_b1 : b1 ≠ a16 := Nat.ne_of_lt (Nat.lt_of_lt_of_le f11.lt sa16q)
  have nf16a_b5 : b5 ≠ a16 := Nat.ne_of_lt (Nat.lt_of_lt_of_le f10q.lt sa16q)
  have nf16_b1 : b1 ≠ b16 := Nat.ne_of_lt (Nat.lt_of_lt_of_le f11.lt s16q)
  have nf16_b5 : b5 ≠ b16 := Nat.ne_of_lt (Nat.lt_of_lt_of_le f10q.lt s16q)
  have s16 : h0.size ≤ b16 := Nat.le_trans K10.1 s16q
  have sa16 : h0.size ≤ a16 := Nat.le_trans K10.1 sa16q
  have f17 := (f11.keep K16q)
  have f18 := (f10q.keep K16q nin0)
  have f19 := (fv10.keep K16q nin0)
  have f20 := (fc10.keep K16q nin0)
  have f21 := (fn10.keep K16q nin0)
  have O16 := O10.keep K16q all0
  have K16 := K10.trans K16q all0
  refine own_st (T16.setTop (mkF m 17 #[.val (.ref nd), .val (.ref b1)] [(.ref a16)])) st16 ?_
  exact own_ret X16 hlk (v := some (.ref a16)) (fun h => by rw [hret] at h; cases h) rfl (⟨_, _, _, rfl, N16, K16, za16, sa16, z16, s16, E16q, fv16, fc16, f16q⟩) (by decide) (by decide) (fun fs hr => retOut X16 hx hret rfl (Or.inr (Or.inr (Or.inr (Or.inr ⟨rfl, rfl, rfl⟩)))) (hb hby own_d2_17) hr)
theorem own_d29_0 : decode prog_21_method_9_code 0 = .ok (.aload_n 0, 1) := by decide +kernel
theorem own_d29_1 : decode prog_21_method_9_code 1 = .ok (.getfield 7, 3) := by decide +kernel
theorem own_d29_4 : decode prog_21_method_9_code 4 = .ok (.getstatic 21, 3) := by decide +kernel
theorem own_d29_7 : decode prog_21_method_9_code 7 = .ok (.if_acmp .ne 7, 3) := by decide +kernel
theorem own_d29_14 : decode prog_21_method_9_code 14 = .ok (.iconst 0, 1) := by decide +kernel
theorem own_d29_15 : decode prog_21_method_9_code 15 = .ok (.ireturn, 1) := by decide +kernel
set_option maxRecDepth 65536 in
set_option maxHeartbeats 40000000 in
theorem own_isMapping (l : Launch) (Z : State) (a0 : Array Value) (hw : ∀ d ∈ tables_1, d.before a0 Z = true) (ws : List Jvm.Cond) (nd k0 k1 : Addr) (h0 : Heap) (O0 : Old Z Z.heap.size h0) (NK : Fld Z Z.heap nd "com/example/rising_block/risingblock/io/YamlNode" "kind" "Lcom/example/rising_block/risingblock/io/YamlNode$Kind;" (.ref k0)) (SK1 : Sta Z Z.heap "com/example/rising_block/risingblock/io/YamlNode$Kind" "MAPPING" "Lcom/example/rising_block/risingblock/io/YamlNode$Kind;" (.ref k1)) (nk1 : k0 ≠ k1) :
    ownMet l (⟨"com/example/rising_block/risingblock/io/YamlNode", "isMapping", "()Z"⟩ : MethodName) prog_21_method_9_code 1 (some .boolean) ws ({ frames := 0, cells := 0, slots := 0, locals := 0 } : Room) Z #[(.ref nd)] h0 (fun v h L => v = some (.int (0 : Int32)) ∧ Fr Z.heap.size L ∧ h = h0) := by
  refine own_met (plainFor_of_name own_pn_com_example_rising_block_risingblock_io_YamlNode) ?_
  intro p e s m below meth c s₁ hx hby hml hown hnm hret hlk hZ e0 X0
  refine own_cast (show _ = (mkF m 0 #[.val (.ref nd)] []) by first | (simp [entryFrame, mkF, argsToLocals, Value.category]; done) | rfl) ?_
  refine own_st (s₁.setTop (mkF m 1 #[.val (.ref nd)] [(.ref nd)])) (fun tq kq => XS.aloadN X0.here hx rfl (hb hby own_d29_0) rfl (by rfl) kq) ?_
  obtain ⟨T1, X1, e1, st1⟩ := getF X0 hx hZ hown (host := "") (Or.inl (hw _ (List.mem_of_getElem? (i := 45) rfl))) Via.refl e0 (NK.ext O0.2) (g := (mkF m 1 #[.val (.ref nd)] [(.ref nd)])) rfl rfl (hb hby own_d29_1)
  refine own_st (T1.setTop (mkF m 4 #[.val (.ref nd)] [(.ref k0)])) st1 ?_
  obtain ⟨T2, X2, e2, st2⟩ := getS2 X1 hx hZ hown (host := "") (Or.inl (hw _ (List.mem_of_getElem? (i := 172) rfl))) Via.refl e1 (SK1.ext O0.2) (g := (mkF m 4 #[.val (.ref nd)] [(.ref k0)])) rfl (hb hby own_d29_4)
  refine own_st (T2.setTop (mkF m 7 #[.val (.ref nd)] [(.ref k1), (.ref k0)])) st2 ?_
  refine own_st (T2.setTop (mkF m 14 #[.val (.ref nd)] [])) (fun tq kq => Jvm.RoadKit.acmp (g := (mkF m 7 #[.val (.ref nd)] [(.ref k1), (.ref k0)])) X2 hx rfl (by rfl) (by rfl) (pc0 := 7) (pc' := 14) (same := false) rfl (hb hby own_d29_7) rfl (decide_eq_false (fun q => (nk1 : ¬ (k0 = k1)) (Value.ref.inj q))) (by decide) (by decide) kq) ?_
  refine own_st (T2.setTop (mkF m 15 #[.val (.ref nd)] [(.int (0 : Int32))])) (fun tq kq => XS.iconst X2.here hx rfl (hb hby own_d29_14) kq) ?_
  exact own_ret X2 hlk (v := some (.int (0 : Int32))) (fun h => by rw [hret] at h; cases h) e2 (⟨rfl, (Fr.nil _), rfl⟩) (by decide) (by decide) (fun fs hr => own_retN X2 hx (t := .boolean) hret (by simp) (hb hby own_d29_15) rfl hr)
theorem own_d30_0 : decode prog_21_method_10_code 0 = .ok (.aload_n 0, 1) := by decide +kernel
theorem own_d30_1 : decode prog_21_method_10_code 1 = .ok (.getfield 7, 3) := by decide +kernel
theorem own_d30_4 : decode prog_21_method_10_code 4 = .ok (.getstatic 33, 3) := by decide +kernel
theorem own_d30_7 : decode prog_21_method_10_code 7 = .ok (.if_acmp .ne 7, 3) := by decide +kernel
theorem own_d30_14 : decode prog_21_method_10_code 14 = .ok (.iconst 0, 1) := by decide +kernel
theorem own_d30_15 : decode prog_21_method_10_code 15 = .ok (.ireturn, 1) := by decide +kernel
set_option maxRecDepth 65536 in
set_option maxHeartbeats 40000000 in
theorem own_isSequence (l : Launch) (Z : State) (a0 : Array Value) (hw : ∀ d ∈ tables_1, d.before a0 Z = true) (ws : List Jvm.Cond) (nd k0 k2 : Addr) (h0 : Heap) (O0 : Old Z Z.heap.size h0) (NK : Fld Z Z.heap nd "com/example/rising_block/risingblock/io/YamlNode" "kind" "Lcom/example/rising_block/risingblock/io/YamlNode$Kind;" (.ref k0)) (SK2 : Sta Z Z.heap "com/example/rising_block/risingblock/io/YamlNode$Kind" "SEQUENCE" "Lcom/example/rising_block/risingblock/io/YamlNode$Kind;" (.ref k2)) (nk2 : k0 ≠ k2) :
    ownMet l (⟨"com/example/rising_block/risingblock/io/YamlNode", "isSequence", "()Z"⟩ : MethodName) prog_21_method_10_code 1 (some .boolean) ws ({ frames := 0, cells := 0, slots := 0, locals := 0 } : Room) Z #[(.ref nd)] h0 (fun v h L => v = some (.int (0 : Int32)) ∧ Fr Z.heap.size L ∧ h = h0) := by
  refine own_met (plainFor_of_name own_pn_com_example_rising_block_risingblock_io_YamlNode) ?_
  intro p e s m below meth c s₁ hx hby hml hown hnm hret hlk hZ e0 X0
  refine own_cast (show _ = (mkF m 0 #[.val (.ref nd)] []) by first | (simp [entryFrame, mkF, argsToLocals, Value.category]; done) | rfl) ?_
  refine own_st (s₁.setTop (mkF m 1 #[.val (.ref nd)] [(.ref nd)])) (fun tq kq => XS.aloadN X0.here hx rfl (hb hby own_d30_0) rfl (by rfl) kq) ?_
  obtain ⟨T1, X1, e1, st1⟩ := getF X0 hx hZ hown (host := "") (Or.inl (hw _ (List.mem_of_getElem? (i := 45) rfl))) Via.refl e0 (NK.ext O0.2) (g := (mkF m 1 #[.val (.ref nd)] [(.ref nd)])) rfl rfl (hb hby own_d30_1)
  refine own_st (T1.setTop (mkF m 4 #[.val (.ref nd)] [(.ref k0)])) st1 ?_
  obtain ⟨T2, X2, e2, st2⟩ := getS2 X1 hx hZ hown (host := "") (Or.inl (hw _ (List.mem_of_getElem? (i := 179) rfl))) Via.refl e1 (SK2.ext O0.2) (g := (mkF m 4 #[.val (.ref nd)] [(.ref k0)])) rfl (hb hby own_d30_4)
  refine own_st (T2.setTop (mkF m 7 #[.val (.ref nd)] [(.ref k2), (.ref k0)])) st2 ?_
  refine own_st (T2.setTop (mkF m 14 #[.val (.ref nd)] [])) (fun tq kq => Jvm.RoadKit.acmp (g := (mkF m 7 #[.val (.ref nd)] [(.ref k2), (.ref k0)])) X2 hx rfl (by rfl) (by rfl) (pc0 := 7) (pc' := 14) (same := false) rfl (hb hby own_d30_7) rfl (decide_eq_false (fun q => (nk2 : ¬ (k0 = k2)) (Value.ref.inj q))) (by decide) (by decide) kq) ?_
  refine own_st (T2.setTop (mkF m 15 #[.val (.ref nd)] [(.int (0 : Int32))])) (fun tq kq => XS.iconst X2.here hx rfl (hb hby own_d30_14) kq) ?_
  exact own_ret X2 hlk (v := some (.int (0 : Int32))) (fun h => by rw [hret] at h; cases h) e2 (⟨rfl, (Fr.nil _), rfl⟩) (by decide) (by decide) (fun fs hr => own_retN X2 hx (t := .boolean) hret (by simp) (hb hby own_d30_15) rfl hr)
theorem own_d31_0 : decode prog_21_method_11_code 0 = .ok (.aload_n 0, 1) := by decide +kernel
theorem own_d31_1 : decode prog_21_method_11_code 1 = .ok (.getfield 7, 3) := by decide +kernel
theorem own_d31_4 : decode prog_21_method_11_code 4 = .ok (.getstatic 46, 3) := by decide +kernel
theorem own_d31_7 : decode prog_21_method_11_code 7 = .ok (.if_acmp .ne 7, 3) := by decide +kernel
theorem own_d31_14 : decode prog_21_method_11_code 14 = .ok (.iconst 0, 1) := by decide +kernel
theorem own_d31_15 : decode prog_21_method_11_code 15 = .ok (.ireturn, 1) := by decide +kernel
set_option maxRecDepth 65536 in
set_option maxHeartbeats 40000000 in
theorem own_isText (l : Launch) (Z : State) (a0 : Array Value) (hw : ∀ d ∈ tables_1, d.before a0 Z = true) (ws : List Jvm.Cond) (nd k0 k3 : Addr) (h0 : Heap) (O0 : Old Z Z.heap.size h0) (NK : Fld Z Z.heap nd "com/example/rising_block/risingblock/io/YamlNode" "kind" "Lcom/example/rising_block/risingblock/io/YamlNode$Kind;" (.ref k0)) (SK3 : Sta Z Z.heap "com/example/rising_block/risingblock/io/YamlNode$Kind" "TEXT" "Lcom/example/rising_block/risingblock/io/YamlNode$Kind;" (.ref k3)) (nk3 : k0 ≠ k3) :
    ownMet l (⟨"com/example/rising_block/risingblock/io/YamlNode", "isText", "()Z"⟩ : MethodName) prog_21_method_11_code 1 (some .boolean) ws ({ frames := 0, cells := 0, slots := 0, locals := 0 } : Room) Z #[(.ref nd)] h0 (fun v h L => v = some (.int (0 : Int32)) ∧ Fr Z.heap.size L ∧ h = h0) := by
  refine own_met (plainFor_of_name own_pn_com_example_rising_block_risingblock_io_YamlNode) ?_
  intro p e s m below meth c s₁ hx hby hml hown hnm hret hlk hZ e0 X0
  refine own_cast (show _ = (mkF m 0 #[.val (.ref nd)] []) by first | (simp [entryFrame, mkF, argsToLocals, Value.category]; done) | rfl) ?_
  refine own_st (s₁.setTop (mkF m 1 #[.val (.ref nd)] [(.ref nd)])) (fun tq kq => XS.aloadN X0.here hx rfl (hb hby own_d31_0) rfl (by rfl) kq) ?_
  obtain ⟨T1, X1, e1, st1⟩ := getF X0 hx hZ hown (host := "") (Or.inl (hw _ (List.mem_of_getElem? (i := 45) rfl))) Via.refl e0 (NK.ext O0.2) (g := (mkF m 1 #[.val (.ref nd)] [(.ref nd)])) rfl rfl (hb hby own_d31_1)
  refine own_st (T1.setTop (mkF m 4 #[.val (.ref nd)] [(.ref k0)])) st1 ?_
  obtain ⟨T2, X2, e2, st2⟩ := getS2 X1 hx hZ hown (host := "") (Or.inl (hw _ (List.mem_of_getElem? (i := 186) rfl))) Via.refl e1 (SK3.ext O0.2) (g := (mkF m 4 #[.val (.ref nd)] [(.ref k0)])) rfl (hb hby own_d31_4)
  refine own_st (T2.setTop (mkF m 7 #[.val (.ref nd)] [(.ref k3), (.ref k0)])) st2 ?_
  refine own_st (T2.setTop (mkF m 14 #[.val (.ref nd)] [])) (fun tq kq => Jvm.RoadKit.acmp (g := (mkF m 7 #[.val (.ref nd)] [(.ref k3), (.ref k0)])) X2 hx rfl (by rfl) (by rfl) (pc0 := 7) (pc' := 14) (same := false) rfl (hb hby own_d31_7) rfl (decide_eq_false (fun q => (nk3 : ¬ (k0 = k3)) (Value.ref.inj q))) (by decide) (by decide) kq) ?_
  refine own_st (T2.setTop (mkF m 15 #[.val (.ref nd)] [(.int (0 : Int32))])) (fun tq kq => XS.iconst X2.here hx rfl (hb hby own_d31_14) kq) ?_
  exact own_ret X2 hlk (v := some (.int (0 : Int32))) (fun h => by rw [hret] at h; cases h) e2 (⟨rfl, (Fr.nil _), rfl⟩) (by decide) (by decide) (fun fs hr => own_retN X2 hx (t := .boolean) hret (by simp) (hb hby own_d31_15) rfl hr)
theorem own_d32_0 : decode prog_21_method_12_code 0 = .ok (.aload_n 0, 1) := by decide +kernel
theorem own_d32_1 : decode prog_21_method_12_code 1 = .ok (.getfield 7, 3) := by decide +kernel
theorem own_d32_4 : decode prog_21_method_12_code 4 = .ok (.getstatic 49, 3) := by decide +kernel
theorem own_d32_7 : decode prog_21_method_12_code 7 = .ok (.if_acmp .ne 7, 3) := by decide +kernel
theorem own_d32_14 : decode prog_21_method_12_code 14 = .ok (.iconst 0, 1) := by decide +kernel
theorem own_d32_15 : decode prog_21_method_12_code 15 = .ok (.ireturn, 1) := by decide +kernel
set_option maxRecDepth 65536 in
set_option maxHeartbeats 40000000 in
theorem own_isNumber (l : Launch) (Z : State) (a0 : Array Value) (hw : ∀ d ∈ tables_1, d.before a0 Z = true) (ws : List Jvm.Cond) (nd k0 k4 : Addr) (h0 : Heap) (O0 : Old Z Z.heap.size h0) (NK : Fld Z Z.heap nd "com/example/rising_block/risingblock/io/YamlNode" "kind" "Lcom/example/rising_block/risingblock/io/YamlNode$Kind;" (.ref k0)) (SK4 : Sta Z Z.heap "com/example/rising_block/risingblock/io/YamlNode$Kind" "NUMBER" "Lcom/example/rising_block/risingblock/io/YamlNode$Kind;" (.ref k4)) (nk4 : k0 ≠ k4) :
    ownMet l (⟨"com/example/rising_block/risingblock/io/YamlNode", "isNumber", "()Z"⟩ : MethodName) prog_21_method_12_code 1 (some .boolean) ws ({ frames := 0, cells := 0, slots := 0, locals := 0 } : Room) Z #[(.ref nd)] h0 (fun v h L => v = some (.int (0 : Int32)) ∧ Fr Z.heap.size L ∧ h = h0) := by
  refine own_met (plainFor_of_name own_pn_com_example_rising_block_risingblock_io_YamlNode) ?_
  intro p e s m below meth c s₁ hx hby hml hown hnm hret hlk hZ e0 X0
  refine own_cast (show _ = (mkF m 0 #[.val (.ref nd)] []) by first | (simp [entryFrame, mkF, argsToLocals, Value.category]; done) | rfl) ?_
  refine own_st (s₁.setTop (mkF m 1 #[.val (.ref nd)] [(.ref nd)])) (fun tq kq => XS.aloadN X0.here hx rfl (hb hby own_d32_0) rfl (by rfl) kq) ?_
  obtain ⟨T1, X1, e1, st1⟩ := getF X0 hx hZ hown (host := "") (Or.inl (hw _ (List.mem_of_getElem? (i := 45) rfl))) Via.refl e0 (NK.ext O0.2) (g := (mkF m 1 #[.val (.ref nd)] [(.ref nd)])) rfl rfl (hb hby own_d32_1)
  refine own_st (T1.setTop (mkF m 4 #[.val (.ref nd)] [(.ref k0)])) st1 ?_
  obtain ⟨T2, X2, e2, st2⟩ := getS2 X1 hx hZ hown (host := "") (Or.inl (hw _ (List.mem_of_getElem? (i := 193) rfl))) Via.refl e1 (SK4.ext O0.2) (g := (mkF m 4 #[.val (.ref nd)] [(.ref k0)])) rfl (hb hby own_d32_4)
  refine own_st (T2.setTop (mkF m 7 #[.val (.ref nd)] [(.ref k4), (.ref k0)])) st2 ?_
  refine own_st (T2.setTop (mkF m 14 #[.val (.ref nd)] [])) (fun tq kq => Jvm.RoadKit.acmp (g := (mkF m 7 #[.val (.ref nd)] [(.ref k4), (.ref k0)])) X2 hx rfl (by rfl) (by rfl) (pc0 := 7) (pc' := 14) (same := false) rfl (hb hby own_d32_7) rfl (decide_eq_false (fun q => (nk4 : ¬ (k0 = k4)) (Value.ref.inj q))) (by decide) (by decide) kq) ?_
  refine own_st (T2.setTop (mkF m 15 #[.val (.ref nd)] [(.int (0 : Int32))])) (fun tq kq => XS.iconst X2.here hx rfl (hb hby own_d32_14) kq) ?_
  exact own_ret X2 hlk (v := some (.int (0 : Int32))) (fun h => by rw [hret] at h; cases h) e2 (⟨rfl, (Fr.nil _), rfl⟩) (by decide) (by decide) (fun fs hr => own_retN X2 hx (t := .boolean) hret (by simp) (hb hby own_d32_15) rfl hr)
theorem own_d33_0 : decode prog_21_method_21_code 0 = .ok (.iconst 0, 1) := by decide +kernel
theorem own_d33_1 : decode prog_21_method_21_code 1 = .ok (.istore_n 1, 1) := by decide +kernel
theorem own_d33_2 : decode prog_21_method_21_code 2 = .ok (.aload_n 0, 1) := by decide +kernel
theorem own_d33_3 : decode prog_21_method_21_code 3 = .ok (.getfield 29, 3) := by decide +kernel
theorem own_d33_6 : decode prog_21_method_21_code 6 = .ok (.ifnull 16, 3) := by decide +kernel
theorem own_d33_22 : decode prog_21_method_21_code 22 = .ok (.aload_n 0, 1) := by decide +kernel
theorem own_d33_23 : decode prog_21_method_21_code 23 = .ok (.getfield 39, 3) := by decide +kernel
theorem own_d33_26 : decode prog_21_method_21_code 26 = .ok (.ifnull 13, 3) := by decide +kernel
theorem own_d33_39 : decode prog_21_method_21_code 39 = .ok (.iload_n 1, 1) := by decide +kernel
theorem own_d33_40 : decode prog_21_method_21_code 40 = .ok (.ireturn, 1) := by decide +kernel
set_option maxRecDepth 65536 in
set_option maxHeartbeats 40000000 in
theorem own_size (l : Launch) (Z : State) (a0 : Array Value) (hw : ∀ d ∈ tables_1, d.before a0 Z = true) (ws : List Jvm.Cond) (nd : Addr) (h0 : Heap) (O0 : Old Z Z.heap.size h0) (FK : Fld Z Z.heap nd "com/example/rising_block/risingblock/io/YamlNode" "keyed" "Ljava/util/Map;" .null) (FE : Fld Z Z.heap nd "com/example/rising_block/risingblock/io/YamlNode" "elements" "Ljava/util/List;" .null) :
    ownMet l (⟨"com/example/rising_block/risingblock/io/YamlNode", "size", "()I"⟩ : MethodName) prog_21_method_21_code 2 (some .int) ws ({ frames := 0, cells := 0, slots := 0, locals := 0 } : Room) Z #[(.ref nd)] h0 (fun v h L => v = some (.int (0 : Int32)) ∧ Fr Z.heap.size L ∧ h = h0) := by
  refine own_met (plainFor_of_name own_pn_com_example_rising_block_risingblock_io_YamlNode) ?_
  intro p e s m below meth c s₁ hx hby hml hown hnm hret hlk hZ e0 X0
  refine own_cast (show _ = (mkF m 0 #[.val (.ref nd), .unset] []) by first | (simp [entryFrame, mkF, argsToLocals, Value.category]; done) | rfl) ?_
  refine own_st (s₁.setTop (mkF m 1 #[.val (.ref nd), .unset] [(.int (0 : Int32))])) (fun tq kq => XS.iconst X0.here hx rfl (hb hby own_d33_0) kq) ?_
  refine own_st (s₁.setTop (mkF m 2 #[.val (.ref nd), .val (.int (0 : Int32))] [])) (fun tq kq => XS.istoreN X0.here hx rfl (hb hby own_d33_1) rfl (l' := #[.val (.ref nd), .val (.int (0 : Int32))]) rfl kq) ?_
  refine own_st (s₁.setTop (mkF m 3 #[.val (.ref nd), .val (.int (0 : Int32))] [(.ref nd)])) (fun tq kq => XS.aloadN X0.here hx rfl (hb hby own_d33_2) rfl (by rfl) kq) ?_
  obtain ⟨T1, X1, e1, st1⟩ := getF X0 hx hZ hown (host := "") (Or.inl (hw _ (List.mem_of_getElem? (i := 200) rfl))) Via.refl e0 (FK.ext O0.2) (g := (mkF m 3 #[.val (.ref nd), .val (.int (0 : Int32))] [(.ref nd)])) rfl rfl (hb hby own_d33_3)
  refine own_st (T1.setTop (mkF m 6 #[.val (.ref nd), .val (.int (0 : Int32))] [.null])) st1 ?_
  refine own_st (T1.setTop (mkF m 22 #[.val (.ref nd), .val (.int (0 : Int32))] [])) (fun tq kq => XS.ifnullYes X1.here hx rfl (pc0 := 6) (pc' := 22) rfl (hb hby own_d33_6) rfl (by decide) (by decide) kq) ?_
  refine own_st (T1.setTop (mkF m 23 #[.val (.ref nd), .val (.int (0 : Int32))] [(.ref nd)])) (fun tq kq => XS.aloadN X1.here hx rfl (hb hby own_d33_22) rfl (by rfl) kq) ?_
  obtain ⟨T2, X2, e2, st2⟩ := getF X1 hx hZ hown (host := "") (Or.inl (hw _ (List.mem_of_getElem? (i := 202) rfl))) Via.refl e1 (FE.ext O0.2) (g := (mkF m 23 #[.val (.ref nd), .val (.int (0 : Int32))] [(.ref nd)])) rfl rfl (hb hby own_d33_23)
  refine own_st (T2.setTop (mkF m 26 #[.val (.ref nd), .val (.int (0 : Int32))] [.null])) st2 ?_
  refine own_st (T2.setTop (mkF m 39 #[.val (.ref nd), .val (.int (0 : Int32))] [])) (fun tq kq => XS.ifnullYes X2.here hx rfl (pc0 := 26) (pc' := 39) rfl (hb hby own_d33_26) rfl (by decide) (by decide) kq) ?_
  refine own_st (T2.setTop (mkF m 40 #[.val (.ref nd), .val (.int (0 : Int32))] [(.int (0 : Int32))])) (fun tq kq => XS.iloadN X2.here hx rfl (hb hby own_d33_39) rfl kq) ?_
  exact own_ret X2 hlk (v := some (.int (0 : Int32))) (fun h => by rw [hret] at h; cases h) e2 (⟨rfl, (Fr.nil _), rfl⟩) (by decide) (by decide) (fun fs hr => retI X2 hx hret (hb hby own_d33_40) hr)
theorem own_d28_0 : decode jdk_43_method_13_code 0 = .ok (.aload_n 0, 1) := by decide +kernel
theorem own_d28_1 : decode jdk_43_method_13_code 1 = .ok (.arraylength, 1) := by decide +kernel
theorem own_d28_2 : decode jdk_43_method_13_code 2 = .ok (.aload_n 1, 1) := by decide +kernel
theorem own_d28_3 : decode jdk_43_method_13_code 3 = .ok (.arraylength, 1) := by decide +kernel
theorem own_d28_4 : decode jdk_43_method_13_code 4 = .ok (.if_icmp .ne 30, 3) := by decide +kernel
theorem own_d28_7 : decode jdk_43_method_13_code 7 = .ok (.iconst 0, 1) := by decide +kernel
theorem own_d28_8 : decode jdk_43_method_13_code 8 = .ok (.istore_n 2, 1) := by decide +kernel
theorem own_d28_9 : decode jdk_43_method_13_code 9 = .ok (.iload_n 2, 1) := by decide +kernel
theorem own_d28_10 : decode jdk_43_method_13_code 10 = .ok (.aload_n 0, 1) := by decide +kernel
theorem own_d28_11 : decode jdk_43_method_13_code 11 = .ok (.arraylength, 1) := by decide +kernel
theorem own_d28_12 : decode jdk_43_method_13_code 12 = .ok (.if_icmp .ge 20, 3) := by decide +kernel
theorem own_d28_15 : decode jdk_43_method_13_code 15 = .ok (.aload_n 0, 1) := by decide +kernel
theorem own_d28_16 : decode jdk_43_method_13_code 16 = .ok (.iload_n 2, 1) := by decide +kernel
theorem own_d28_17 : decode jdk_43_method_13_code 17 = .ok (.baload, 1) := by decide +kernel
theorem own_d28_18 : decode jdk_43_method_13_code 18 = .ok (.aload_n 1, 1) := by decide +kernel
theorem own_d28_19 : decode jdk_43_method_13_code 19 = .ok (.iload_n 2, 1) := by decide +kernel
theorem own_d28_20 : decode jdk_43_method_13_code 20 = .ok (.baload, 1) := by decide +kernel
theorem own_d28_21 : decode jdk_43_method_13_code 21 = .ok (.if_icmp .eq 5, 3) := by decide +kernel
theorem own_d28_26 : decode jdk_43_method_13_code 26 = .ok (.iinc 2 1, 3) := by decide +kernel
theorem own_d28_29 : decode jdk_43_method_13_code 29 = .ok (.goto (-20), 3) := by decide +kernel
theorem own_d28_32 : decode jdk_43_method_13_code 32 = .ok (.iconst 1, 1) := by decide +kernel
theorem own_d28_33 : decode jdk_43_method_13_code 33 = .ok (.ireturn, 1) := by decide +kernel
theorem own_pn_java_lang_StringLatin1 : plainName "java/lang/StringLatin1" = true := by first | (simp [plainName, overriddenIn]; done) | decide +kernel
set_option maxRecDepth 65536 in
set_option maxHeartbeats 40000000 in
theorem own_leq_4 (l : Launch) (Z : State) (a0 : Array Value) (hw : ∀ d ∈ tables_1, d.before a0 Z = true) (ws : List Jvm.Cond) (t u : Addr) (kt ku : ClassId) (x0 x1 x2 x3 : Int32) (h0 : Heap) (O0 : Old Z Z.heap.size h0) (Atx : Arv Z h0 t kt .byte (4 : Int32) [(.int x0), (.int x1), (.int x2), (.int x3)] (.int (0 : Int32))) (Au : Arv Z h0 u ku .byte (4 : Int32) [(.int x0), (.int x1), (.int x2), (.int x3)] (.int (0 : Int32))) :
    ownMet l (⟨"java/lang/StringLatin1", "equals", "([B[B)Z"⟩ : MethodName) jdk_43_method_13_code 3 (some .boolean) ws ({ frames := 0, cells := 0, slots := 0, locals := 0 } : Room) Z #[(.ref t), (.ref u)] h0 (fun v h L => v = some (.int (1 : Int32)) ∧ Fr Z.heap.size L ∧ h = h0) := by
  refine own_met (plainFor_of_name own_pn_java_lang_StringLatin1) ?_
  intro p e s m below meth c s₁ hx hby hml hown hnm hret hlk hZ e0 X0
  refine own_cast (show _ = (mkF m 0 #[.val (.ref t), .val (.ref u), .unset] []) by first | (simp [entryFrame, mkF, argsToLocals, Value.category]; done) | rfl) ?_
  refine own_st (s₁.setTop (mkF m 1 #[.val (.ref t), .val (.ref u), .unset] [(.ref t)])) (fun tq kq => XS.aloadN X0.here hx rfl (hb hby own_d28_0) rfl (by rfl) kq) ?_
  obtain ⟨cl1, q1a, q1b, q1c, q1d, q1e, q1f⟩ := id Atx
  refine own_st (s₁.setTop (mkF m 2 #[.val (.ref t), .val (.ref u), .unset] [(.int (4 : Int32))])) (fun tq kq => X0.arraylength hx (by rw [e0]; exact q1a.1) (State.isArrayOf_alike hZ.alike q1a.2.1) (g := (mkF m 1 #[.val (.ref t), .val (.ref u), .unset] [(.ref t)])) rfl rfl (hb hby own_d28_1) tq (by rw [len_of q1c q1d]; exact kq)) ?_
  refine own_st (s₁.setTop (mkF m 3 #[.val (.ref t), .val (.ref u), .unset] [(.ref u), (.int (4 : Int32))])) (fun tq kq => XS.aloadN X0.here hx rfl (hb hby own_d28_2) rfl (by rfl) kq) ?_
  obtain ⟨cl2, q2a, q2b, q2c, q2d, q2e, q2f⟩ := id Au
  refine own_st (s₁.setTop (mkF m 4 #[.val (.ref t), .val (.ref u), .unset] [(.int (4 : Int32)), (.int (4 : Int32))])) (fun tq kq => X0.arraylength hx (by rw [e0]; exact q2a.1) (State.isArrayOf_alike hZ.alike q2a.2.1) (g := (mkF m 3 #[.val (.ref t), .val (.ref u), .unset] [(.ref u), (.int (4 : Int32))])) rfl rfl (hb hby own_d28_3) tq (by rw [len_of q2c q2d]; exact kq)) ?_
  refine own_st (s₁.setTop (mkF m 7 #[.val (.ref t), .val (.ref u), .unset] [])) (fun tq kq => XS.icmpNo X0.here hx rfl (hb hby own_d28_4) rfl (teq ((by decide) : (4 : Int32) = (4 : Int32))).2 kq) ?_
  refine own_st (s₁.setTop (mkF m 8 #[.val (.ref t), .val (.ref u), .unset] [(.int (0 : Int32))])) (fun tq kq => XS.iconst X0.here hx rfl (hb hby own_d28_7) kq) ?_
  refine own_st (s₁.setTop (mkF m 9 #[.val (.ref t), .val (.ref u), .val (.int (0 : Int32))] [])) (fun tq kq => XS.istoreN X0.here hx rfl (hb hby own_d28_8) rfl (l' := #[.val (.ref t), .val (.ref u), .val (.int (0 : Int32))]) rfl kq) ?_
  refine own_st (s₁.setTop (mkF m 10 #[.val (.ref t), .val (.ref u), .val (.int (0 : Int32))] [(.int (0 : Int32))])) (fun tq kq => XS.iloadN X0.here hx rfl (hb hby own_d28_9) rfl kq) ?_
  refine own_st (s₁.setTop (mkF m 11 #[.val (.ref t), .val (.ref u), .val (.int (0 : Int32))] [(.ref t), (.int (0 : Int32))])) (fun tq kq => XS.aloadN X0.here hx rfl (hb hby own_d28_10) rfl (by rfl) kq) ?_
  obtain ⟨cl3, q3a, q3b, q3c, q3d, q3e, q3f⟩ := id Atx
  refine own_st (s₁.setTop (mkF m 12 #[.val (.ref t), .val (.ref u), .val (.int (0 : Int32))] [(.int (4 : Int32)), (.int (0 : Int32))])) (fun tq kq => X0.arraylength hx (by rw [e0]; exact q3a.1) (State.isArrayOf_alike hZ.alike q3a.2.1) (g := (mkF m 11 #[.val (.ref t), .val (.ref u), .val (.int (0 : Int32))] [(.ref t), (.int (0 : Int32))])) rfl rfl (hb hby own_d28_11) tq (by rw [len_of q3c q3d]; exact kq)) ?_
  refine own_st (s₁.setTop (mkF m 15 #[.val (.ref t), .val (.ref u), .val (.int (0 : Int32))] [])) (fun tq kq => XS.icmpNo X0.here hx rfl (hb hby own_d28_12) rfl (tlt ((by decide) : (0 : Int32) < (4 : Int32))).2.1 kq) ?_
  refine own_st (s₁.setTop (mkF m 16 #[.val (.ref t), .val (.ref u), .val (.int (0 : Int32))] [(.ref t)])) (fun tq kq => XS.aloadN X0.here hx rfl (hb hby own_d28_15) rfl (by rfl) kq) ?_
  refine own_st (s₁.setTop (mkF m 17 #[.val (.ref t), .val (.ref u), .val (.int (0 : Int32))] [(.int (0 : Int32)), (.ref t)])) (fun tq kq => XS.iloadN X0.here hx rfl (hb hby own_d28_16) rfl kq) ?_
  obtain ⟨cl4, q4a, q4b, q4c, q4d, q4e, q4f⟩ := id Atx
  refine own_st (s₁.setTop (mkF m 18 #[.val (.ref t), .val (.ref u), .val (.int (0 : Int32))] [(.int x0)])) (fun tq kq => X0.baloadBytes hx (j := (0 : Int32)) (v := (.int x0)) (by rw [e0]; exact q4a.1) (State.isArrayOf_alike hZ.alike q4a.2.1) q4a.2.2 (inb_of q4c ⟨by decide, by decide⟩) (q4e.at (inb_of q4c ⟨by decide, by decide⟩) rfl) (g := (mkF m 17 #[.val (.ref t), .val (.ref u), .val (.int (0 : Int32))] [(.int (0 : Int32)), (.ref t)])) rfl rfl (hb hby own_d28_17) tq kq) ?_
  refine own_st (s₁.setTop (mkF m 19 #[.val (.ref t), .val (.ref u), .val (.int (0 : Int32))] [(.ref u), (.int x0)])) (fun tq kq => XS.aloadN X0.here hx rfl (hb hby own_d28_18) rfl (by rfl) kq) ?_
  refine own_st (s₁.setTop (mkF m 20 #[.val (.ref t), .val (.ref u), .val (.int (0 : Int32))] [(.int (0 : Int32)), (.ref u), (.int x0)])) (fun tq kq => XS.iloadN X0.here hx rfl (hb hby own_d28_19) rfl kq) ?_
  obtain ⟨cl5, q5a, q5b, q5c, q5d, q5e, q5f⟩ := id Au
  refine own_st (s₁.setTop (mkF m 21 #[.val (.ref t), .val (.ref u), .val (.int (0 : Int32))] [(.int x0), (.int x0)])) (fun tq kq => X0.baloadBytes hx (j := (0 : Int32)) (v := (.int x0)) (by rw [e0]; exact q5a.1) (State.isArrayOf_alike hZ.alike q5a.2.1) q5a.2.2 (inb_of q5c ⟨by decide, by decide⟩) (q5e.at (inb_of q5c ⟨by decide, by decide⟩) rfl) (g := (mkF m 20 #[.val (.ref t), .val (.ref u), .val (.int (0 : Int32))] [(.int (0 : Int32)), (.ref u), (.int x0)])) rfl rfl (hb hby own_d28_20) tq kq) ?_
  refine own_st (s₁.setTop (mkF m 26 #[.val (.ref t), .val (.ref u), .val (.int (0 : Int32))] [])) (fun tq kq => XS.icmpYes X0.here hx rfl (pc0 := 21) (pc' := 26) rfl (hb hby own_d28_21) rfl (teq (rfl : x0 = x0)).1 (by decide) (by decide) kq) ?_
  refine own_st (s₁.setTop (mkF m 29 #[.val (.ref t), .val (.ref u), .val (.int (1 : Int32))] [])) (fun tq kq => XS.iinc X0.here hx rfl (hb hby own_d28_26) rfl (l' := #[.val (.ref t), .val (.ref u), .val (.int (1 : Int32))]) rfl kq) ?_
  refine own_st (s₁.setTop (mkF m 9 #[.val (.ref t), .val (.ref u), .val (.int (1 : Int32))] [])) (fun tq kq => XS.goto X0.here hx rfl (pc0 := 29) (pc' := 9) rfl (hb hby own_d28_29) (by decide) (by decide) kq) ?_
  refine own_st (s₁.setTop (mkF m 10 #[.val (.ref t), .val (.ref u), .val (.int (1 : Int32))] [(.int (1 : Int32))])) (fun tq kq => XS.iloadN X0.here hx rfl (hb hby own_d28_9) rfl kq) ?_
  refine own_st (s₁.setTop (mkF m 11 #[.val (.ref t), .val (.ref u), .val (.int (1 : Int32))] [(.ref t), (.int (1 : Int32))])) (fun tq kq => XS.aloadN X0.here hx rfl (hb hby own_d28_10) rfl (by rfl) kq) ?_
  obtain ⟨cl6, q6a, q6b, q6c, q6d, q6e, q6f⟩ := id Atx
  refine own_st (s₁.setTop (mkF m 12 #[.val (.ref t), .val (.ref u), .val (.int (1 : Int32))] [(.int (4 : Int32)), (.int (1 : Int32))])) (fun tq kq => X0.arraylength hx (by rw [e0]; exact q6a.1) (State.isArrayOf_alike hZ.alike q6a.2.1) (g := (mkF m 11 #[.val (.ref t), .val (.ref u), .val (.int (1 : Int32))] [(.ref t), (.int (1 : Int32))])) rfl rfl (hb hby own_d28_11) tq (by rw [len_of q6c q6d]; exact kq)) ?_
  refine own_st (s₁.setTop (mkF m 15 #[.val (.ref t), .val (.ref u), .val (.int (1 : Int32))] [])) (fun tq kq => XS.icmpNo X0.here hx rfl (hb hby own_d28_12) rfl (tlt ((by decide) : (1 : Int32) < (4 : Int32))).2.1 kq) ?_
  refine own_st (s₁.setTop (mkF m 16 #[.val (.ref t), .val (.ref u), .val (.int (1 : Int32))] [(.ref t)])) (fun tq kq => XS.aloadN X0.here hx rfl (hb hby own_d28_15) rfl (by rfl) kq) ?_
  refine own_st (s₁.setTop (mkF m 17 #[.val (.ref t), .val (.ref u), .val (.int (1 : Int32))] [(.int (1 : Int32)), (.ref t)])) (fun tq kq => XS.iloadN X0.here hx rfl (hb hby own_d28_16) rfl kq) ?_
  obtain ⟨cl7, q7a, q7b, q7c, q7d, q7e, q7f⟩ := id Atx
  refine own_st (s₁.setTop (mkF m 18 #[.val (.ref t), .val (.ref u), .val (.int (1 : Int32))] [(.int x1)])) (fun tq kq => X0.baloadBytes hx (j := (1 : Int32)) (v := (.int x1)) (by rw [e0]; exact q7a.1) (State.isArrayOf_alike hZ.alike q7a.2.1) q7a.2.2 (inb_of q7c ⟨by decide, by decide⟩) (q7e.at (inb_of q7c ⟨by decide, by decide⟩) rfl) (g := (mkF m 17 #[.val (.ref t), .val (.ref u), .val (.int (1 : Int32))] [(.int (1 : Int32)), (.ref t)])) rfl rfl (hb hby own_d28_17) tq kq) ?_
  refine own_st (s₁.setTop (mkF m 19 #[.val (.ref t), .val (.ref u), .val (.int (1 : Int32))] [(.ref u), (.int x1)])) (fun tq kq => XS.aloadN X0.here hx rfl (hb hby own_d28_18) rfl (by rfl) kq) ?_
  refine own_st (s₁.setTop (mkF m 20 #[.val (.ref t), .val (.ref u), .val (.int (1 : Int32))] [(.int (1 : Int32)), (.ref u), (.int x1)])) (fun tq kq => XS.iloadN X0.here hx rfl (hb hby own_d28_19) rfl kq) ?_
  obtain ⟨cl8, q8a, q8b, q8c, q8d, q8e, q8f⟩ := id Au
  refine own_st (s₁.setTop (mkF m 21 #[.val (.ref t), .val (.ref u), .val (.int (1 : Int32))] [(.int x1), (.int x1)])) (fun tq kq => X0.baloadBytes hx (j := (1 : Int32)) (v := (.int x1)) (by rw [e0]; exact q8a.1) (State.isArrayOf_alike hZ.alike q8a.2.1) q8a.2.2 (inb_of q8c ⟨by decide, by decide⟩) (q8e.at (inb_of q8c ⟨by decide, by decide⟩) rfl) (g := (mkF m 20 #[.val (.ref t), .val (.ref u), .val (.int (1 : Int32))] [(.int (1 : Int32)), (.ref u), (.int x1)])) rfl rfl (hb hby own_d28_20) tq kq) ?_
  refine own_st (s₁.setTop (mkF m 26 #[.val (.ref t), .val (.ref u), .val (.int (1 : Int32))] [])) (fun tq kq => XS.icmpYes X0.here hx rfl (pc0 := 21) (pc' := 26) rfl (hb hby own_d28_21) rfl (teq (rfl : x1 = x1)).1 (by decide) (by decide) kq) ?_
  refine own_st (s₁.setTop (mkF m 29 #[.val (.ref t), .val (.ref u), .val (.int (2 : Int32))] [])) (fun tq kq => XS.iinc X0.here hx rfl (hb hby own_d28_26) rfl (l' := #[.val (.ref t), .val (.ref u), .val (.int (2 : Int32))]) rfl kq) ?_
  refine own_st (s₁.setTop (mkF m 9 #[.val (.ref t), .val (.ref u), .val (.int (2 : Int32))] [])) (fun tq kq => XS.goto X0.here hx rfl (pc0 := 29) (pc' := 9) rfl (hb hby own_d28_29) (by decide) (by decide) kq) ?_
  refine own_st (s₁.setTop (mkF m 10 #[.val (.ref t), .val (.ref u), .val (.int (2 : Int32))] [(.int (2 : Int32))])) (fun tq kq => XS.iloadN X0.here hx rfl (hb hby own_d28_9) rfl kq) ?_
  refine own_st (s₁.setTop (mkF m 11 #[.val (.ref t), .val (.ref u), .val (.int (2 : Int32))] [(.ref t), (.int (2 : Int32))])) (fun tq kq => XS.aloadN X0.here hx rfl (hb hby own_d28_10) rfl (by rfl) kq) ?_
  obtain ⟨cl9, q9a, q9b, q9c, q9d, q9e, q9f⟩ := id Atx
  refine own_st (s₁.setTop (mkF m 12 #[.val (.ref t), .val (.ref u), .val (.int (2 : Int32))] [(.int (4 : Int32)), (.int (2 : Int32))])) (fun tq kq => X0.arraylength hx (by rw [e0]; exact q9a.1) (State.isArrayOf_alike hZ.alike q9a.2.1) (g := (mkF m 11 #[.val (.ref t), .val (.ref u), .val (.int (2 : Int32))] [(.ref t), (.int (2 : Int32))])) rfl rfl (hb hby own_d28_11) tq (by rw [len_of q9c q9d]; exact kq)) ?_
  refine own_st (s₁.setTop (mkF m 15 #[.val (.ref t), .val (.ref u), .val (.int (2 : Int32))] [])) (fun tq kq => XS.icmpNo X0.here hx rfl (hb hby own_d28_12) rfl (tlt ((by decide) : (2 : Int32) < (4 : Int32))).2.1 kq) ?_
  refine own_st (s₁.setTop (mkF m 16 #[.val (.ref t), .val (.ref u), .val (.int (2 : Int32))] [(.ref t)])) (fun tq kq => XS.aloadN X0.here hx rfl (hb hby own_d28_15) rfl (by rfl) kq) ?_
  refine own_st (s₁.setTop (mkF m 17 #[.val (.ref t), .val (.ref u), .val (.int (2 : Int32))] [(.int (2 : Int32)), (.ref t)])) (fun tq kq => XS.iloadN X0.here hx rfl (hb hby own_d28_16) rfl kq) ?_
  obtain ⟨cl10, q10a, q10b, q10c, q10d, q10e, q10f⟩ := id Atx
  refine own_st (s₁.setTop (mkF m 18 #[.val (.ref t), .val (.ref u), .val (.int (2 : Int32))] [(.int x2)])) (fun tq kq => X0.baloadBytes hx (j := (2 : Int32)) (v := (.int x2)) (by rw [e0]; exact q10a.1) (State.isArrayOf_alike hZ.alike q10a.2.1) q10a.2.2 (inb_of q10c ⟨by decide, by decide⟩) (q10e.at (inb_of q10c ⟨by decide, by decide⟩) rfl) (g := (mkF m 17 #[.val (.ref t), .val (.ref u), .val (.int (2 : Int32))] [(.int (2 : Int32)), (.ref t)])) rfl rfl (hb hby own_d28_17) tq kq) ?_
  refine own_st (s₁.setTop (mkF m 19 #[.val (.ref t), .val (.ref u), .val (.int (2 : Int32))] [(.ref u), (.int x2)])) (fun tq kq => XS.aloadN X0.here hx rfl (hb hby own_d28_18) rfl (by rfl) kq) ?_
  refine own_st (s₁.setTop (mkF m 20 #[.val (.ref t), .val (.ref u), .val (.int (2 : Int32))] [(.int (2 : Int32)), (.ref u), (.int x2)])) (fun tq kq => XS.iloadN X0.here hx rfl (hb hby own_d28_19) rfl kq) ?_
  obtain ⟨cl11, q11a, q11b, q11c, q11d, q11e, q11f⟩ := id Au
  refine own_st (s₁.setTop (mkF m 21 #[.val (.ref t), .val (.ref u), .val (.int (2 : Int32))] [(.int x2), (.int x2)])) (fun tq kq => X0.baloadBytes hx (j := (2 : Int32)) (v := (.int x2)) (by rw [e0]; exact q11a.1) (State.isArrayOf_alike hZ.alike q11a.2.1) q11a.2.2 (inb_of q11c ⟨by decide, by decide⟩) (q11e.at (inb_of q11c ⟨by decide, by decide⟩) rfl) (g := (mkF m 20 #[.val (.ref t), .val (.ref u), .val (.int (2 : Int32))] [(.int (2 : Int32)), (.ref u), (.int x2)])) rfl rfl (hb hby own_d28_20) tq kq) ?_
  refine own_st (s₁.setTop (mkF m 26 #[.val (.ref t), .val (.ref u), .val (.int (2 : Int32))] [])) (fun tq kq => XS.icmpYes X0.here hx rfl (pc0 := 21) (pc' := 26) rfl (hb hby own_d28_21) rfl (teq (rfl : x2 = x2)).1 (by decide) (by decide) kq) ?_
  refine own_st (s₁.setTop (mkF m 29 #[.val (.ref t), .val (.ref u), .val (.int (3 : Int32))] [])) (fun tq kq => XS.iinc X0.here hx rfl (hb hby own_d28_26) rfl (l' := #[.val (.ref t), .val (.ref u), .val (.int (3 : Int32))]) rfl kq) ?_
  refine own_st (s₁.setTop (mkF m 9 #[.val (.ref t), .val (.ref u), .val (.int (3 : Int32))] [])) (fun tq kq => XS.goto X0.here hx rfl (pc0 := 29) (pc' := 9) rfl (hb hby own_d28_29) (by decide) (by decide) kq) ?_
  refine own_st (s₁.setTop (mkF m 10 #[.val (.ref t), .val (.ref u), .val (.int (3 : Int32))] [(.int (3 : Int32))])) (fun tq kq => XS.iloadN X0.here hx rfl (hb hby own_d28_9) rfl kq) ?_
  refine own_st (s₁.setTop (mkF m 11 #[.val (.ref t), .val (.ref u), .val (.int (3 : Int32))] [(.ref t), (.int (3 : Int32))])) (fun tq kq => XS.aloadN X0.here hx rfl (hb hby own_d28_10) rfl (by rfl) kq) ?_
  obtain ⟨cl12, q12a, q12b, q12c, q12d, q12e, q12f⟩ := id Atx
  refine own_st (s₁.setTop (mkF m 12 #[.val (.ref t), .val (.ref u), .val (.int (3 : Int32))] [(.int (4 : Int32)), (.int (3 : Int32))])) (fun tq kq => X0.arraylength hx (by rw [e0]; exact q12a.1) (State.isArrayOf_alike hZ.alike q12a.2.1) (g := (mkF m 11 #[.val (.ref t), .val (.ref u), .val (.int (3 : Int32))] [(.ref t), (.int (3 : Int32))])) rfl rfl (hb hby own_d28_11) tq (by rw [len_of q12c q12d]; exact kq)) ?_
  refine own_st (s₁.setTop (mkF m 15 #[.val (.ref t), .val (.ref u), .val (.int (3 : Int32))] [])) (fun tq kq => XS.icmpNo X0.here hx rfl (hb hby own_d28_12) rfl (tlt ((by decide) : (3 : Int32) < (4 : Int32))).2.1 kq) ?_
  refine own_st (s₁.setTop (mkF m 16 #[.val (.ref t), .val (.ref u), .val (.int (3 : Int32))] [(.ref t)])) (fun tq kq => XS.aloadN X0.here hx rfl (hb hby own_d28_15) rfl (by rfl) kq) ?_
  refine own_st (s₁.setTop (mkF m 17 #[.val (.ref t), .val (.ref u), .val (.int (3 : Int32))] [(.int (3 : Int32)), (.ref t)])) (fun tq kq => XS.iloadN X0.here hx rfl (hb hby own_d28_16) rfl kq) ?_
  obtain ⟨cl13, q13a, q13b, q13c, q13d, q13e, q13f⟩ := id Atx
  refine own_st (s₁.setTop (mkF m 18 #[.val (.ref t), .val (.ref u), .val (.int (3 : Int32))] [(.int x3)])) (fun tq kq => X0.baloadBytes hx (j := (3 : Int32)) (v := (.int x3)) (by rw [e0]; exact q13a.1) (State.isArrayOf_alike hZ.alike q13a.2.1) q13a.2.2 (inb_of q13c ⟨by decide, by decide⟩) (q13e.at (inb_of q13c ⟨by decide, by decide⟩) rfl) (g := (mkF m 17 #[.val (.ref t), .val (.ref u), .val (.int (3 : Int32))] [(.int (3 : Int32)), (.ref t)])) rfl rfl (hb hby own_d28_17) tq kq) ?_
  refine own_st (s₁.setTop (mkF m 19 #[.val (.ref t), .val (.ref u), .val (.int (3 : Int32))] [(.ref u), (.int x3)])) (fun tq kq => XS.aloadN X0.here hx rfl (hb hby own_d28_18) rfl (by rfl) kq) ?_
  refine own_st (s₁.setTop (mkF m 20 #[.val (.ref t), .val (.ref u), .val (.int (3 : Int32))] [(.int (3 : Int32)), (.ref u), (.int x3)])) (fun tq kq => XS.iloadN X0.here hx rfl (hb hby own_d28_19) rfl kq) ?_
  obtain ⟨cl14, q14a, q14b, q14c, q14d, q14e, q14f⟩ := id Au
  refine own_st (s₁.setTop (mkF m 21 #[.val (.ref t), .val (.ref u), .val (.int (3 : Int32))] [(.int x3), (.int x3)])) (fun tq kq => X0.baloadBytes hx (j := (3 : Int32)) (v := (.int x3)) (by rw [e0]; exact q14a.1) (State.isArrayOf_alike hZ.alike q14a.2.1) q14a.2.2 (inb_of q14c ⟨by decide, by decide⟩) (q14e.at (inb_of q14c ⟨by decide, by decide⟩) rfl) (g := (mkF m 20 #[.val (.ref t), .val (.ref u), .val (.int (3 : Int32))] [(.int (3 : Int32)), (.ref u), (.int x3)])) rfl rfl (hb hby own_d28_20) tq kq) ?_
  refine own_st (s₁.setTop (mkF m 26 #[.val (.ref t), .val (.ref u), .val (.int (3 : Int32))] [])) (fun tq kq => XS.icmpYes X0.here hx rfl (pc0 := 21) (pc' := 26) rfl (hb hby own_d28_21) rfl (teq (rfl : x3 = x3)).1 (by decide) (by decide) kq) ?_
  refine own_st (s₁.setTop (mkF m 29 #[.val (.ref t), .val (.ref u), .val (.int (4 : Int32))] [])) (fun tq kq => XS.iinc X0.here hx rfl (hb hby own_d28_26) rfl (l' := #[.val (.ref t), .val (.ref u), .val (.int (4 : Int32))]) rfl kq) ?_
  refine own_st (s₁.setTop (mkF m 9 #[.val (.ref t), .val (.ref u), .val (.int (4 : Int32))] [])) (fun tq kq => XS.goto X0.here hx rfl (pc0 := 29) (pc' := 9) rfl (hb hby own_d28_29) (by decide) (by decide) kq) ?_
  refine own_st (s₁.setTop (mkF m 10 #[.val (.ref t), .val (.ref u), .val (.int (4 : Int32))] [(.int (4 : Int32))])) (fun tq kq => XS.iloadN X0.here hx rfl (hb hby own_d28_9) rfl kq) ?_
  refine own_st (s₁.setTop (mkF m 11 #[.val (.ref t), .val (.ref u), .val (.int (4 : Int32))] [(.ref t), (.int (4 : Int32))])) (fun tq kq => XS.aloadN X0.here hx rfl (hb hby own_d28_10) rfl (by rfl) kq) ?_
  obtain ⟨cl15, q15a, q15b, q15c, q15d, q15e, q15f⟩ := id Atx
  refine own_st (s₁.setTop (mkF m 12 #[.val (.ref t), .val (.ref u), .val (.int (4 : Int32))] [(.int (4 : Int32)), (.int (4 : Int32))])) (fun tq kq => X0.arraylength hx (by rw [e0]; exact q15a.1) (State.isArrayOf_alike hZ.alike q15a.2.1) (g := (mkF m 11 #[.val (.ref t), .val (.ref u), .val (.int (4 : Int32))] [(.ref t), (.int (4 : Int32))])) rfl rfl (hb hby own_d28_11) tq (by rw [len_of q15c q15d]; exact kq)) ?_
  refine own_st (s₁.setTop (mkF m 32 #[.val (.ref t), .val (.ref u), .val (.int (4 : Int32))] [])) (fun tq kq => XS.icmpYes X0.here hx rfl (pc0 := 12) (pc' := 32) rfl (hb hby own_d28_12) rfl (flt ((by decide) : ¬ ((4 : Int32) < (4 : Int32)))).2.1 (by decide) (by decide) kq) ?_
  refine own_st (s₁.setTop (mkF m 33 #[.val (.ref t), .val (.ref u), .val (.int (4 : Int32))] [(.int (1 : Int32))])) (fun tq kq => XS.iconst X0.here hx rfl (hb hby own_d28_32) kq) ?_
  exact own_ret X0 hlk (v := some (.int (1 : Int32))) (fun h => by rw [hret] at h; cases h) e0 (⟨rfl, (Fr.nil _), rfl⟩) (by decide) (by decide) (fun fs hr => own_retN X0 hx (t := .boolean) hret (by simp) (hb hby own_d28_33) rfl hr)
theorem own_d27_0 : decode jdk_42_method_66_code 0 = .ok (.aload_n 0, 1) := by decide +kernel
theorem own_d27_1 : decode jdk_42_method_66_code 1 = .ok (.aload_n 1, 1) := by decide +kernel
theorem own_d27_2 : decode jdk_42_method_66_code 2 = .ok (.if_acmp .ne 5, 3) := by decide +kernel
theorem own_d27_5 : decode jdk_42_method_66_code 5 = .ok (.iconst 1, 1) := by decide +kernel
theorem own_d27_6 : decode jdk_42_method_66_code 6 = .ok (.ireturn, 1) := by decide +kernel
theorem own_d27_7 : decode jdk_42_method_66_code 7 = .ok (.aload_n 1, 1) := by decide +kernel
theorem own_d27_8 : decode jdk_42_method_66_code 8 = .ok (.instanceof 10, 3) := by decide +kernel
theorem own_d27_11 : decode jdk_42_method_66_code 11 = .ok (.ifCond .eq 43, 3) := by decide +kernel
theorem own_d27_14 : decode jdk_42_method_66_code 14 = .ok (.aload_n 1, 1) := by decide +kernel
theorem own_d27_15 : decode jdk_42_method_66_code 15 = .ok (.checkcast 10, 3) := by decide +kernel
theorem own_d27_18 : decode jdk_42_method_66_code 18 = .ok (.astore_n 2, 1) := by decide +kernel
theorem own_d27_19 : decode jdk_42_method_66_code 19 = .ok (.getstatic 38, 3) := by decide +kernel
theorem own_d27_22 : decode jdk_42_method_66_code 22 = .ok (.ifCond .eq 14, 3) := by decide +kernel
theorem own_d27_25 : decode jdk_42_method_66_code 25 = .ok (.aload_n 0, 1) := by decide +kernel
theorem own_d27_26 : decode jdk_42_method_66_code 26 = .ok (.getfield 15, 3) := by decide +kernel
theorem own_d27_29 : decode jdk_42_method_66_code 29 = .ok (.aload_n 2, 1) := by decide +kernel
theorem own_d27_30 : decode jdk_42_method_66_code 30 = .ok (.getfield 15, 3) := by decide +kernel
theorem own_d27_33 : decode jdk_42_method_66_code 33 = .ok (.if_icmp .ne 21, 3) := by decide +kernel
theorem own_d27_36 : decode jdk_42_method_66_code 36 = .ok (.aload_n 0, 1) := by decide +kernel
theorem own_d27_37 : decode jdk_42_method_66_code 37 = .ok (.getfield 9, 3) := by decide +kernel
theorem own_d27_40 : decode jdk_42_method_66_code 40 = .ok (.aload_n 2, 1) := by decide +kernel
theorem own_d27_41 : decode jdk_42_method_66_code 41 = .ok (.getfield 9, 3) := by decide +kernel
theorem own_pd__28_5bB_5bB_29Z : parseMethodDescriptor "([B[B)Z" = some ⟨[(.array .byte), (.array .byte)], some .boolean⟩ := by decide +kernel
theorem own_d27_44 : decode jdk_42_method_66_code 44 = .ok (.invokestatic 541, 3) := by decide +kernel
theorem own_d27_47 : decode jdk_42_method_66_code 47 = .ok (.ifCond .eq 7, 3) := by decide +kernel
theorem own_d27_50 : decode jdk_42_method_66_code 50 = .ok (.iconst 1, 1) := by decide +kernel
theorem own_d27_51 : decode jdk_42_method_66_code 51 = .ok (.goto 4, 3) := by decide +kernel
theorem own_d27_55 : decode jdk_42_method_66_code 55 = .ok (.ireturn, 1) := by decide +kernel
set_option maxRecDepth 65536 in
set_option maxHeartbeats 40000000 in
theorem own_seq_4 (l : Launch) (Z : State) (a0 : Array Value) (hw : ∀ d ∈ tables_1, d.before a0 Z = true) (ws : List Jvm.Cond) (cz : Int32) (a t b u : Addr) (kt ku : ClassId) (x0 x1 x2 x3 : Int32) (h0 : Heap) (O0 : Old Z Z.heap.size h0) (SC : Sta Z Z.heap "java/lang/String" "COMPACT_STRINGS" "Z" (.int cz)) (hcz : ¬ (cz = (0 : Int32))) (Ea : Exa Z h0 a "java/lang/String") (Va : Fld Z h0 a "java/lang/String" "value" "[B" (.ref t)) (Ca : Fld Z h0 a "java/lang/String" "coder" "B" (.int (0 : Int32))) (Aa : Arv Z h0 t kt .byte (4 : Int32) [(.int x0), (.int x1), (.int x2), (.int x3)] (.int (0 : Int32))) (Eb : Exa Z h0 b "java/lang/String") (Vb : Fld Z h0 b "java/lang/String" "value" "[B" (.ref u)) (Cb : Fld Z h0 b "java/lang/String" "coder" "B" (.int (0 : Int32))) (Ab : Arv Z h0 u ku .byte (4 : Int32) [(.int x0), (.int x1), (.int x2), (.int x3)] (.int (0 : Int32))) :
    ownMet l (⟨"java/lang/String", "equals", "(Ljava/lang/Object;)Z"⟩ : MethodName) jdk_42_method_66_code 3 (some .boolean) ws ({ frames := 1, cells := 0, slots := 0, locals := 14 } : Room) Z #[(.ref a), (.ref b)] h0 (fun v h L => v = some (.int (1 : Int32)) ∧ Fr Z.heap.size L ∧ h = h0) := by
  refine own_met (plainFor_of_name own_pn_java_lang_String) ?_
  intro p e s m below meth c s₁ hx hby hml hown hnm hret hlk hZ e0 X0
  refine own_cast (show _ = (mkF m 0 #[.val (.ref a), .val (.ref b), .unset] []) by first | (simp [entryFrame, mkF, argsToLocals, Value.category]; done) | rfl) ?_
  refine own_st (s₁.setTop (mkF m 1 #[.val (.ref a), .val (.ref b), .unset] [(.ref a)])) (fun tq kq => XS.aloadN X0.here hx rfl (hb hby own_d27_0) rfl (by rfl) kq) ?_
  refine own_st (s₁.setTop (mkF m 2 #[.val (.ref a), .val (.ref b), .unset] [(.ref b), (.ref a)])) (fun tq kq => XS.aloadN X0.here hx rfl (hb hby own_d27_1) rfl (by rfl) kq) ?_
  by_cases c2_1 : a = b
  · skip
    refine own_st (s₁.setTop (mkF m 5 #[.val (.ref a), .val (.ref b), .unset] [])) (fun tq kq => Jvm.RoadKit.acmp (g := (mkF m 2 #[.val (.ref a), .val (.ref b), .unset] [(.ref b), (.ref a)])) X0 hx rfl (by rfl) (by rfl) (pc0 := 2) (pc' := 5) (same := true) rfl (hb hby own_d27_2) rfl (decide_eq_true (congrArg Value.ref (c2_1 : a = b))) (by decide) (by decide) kq) ?_
    refine own_st (s₁.setTop (mkF m 6 #[.val (.ref a), .val (.ref b), .unset] [(.int (1 : Int32))])) (fun tq kq => XS.iconst X0.here hx rfl (hb hby own_d27_5) kq) ?_
    exact own_ret X0 hlk (v := some (.int (1 : Int32))) (fun h => by rw [hret] at h; cases h) e0 (⟨rfl, (Fr.nil _), rfl⟩) (by decide) (by decide) (fun fs hr => own_retN X0 hx (t := .boolean) hret (by simp) (hb hby own_d27_6) rfl hr)
  · skip
    refine own_st (s₁.setTop (mkF m 7 #[.val (.ref a), .val (.ref b), .unset] [])) (fun tq kq => Jvm.RoadKit.acmp (g := (mkF m 2 #[.val (.ref a), .val (.ref b), .unset] [(.ref b), (.ref a)])) X0 hx rfl (by rfl) (by rfl) (pc0 := 2) (pc' := 7) (same := false) rfl (hb hby own_d27_2) rfl (decide_eq_false (fun q => (c2_1 : ¬ (a = b)) (Value.ref.inj q))) (by decide) (by decide) kq) ?_
    refine own_st (s₁.setTop (mkF m 8 #[.val (.ref a), .val (.ref b), .unset] [(.ref b)])) (fun tq kq => XS.aloadN X0.here hx rfl (hb hby own_d27_7) rfl (by rfl) kq) ?_
    obtain ⟨T2, X2, e2, st2⟩ := instY X0 hx hZ hown (hw _ (List.mem_of_getElem? (i := 162) rfl)) e0 (Ins.self Eb) (g := (mkF m 8 #[.val (.ref a), .val (.ref b), .unset] [(.ref b)])) rfl rfl (hb hby own_d27_8)
    refine own_st (T2.setTop (mkF m 11 #[.val (.ref a), .val (.ref b), .unset] [(.int (1 : Int32))])) st2 ?_
    refine own_st (T2.setTop (mkF m 14 #[.val (.ref a), .val (.ref b), .unset] [])) (fun tq kq => XS.ifNo X2.here hx rfl (hb hby own_d27_11) rfl ((if0 _ _).trans (feq ((by decide) : ¬ ((1 : Int32) = (0 : Int32)))).1) kq) ?_
    refine own_st (T2.setTop (mkF m 15 #[.val (.ref a), .val (.ref b), .unset] [(.ref b)])) (fun tq kq => XS.aloadN X2.here hx rfl (hb hby own_d27_14) rfl (by rfl) kq) ?_
    obtain ⟨T3, X3, e3, st3⟩ := castY X2 hx hZ hown (hw _ (List.mem_of_getElem? (i := 162) rfl)) e2 (Ins.self Eb) (g := (mkF m 15 #[.val (.ref a), .val (.ref b), .unset] [(.ref b)])) rfl rfl (hb hby own_d27_15)
    refine own_st (T3.setTop (mkF m 18 #[.val (.ref a), .val (.ref b), .unset] [(.ref b)])) st3 ?_
    refine own_st (T3.setTop (mkF m 19 #[.val (.ref a), .val (.ref b), .val (.ref b)] [])) (fun tq kq => XS.astoreN X3.here hx rfl (hb hby own_d27_18) rfl (by rfl) (l' := #[.val (.ref a), .val (.ref b), .val (.ref b)]) rfl kq) ?_
    obtain ⟨T4, X4, e4, st4⟩ := getS2 X3 hx hZ hown (host := "") (Or.inl (hw _ (List.mem_of_getElem? (i := 81) rfl))) Via.refl e3 (SC.ext O0.2) (g := (mkF m 19 #[.val (.ref a), .val (.ref b), .val (.ref b)] [])) rfl (hb hby own_d27_19)
    refine own_st (T4.setTop (mkF m 22 #[.val (.ref a), .val (.ref b), .val (.ref b)] [(.int cz)])) st4 ?_
    refine own_st (T4.setTop (mkF m 25 #[.val (.ref a), .val (.ref b), .val (.ref b)] [])) (fun tq kq => XS.ifNo X4.here hx rfl (hb hby own_d27_22) rfl ((if0 _ _).trans (feq (hcz : ¬ (cz = (0 : Int32)))).1) kq) ?_
    refine own_st (T4.setTop (mkF m 26 #[.val (.ref a), .val (.ref b), .val (.ref b)] [(.ref a)])) (fun tq kq => XS.aloadN X4.here hx rfl (hb hby own_d27_25) rfl (by rfl) kq) ?_
    obtain ⟨T5, X5, e5, st5⟩ := getF X4 hx hZ hown (host := "") (Or.inl (hw _ (List.mem_of_getElem? (i := 82) rfl))) Via.refl e4 Ca (g := (mkF m 26 #[.val (.ref a), .val (.ref b), .val (.ref b)] [(.ref a)])) rfl rfl (hb hby own_d27_26)
    refine own_st (T5.setTop (mkF m 29 #[.val (.ref a), .val (.ref b), .val (.ref b)] [(.int (0 : Int32))])) st5 ?_
    refine own_st (T5.setTop (mkF m 30 #[.val (.ref a), .val (.ref b), .val (.ref b)] [(.ref b), (.int (0 : Int32))])) (fun tq kq => XS.aloadN X5.here hx rfl (hb hby own_d27_29) rfl (by rfl) kq) ?_
    obtain ⟨T6, X6, e6, st6⟩ := getF X5 hx hZ hown (host := "") (Or.inl (hw _ (List.mem_of_getElem? (i := 82) rfl))) Via.refl e5 Cb (g := (mkF m 30 #[.val (.ref a), .val (.ref b), .val (.ref b)] [(.ref b), (.int (0 : Int32))])) rfl rfl (hb hby own_d27_30)
    refine own_st (T6.setTop (mkF m 33 #[.val (.ref a), .val (.ref b), .val (.ref b)] [(.int (0 : Int32)), (.int (0 : Int32))])) st6 ?_
    refine own_st (T6.setTop (mkF m 36 #[.val (.ref a), .val (.ref b), .val (.ref b)] [])) (fun tq kq => XS.icmpNo X6.here hx rfl (hb hby own_d27_33) rfl (teq ((by decide) : (0 : Int32) = (0 : Int32))).2 kq) ?_
    refine own_st (T6.setTop (mkF m 37 #[.val (.ref a), .val (.ref b), .val (.ref b)] [(.ref a)])) (fun tq kq => XS.aloadN X6.here hx rfl (hb hby own_d27_36) rfl (by rfl) kq) ?_
    obtain ⟨T7, X7, e7, st7⟩ := getF X6 hx hZ hown (host := "") (Or.inl (hw _ (List.mem_of_getElem? (i := 75) rfl))) Via.refl e6 Va (g := (mkF m 37 #[.val (.ref a), .val (.ref b), .val (.ref b)] [(.ref a)])) rfl rfl (hb hby own_d27_37)
    refine own_st (T7.setTop (mkF m 40 #[.val (.ref a), .val (.ref b), .val (.ref b)] [(.ref t)])) st7 ?_
    refine own_st (T7.setTop (mkF m 41 #[.val (.ref a), .val (.ref b), .val (.ref b)] [(.ref b), (.ref t)])) (fun tq kq => XS.aloadN X7.here hx rfl (hb hby own_d27_40) rfl (by rfl) kq) ?_
    obtain ⟨T8, X8, e8, st8⟩ := getF X7 hx hZ hown (host := "") (Or.inl (hw _ (List.mem_of_getElem? (i := 75) rfl))) Via.refl e7 Vb (g := (mkF m 41 #[.val (.ref a), .val (.ref b), .val (.ref b)] [(.ref b), (.ref t)])) rfl rfl (hb hby own_d27_41)
    refine own_st (T8.setTop (mkF m 44 #[.val (.ref a), .val (.ref b), .val (.ref b)] [(.ref u), (.ref t)])) st8 ?_
    obtain ⟨v9, T9, L9, X9, q9, st9⟩ := own_callS X8 hx hZ hown (hw _ (List.mem_of_getElem? (i := 163) rfl)) (hw _ (List.mem_of_getElem? (i := 164) rfl)) (hw _ (List.mem_of_getElem? (i := 165) rfl)) (hw _ (List.mem_of_getElem? (i := 166) rfl)) (argsL := [(.ref t), (.ref u)]) (own_leq_4 l Z a0 hw [] t u kt ku x0 x1 x2 x3 h0 O0 Aa Ab) 0 (by decide) (by decide) (by decide) (by decide) (by decide) e8 (g := (mkF m 44 #[.val (.ref a), .val (.ref b), .val (.ref b)] [(.ref u), (.ref t)])) rfl (by rw [hml]; rfl) [] (lenOf own_pd__28_5bB_5bB_29Z rfl) rfl (by show 2 * 0 + _ ≤ _; exact Nat.le_of_eq rfl) (hb hby own_d27_44)
    obtain ⟨rfl, N9q, e9⟩ := q9
    have N9 := Fr.app (Fr.nil _) N9q
    refine own_st (T9.setTop (mkF m 47 #[.val (.ref a), .val (.ref b), .val (.ref b)] [(.int (1 : Int32))])) st9 ?_
    refine own_st (T9.setTop (mkF m 50 #[.val (.ref a), .val (.ref b), .val (.ref b)] [])) (fun tq kq => XS.ifNo X9.here hx rfl (hb hby own_d27_47) rfl ((if0 _ _).trans (feq ((by decide) : ¬ ((1 : Int32) = (0 : Int32)))).1) kq) ?_
    refine own_st (T9.setTop (mkF m 51 #[.val (.ref a), .val (.ref b), .val (.ref b)] [(.int (1 : Int32))])) (fun tq kq => XS.iconst X9.here hx rfl (hb hby own_d27_50) kq) ?_
    refine own_st (T9.setTop (mkF m 55 #[.val (.ref a), .val (.ref b), .val (.ref b)] [(.int (1 : Int32))])) (fun tq kq => XS.goto X9.here hx rfl (pc0 := 51) (pc' := 55) rfl (hb hby own_d27_51) (by decide) (by decide) kq) ?_
    exact own_ret X9 hlk (v := some (.int (1 : Int32))) (fun h => by rw [hret] at h; cases h) e9 (⟨rfl, N9, rfl⟩) (by decide) (by decide) (fun fs hr => own_retN X9 hx (t := .boolean) hret (by simp) (hb hby own_d27_55) rfl hr)
set_option maxRecDepth 65536 in
set_option maxHeartbeats 40000000 in
theorem own_leq_5 (l : Launch) (Z : State) (a0 : Array Value) (hw : ∀ d ∈ tables_1, d.before a0 Z = true) (ws : List Jvm.Cond) (t u : Addr) (kt ku : ClassId) (x0 x1 x2 x3 x4 : Int32) (h0 : Heap) (O0 : Old Z Z.heap.size h0) (Atx : Arv Z h0 t kt .byte (5 : Int32) [(.int x0), (.int x1), (.int x2), (.int x3), (.int x4)] (.int (0 : Int32))) (Au : Arv Z h0 u ku .byte (5 : Int32) [(.int x0), (.int x1), (.int x2), (.int x3), (.int x4)] (.int (0 : Int32))) :
    ownMet l (⟨"java/lang/StringLatin1", "equals", "([B[B)Z"⟩ : MethodName) jdk_43_method_13_code 3 (some .boolean) ws ({ frames := 0, cells := 0, slots := 0, locals := 0 } : Room) Z #[(.ref t), (.ref u)] h0 (fun v h L => v = some (.int (1 : Int32)) ∧ Fr Z.heap.size L ∧ h = h0) := by
  refine own_met (plainFor_of_name own_pn_java_lang_StringLatin1) ?_
  intro p e s m below meth c s₁ hx hby hml hown hnm hret hlk hZ e0 X0
  refine own_cast (show _ = (mkF m 0 #[.val (.ref t), .val (.ref u), .unset] []) by first | (simp [entryFrame, mkF, argsToLocals, Value.category]; done) | rfl) ?_
  refine own_st (s₁.setTop (mkF m 1 #[.val (.ref t), .val (.ref u), .unset] [(.ref t)])) (fun tq kq => XS.aloadN X0.here hx rfl (hb hby own_d28_0) rfl (by rfl) kq) ?_
  obtain ⟨cl1, q1a, q1b, q1c, q1d, q1e, q1f⟩ := id Atx
  refine own_st (s₁.setTop (mkF m 2 #[.val (.ref t), .val (.ref u), .unset] [(.int (5 : Int32))])) (fun tq kq => X0.arraylength hx (by rw [e0]; exact q1a.1) (State.isArrayOf_alike hZ.alike q1a.2.1) (g := (mkF m 1 #[.val (.ref t), .val (.ref u), .unset] [(.ref t)])) rfl rfl (hb hby own_d28_1) tq (by rw [len_of q1c q1d]; exact kq)) ?_
  refine own_st (s₁.setTop (mkF m 3 #[.val (.ref t), .val (.ref u), .unset] [(.ref u), (.int (5 : Int32))])) (fun tq kq => XS.aloadN X0.here hx rfl (hb hby own_d28_2) rfl (by rfl) kq) ?_
  obtain ⟨cl2, q2a, q2b, q2c, q2d, q2e, q2f⟩ := id Au
  refine own_st (s₁.setTop (mkF m 4 #[.val (.ref t), .val (.ref u), .unset] [(.int (5 : Int32)), (.int (5 : Int32))])) (fun tq kq => X0.arraylength hx (by rw [e0]; exact q2a.1) (State.isArrayOf_alike hZ.alike q2a.2.1) (g := (mkF m 3 #[.val (.ref t), .val (.ref u), .unset] [(.ref u), (.int (5 : Int32))])) rfl rfl (hb hby own_d28_3) tq (by rw [len_of q2c q2d]; exact kq)) ?_
  refine own_st (s₁.setTop (mkF m 7 #[.val (.ref t), .val (.ref u), .unset] [])) (fun tq kq => XS.icmpNo X0.here hx rfl (hb hby own_d28_4) rfl (teq ((by decide) : (5 : Int32) = (5 : Int32))).2 kq) ?_
  refine own_st (s₁.setTop (mkF m 8 #[.val (.ref t), .val (.ref u), .unset] [(.int (0 : Int32))])) (fun tq kq => XS.iconst X0.here hx rfl (hb hby own_d28_7) kq) ?_
  refine own_st (s₁.setTop (mkF m 9 #[.val (.ref t), .val (.ref u), .val (.int (0 : Int32))] [])) (fun tq kq => XS.istoreN X0.here hx rfl (hb hby own_d28_8) rfl (l' := #[.val (.ref t), .val (.ref u), .val (.int (0 : Int32))]) rfl kq) ?_
  refine own_st (s₁.setTop (mkF m 10 #[.val (.ref t), .val (.ref u), .val (.int (0 : Int32))] [(.int (0 : Int32))])) (fun tq kq => XS.iloadN X0.here hx rfl (hb hby own_d28_9) rfl kq) ?_
  refine own_st (s₁.setTop (mkF m 11 #[.val (.ref t), .val (.ref u), .val (.int (0 : Int32))] [(.ref t), (.int (0 : Int32))])) (fun tq kq => XS.aloadN X0.here hx rfl (hb hby own_d28_10) rfl (by rfl) kq) ?_
  obtain ⟨cl3, q3a, q3b, q3c, q3d, q3e, q3f⟩ := id Atx
  refine own_st (s₁.setTop (mkF m 12 #[.val (.ref t), .val (.ref u), .val (.int (0 : Int32))] [(.int (5 : Int32)), (.int (0 : Int32))])) (fun tq kq => X0.arraylength hx (by rw [e0]; exact q3a.1) (State.isArrayOf_alike hZ.alike q3a.2.1) (g := (mkF m 11 #[.val (.ref t), .val (.ref u), .val (.int (0 : Int32))] [(.ref t), (.int (0 : Int32))])) rfl rfl (hb hby own_d28_11) tq (by rw [len_of q3c q3d]; exact kq)) ?_
  refine own_st (s₁.setTop (mkF m 15 #[.val (.ref t), .val (.ref u), .val (.int (0 : Int32))] [])) (fun tq kq => XS.icmpNo X0.here hx rfl (hb hby own_d28_12) rfl (tlt ((by decide) : (0 : Int32) < (5 : Int32))).2.1 kq) ?_
  refine own_st (s₁.setTop (mkF m 16 #[.val (.ref t), .val (.ref u), .val (.int (0 : Int32))] [(.ref t)])) (fun tq kq => XS.aloadN X0.here hx rfl (hb hby own_d28_15) rfl (by rfl) kq) ?_
  refine own_st (s₁.setTop (mkF m 17 #[.val (.ref t), .val (.ref u), .val (.int (0 : Int32))] [(.int (0 : Int32)), (.ref t)])) (fun tq kq => XS.iloadN X0.here hx rfl (hb hby own_d28_16) rfl kq) ?_
  obtain ⟨cl4, q4a, q4b, q4c, q4d, q4e, q4f⟩ := id Atx
  refine own_st (s₁.setTop (mkF m 18 #[.val (.ref t), .val (.ref u), .val (.int (0 : Int32))] [(.int x0)])) (fun tq kq => X0.baloadBytes hx (j := (0 : Int32)) (v := (.int x0)) (by rw [e0]; exact q4a.1) (State.isArrayOf_alike hZ.alike q4a.2.1) q4a.2.2 (inb_of q4c ⟨by decide, by decide⟩) (q4e.at (inb_of q4c ⟨by decide, by decide⟩) rfl) (g := (mkF m 17 #[.val (.ref t), .val (.ref u), .val (.int (0 : Int32))] [(.int (0 : Int32)), (.ref t)])) rfl rfl (hb hby own_d28_17) tq kq) ?_
  refine own_st (s₁.setTop (mkF m 19 #[.val (.ref t), .val (.ref u), .val (.int (0 : Int32))] [(.ref u), (.int x0)])) (fun tq kq => XS.aloadN X0.here hx rfl (hb hby own_d28_18) rfl (by rfl) kq) ?_
  refine own_st (s₁.setTop (mkF m 20 #[.val (.ref t), .val (.ref u), .val (.int (0 : Int32))] [(.int (0 : Int32)), (.ref u), (.int x0)])) (fun tq kq => XS.iloadN X0.here hx rfl (hb hby own_d28_19) rfl kq) ?_
  obtain ⟨cl5, q5a, q5b, q5c, q5d, q5e, q5f⟩ := id Au
  refine own_st (s₁.setTop (mkF m 21 #[.val (.ref t), .val (.ref u), .val (.int (0 : Int32))] [(.int x0), (.int x0)])) (fun tq kq => X0.baloadBytes hx (j := (0 : Int32)) (v := (.int x0)) (by rw [e0]; exact q5a.1) (State.isArrayOf_alike hZ.alike q5a.2.1) q5a.2.2 (inb_of q5c ⟨by decide, by decide⟩) (q5e.at (inb_of q5c ⟨by decide, by decide⟩) rfl) (g := (mkF m 20 #[.val (.ref t), .val (.ref u), .val (.int (0 : Int32))] [(.int (0 : Int32)), (.ref u), (.int x0)])) rfl rfl (hb hby own_d28_20) tq kq) ?_
  refine own_st (s₁.setTop (mkF m 26 #[.val (.ref t), .val (.ref u), .val (.int (0 : Int32))] [])) (fun tq kq => XS.icmpYes X0.here hx rfl (pc0 := 21) (pc' := 26) rfl (hb hby own_d28_21) rfl (teq (rfl : x0 = x0)).1 (by decide) (by decide) kq) ?_
  refine own_st (s₁.setTop (mkF m 29 #[.val (.ref t), .val (.ref u), .val (.int (1 : Int32))] [])) (fun tq kq => XS.iinc X0.here hx rfl (hb hby own_d28_26) rfl (l' := #[.val (.ref t), .val (.ref u), .val (.int (1 : Int32))]) rfl kq) ?_
  refine own_st (s₁.setTop (mkF m 9 #[.val (.ref t), .val (.ref u), .val (.int (1 : Int32))] [])) (fun tq kq => XS.goto X0.here hx rfl (pc0 := 29) (pc' := 9) rfl (hb hby own_d28_29) (by decide) (by decide) kq) ?_
  refine own_st (s₁.setTop (mkF m 10 #[.val (.ref t), .val (.ref u), .val (.int (1 : Int32))] [(.int (1 : Int32))])) (fun tq kq => XS.iloadN X0.here hx rfl (hb hby own_d28_9) rfl kq) ?_
  refine own_st (s₁.setTop (mkF m 11 #[.val (.ref t), .val (.ref u), .val (.int (1 : Int32))] [(.ref t), (.int (1 : Int32))])) (fun tq kq => XS.aloadN X0.here hx rfl (hb hby own_d28_10) rfl (by rfl) kq) ?_
  obtain ⟨cl6, q6a, q6b, q6c, q6d, q6e, q6f⟩ := id Atx
  refine own_st (s₁.setTop (mkF m 12 #[.val (.ref t), .val (.ref u), .val (.int (1 : Int32))] [(.int (5 : Int32)), (.int (1 : Int32))])) (fun tq kq => X0.arraylength hx (by rw [e0]; exact q6a.1) (State.isArrayOf_alike hZ.alike q6a.2.1) (g := (mkF m 11 #[.val (.ref t), .val (.ref u), .val (.int (1 : Int32))] [(.ref t), (.int (1 : Int32))])) rfl rfl (hb hby own_d28_11) tq (by rw [len_of q6c q6d]; exact kq)) ?_
  refine own_st (s₁.setTop (mkF m 15 #[.val (.ref t), .val (.ref u), .val (.int (1 : Int32))] [])) (fun tq kq => XS.icmpNo X0.here hx rfl (hb hby own_d28_12) rfl (tlt ((by decide) : (1 : Int32) < (5 : Int32))).2.1 kq) ?_
  refine own_st (s₁.setTop (mkF m 16 #[.val (.ref t), .val (.ref u), .val (.int (1 : Int32))] [(.ref t)])) (fun tq kq => XS.aloadN X0.here hx rfl (hb hby own_d28_15) rfl (by rfl) kq) ?_
  refine own_st (s₁.setTop (mkF m 17 #[.val (.ref t), .val (.ref u), .val (.int (1 : Int32))] [(.int (1 : Int32)), (.ref t)])) (fun tq kq => XS.iloadN X0.here hx rfl (hb hby own_d28_16) rfl kq) ?_
  obtain ⟨cl7, q7a, q7b, q7c, q7d, q7e, q7f⟩ := id Atx
  refine own_st (s₁.setTop (mkF m 18 #[.val (.ref t), .val (.ref u), .val (.int (1 : Int32))] [(.int x1)])) (fun tq kq => X0.baloadBytes hx (j := (1 : Int32)) (v := (.int x1)) (by rw [e0]; exact q7a.1) (State.isArrayOf_alike hZ.alike q7a.2.1) q7a.2.2 (inb_of q7c ⟨by decide, by decide⟩) (q7e.at (inb_of q7c ⟨by decide, by decide⟩) rfl) (g := (mkF m 17 #[.val (.ref t), .val (.ref u), .val (.int (1 : Int32))] [(.int (1 : Int32)), (.ref t)])) rfl rfl (hb hby own_d28_17) tq kq) ?_
  refine own_st (s₁.setTop (mkF m 19 #[.val (.ref t), .val (.ref u), .val (.int (1 : Int32))] [(.ref u), (.int x1)])) (fun tq kq => XS.aloadN X0.here hx rfl (hb hby own_d28_18) rfl (by rfl) kq) ?_
  refine own_st (s₁.setTop (mkF m 20 #[.val (.ref t), .val (.ref u), .val (.int (1 : Int32))] [(.int (1 : Int32)), (.ref u), (.int x1)])) (fun tq kq => XS.iloadN X0.here hx rfl (hb hby own_d28_19) rfl kq) ?_
  obtain ⟨cl8, q8a, q8b, q8c, q8d, q8e, q8f⟩ := id Au
  refine own_st (s₁.setTop (mkF m 21 #[.val (.ref t), .val (.ref u), .val (.int (1 : Int32))] [(.int x1), (.int x1)])) (fun tq kq => X0.baloadBytes hx (j := (1 : Int32)) (v := (.int x1)) (by rw [e0]; exact q8a.1) (State.isArrayOf_alike hZ.alike q8a.2.1) q8a.2.2 (inb_of q8c ⟨by decide, by decide⟩) (q8e.at (inb_of q8c ⟨by decide, by decide⟩) rfl) (g := (mkF m 20 #[.val (.ref t), .val (.ref u), .val (.int (1 : Int32))] [(.int (1 : Int32)), (.ref u), (.int x1)])) rfl rfl (hb hby own_d28_20) tq kq) ?_
  refine own_st (s₁.setTop (mkF m 26 #[.val (.ref t), .val (.ref u), .val (.int (1 : Int32))] [])) (fun tq kq => XS.icmpYes X0.here hx rfl (pc0 := 21) (pc' := 26) rfl (hb hby own_d28_21) rfl (teq (rfl : x1 = x1)).1 (by decide) (by decide) kq) ?_
  refine own_st (s₁.setTop (mkF m 29 #[.val (.ref t), .val (.ref u), .val (.int (2 : Int32))] [])) (fun tq kq => XS.iinc X0.here hx rfl (hb hby own_d28_26) rfl (l' := #[.val (.ref t), .val (.ref u), .val (.int (2 : Int32))]) rfl kq) ?_
  refine own_st (s₁.setTop (mkF m 9 #[.val (.ref t), .val (.ref u), .val (.int (2 : Int32))] [])) (fun tq kq => XS.goto X0.here hx rfl (pc0 := 29) (pc' := 9) rfl (hb hby own_d28_29) (by decide) (by decide) kq) ?_
  refine own_st (s₁.setTop (mkF m 10 #[.val (.ref t), .val (.ref u), .val (.int (2 : Int32))] [(.int (2 : Int32))])) (fun tq kq => XS.iloadN X0.here hx rfl (hb hby own_d28_9) rfl kq) ?_
  refine own_st (s₁.setTop (mkF m 11 #[.val (.ref t), .val (.ref u), .val (.int (2 : Int32))] [(.ref t), (.int (2 : Int32))])) (fun tq kq => XS.aloadN X0.here hx rfl (hb hby own_d28_10) rfl (by rfl) kq) ?_
  obtain ⟨cl9, q9a, q9b, q9c, q9d, q9e, q9f⟩ := id Atx
  refine own_st (s₁.setTop (mkF m 12 #[.val (.ref t), .val (.ref u), .val (.int (2 : Int32))] [(.int (5 : Int32)), (.int (2 : Int32))])) (fun tq kq => X0.arraylength hx (by rw [e0]; exact q9a.1) (State.isArrayOf_alike hZ.alike q9a.2.1) (g := (mkF m 11 #[.val (.ref t), .val (.ref u), .val (.int (2 : Int32))] [(.ref t), (.int (2 : Int32))])) rfl rfl (hb hby own_d28_11) tq (by rw [len_of q9c q9d]; exact kq)) ?_
  refine own_st (s₁.setTop (mkF m 15 #[.val (.ref t), .val (.ref u), .val (.int (2 : Int32))] [])) (fun tq kq => XS.icmpNo X0.here hx rfl (hb hby own_d28_12) rfl (tlt ((by decide) : (2 : Int32) < (5 : Int32))).2.1 kq) ?_
  refine own_st (s₁.setTop (mkF m 16 #[.val (.ref t), .val (.ref u), .val (.int (2 : Int32))] [(.ref t)])) (fun tq kq => XS.aloadN X0.here hx rfl (hb hby own_d28_15) rfl (by rfl) kq) ?_
  refine own_st (s₁.setTop (mkF m 17 #[.val (.ref t), .val (.ref u), .val (.int (2 : Int32))] [(.int (2 : Int32)), (.ref t)])) (fun tq kq => XS.iloadN X0.here hx rfl (hb hby own_d28_16) rfl kq) ?_
  obtain ⟨cl10, q10a, q10b, q10c, q10d, q10e, q10f⟩ := id Atx
  refine own_st (s₁.setTop (mkF m 18 #[.val (.ref t), .val (.ref u), .val (.int (2 : Int32))] [(.int x2)])) (fun tq kq => X0.baloadBytes hx (j := (2 : Int32)) (v := (.int x2)) (by rw [e0]; exact q10a.1) (State.isArrayOf_alike hZ.alike q10a.2.1) q10a.2.2 (inb_of q10c ⟨by decide, by decide⟩) (q10e.at (inb_of q10c ⟨by decide, by decide⟩) rfl) (g := (mkF m 17 #[.val (.ref t), .val (.ref u), .val (.int (2 : Int32))] [(.int (2 : Int32)), (.ref t)])) rfl rfl (hb hby own_d28_17) tq kq) ?_
  refine own_st (s₁.setTop (mkF m 19 #[.val (.ref t), .val (.ref u), .val (.int (2 : Int32))] [(.ref u), (.int x2)])) (fun tq kq => XS.aloadN X0.here hx rfl (hb hby own_d28_18) rfl (by rfl) kq) ?_
  refine own_st (s₁.setTop (mkF m 20 #[.val (.ref t), .val (.ref u), .val (.int (2 : Int32))] [(.int (2 : Int32)), (.ref u), (.int x2)])) (fun tq kq => XS.iloadN X0.here hx rfl (hb hby own_d28_19) rfl kq) ?_
  obtain ⟨cl11, q11a, q11b, q11c, q11d, q11e, q11f⟩ := id Au
  refine own_st (s₁.setTop (mkF m 21 #[.val (.ref t), .val (.ref u), .val (.int (2 : Int32))] [(.int x2), (.int x2)])) (fun tq kq => X0.baloadBytes hx (j := (2 : Int32)) (v := (.int x2)) (by rw [e0]; exact q11a.1) (State.isArrayOf_alike hZ.alike q11a.2.1) q11a.2.2 (inb_of q11c ⟨by decide, by decide⟩) (q11e.at (inb_of q11c ⟨by decide, by decide⟩) rfl) (g := (mkF m 20 #[.val (.ref t), .val (.ref u), .val (.int (2 : Int32))] [(.int (2 : Int32)), (.ref u), (.int x2)])) rfl rfl (hb hby own_d28_20) tq kq) ?_
  refine own_st (s₁.setTop (mkF m 26 #[.val (.ref t), .val (.ref u), .val (.int (2 : Int32))] [])) (fun tq kq => XS.icmpYes X0.here hx rfl (pc0 := 21) (pc' := 26) rfl (hb hby own_d28_21) rfl (teq (rfl : x2 = x2)).1 (by decide) (by decide) kq) ?_
  refine own_st (s₁.setTop (mkF m 29 #[.val (.ref t), .val (.ref u), .val (.int (3 : Int32))] [])) (fun tq kq => XS.iinc X0.here hx rfl (hb hby own_d28_26) rfl (l' := #[.val (.ref t), .val (.ref u), .val (.int (3 : Int32))]) rfl kq) ?_
  refine own_st (s₁.setTop (mkF m 9 #[.val (.ref t), .val (.ref u), .val (.int (3 : Int32))] [])) (fun tq kq => XS.goto X0.here hx rfl (pc0 := 29) (pc' := 9) rfl (hb hby own_d28_29) (by decide) (by decide) kq) ?_
  refine own_st (s₁.setTop (mkF m 10 #[.val (.ref t), .val (.ref u), .val (.int (3 : Int32))] [(.int (3 : Int32))])) (fun tq kq => XS.iloadN X0.here hx rfl (hb hby own_d28_9) rfl kq) ?_
  refine own_st (s₁.setTop (mkF m 11 #[.val (.ref t), .val (.ref u), .val (.int (3 : Int32))] [(.ref t), (.int (3 : Int32))])) (fun tq kq => XS.aloadN X0.here hx rfl (hb hby own_d28_10) rfl (by rfl) kq) ?_
  obtain ⟨cl12, q12a, q12b, q12c, q12d, q12e, q12f⟩ := id Atx
  refine own_st (s₁.setTop (mkF m 12 #[.val (.ref t), .val (.ref u), .val (.int (3 : Int32))] [(.int (5 : Int32)), (.int (3 : Int32))])) (fun tq kq => X0.arraylength hx (by rw [e0]; exact q12a.1) (State.isArrayOf_alike hZ.alike q12a.2.1) (g := (mkF m 11 #[.val (.ref t), .val (.ref u), .val (.int (3 : Int32))] [(.ref t), (.int (3 : Int32))])) rfl rfl (hb hby own_d28_11) tq (by rw [len_of q12c q12d]; exact kq)) ?_
  refine own_st (s₁.setTop (mkF m 15 #[.val (.ref t), .val (.ref u), .val (.int (3 : Int32))] [])) (fun tq kq => XS.icmpNo X0.here hx rfl (hb hby own_d28_12) rfl (tlt ((by decide) : (3 : Int32) < (5 : Int32))).2.1 kq) ?_
  refine own_st (s₁.setTop (mkF m 16 #[.val (.ref t), .val (.ref u), .val (.int (3 : Int32))] [(.ref t)])) (fun tq kq => XS.aloadN X0.here hx rfl (hb hby own_d28_15) rfl (by rfl) kq) ?_
  refine own_st (s₁.setTop (mkF m 17 #[.val (.ref t), .val (.ref u), .val (.int (3 : Int32))] [(.int (3 : Int32)), (.ref t)])) (fun tq kq => XS.iloadN X0.here hx rfl (hb hby own_d28_16) rfl kq) ?_
  obtain ⟨cl13, q13a, q13b, q13c, q13d, q13e, q13f⟩ := id Atx
  refine own_st (s₁.setTop (mkF m 18 #[.val (.ref t), .val (.ref u), .val (.int (3 : Int32))] [(.int x3)])) (fun tq kq => X0.baloadBytes hx (j := (3 : Int32)) (v := (.int x3)) (by rw [e0]; exact q13a.1) (State.isArrayOf_alike hZ.alike q13a.2.1) q13a.2.2 (inb_of q13c ⟨by decide, by decide⟩) (q13e.at (inb_of q13c ⟨by decide, by decide⟩) rfl) (g := (mkF m 17 #[.val (.ref t), .val (.ref u), .val (.int (3 : Int32))] [(.int (3 : Int32)), (.ref t)])) rfl rfl (hb hby own_d28_17) tq kq) ?_
  refine own_st (s₁.setTop (mkF m 19 #[.val (.ref t), .val (.ref u), .val (.int (3 : Int32))] [(.ref u), (.int x3)])) (fun tq kq => XS.aloadN X0.here hx rfl (hb hby own_d28_18) rfl (by rfl) kq) ?_
  refine own_st (s₁.setTop (mkF m 20 #[.val (.ref t), .val (.ref u), .val (.int (3 : Int32))] [(.int (3 : Int32)), (.ref u), (.int x3)])) (fun tq kq => XS.iloadN X0.here hx rfl (hb hby own_d28_19) rfl kq) ?_
  obtain ⟨cl14, q14a, q14b, q14c, q14d, q14e, q14f⟩ := id Au
  refine own_st (s₁.setTop (mkF m 21 #[.val (.ref t), .val (.ref u), .val (.int (3 : Int32))] [(.int x3), (.int x3)])) (fun tq kq => X0.baloadBytes hx (j := (3 : Int32)) (v := (.int x3)) (by rw [e0]; exact q14a.1) (State.isArrayOf_alike hZ.alike q14a.2.1) q14a.2.2 (inb_of q14c ⟨by decide, by decide⟩) (q14e.at (inb_of q14c ⟨by decide, by decide⟩) rfl) (g := (mkF m 20 #[.val (.ref t), .val (.ref u), .val (.int (3 : Int32))] [(.int (3 : Int32)), (.ref u), (.int x3)])) rfl rfl (hb hby own_d28_20) tq kq) ?_
  refine own_st (s₁.setTop (mkF m 26 #[.val (.ref t), .val (.ref u), .val (.int (3 : Int32))] [])) (fun tq kq => XS.icmpYes X0.here hx rfl (pc0 := 21) (pc' := 26) rfl (hb hby own_d28_21) rfl (teq (rfl : x3 = x3)).1 (by decide) (by decide) kq) ?_
  refine own_st (s₁.setTop (mkF m 29 #[.val (.ref t), .val (.ref u), .val (.int (4 : Int32))] [])) (fun tq kq => XS.iinc X0.here hx rfl (hb hby own_d28_26) rfl (l' := #[.val (.ref t), .val (.ref u), .val (.int (4 : Int32))]) rfl kq) ?_
  refine own_st (s₁.setTop (mkF m 9 #[.val (.ref t), .val (.ref u), .val (.int (4 : Int32))] [])) (fun tq kq => XS.goto X0.here hx rfl (pc0 := 29) (pc' := 9) rfl (hb hby own_d28_29) (by decide) (by decide) kq) ?_
  refine own_st (s₁.setTop (mkF m 10 #[.val (.ref t), .val (.ref u), .val (.int (4 : Int32))] [(.int (4 : Int32))])) (fun tq kq => XS.iloadN X0.here hx rfl (hb hby own_d28_9) rfl kq) ?_
  refine own_st (s₁.setTop (mkF m 11 #[.val (.ref t), .val (.ref u), .val (.int (4 : Int32))] [(.ref t), (.int (4 : Int32))])) (fun tq kq => XS.aloadN X0.here hx rfl (hb hby own_d28_10) rfl (by rfl) kq) ?_
  obtain ⟨cl15, q15a, q15b, q15c, q15d, q15e, q15f⟩ := id Atx
  refine own_st (s₁.setTop (mkF m 12 #[.val (.ref t), .val (.ref u), .val (.int (4 : Int32))] [(.int (5 : Int32)), (.int (4 : Int32))])) (fun tq kq => X0.arraylength hx (by rw [e0]; exact q15a.1) (State.isArrayOf_alike hZ.alike q15a.2.1) (g := (mkF m 11 #[.val (.ref t), .val (.ref u), .val (.int (4 : Int32))] [(.ref t), (.int (4 : Int32))])) rfl rfl (hb hby own_d28_11) tq (by rw [len_of q15c q15d]; exact kq)) ?_
  refine own_st (s₁.setTop (mkF m 15 #[.val (.ref t), .val (.ref u), .val (.int (4 : Int32))] [])) (fun tq kq => XS.icmpNo X0.here hx rfl (hb hby own_d28_12) rfl (tlt ((by decide) : (4 : Int32) < (5 : Int32))).2.1 kq) ?_
  refine own_st (s₁.setTop (mkF m 16 #[.val (.ref t), .val (.ref u), .val (.int (4 : Int32))] [(.ref t)])) (fun tq kq => XS.aloadN X0.here hx rfl (hb hby own_d28_15) rfl (by rfl) kq) ?_
  refine own_st (s₁.setTop (mkF m 17 #[.val (.ref t), .val (.ref u), .val (.int (4 : Int32))] [(.int (4 : Int32)), (.ref t)])) (fun tq kq => XS.iloadN X0.here hx rfl (hb hby own_d28_16) rfl kq) ?_
  obtain ⟨cl16, q16a, q16b, q16c, q16d, q16e, q16f⟩ := id Atx
  refine own_st (s₁.setTop (mkF m 18 #[.val (.ref t), .val (.ref u), .val (.int (4 : Int32))] [(.int x4)])) (fun tq kq => X0.baloadBytes hx (j := (4 : Int32)) (v := (.int x4)) (by rw [e0]; exact q16a.1) (State.isArrayOf_alike hZ.alike q16a.2.1) q16a.2.2 (inb_of q16c ⟨by decide, by decide⟩) (q16e.at (inb_of q16c ⟨by decide, by decide⟩) rfl) (g := (mkF m 17 #[.val (.ref t), .val (.ref u), .val (.int (4 : Int32))] [(.int (4 : Int32)), (.ref t)])) rfl rfl (hb hby own_d28_17) tq kq) ?_
  refine own_st (s₁.setTop (mkF m 19 #[.val (.ref t), .val (.ref u), .val (.int (4 : Int32))] [(.ref u), (.int x4)])) (fun tq kq => XS.aloadN X0.here hx rfl (hb hby own_d28_18) rfl (by rfl) kq) ?_
  refine own_st (s₁.setTop (mkF m 20 #[.val (.ref t), .val (.ref u), .val (.int (4 : Int32))] [(.int (4 : Int32)), (.ref u), (.int x4)])) (fun tq kq => XS.iloadN X0.here hx rfl (hb hby own_d28_19) rfl kq) ?_
  obtain ⟨cl17, q17a, q17b, q17c, q17d, q17e, q17f⟩ := id Au
  refine own_st (s₁.setTop (mkF m 21 #[.val (.ref t), .val (.ref u), .val (.int (4 : Int32))] [(.int x4), (.int x4)])) (fun tq kq => X0.baloadBytes hx (j := (4 : Int32)) (v := (.int x4)) (by rw [e0]; exact q17a.1) (State.isArrayOf_alike hZ.alike q17a.2.1) q17a.2.2 (inb_of q17c ⟨by decide, by decide⟩) (q17e.at (inb_of q17c ⟨by decide, by decide⟩) rfl) (g := (mkF m 20 #[.val (.ref t), .val (.ref u), .val (.int (4 : Int32))] [(.int (4 : Int32)), (.ref u), (.int x4)])) rfl rfl (hb hby own_d28_20) tq kq) ?_
  refine own_st (s₁.setTop (mkF m 26 #[.val (.ref t), .val (.ref u), .val (.int (4 : Int32))] [])) (fun tq kq => XS.icmpYes X0.here hx rfl (pc0 := 21) (pc' := 26) rfl (hb hby own_d28_21) rfl (teq (rfl : x4 = x4)).1 (by decide) (by decide) kq) ?_
  refine own_st (s₁.setTop (mkF m 29 #[.val (.ref t), .val (.ref u), .val (.int (5 : Int32))] [])) (fun tq kq => XS.iinc X0.here hx rfl (hb hby own_d28_26) rfl (l' := #[.val (.ref t), .val (.ref u), .val (.int (5 : Int32))]) rfl kq) ?_
  refine own_st (s₁.setTop (mkF m 9 #[.val (.ref t), .val (.ref u), .val (.int (5 : Int32))] [])) (fun tq kq => XS.goto X0.here hx rfl (pc0 := 29) (pc' := 9) rfl (hb hby own_d28_29) (by decide) (by decide) kq) ?_
  refine own_st (s₁.setTop (mkF m 10 #[.val (.ref t), .val (.ref u), .val (.int (5 : Int32))] [(.int (5 : Int32))])) (fun tq kq => XS.iloadN X0.here hx rfl (hb hby own_d28_9) rfl kq) ?_
  refine own_st (s₁.setTop (mkF m 11 #[.val (.ref t), .val (.ref u), .val (.int (5 : Int32))] [(.ref t), (.int (5 : Int32))])) (fun tq kq => XS.aloadN X0.here hx rfl (hb hby own_d28_10) rfl (by rfl) kq) ?_
  obtain ⟨cl18, q18a, q18b, q18c, q18d, q18e, q18f⟩ := id Atx
  refine own_st (s₁.setTop (mkF m 12 #[.val (.ref t), .val (.ref u), .val (.int (5 : Int32))] [(.int (5 : Int32)), (.int (5 : Int32))])) (fun tq kq => X0.arraylength hx (by rw [e0]; exact q18a.1) (State.isArrayOf_alike hZ.alike q18a.2.1) (g := (mkF m 11 #[.val (.ref t), .val (.ref u), .val (.int (5 : Int32))] [(.ref t), (.int (5 : Int32))])) rfl rfl (hb hby own_d28_11) tq (by rw [len_of q18c q18d]; exact kq)) ?_
  refine own_st (s₁.setTop (mkF m 32 #[.val (.ref t), .val (.ref u), .val (.int (5 : Int32))] [])) (fun tq kq => XS.icmpYes X0.here hx rfl (pc0 := 12) (pc' := 32) rfl (hb hby own_d28_12) rfl (flt ((by decide) : ¬ ((5 : Int32) < (5 : Int32)))).2.1 (by decide) (by decide) kq) ?_
  refine own_st (s₁.setTop (mkF m 33 #[.val (.ref t), .val (.ref u), .val (.int (5 : Int32))] [(.int (1 : Int32))])) (fun tq kq => XS.iconst X0.here hx rfl (hb hby own_d28_32) kq) ?_
  exact own_ret X0 hlk (v := some (.int (1 : Int32))) (fun h => by rw [hret] at h; cases h) e0 (⟨rfl, (Fr.nil _), rfl⟩) (by decide) (by decide) (fun fs hr => own_retN X0 hx (t := .boolean) hret (by simp) (hb hby own_d28_33) rfl hr)
set_option maxRecDepth 65536 in
set_option maxHeartbeats 40000000 in
theorem own_seq_5 (l : Launch) (Z : State) (a0 : Array Value) (hw : ∀ d ∈ tables_1, d.before a0 Z = true) (ws : List Jvm.Cond) (cz : Int32) (a t b u : Addr) (kt ku : ClassId) (x0 x1 x2 x3 x4 : Int32) (h0 : Heap) (O0 : Old Z Z.heap.size h0) (SC : Sta Z Z.heap "java/lang/String" "COMPACT_STRINGS" "Z" (.int cz)) (hcz : ¬ (cz = (0 : Int32))) (Ea : Exa Z h0 a "java/lang/String") (Va : Fld Z h0 a "java/lang/String" "value" "[B" (.ref t)) (Ca : Fld Z h0 a "java/lang/String" "coder" "B" (.int (0 : Int32))) (Aa : Arv Z h0 t kt .byte (5 : Int32) [(.int x0), (.int x1), (.int x2), (.int x3), (.int x4)] (.int (0 : Int32))) (Eb : Exa Z h0 b "java/lang/String") (Vb : Fld Z h0 b "java/lang/String" "value" "[B" (.ref u)) (Cb : Fld Z h0 b "java/lang/String" "coder" "B" (.int (0 : Int32))) (Ab : Arv Z h0 u ku .byte (5 : Int32) [(.int x0), (.int x1), (.int x2), (.int x3), (.int x4)] (.int (0 : Int32))) :
    ownMet l (⟨"java/lang/String", "equals", "(Ljava/lang/Object;)Z"⟩ : MethodName) jdk_42_method_66_code 3 (some .boolean) ws ({ frames := 1, cells := 0, slots := 0, locals := 14 } : Room) Z #[(.ref a), (.ref b)] h0 (fun v h L => v = some (.int (1 : Int32)) ∧ Fr Z.heap.size L ∧ h = h0) := by
  refine own_met (plainFor_of_name own_pn_java_lang_String) ?_
  intro p e s m below meth c s₁ hx hby hml hown hnm hret hlk hZ e0 X0
  refine own_cast (show _ = (mkF m 0 #[.val (.ref a), .val (.ref b), .unset] []) by first | (simp [entryFrame, mkF, argsToLocals, Value.category]; done) | rfl) ?_
  refine own_st (s₁.setTop (mkF m 1 #[.val (.ref a), .val (.ref b), .unset] [(.ref a)])) (fun tq kq => XS.aloadN X0.here hx rfl (hb hby own_d27_0) rfl (by rfl) kq) ?_
  refine own_st (s₁.setTop (mkF m 2 #[.val (.ref a), .val (.ref b), .unset] [(.ref b), (.ref a)])) (fun tq kq => XS.aloadN X0.here hx rfl (hb hby own_d27_1) rfl (by rfl) kq) ?_
  by_cases c2_1 : a = b
  · skip
    refine own_st (s₁.setTop (mkF m 5 #[.val (.ref a), .val (.ref b), .unset] [])) (fun tq kq => Jvm.RoadKit.acmp (g := (mkF m 2 #[.val (.ref a), .val (.ref b), .unset] [(.ref b), (.ref a)])) X0 hx rfl (by rfl) (by rfl) (pc0 := 2) (pc' := 5) (same := true) rfl (hb hby own_d27_2) rfl (decide_eq_true (congrArg Value.ref (c2_1 : a = b))) (by decide) (by decide) kq) ?_
    refine own_st (s₁.setTop (mkF m 6 #[.val (.ref a), .val (.ref b), .unset] [(.int (1 : Int32))])) (fun tq kq => XS.iconst X0.here hx rfl (hb hby own_d27_5) kq) ?_
    exact own_ret X0 hlk (v := some (.int (1 : Int32))) (fun h => by rw [hret] at h; cases h) e0 (⟨rfl, (Fr.nil _), rfl⟩) (by decide) (by decide) (fun fs hr => own_retN X0 hx (t := .boolean) hret (by simp) (hb hby own_d27_6) rfl hr)
  · skip
    refine own_st (s₁.setTop (mkF m 7 #[.val (.ref a), .val (.ref b), .unset] [])) (fun tq kq => Jvm.RoadKit.acmp (g := (mkF m 2 #[.val (.ref a), .val (.ref b), .unset] [(.ref b), (.ref a)])) X0 hx rfl (by rfl) (by rfl) (pc0 := 2) (pc' := 7) (same := false) rfl (hb hby own_d27_2) rfl (decide_eq_false (fun q => (c2_1 : ¬ (a = b)) (Value.ref.inj q))) (by decide) (by decide) kq) ?_
    refine own_st (s₁.setTop (mkF m 8 #[.val (.ref a), .val (.ref b), .unset] [(.ref b)])) (fun tq kq => XS.aloadN X0.here hx rfl (hb hby own_d27_7) rfl (by rfl) kq) ?_
    obtain ⟨T2, X2, e2, st2⟩ := instY X0 hx hZ hown (hw _ (List.mem_of_getElem? (i := 162) rfl)) e0 (Ins.self Eb) (g := (mkF m 8 #[.val (.ref a), .val (.ref b), .unset] [(.ref b)])) rfl rfl (hb hby own_d27_8)
    refine own_st (T2.setTop (mkF m 11 #[.val (.ref a), .val (.ref b), .unset] [(.int (1 : Int32))])) st2 ?_
    refine own_st (T2.setTop (mkF m 14 #[.val (.ref a), .val (.ref b), .unset] [])) (fun tq kq => XS.ifNo X2.here hx rfl (hb hby own_d27_11) rfl ((if0 _ _).trans (feq ((by decide) : ¬ ((1 : Int32) = (0 : Int32)))).1) kq) ?_
    refine own_st (T2.setTop (mkF m 15 #[.val (.ref a), .val (.ref b), .unset] [(.ref b)])) (fun tq kq => XS.aloadN X2.here hx rfl (hb hby own_d27_14) rfl (by rfl) kq) ?_
    obtain ⟨T3, X3, e3, st3⟩ := castY X2 hx hZ hown (hw _ (List.mem_of_getElem? (i := 162) rfl)) e2 (Ins.self Eb) (g := (mkF m 15 #[.val (.ref a), .val (.ref b), .unset] [(.ref b)])) rfl rfl (hb hby own_d27_15)
    refine own_st (T3.setTop (mkF m 18 #[.val (.ref a), .val (.ref b), .unset] [(.ref b)])) st3 ?_
    refine own_st (T3.setTop (mkF m 19 #[.val (.ref a), .val (.ref b), .val (.ref b)] [])) (fun tq kq => XS.astoreN X3.here hx rfl (hb hby own_d27_18) rfl (by rfl) (l' := #[.val (.ref a), .val (.ref b), .val (.ref b)]) rfl kq) ?_
    obtain ⟨T4, X4, e4, st4⟩ := getS2 X3 hx hZ hown (host := "") (Or.inl (hw _ (List.mem_of_getElem? (i := 81) rfl))) Via.refl e3 (SC.ext O0.2) (g := (mkF m 19 #[.val (.ref a), .val (.ref b), .val (.ref b)] [])) rfl (hb hby own_d27_19)
    refine own_st (T4.setTop (mkF m 22 #[.val (.ref a), .val (.ref b), .val (.ref b)] [(.int cz)])) st4 ?_
    refine own_st (T4.setTop (mkF m 25 #[.val (.ref a), .val (.ref b), .val (.ref b)] [])) (fun tq kq => XS.ifNo X4.here hx rfl (hb hby own_d27_22) rfl ((if0 _ _).trans (feq (hcz : ¬ (cz = (0 : Int32)))).1) kq) ?_
    refine own_st (T4.setTop (mkF m 26 #[.val (.ref a), .val (.ref b), .val (.ref b)] [(.ref a)])) (fun tq kq => XS.aloadN X4.here hx rfl (hb hby own_d27_25) rfl (by rfl) kq) ?_
    obtain ⟨T5, X5, e5, st5⟩ := getF X4 hx hZ hown (host := "") (Or.inl (hw _ (List.mem_of_getElem? (i := 82) rfl))) Via.refl e4 Ca (g := (mkF m 26 #[.val (.ref a), .val (.ref b), .val (.ref b)] [(.ref a)])) rfl rfl (hb hby own_d27_26)
    refine own_st (T5.setTop (mkF m 29 #[.val (.ref a), .val (.ref b), .val (.ref b)] [(.int (0 : Int32))])) st5 ?_
    refine own_st (T5.setTop (mkF m 30 #[.val (.ref a), .val (.ref b), .val (.ref b)] [(.ref b), (.int (0 : Int32))])) (fun tq kq => XS.aloadN X5.here hx rfl (hb hby own_d27_29) rfl (by rfl) kq) ?_
    obtain ⟨T6, X6, e6, st6⟩ := getF X5 hx hZ hown (host := "") (Or.inl (hw _ (List.mem_of_getElem? (i := 82) rfl))) Via.refl e5 Cb (g := (mkF m 30 #[.val (.ref a), .val (.ref b), .val (.ref b)] [(.ref b), (.int (0 : Int32))])) rfl rfl (hb hby own_d27_30)
    refine own_st (T6.setTop (mkF m 33 #[.val (.ref a), .val (.ref b), .val (.ref b)] [(.int (0 : Int32)), (.int (0 : Int32))])) st6 ?_
    refine own_st (T6.setTop (mkF m 36 #[.val (.ref a), .val (.ref b), .val (.ref b)] [])) (fun tq kq => XS.icmpNo X6.here hx rfl (hb hby own_d27_33) rfl (teq ((by decide) : (0 : Int32) = (0 : Int32))).2 kq) ?_
    refine own_st (T6.setTop (mkF m 37 #[.val (.ref a), .val (.ref b), .val (.ref b)] [(.ref a)])) (fun tq kq => XS.aloadN X6.here hx rfl (hb hby own_d27_36) rfl (by rfl) kq) ?_
    obtain ⟨T7, X7, e7, st7⟩ := getF X6 hx hZ hown (host := "") (Or.inl (hw _ (List.mem_of_getElem? (i := 75) rfl))) Via.refl e6 Va (g := (mkF m 37 #[.val (.ref a), .val (.ref b), .val (.ref b)] [(.ref a)])) rfl rfl (hb hby own_d27_37)
    refine own_st (T7.setTop (mkF m 40 #[.val (.ref a), .val (.ref b), .val (.ref b)] [(.ref t)])) st7 ?_
    refine own_st (T7.setTop (mkF m 41 #[.val (.ref a), .val (.ref b), .val (.ref b)] [(.ref b), (.ref t)])) (fun tq kq => XS.aloadN X7.here hx rfl (hb hby own_d27_40) rfl (by rfl) kq) ?_
    obtain ⟨T8, X8, e8, st8⟩ := getF X7 hx hZ hown (host := "") (Or.inl (hw _ (List.mem_of_getElem? (i := 75) rfl))) Via.refl e7 Vb (g := (mkF m 41 #[.val (.ref a), .val (.ref b), .val (.ref b)] [(.ref b), (.ref t)])) rfl rfl (hb hby own_d27_41)
    refine own_st (T8.setTop (mkF m 44 #[.val (.ref a), .val (.ref b), .val (.ref b)] [(.ref u), (.ref t)])) st8 ?_
    obtain ⟨v9, T9, L9, X9, q9, st9⟩ := own_callS X8 hx hZ hown (hw _ (List.mem_of_getElem? (i := 163) rfl)) (hw _ (List.mem_of_getElem? (i := 164) rfl)) (hw _ (List.mem_of_getElem? (i := 165) rfl)) (hw _ (List.mem_of_getElem? (i := 166) rfl)) (argsL := [(.ref t), (.ref u)]) (own_leq_5 l Z a0 hw [] t u kt ku x0 x1 x2 x3 x4 h0 O0 Aa Ab) 0 (by decide) (by decide) (by decide) (by decide) (by decide) e8 (g := (mkF m 44 #[.val (.ref a), .val (.ref b), .val (.ref b)] [(.ref u), (.ref t)])) rfl (by rw [hml]; rfl) [] (lenOf own_pd__28_5bB_5bB_29Z rfl) rfl (by show 2 * 0 + _ ≤ _; exact Nat.le_of_eq rfl) (hb hby own_d27_44)
    obtain ⟨rfl, N9q, e9⟩ := q9
    have N9 := Fr.app (Fr.nil _) N9q
    refine own_st (T9.setTop (mkF m 47 #[.val (.ref a), .val (.ref b), .val (.ref b)] [(.int (1 : Int32))])) st9 ?_
    refine own_st (T9.setTop (mkF m 50 #[.val (.ref a), .val (.ref b), .val (.ref b)] [])) (fun tq kq => XS.ifNo X9.here hx rfl (hb hby own_d27_47) rfl ((if0 _ _).trans (feq ((by decide) : ¬ ((1 : Int32) = (0 : Int32)))).1) kq) ?_
    refine own_st (T9.setTop (mkF m 51 #[.val (.ref a), .val (.ref b), .val (.ref b)] [(.int (1 : Int32))])) (fun tq kq => XS.iconst X9.here hx rfl (hb hby own_d27_50) kq) ?_
    refine own_st (T9.setTop (mkF m 55 #[.val (.ref a), .val (.ref b), .val (.ref b)] [(.int (1 : Int32))])) (fun tq kq => XS.goto X9.here hx rfl (pc0 := 51) (pc' := 55) rfl (hb hby own_d27_51) (by decide) (by decide) kq) ?_
    exact own_ret X9 hlk (v := some (.int (1 : Int32))) (fun h => by rw [hret] at h; cases h) e9 (⟨rfl, N9, rfl⟩) (by decide) (by decide) (fun fs hr => own_retN X9 hx (t := .boolean) hret (by simp) (hb hby own_d27_55) rfl hr)
theorem own_pd__28Z_29Lcom_2fexample_2frising_block_2frisingblock_2fio_2fYamlNode_3b : parseMethodDescriptor "(Z)Lcom/example/rising_block/risingblock/io/YamlNode;" = some ⟨[.boolean], some (.object "com/example/rising_block/risingblock/io/YamlNode")⟩ := by decide +kernel
theorem own_pd__28Ljava_2flang_2fObject_3b_29Z : parseMethodDescriptor "(Ljava/lang/Object;)Z" = some ⟨[(.object "java/lang/Object")], some .boolean⟩ := by decide +kernel
theorem own_pn_com_example_rising_block_risingblock_io_YamlNodeTruthPinLaw : plainName "com/example/rising_block/risingblock/io/YamlNodeTruthPinLaw" = true := by first | (simp [plainName, overriddenIn]; done) | decide +kernel
set_option maxRecDepth 65536 in
set_option maxHeartbeats 40000000 in
theorem own_law (l : Launch) (Z : State) (a0 : Array Value) (hw : ∀ d ∈ tables_1, d.before a0 Z = true) (ws : List Jvm.Cond) (cz : Int32) (flag : Int32) (wt wf k0 k1 k2 k3 k4 st_ sf_ bt bf : Addr) (kkt kkf : ClassId) (h0 : Heap) (O0 : Old Z Z.heap.size h0) (SC : Sta Z Z.heap "java/lang/String" "COMPACT_STRINGS" "Z" (.int cz)) (hcz : ¬ (cz = (0 : Int32))) (ST : Sta Z Z.heap "com/example/rising_block/risingblock/io/YamlNode" "TRUE" "Lcom/example/rising_block/risingblock/io/YamlNode;" (.ref wt)) (SF : Sta Z Z.heap "com/example/rising_block/risingblock/io/YamlNode" "FALSE" "Lcom/example/rising_block/risingblock/io/YamlNode;" (.ref wf)) (SK0 : Sta Z Z.heap "com/example/rising_block/risingblock/io/YamlNode$Kind" "BOOLEAN" "Lcom/example/rising_block/risingblock/io/YamlNode$Kind;" (.ref k0)) (SK1 : Sta Z Z.heap "com/example/rising_block/risingblock/io/YamlNode$Kind" "MAPPING" "Lcom/example/rising_block/risingblock/io/YamlNode$Kind;" (.ref k1)) (SK2 : Sta Z Z.heap "com/example/rising_block/risingblock/io/YamlNode$Kind" "SEQUENCE" "Lcom/example/rising_block/risingblock/io/YamlNode$Kind;" (.ref k2)) (SK3 : Sta Z Z.heap "com/example/rising_block/risingblock/io/YamlNode$Kind" "TEXT" "Lcom/example/rising_block/risingblock/io/YamlNode$Kind;" (.ref k3)) (SK4 : Sta Z Z.heap "com/example/rising_block/risingblock/io/YamlNode$Kind" "NUMBER" "Lcom/example/rising_block/risingblock/io/YamlNode$Kind;" (.ref k4)) (KE : Exa Z Z.heap k0 "com/example/rising_block/risingblock/io/YamlNode$Kind") (KO : Fld Z Z.heap k0 "java/lang/Enum" "ordinal" "I" (.int (4 : Int32))) (nk1 : k0 ≠ k1) (nk2 : k0 ≠ k2) (nk3 : k0 ≠ k3) (nk4 : k0 ≠ k4) (tNE : Exa Z Z.heap wt "com/example/rising_block/risingblock/io/YamlNode") (tNK : Fld Z Z.heap wt "com/example/rising_block/risingblock/io/YamlNode" "kind" "Lcom/example/rising_block/risingblock/io/YamlNode$Kind;" (.ref k0)) (tNT : Fld Z Z.heap wt "com/example/rising_block/risingblock/io/YamlNode" "text" "Ljava/lang/String;" (.ref st_)) (tE : Exa Z Z.heap st_ "java/lang/String") (tV : Fld Z Z.heap st_ "java/lang/String" "value" "[B" (.ref bt)) (tC : Fld Z Z.heap st_ "java/lang/String" "coder" "B" (.int (0 : Int32))) (tA : Arv Z Z.heap bt kkt .byte (4 : Int32) [(.int (116 : Int32)), (.int (114 : Int32)), (.int (117 : Int32)), (.int (101 : Int32))] (.int (0 : Int32))) (tFK : Fld Z Z.heap wt "com/example/rising_block/risingblock/io/YamlNode" "keyed" "Ljava/util/Map;" .null) (tFE : Fld Z Z.heap wt "com/example/rising_block/risingblock/io/YamlNode" "elements" "Ljava/util/List;" .null) (fNE : Exa Z Z.heap wf "com/example/rising_block/risingblock/io/YamlNode") (fNK : Fld Z Z.heap wf "com/example/rising_block/risingblock/io/YamlNode" "kind" "Lcom/example/rising_block/risingblock/io/YamlNode$Kind;" (.ref k0)) (fNT : Fld Z Z.heap wf "com/example/rising_block/risingblock/io/YamlNode" "text" "Ljava/lang/String;" (.ref sf_)) (fE : Exa Z Z.heap sf_ "java/lang/String") (fV : Fld Z Z.heap sf_ "java/lang/String" "value" "[B" (.ref bf)) (fC : Fld Z Z.heap sf_ "java/lang/String" "coder" "B" (.int (0 : Int32))) (fA : Arv Z Z.heap bf kkf .byte (5 : Int32) [(.int (102 : Int32)), (.int (97 : Int32)), (.int (108 : Int32)), (.int (115 : Int32)), (.int (101 : Int32))] (.int (0 : Int32))) (fFK : Fld Z Z.heap wf "com/example/rising_block/risingblock/io/YamlNode" "keyed" "Ljava/util/Map;" .null) (fFE : Fld Z Z.heap wf "com/example/rising_block/risingblock/io/YamlNode" "elements" "Ljava/util/List;" .null) (ntf : wt ≠ wf) :
    ownMetW l x code maxLocals ret ws room_1 Z own_EL [] #[(.int flag)] h0 (fun v vm h L => v = some (.int 1) ∧ Fr Z.heap.size L) := by
  have hEL := own_hEL hw
  refine own_metW (plainFor_of_name own_pn_com_example_rising_block_risingblock_io_YamlNodeTruthPinLaw) ?_
  intro p e s m below meth c s₁ hx hby hml hown hnm hret hlk hZ e0 X0 hS0 R0 hsf
  refine own_cast (show _ = (mkF m 0 #[.val (.int flag), .unset, .unset, .unset, .unset, .unset, .unset, .unset, .unset, .unset] []) by first | (simp [entryFrame, mkF, argsToLocals, Value.category, maxLocals]; done) | rfl) ?_
  refine own_st (s₁.setTop (mkF m 1 #[.val (.int flag), .unset, .unset, .unset, .unset, .unset, .unset, .unset, .unset, .unset] [(.int flag)])) (fun tq kq => XS.iloadN X0.here hx rfl (hb hby at_0) rfl kq) ?_
  refine own_st (s₁.setTop (mkF m 2 #[.val (.int flag), .unset, .unset, .unset, .unset, .unset, .unset, .unset, .unset, .unset] [(.int (1 : Int32)), (.int flag)])) (fun tq kq => XS.iconst X0.here hx rfl (hb hby at_1) kq) ?_
  refine own_st (s₁.setTop (mkF m 3 #[.val (.int flag), .unset, .unset, .unset, .unset, .unset, .unset, .unset, .unset, .unset] [(.int (flag &&& (1 : Int32)))])) (fun tq kq => XS.iand X0.here hx rfl (hb hby at_2) rfl kq) ?_
  by_cases c3_1 : (flag &&& (1 : Int32)) = (0 : Int32)
  · skip
    refine own_st (s₁.setTop (mkF m 10 #[.val (.int flag), .unset, .unset, .unset, .unset, .unset, .unset, .unset, .unset, .unset] [])) (fun tq kq => XS.ifYes X0.here hx rfl (pc0 := 3) (pc' := 10) rfl (hb hby at_3) rfl ((if0 _ _).trans (teq (c3_1 : (flag &&& (1 : Int32)) = (0 : Int32))).1) (by decide) (by decide) kq) ?_
    refine own_st (s₁.setTop (mkF m 11 #[.val (.int flag), .unset, .unset, .unset, .unset, .unset, .unset, .unset, .unset, .unset] [(.int (0 : Int32))])) (fun tq kq => XS.iconst X0.here hx rfl (hb hby at_10) kq) ?_
    refine own_st (s₁.setTop (mkF m 12 #[.val (.int flag), .val (.int (0 : Int32)), .unset, .unset, .unset, .unset, .unset, .unset, .unset, .unset] [])) (fun tq kq => XS.istoreN X0.here hx rfl (hb hby at_11) rfl (l' := #[.val (.int flag), .val (.int (0 : Int32)), .unset, .unset, .unset, .unset, .unset, .unset, .unset, .unset]) rfl kq) ?_
    refine own_st (s₁.setTop (mkF m 13 #[.val (.int flag), .val (.int (0 : Int32)), .unset, .unset, .unset, .unset, .unset, .unset, .unset, .unset] [(.int (0 : Int32))])) (fun tq kq => XS.iloadN X0.here hx rfl (hb hby at_12) rfl kq) ?_
    obtain ⟨v2, T2, L2, X2, q2, st2⟩ := own_callS X0 hx hZ hown (hw _ (List.mem_of_getElem? (i := 0) rfl)) (hw _ (List.mem_of_getElem? (i := 1) rfl)) (hw _ (List.mem_of_getElem? (i := 2) rfl)) (hw _ (List.mem_of_getElem? (i := 3) rfl)) (argsL := [(.int (0 : Int32))]) (own_truth0 l Z a0 hw [] wt wf h0 O0 ST SF) 0 (by decide) (by decide) (by decide) (by decide) (by decide) e0 (g := (mkF m 13 #[.val (.int flag), .val (.int (0 : Int32)), .unset, .unset, .unset, .unset, .unset, .unset, .unset, .unset] [(.int (0 : Int32))])) rfl (by rw [hml]; rfl) [] (lenOf own_pd__28Z_29Lcom_2fexample_2frising_block_2frisingblock_2fio_2fYamlNode_3b rfl) rfl (by show 2 * 0 + _ ≤ _; exact Nat.le_of_eq rfl) (hb hby at_13)
    obtain ⟨rfl, N2q, e2⟩ := q2
    have N2 := Fr.app (Fr.nil _) N2q
    refine own_st (T2.setTop (mkF m 16 #[.val (.int flag), .val (.int (0 : Int32)), .unset, .unset, .unset, .unset, .unset, .unset, .unset, .unset] [(.ref wf)])) st2 ?_
    refine own_st (T2.setTop (mkF m 17 #[.val (.int flag), .val (.int (0 : Int32)), .val (.ref wf), .unset, .unset, .unset, .unset, .unset, .unset, .unset] [])) (fun tq kq => XS.astoreN X2.here hx rfl (hb hby at_16) rfl (by rfl) (l' := #[.val (.int flag), .val (.int (0 : Int32)), .val (.ref wf), .unset, .unset, .unset, .unset, .unset, .unset, .unset]) rfl kq) ?_
    refine own_st (T2.setTop (mkF m 18 #[.val (.int flag), .val (.int (0 : Int32)), .val (.ref wf), .unset, .unset, .unset, .unset, .unset, .unset, .unset] [(.int (0 : Int32))])) (fun tq kq => XS.iloadN X2.here hx rfl (hb hby at_17) rfl kq) ?_
    obtain ⟨v3, T3, L3, X3, q3, st3⟩ := own_callS X2 hx hZ hown (hw _ (List.mem_of_getElem? (i := 0) rfl)) (hw _ (List.mem_of_getElem? (i := 1) rfl)) (hw _ (List.mem_of_getElem? (i := 2) rfl)) (hw _ (List.mem_of_getElem? (i := 3) rfl)) (argsL := [(.int (0 : Int32))]) (own_truth0 l Z a0 hw [] wt wf h0 O0 ST SF) 0 (by decide) (by decide) (by decide) (by decide) (by decide) e2 (g := (mkF m 18 #[.val (.int flag), .val (.int (0 : Int32)), .val (.ref wf), .unset, .unset, .unset, .unset, .unset, .unset, .unset] [(.int (0 : Int32))])) rfl (by rw [hml]; rfl) [] (lenOf own_pd__28Z_29Lcom_2fexample_2frising_block_2frisingblock_2fio_2fYamlNode_3b rfl) rfl (by show 2 * 0 + _ ≤ _; exact Nat.le_of_eq rfl) (hb hby at_18)
    obtain ⟨rfl, N3q, e3⟩ := q3
    have N3 := Fr.app N2 N3q
    refine own_st (T3.setTop (mkF m 21 #[.val (.int flag), .val (.int (0 : Int32)), .val (.ref wf), .unset, .unset, .unset, .unset, .unset, .unset, .unset] [(.ref wf)])) st3 ?_
    refine own_st (T3.setTop (mkF m 22 #[.val (.int flag), .val (.int (0 : Int32)), .val (.ref wf), .val (.ref wf), .unset, .unset, .unset, .unset, .unset, .unset] [])) (fun tq kq => XS.astoreN X3.here hx rfl (hb hby at_21) rfl (by rfl) (l' := #[.val (.int flag), .val (.int (0 : Int32)), .val (.ref wf), .val (.ref wf), .unset, .unset, .unset, .unset, .unset, .unset]) rfl kq) ?_
    refine own_st (T3.setTop (mkF m 23 #[.val (.int flag), .val (.int (0 : Int32)), .val (.ref wf), .val (.ref wf), .unset, .unset, .unset, .unset, .unset, .unset] [(.int (0 : Int32))])) (fun tq kq => XS.iloadN X3.here hx rfl (hb hby at_22) rfl kq) ?_
    refine own_st (T3.setTop (mkF m 26 #[.val (.int flag), .val (.int (0 : Int32)), .val (.ref wf), .val (.ref wf), .unset, .unset, .unset, .unset, .unset, .unset] [])) (fun tq kq => XS.ifNo X3.here hx rfl (hb hby at_23) rfl ((if0 _ _).trans (teq ((by decide) : (0 : Int32) = (0 : Int32))).2) kq) ?_
    refine own_st (T3.setTop (mkF m 27 #[.val (.int flag), .val (.int (0 : Int32)), .val (.ref wf), .val (.ref wf), .unset, .unset, .unset, .unset, .unset, .unset] [(.int (1 : Int32))])) (fun tq kq => XS.iconst X3.here hx rfl (hb hby at_26) kq) ?_
    refine own_st (T3.setTop (mkF m 31 #[.val (.int flag), .val (.int (0 : Int32)), .val (.ref wf), .val (.ref wf), .unset, .unset, .unset, .unset, .unset, .unset] [(.int (1 : Int32))])) (fun tq kq => XS.goto X3.here hx rfl (pc0 := 27) (pc' := 31) rfl (hb hby at_27) (by decide) (by decide) kq) ?_
    obtain ⟨v4, T4, L4, X4, q4, st4⟩ := own_callS X3 hx hZ hown (hw _ (List.mem_of_getElem? (i := 0) rfl)) (hw _ (List.mem_of_getElem? (i := 1) rfl)) (hw _ (List.mem_of_getElem? (i := 2) rfl)) (hw _ (List.mem_of_getElem? (i := 3) rfl)) (argsL := [(.int (1 : Int32))]) (own_truth1 l Z a0 hw [] wt wf h0 O0 ST SF) 0 (by decide) (by decide) (by decide) (by decide) (by decide) e3 (g := (mkF m 31 #[.val (.int flag), .val (.int (0 : Int32)), .val (.ref wf), .val (.ref wf), .unset, .unset, .unset, .unset, .unset, .unset] [(.int (1 : Int32))])) rfl (by rw [hml]; rfl) [] (lenOf own_pd__28Z_29Lcom_2fexample_2frising_block_2frisingblock_2fio_2fYamlNode_3b rfl) rfl (by show 2 * 0 + _ ≤ _; exact Nat.le_of_eq rfl) (hb hby at_31)
    obtain ⟨rfl, N4q, e4⟩ := q4
    have N4 := Fr.app N3 N4q
    refine own_st (T4.setTop (mkF m 34 #[.val (.int flag), .val (.int (0 : Int32)), .val (.ref wf), .val (.ref wf), .unset, .unset, .unset, .unset, .unset, .unset] [(.ref wt)])) st4 ?_
    refine own_st (T4.setTop (mkF m 36 #[.val (.int flag), .val (.int (0 : Int32)), .val (.ref wf), .val (.ref wf), .val (.ref wt), .unset, .unset, .unset, .unset, .unset] [])) (fun tq kq => XS.astore X4.here hx rfl (hb hby at_34) rfl (by rfl) (l' := #[.val (.int flag), .val (.int (0 : Int32)), .val (.ref wf), .val (.ref wf), .val (.ref wt), .unset, .unset, .unset, .unset, .unset]) rfl kq) ?_
    refine own_st (T4.setTop (mkF m 37 #[.val (.int flag), .val (.int (0 : Int32)), .val (.ref wf), .val (.ref wf), .val (.ref wt), .unset, .unset, .unset, .unset, .unset] [(.int (0 : Int32))])) (fun tq kq => XS.iloadN X4.here hx rfl (hb hby at_36) rfl kq) ?_
    refine own_st (T4.setTop (mkF m 45 #[.val (.int flag), .val (.int (0 : Int32)), .val (.ref wf), .val (.ref wf), .val (.ref wt), .unset, .unset, .unset, .unset, .unset] [])) (fun tq kq => XS.ifYes X4.here hx rfl (pc0 := 37) (pc' := 45) rfl (hb hby at_37) rfl ((if0 _ _).trans (teq ((by decide) : (0 : Int32) = (0 : Int32))).1) (by decide) (by decide) kq) ?_
    obtain ⟨a5, T5, h5, k5, b5, c5, X5, e5, E5, hS5, hk5, hZ5, hown5, EA5, FC5, FV5, AV5, -, -, C5, -, nn5, st5⟩ := ldcCH X4 hx hZ hown (hw _ (List.mem_of_getElem? (i := 8) rfl)) (own_wS hw) e4 hS0 (Nat.zero_le _) hEL (by decide) R0.1 (vs := [(.int (102 : Int32)), (.int (97 : Int32)), (.int (108 : Int32)), (.int (115 : Int32)), (.int (101 : Int32))]) (z := (5 : Int32)) ⟨by decide, by decide⟩ (by decide) (by decide) (g := (mkF m 45 #[.val (.int flag), .val (.int (0 : Int32)), .val (.ref wf), .val (.ref wf), .val (.ref wt), .unset, .unset, .unset, .unset, .unset] [])) rfl (hb hby at_45) (n := 20) (by decide) (by decide) (by decide) (by decide)
    have R5 := R0.trans C5
    have O5 := O0.ext E5
    have K5 := (Keep.refl h0 []).ext E5
    refine own_st (T5.setTop (mkF m 47 #[.val (.int flag), .val (.int (0 : Int32)), .val (.ref wf), .val (.ref wf), .val (.ref wt), .unset, .unset, .unset, .unset, .unset] [(.ref a5)])) st5 ?_
    refine own_st (T5.setTop (mkF m 49 #[.val (.int flag), .val (.int (0 : Int32)), .val (.ref wf), .val (.ref wf), .val (.ref wt), .val (.ref a5), .unset, .unset, .unset, .unset] [])) (fun tq kq => XS.astore X5.here hx rfl (hb hby at_47) rfl (by rfl) (l' := #[.val (.int flag), .val (.int (0 : Int32)), .val (.ref wf), .val (.ref wf), .val (.ref wt), .val (.ref a5), .unset, .unset, .unset, .unset]) rfl kq) ?_
    refine own_st (T5.setTop (mkF m 51 #[.val (.int flag), .val (.int (0 : Int32)), .val (.ref wf), .val (.ref wf), .val (.ref wt), .val (.ref a5), .unset, .unset, .unset, .unset] [(.ref a5)])) (fun tq kq => XS.aload X5.here hx rfl (hb hby at_49) rfl (by rfl) kq) ?_
    refine own_st (T5.setTop (mkF m 52 #[.val (.int flag), .val (.int (0 : Int32)), .val (.ref wf), .val (.ref wf), .val (.ref wt), .val (.ref a5), .unset, .unset, .unset, .unset] [(.ref wf), (.ref a5)])) (fun tq kq => XS.aloadN X5.here hx rfl (hb hby at_51) rfl (by rfl) kq) ?_
    obtain ⟨v6, T6, L6, X6, q6, st6⟩ := own_callV X5 hx hZ5 hown5 (y := (⟨"com/example/rising_block/risingblock/io/YamlNode", "toString", "()Ljava/lang/String;"⟩ : MethodName)) (z := (⟨"com/example/rising_block/risingblock/io/YamlNode", "toString", "()Ljava/lang/String;"⟩ : MethodName)) (hw _ (List.mem_of_getElem? (i := 16) rfl)) (hw _ (List.mem_of_getElem? (i := 17) rfl)) (notFace_of_selects (args := a0) (hw _ (List.mem_of_getElem? (i := 19) rfl))) (hw _ (List.mem_of_getElem? (i := 19) rfl)) (hw _ (List.mem_of_getElem? (i := 18) rfl)) (hw _ (List.mem_of_getElem? (i := 2) rfl)) (hw _ (List.mem_of_getElem? (i := 20) rfl)) (fNE.ext O5.2) (b := wf) (argsL := []) (own_tos5 l Z a0 hw [] cz wf k0 sf_ bf kkf (102 : Int32) (97 : Int32) (108 : Int32) (115 : Int32) (101 : Int32) h5 O5 SC hcz fNE fNK KE KO fNT fE fV fC fA) 1 (by decide) (by decide) (by decide) (by decide) (by decide) e5 (g := (mkF m 52 #[.val (.int flag), .val (.int (0 : Int32)), .val (.ref wf), .val (.ref wf), .val (.ref wt), .val (.ref a5), .unset, .unset, .unset, .unset] [(.ref wf), (.ref a5)])) rfl (by rw [hml]; rfl) [(.ref a5)] (lenOf own_pd__28_29Ljava_2flang_2fString_3b rfl) rfl (by show 2 * 0 + _ ≤ _; exact Nat.le_of_eq rfl) (hb hby at_52)
    obtain ⟨a6, b6, kb6, rfl, N6q, K6q, za6, sa6q, z6, s6q, E6q, fv6, fc6, f6q⟩ := q6
    have N6 := Fr.app N4 N6q
    have nf6a_a5 : a5 ≠ a6 := Nat.ne_of_lt (Nat.lt_of_lt_of_le EA5.lt sa6q)
    have nf6a_b5 : b5 ≠ a6 := Nat.ne_of_lt (Nat.lt_of_lt_of_le AV5.lt sa6q)
    have nf6_a5 : a5 ≠ b6 := Nat.ne_of_lt (Nat.lt_of_lt_of_le EA5.lt s6q)
    have nf6_b5 : b5 ≠ b6 := Nat.ne_of_lt (Nat.lt_of_lt_of_le AV5.lt s6q)
    have s6 : h0.size ≤ b6 := Nat.le_trans K5.1 s6q
    have sa6 : h0.size ≤ a6 := Nat.le_trans K5.1 sa6q
    have f7 := (EA5.keep K6q)
    have f8 := (FC5.keep K6q nin0)
    have f9 := (FV5.keep K6q nin0)
    have f10 := (AV5.keep K6q nin0)
    have O6 := O5.keep K6q all0
    have R6 := R5.trans (CHr.keep K6q all0 R5.1)
    have K6 := K5.trans K6q all0
    refine own_st (T6.setTop (mkF m 55 #[.val (.int flag), .val (.int (0 : Int32)), .val (.ref wf), .val (.ref wf), .val (.ref wt), .val (.ref a5), .unset, .unset, .unset, .unset] [(.ref a6), (.ref a5)])) st6 ?_
    obtain ⟨v11, T11, L11, X11, q11, st11⟩ := own_callV X6 hx hZ5 hown5 (y := (⟨"java/lang/String", "equals", "(Ljava/lang/Object;)Z"⟩ : MethodName)) (z := (⟨"java/lang/String", "equals", "(Ljava/lang/Object;)Z"⟩ : MethodName)) (hw _ (List.mem_of_getElem? (i := 157) rfl)) (hw _ (List.mem_of_getElem? (i := 158) rfl)) (notFace_of_selects (args := a0) (hw _ (List.mem_of_getElem? (i := 160) rfl))) (hw _ (List.mem_of_getElem? (i := 160) rfl)) (hw _ (List.mem_of_getElem? (i := 159) rfl)) (hw _ (List.mem_of_getElem? (i := 9) rfl)) (hw _ (List.mem_of_getElem? (i := 161) rfl)) f7 (b := a5) (argsL := [(.ref a6)]) (own_seq_5 l Z a0 hw [] cz a5 b5 a6 b6 c5 kb6 (102 : Int32) (97 : Int32) (108 : Int32) (115 : Int32) (101 : Int32) T6.heap O6 SC hcz f7 f9 f8 f10 E6q fv6 fc6 f6q) 0 (by decide) (by decide) (by decide) (by decide) (by decide) rfl (g := (mkF m 55 #[.val (.int flag), .val (.int (0 : Int32)), .val (.ref wf), .val (.ref wf), .val (.ref wt), .val (.ref a5), .unset, .unset, .unset, .unset] [(.ref a6), (.ref a5)])) rfl (by rw [hml]; rfl) [] (lenOf own_pd__28Ljava_2flang_2fObject_3b_29Z rfl) rfl (by show 2 * 0 + _ ≤ _; exact Nat.le_of_eq rfl) (hb hby at_55)
    obtain ⟨rfl, N11q, e11⟩ := q11
    have N11 := Fr.app N6 N11q
    refine own_st (T11.setTop (mkF m 58 #[.val (.int flag), .val (.int (0 : Int32)), .val (.ref wf), .val (.ref wf), .val (.ref wt), .val (.ref a5), .unset, .unset, .unset, .unset] [(.int (1 : Int32))])) st11 ?_
    refine own_st (T11.setTop (mkF m 60 #[.val (.int flag), .val (.int (0 : Int32)), .val (.ref wf), .val (.ref wf), .val (.ref wt), .val (.ref a5), .val (.int (1 : Int32)), .unset, .unset, .unset] [])) (fun tq kq => XS.istore X11.here hx rfl (hb hby at_58) rfl (l' := #[.val (.int flag), .val (.int (0 : Int32)), .val (.ref wf), .val (.ref wf), .val (.ref wt), .val (.ref a5), .val (.int (1 : Int32)), .unset, .unset, .unset]) rfl kq) ?_
    refine own_st (T11.setTop (mkF m 61 #[.val (.int flag), .val (.int (0 : Int32)), .val (.ref wf), .val (.ref wf), .val (.ref wt), .val (.ref a5), .val (.int (1 : Int32)), .unset, .unset, .unset] [(.ref wf)])) (fun tq kq => XS.aloadN X11.here hx rfl (hb hby at_60) rfl (by rfl) kq) ?_
    obtain ⟨v12, T12, L12, X12, q12, st12⟩ := own_callV X11 hx hZ5 hown5 (y := (⟨"com/example/rising_block/risingblock/io/YamlNode", "isMapping", "()Z"⟩ : MethodName)) (z := (⟨"com/example/rising_block/risingblock/io/YamlNode", "isMapping", "()Z"⟩ : MethodName)) (hw _ (List.mem_of_getElem? (i := 167) rfl)) (hw _ (List.mem_of_getElem? (i := 168) rfl)) (notFace_of_selects (args := a0) (hw _ (List.mem_of_getElem? (i := 170) rfl))) (hw _ (List.mem_of_getElem? (i := 170) rfl)) (hw _ (List.mem_of_getElem? (i := 169) rfl)) (hw _ (List.mem_of_getElem? (i := 2) rfl)) (hw _ (List.mem_of_getElem? (i := 171) rfl)) (fNE.ext O6.2) (b := wf) (argsL := []) (own_isMapping l Z a0 hw [] wf k0 k1 T6.heap O6 fNK SK1 nk1) 0 (by decide) (by decide) (by decide) (by decide) (by decide) e11 (g := (mkF m 61 #[.val (.int flag), .val (.int (0 : Int32)), .val (.ref wf), .val (.ref wf), .val (.ref wt), .val (.ref a5), .val (.int (1 : Int32)), .unset, .unset, .unset] [(.ref wf)])) rfl (by rw [hml]; rfl) [] (lenOf own_pd__28_29Z rfl) rfl (by show 2 * 0 + _ ≤ _; exact Nat.le_of_eq rfl) (hb hby at_61)
    obtain ⟨rfl, N12q, e12⟩ := q12
    have N12 := Fr.app N11 N12q
    refine own_st (T12.setTop (mkF m 64 #[.val (.int flag), .val (.int (0 : Int32)), .val (.ref wf), .val (.ref wf), .val (.ref wt), .val (.ref a5), .val (.int (1 : Int32)), .unset, .unset, .unset] [(.int (0 : Int32))])) st12 ?_
    refine own_st (T12.setTop (mkF m 67 #[.val (.int flag), .val (.int (0 : Int32)), .val (.ref wf), .val (.ref wf), .val (.ref wt), .val (.ref a5), .val (.int (1 : Int32)), .unset, .unset, .unset] [])) (fun tq kq => XS.ifNo X12.here hx rfl (hb hby at_64) rfl ((if0 _ _).trans (teq ((by decide) : (0 : Int32) = (0 : Int32))).2) kq) ?_
    refine own_st (T12.setTop (mkF m 68 #[.val (.int flag), .val (.int (0 : Int32)), .val (.ref wf), .val (.ref wf), .val (.ref wt), .val (.ref a5), .val (.int (1 : Int32)), .unset, .unset, .unset] [(.ref wf)])) (fun tq kq => XS.aloadN X12.here hx rfl (hb hby at_67) rfl (by rfl) kq) ?_
    obtain ⟨v13, T13, L13, X13, q13, st13⟩ := own_callV X12 hx hZ5 hown5 (y := (⟨"com/example/rising_block/risingblock/io/YamlNode", "isSequence", "()Z"⟩ : MethodName)) (z := (⟨"com/example/rising_block/risingblock/io/YamlNode", "isSequence", "()Z"⟩ : MethodName)) (hw _ (List.mem_of_getElem? (i := 174) rfl)) (hw _ (List.mem_of_getElem? (i := 175) rfl)) (notFace_of_selects (args := a0) (hw _ (List.mem_of_getElem? (i := 177) rfl))) (hw _ (List.mem_of_getElem? (i := 177) rfl)) (hw _ (List.mem_of_getElem? (i := 176) rfl)) (hw _ (List.mem_of_getElem? (i := 2) rfl)) (hw _ (List.mem_of_getElem? (i := 178) rfl)) (fNE.ext O6.2) (b := wf) (argsL := []) (own_isSequence l Z a0 hw [] wf k0 k2 T6.heap O6 fNK SK2 nk2) 0 (by decide) (by decide) (by decide) (by decide) (by decide) e12 (g := (mkF m 68 #[.val (.int flag), .val (.int (0 : Int32)), .val (.ref wf), .val (.ref wf), .val (.ref wt), .val (.ref a5), .val (.int (1 : Int32)), .unset, .unset, .unset] [(.ref wf)])) rfl (by rw [hml]; rfl) [] (lenOf own_pd__28_29Z rfl) rfl (by show 2 * 0 + _ ≤ _; exact Nat.le_of_eq rfl) (hb hby at_68)
    obtain ⟨rfl, N13q, e13⟩ := q13
    have N13 := Fr.app N12 N13q
    refine own_st (T13.setTop (mkF m 71 #[.val (.int flag), .val (.int (0 : Int32)), .val (.ref wf), .val (.ref wf), .val (.ref wt), .val (.ref a5), .val (.int (1 : Int32)), .unset, .unset, .unset] [(.int (0 : Int32))])) st13 ?_
    refine own_st (T13.setTop (mkF m 74 #[.val (.int flag), .val (.int (0 : Int32)), .val (.ref wf), .val (.ref wf), .val (.ref wt), .val (.ref a5), .val (.int (1 : Int32)), .unset, .unset, .unset] [])) (fun tq kq => XS.ifNo X13.here hx rfl (hb hby at_71) rfl ((if0 _ _).trans (teq ((by decide) : (0 : Int32) = (0 : Int32))).2) kq) ?_
    refine own_st (T13.setTop (mkF m 75 #[.val (.int flag), .val (.int (0 : Int32)), .val (.ref wf), .val (.ref wf), .val (.ref wt), .val (.ref a5), .val (.int (1 : Int32)), .unset, .unset, .unset] [(.ref wf)])) (fun tq kq => XS.aloadN X13.here hx rfl (hb hby at_74) rfl (by rfl) kq) ?_
    obtain ⟨v14, T14, L14, X14, q14, st14⟩ := own_callV X13 hx hZ5 hown5 (y := (⟨"com/example/rising_block/risingblock/io/YamlNode", "isText", "()Z"⟩ : MethodName)) (z := (⟨"com/example/rising_block/risingblock/io/YamlNode", "isText", "()Z"⟩ : MethodName)) (hw _ (List.mem_of_getElem? (i := 181) rfl)) (hw _ (List.mem_of_getElem? (i := 182) rfl)) (notFace_of_selects (args := a0) (hw _ (List.mem_of_getElem? (i := 184) rfl))) (hw _ (List.mem_of_getElem? (i := 184) rfl)) (hw _ (List.mem_of_getElem? (i := 183) rfl)) (hw _ (List.mem_of_getElem? (i := 2) rfl)) (hw _ (List.mem_of_getElem? (i := 185) rfl)) (fNE.ext O6.2) (b := wf) (argsL := []) (own_isText l Z a0 hw [] wf k0 k3 T6.heap O6 fNK SK3 nk3) 0 (by decide) (by decide) (by decide) (by decide) (by decide) e13 (g := (mkF m 75 #[.val (.int flag), .val (.int (0 : Int32)), .val (.ref wf), .val (.ref wf), .val (.ref wt), .val (.ref a5), .val (.int (1 : Int32)), .unset, .unset, .unset] [(.ref wf)])) rfl (by rw [hml]; rfl) [] (lenOf own_pd__28_29Z rfl) rfl (by show 2 * 0 + _ ≤ _; exact Nat.le_of_eq rfl) (hb hby at_75)
    obtain ⟨rfl, N14q, e14⟩ := q14
    have N14 := Fr.app N13 N14q
    refine own_st (T14.setTop (mkF m 78 #[.val (.int flag), .val (.int (0 : Int32)), .val (.ref wf), .val (.ref wf), .val (.ref wt), .val (.ref a5), .val (.int (1 : Int32)), .unset, .unset, .unset] [(.int (0 : Int32))])) st14 ?_
    refine own_st (T14.setTop (mkF m 81 #[.val (.int flag), .val (.int (0 : Int32)), .val (.ref wf), .val (.ref wf), .val (.ref wt), .val (.ref a5), .val (.int (1 : Int32)), .unset, .unset, .unset] [])) (fun tq kq => XS.ifNo X14.here hx rfl (hb hby at_78) rfl ((if0 _ _).trans (teq ((by decide) : (0 : Int32) = (0 : Int32))).2) kq) ?_
    refine own_st (T14.setTop (mkF m 82 #[.val (.int flag), .val (.int (0 : Int32)), .val (.ref wf), .val (.ref wf), .val (.ref wt), .val (.ref a5), .val (.int (1 : Int32)), .unset, .unset, .unset] [(.ref wf)])) (fun tq kq => XS.aloadN X14.here hx rfl (hb hby at_81) rfl (by rfl) kq) ?_
    obtain ⟨v15, T15, L15, X15, q15, st15⟩ := own_callV X14 hx hZ5 hown5 (y := (⟨"com/example/rising_block/risingblock/io/YamlNode", "isNumber", "()Z"⟩ : MethodName)) (z := (⟨"com/example/rising_block/risingblock/io/YamlNode", "isNumber", "()Z"⟩ : MethodName)) (hw _ (List.mem_of_getElem? (i := 188) rfl)) (hw _ (List.mem_of_getElem? (i := 189) rfl)) (notFace_of_selects (args := a0) (hw _ (List.mem_of_getElem? (i := 191) rfl))) (hw _ (List.mem_of_getElem? (i := 191) rfl)) (hw _ (List.mem_of_getElem? (i := 190) rfl)) (hw _ (List.mem_of_getElem? (i := 2) rfl)) (hw _ (List.mem_of_getElem? (i := 192) rfl)) (fNE.ext O6.2) (b := wf) (argsL := []) (own_isNumber l Z a0 hw [] wf k0 k4 T6.heap O6 fNK SK4 nk4) 0 (by decide) (by decide) (by decide) (by decide) (by decide) e14 (g := (mkF m 82 #[.val (.int flag), .val (.int (0 : Int32)), .val (.ref wf), .val (.ref wf), .val (.ref wt), .val (.ref a5), .val (.int (1 : Int32)), .unset, .unset, .unset] [(.ref wf)])) rfl (by rw [hml]; rfl) [] (lenOf own_pd__28_29Z rfl) rfl (by show 2 * 0 + _ ≤ _; exact Nat.le_of_eq rfl) (hb hby at_82)
    obtain ⟨rfl, N15q, e15⟩ := q15
    have N15 := Fr.app N14 N15q
    refine own_st (T15.setTop (mkF m 85 #[.val (.int flag), .val (.int (0 : Int32)), .val (.ref wf), .val (.ref wf), .val (.ref wt), .val (.ref a5), .val (.int (1 : Int32)), .unset, .unset, .unset] [(.int (0 : Int32))])) st15 ?_
    refine own_st (T15.setTop (mkF m 88 #[.val (.int flag), .val (.int (0 : Int32)), .val (.ref wf), .val (.ref wf), .val (.ref wt), .val (.ref a5), .val (.int (1 : Int32)), .unset, .unset, .unset] [])) (fun tq kq => XS.ifNo X15.here hx rfl (hb hby at_85) rfl ((if0 _ _).trans (teq ((by decide) : (0 : Int32) = (0 : Int32))).2) kq) ?_
    refine own_st (T15.setTop (mkF m 89 #[.val (.int flag), .val (.int (0 : Int32)), .val (.ref wf), .val (.ref wf), .val (.ref wt), .val (.ref a5), .val (.int (1 : Int32)), .unset, .unset, .unset] [(.int (1 : Int32))])) (fun tq kq => XS.iconst X15.here hx rfl (hb hby at_88) kq) ?_
    refine own_st (T15.setTop (mkF m 93 #[.val (.int flag), .val (.int (0 : Int32)), .val (.ref wf), .val (.ref wf), .val (.ref wt), .val (.ref a5), .val (.int (1 : Int32)), .unset, .unset, .unset] [(.int (1 : Int32))])) (fun tq kq => XS.goto X15.here hx rfl (pc0 := 89) (pc' := 93) rfl (hb hby at_89) (by decide) (by decide) kq) ?_
    refine own_st (T15.setTop (mkF m 95 #[.val (.int flag), .val (.int (0 : Int32)), .val (.ref wf), .val (.ref wf), .val (.ref wt), .val (.ref a5), .val (.int (1 : Int32)), .val (.int (1 : Int32)), .unset, .unset] [])) (fun tq kq => XS.istore X15.here hx rfl (hb hby at_93) rfl (l' := #[.val (.int flag), .val (.int (0 : Int32)), .val (.ref wf), .val (.ref wf), .val (.ref wt), .val (.ref a5), .val (.int (1 : Int32)), .val (.int (1 : Int32)), .unset, .unset]) rfl kq) ?_
    refine own_st (T15.setTop (mkF m 96 #[.val (.int flag), .val (.int (0 : Int32)), .val (.ref wf), .val (.ref wf), .val (.ref wt), .val (.ref a5), .val (.int (1 : Int32)), .val (.int (1 : Int32)), .unset, .unset] [(.ref wf)])) (fun tq kq => XS.aloadN X15.here hx rfl (hb hby at_95) rfl (by rfl) kq) ?_
    obtain ⟨v16, T16, L16, X16, q16, st16⟩ := own_callV X15 hx hZ5 hown5 (y := (⟨"com/example/rising_block/risingblock/io/YamlNode", "size", "()I"⟩ : MethodName)) (z := (⟨"com/example/rising_block/risingblock/io/YamlNode", "size", "()I"⟩ : MethodName)) (hw _ (List.mem_of_getElem? (i := 195) rfl)) (hw _ (List.mem_of_getElem? (i := 196) rfl)) (notFace_of_selects (args := a0) (hw _ (List.mem_of_getElem? (i := 198) rfl))) (hw _ (List.mem_of_getElem? (i := 198) rfl)) (hw _ (List.mem_of_getElem? (i := 197) rfl)) (hw _ (List.mem_of_getElem? (i := 2) rfl)) (hw _ (List.mem_of_getElem? (i := 199) rfl)) (fNE.ext O6.2) (b := wf) (argsL := []) (own_size l Z a0 hw [] wf T6.heap O6 fFK fFE) 0 (by decide) (by decide) (by decide) (by decide) (by decide) e15 (g := (mkF m 96 #[.val (.int flag), .val (.int (0 : Int32)), .val (.ref wf), .val (.ref wf), .val (.ref wt), .val (.ref a5), .val (.int (1 : Int32)), .val (.int (1 : Int32)), .unset, .unset] [(.ref wf)])) rfl (by rw [hml]; rfl) [] (lenOf own_pd__28_29I rfl) rfl (by show 2 * 0 + _ ≤ _; exact Nat.le_of_eq rfl) (hb hby at_96)
    obtain ⟨rfl, N16q, e16⟩ := q16
    have N16 := Fr.app N15 N16q
    refine own_st (T16.setTop (mkF m 99 #[.val (.int flag), .val (.int (0 : Int32)), .val (.ref wf), .val (.ref wf), .val (.ref wt), .val (.ref a5), .val (.int (1 : Int32)), .val (.int (1 : Int32)), .unset, .unset] [(.int (0 : Int32))])) st16 ?_
    refine own_st (T16.setTop (mkF m 102 #[.val (.int flag), .val (.int (0 : Int32)), .val (.ref wf), .val (.ref wf), .val (.ref wt), .val (.ref a5), .val (.int (1 : Int32)), .val (.int (1 : Int32)), .unset, .unset] [])) (fun tq kq => XS.ifNo X16.here hx rfl (hb hby at_99) rfl ((if0 _ _).trans (teq ((by decide) : (0 : Int32) = (0 : Int32))).2) kq) ?_
    refine own_st (T16.setTop (mkF m 103 #[.val (.int flag), .val (.int (0 : Int32)), .val (.ref wf), .val (.ref wf), .val (.ref wt), .val (.ref a5), .val (.int (1 : Int32)), .val (.int (1 : Int32)), .unset, .unset] [(.int (1 : Int32))])) (fun tq kq => XS.iconst X16.here hx rfl (hb hby at_102) kq) ?_
    refine own_st (T16.setTop (mkF m 107 #[.val (.int flag), .val (.int (0 : Int32)), .val (.ref wf), .val (.ref wf), .val (.ref wt), .val (.ref a5), .val (.int (1 : Int32)), .val (.int (1 : Int32)), .unset, .unset] [(.int (1 : Int32))])) (fun tq kq => XS.goto X16.here hx rfl (pc0 := 103) (pc' := 107) rfl (hb hby at_103) (by decide) (by decide) kq) ?_
    refine own_st (T16.setTop (mkF m 109 #[.val (.int flag), .val (.int (0 : Int32)), .val (.ref wf), .val (.ref wf), .val (.ref wt), .val (.ref a5), .val (.int (1 : Int32)), .val (.int (1 : Int32)), .val (.int (1 : Int32)), .unset] [])) (fun tq kq => XS.istore X16.here hx rfl (hb hby at_107) rfl (l' := #[.val (.int flag), .val (.int (0 : Int32)), .val (.ref wf), .val (.ref wf), .val (.ref wt), .val (.ref a5), .val (.int (1 : Int32)), .val (.int (1 : Int32)), .val (.int (1 : Int32)), .unset]) rfl kq) ?_
    refine own_st (T16.setTop (mkF m 110 #[.val (.int flag), .val (.int (0 : Int32)), .val (.ref wf), .val (.ref wf), .val (.ref wt), .val (.ref a5), .val (.int (1 : Int32)), .val (.int (1 : Int32)), .val (.int (1 : Int32)), .unset] [(.ref wf)])) (fun tq kq => XS.aloadN X16.here hx rfl (hb hby at_109) rfl (by rfl) kq) ?_
    refine own_st (T16.setTop (mkF m 111 #[.val (.int flag), .val (.int (0 : Int32)), .val (.ref wf), .val (.ref wf), .val (.ref wt), .val (.ref a5), .val (.int (1 : Int32)), .val (.int (1 : Int32)), .val (.int (1 : Int32)), .unset] [(.ref wf), (.ref wf)])) (fun tq kq => XS.aloadN X16.here hx rfl (hb hby at_110) rfl (by rfl) kq) ?_
    refine own_st (T16.setTop (mkF m 114 #[.val (.int flag), .val (.int (0 : Int32)), .val (.ref wf), .val (.ref wf), .val (.ref wt), .val (.ref a5), .val (.int (1 : Int32)), .val (.int (1 : Int32)), .val (.int (1 : Int32)), .unset] [])) (fun tq kq => Jvm.RoadKit.acmp (g := (mkF m 111 #[.val (.int flag), .val (.int (0 : Int32)), .val (.ref wf), .val (.ref wf), .val (.ref wt), .val (.ref a5), .val (.int (1 : Int32)), .val (.int (1 : Int32)), .val (.int (1 : Int32)), .unset] [(.ref wf), (.ref wf)])) X16 hx rfl (by rfl) (by rfl) (pc0 := 111) (pc' := 114) (same := true) rfl (hb hby at_111) rfl (decide_eq_true (congrArg Value.ref (rfl : wf = wf))) (by decide) (by decide) kq) ?_
    refine own_st (T16.setTop (mkF m 115 #[.val (.int flag), .val (.int (0 : Int32)), .val (.ref wf), .val (.ref wf), .val (.ref wt), .val (.ref a5), .val (.int (1 : Int32)), .val (.int (1 : Int32)), .val (.int (1 : Int32)), .unset] [(.ref wf)])) (fun tq kq => XS.aloadN X16.here hx rfl (hb hby at_114) rfl (by rfl) kq) ?_
    refine own_st (T16.setTop (mkF m 117 #[.val (.int flag), .val (.int (0 : Int32)), .val (.ref wf), .val (.ref wf), .val (.ref wt), .val (.ref a5), .val (.int (1 : Int32)), .val (.int (1 : Int32)), .val (.int (1 : Int32)), .unset] [(.ref wt), (.ref wf)])) (fun tq kq => XS.aload X16.here hx rfl (hb hby at_115) rfl (by rfl) kq) ?_
    refine own_st (T16.setTop (mkF m 120 #[.val (.int flag), .val (.int (0 : Int32)), .val (.ref wf), .val (.ref wf), .val (.ref wt), .val (.ref a5), .val (.int (1 : Int32)), .val (.int (1 : Int32)), .val (.int (1 : Int32)), .unset] [])) (fun tq kq => Jvm.RoadKit.acmp (g := (mkF m 117 #[.val (.int flag), .val (.int (0 : Int32)), .val (.ref wf), .val (.ref wf), .val (.ref wt), .val (.ref a5), .val (.int (1 : Int32)), .val (.int (1 : Int32)), .val (.int (1 : Int32)), .unset] [(.ref wt), (.ref wf)])) X16 hx rfl (by rfl) (by rfl) (pc0 := 117) (pc' := 120) (same := false) rfl (hb hby at_117) rfl (decide_eq_false (fun q => ((Ne.symm ntf) : ¬ (wf = wt)) (Value.ref.inj q))) (by decide) (by decide) kq) ?_
    refine own_st (T16.setTop (mkF m 121 #[.val (.int flag), .val (.int (0 : Int32)), .val (.ref wf), .val (.ref wf), .val (.ref wt), .val (.ref a5), .val (.int (1 : Int32)), .val (.int (1 : Int32)), .val (.int (1 : Int32)), .unset] [(.int (1 : Int32))])) (fun tq kq => XS.iconst X16.here hx rfl (hb hby at_120) kq) ?_
    refine own_st (T16.setTop (mkF m 125 #[.val (.int flag), .val (.int (0 : Int32)), .val (.ref wf), .val (.ref wf), .val (.ref wt), .val (.ref a5), .val (.int (1 : Int32)), .val (.int (1 : Int32)), .val (.int (1 : Int32)), .unset] [(.int (1 : Int32))])) (fun tq kq => XS.goto X16.here hx rfl (pc0 := 121) (pc' := 125) rfl (hb hby at_121) (by decide) (by decide) kq) ?_
    refine own_st (T16.setTop (mkF m 127 #[.val (.int flag), .val (.int (0 : Int32)), .val (.ref wf), .val (.ref wf), .val (.ref wt), .val (.ref a5), .val (.int (1 : Int32)), .val (.int (1 : Int32)), .val (.int (1 : Int32)), .val (.int (1 : Int32))] [])) (fun tq kq => XS.istore X16.here hx rfl (hb hby at_125) rfl (l' := #[.val (.int flag), .val (.int (0 : Int32)), .val (.ref wf), .val (.ref wf), .val (.ref wt), .val (.ref a5), .val (.int (1 : Int32)), .val (.int (1 : Int32)), .val (.int (1 : Int32)), .val (.int (1 : Int32))]) rfl kq) ?_
    refine own_st (T16.setTop (mkF m 129 #[.val (.int flag), .val (.int (0 : Int32)), .val (.ref wf), .val (.ref wf), .val (.ref wt), .val (.ref a5), .val (.int (1 : Int32)), .val (.int (1 : Int32)), .val (.int (1 : Int32)), .val (.int (1 : Int32))] [(.int (1 : Int32))])) (fun tq kq => XS.iload X16.here hx rfl (hb hby at_127) rfl kq) ?_
    refine own_st (T16.setTop (mkF m 132 #[.val (.int flag), .val (.int (0 : Int32)), .val (.ref wf), .val (.ref wf), .val (.ref wt), .val (.ref a5), .val (.int (1 : Int32)), .val (.int (1 : Int32)), .val (.int (1 : Int32)), .val (.int (1 : Int32))] [])) (fun tq kq => XS.ifNo X16.here hx rfl (hb hby at_129) rfl ((if0 _ _).trans (feq ((by decide) : ¬ ((1 : Int32) = (0 : Int32)))).1) kq) ?_
    refine own_st (T16.setTop (mkF m 134 #[.val (.int flag), .val (.int (0 : Int32)), .val (.ref wf), .val (.ref wf), .val (.ref wt), .val (.ref a5), .val (.int (1 : Int32)), .val (.int (1 : Int32)), .val (.int (1 : Int32)), .val (.int (1 : Int32))] [(.int (1 : Int32))])) (fun tq kq => XS.iload X16.here hx rfl (hb hby at_132) rfl kq) ?_
    refine own_st (T16.setTop (mkF m 137 #[.val (.int flag), .val (.int (0 : Int32)), .val (.ref wf), .val (.ref wf), .val (.ref wt), .val (.ref a5), .val (.int (1 : Int32)), .val (.int (1 : Int32)), .val (.int (1 : Int32)), .val (.int (1 : Int32))] [])) (fun tq kq => XS.ifNo X16.here hx rfl (hb hby at_134) rfl ((if0 _ _).trans (feq ((by decide) : ¬ ((1 : Int32) = (0 : Int32)))).1) kq) ?_
    refine own_st (T16.setTop (mkF m 139 #[.val (.int flag), .val (.int (0 : Int32)), .val (.ref wf), .val (.ref wf), .val (.ref wt), .val (.ref a5), .val (.int (1 : Int32)), .val (.int (1 : Int32)), .val (.int (1 : Int32)), .val (.int (1 : Int32))] [(.int (1 : Int32))])) (fun tq kq => XS.iload X16.here hx rfl (hb hby at_137) rfl kq) ?_
    refine own_st (T16.setTop (mkF m 142 #[.val (.int flag), .val (.int (0 : Int32)), .val (.ref wf), .val (.ref wf), .val (.ref wt), .val (.ref a5), .val (.int (1 : Int32)), .val (.int (1 : Int32)), .val (.int (1 : Int32)), .val (.int (1 : Int32))] [])) (fun tq kq => XS.ifNo X16.here hx rfl (hb hby at_139) rfl ((if0 _ _).trans (feq ((by decide) : ¬ ((1 : Int32) = (0 : Int32)))).1) kq) ?_
    refine own_st (T16.setTop (mkF m 144 #[.val (.int flag), .val (.int (0 : Int32)), .val (.ref wf), .val (.ref wf), .val (.ref wt), .val (.ref a5), .val (.int (1 : Int32)), .val (.int (1 : Int32)), .val (.int (1 : Int32)), .val (.int (1 : Int32))] [(.int (1 : Int32))])) (fun tq kq => XS.iload X16.here hx rfl (hb hby at_142) rfl kq) ?_
    refine own_st (T16.setTop (mkF m 147 #[.val (.int flag), .val (.int (0 : Int32)), .val (.ref wf), .val (.ref wf), .val (.ref wt), .val (.ref a5), .val (.int (1 : Int32)), .val (.int (1 : Int32)), .val (.int (1 : Int32)), .val (.int (1 : Int32))] [])) (fun tq kq => XS.ifNo X16.here hx rfl (hb hby at_144) rfl ((if0 _ _).trans (feq ((by decide) : ¬ ((1 : Int32) = (0 : Int32)))).1) kq) ?_
    refine own_st (T16.setTop (mkF m 148 #[.val (.int flag), .val (.int (0 : Int32)), .val (.ref wf), .val (.ref wf), .val (.ref wt), .val (.ref a5), .val (.int (1 : Int32)), .val (.int (1 : Int32)), .val (.int (1 : Int32)), .val (.int (1 : Int32))] [(.int (1 : Int32))])) (fun tq kq => XS.iconst X16.here hx rfl (hb hby at_147) kq) ?_
    refine own_st (T16.setTop (mkF m 152 #[.val (.int flag), .val (.int (0 : Int32)), .val (.ref wf), .val (.ref wf), .val (.ref wt), .val (.ref a5), .val (.int (1 : Int32)), .val (.int (1 : Int32)), .val (.int (1 : Int32)), .val (.int (1 : Int32))] [(.int (1 : Int32))])) (fun tq kq => XS.goto X16.here hx rfl (pc0 := 148) (pc' := 152) rfl (hb hby at_148) (by decide) (by decide) kq) ?_
    exact own_retW X16 hlk hS5 (Nat.le_trans hk5 K6q.1) hZ5 hEL R6 (v := some (.int (1 : Int32))) (fun h => by rw [hret] at h; cases h) e16 (fun vm1 C1 => ⟨rfl, N16⟩) (by decide) (by decide) (fun fs hr => own_retN X16 hx (t := .boolean) hret (by simp) (hb hby at_152) rfl hr)
  · skip
    refine own_st (s₁.setTop (mkF m 6 #[.val (.int flag), .unset, .unset, .unset, .unset, .unset, .unset, .unset, .unset, .unset] [])) (fun tq kq => XS.ifNo X0.here hx rfl (hb hby at_3) rfl ((if0 _ _).trans (feq (c3_1 : ¬ ((flag &&& (1 : Int32)) = (0 : Int32)))).1) kq) ?_
    refine own_st (s₁.setTop (mkF m 7 #[.val (.int flag), .unset, .unset, .unset, .unset, .unset, .unset, .unset, .unset, .unset] [(.int (1 : Int32))])) (fun tq kq => XS.iconst X0.here hx rfl (hb hby at_6) kq) ?_
    refine own_st (s₁.setTop (mkF m 11 #[.val (.int flag), .unset, .unset, .unset, .unset, .unset, .unset, .unset, .unset, .unset] [(.int (1 : Int32))])) (fun tq kq => XS.goto X0.here hx rfl (pc0 := 7) (pc' := 11) rfl (hb hby at_7) (by decide) (by decide) kq) ?_
    refine own_st (s₁.setTop (mkF m 12 #[.val (.int flag), .val (.int (1 : Int32)), .unset, .unset, .unset, .unset, .unset, .unset, .unset, .unset] [])) (fun tq kq => XS.istoreN X0.here hx rfl (hb hby at_11) rfl (l' := #[.val (.int flag), .val (.int (1 : Int32)), .unset, .unset, .unset, .unset, .unset, .unset, .unset, .unset]) rfl kq) ?_
    refine own_st (s₁.setTop (mkF m 13 #[.val (.int flag), .val (.int (1 : Int32)), .unset, .unset, .unset, .unset, .unset, .unset, .unset, .unset] [(.int (1 : Int32))])) (fun tq kq => XS.iloadN X0.here hx rfl (hb hby at_12) rfl kq) ?_
    obtain ⟨v17, T17, L17, X17, q17, st17⟩ := own_callS X0 hx hZ hown (hw _ (List.mem_of_getElem? (i := 0) rfl)) (hw _ (List.mem_of_getElem? (i := 1) rfl)) (hw _ (List.mem_of_getElem? (i := 2) rfl)) (hw _ (List.mem_of_getElem? (i := 3) rfl)) (argsL := [(.int (1 : Int32))]) (own_truth1 l Z a0 hw [] wt wf h0 O0 ST SF) 0 (by decide) (by decide) (by decide) (by decide) (by decide) e0 (g := (mkF m 13 #[.val (.int flag), .val (.int (1 : Int32)), .unset, .unset, .unset, .unset, .unset, .unset, .unset, .unset] [(.int (1 : Int32))])) rfl (by rw [hml]; rfl) [] (lenOf own_pd__28Z_29Lcom_2fexample_2frising_block_2frisingblock_2fio_2fYamlNode_3b rfl) rfl (by show 2 * 0 + _ ≤ _; exact Nat.le_of_eq rfl) (hb hby at_13)
    obtain ⟨rfl, N17q, e17⟩ := q17
    have N17 := Fr.app (Fr.nil _) N17q
    refine own_st (T17.setTop (mkF m 16 #[.val (.int flag), .val (.int (1 : Int32)), .unset, .unset, .unset, .unset, .unset, .unset, .unset, .unset] [(.ref wt)])) st17 ?_
    refine own_st (T17.setTop (mkF m 17 #[.val (.int flag), .val (.int (1 : Int32)), .val (.ref wt), .unset, .unset, .unset, .unset, .unset, .unset, .unset] [])) (fun tq kq => XS.astoreN X17.here hx rfl (hb hby at_16) rfl (by rfl) (l' := #[.val (.int flag), .val (.int (1 : Int32)), .val (.ref wt), .unset, .unset, .unset, .unset, .unset, .unset, .unset]) rfl kq) ?_
    refine own_st (T17.setTop (mkF m 18 #[.val (.int flag), .val (.int (1 : Int32)), .val (.ref wt), .unset, .unset, .unset, .unset, .unset, .unset, .unset] [(.int (1 : Int32))])) (fun tq kq => XS.iloadN X17.here hx rfl (hb hby at_17) rfl kq) ?_
    obtain ⟨v18, T18, L18, X18, q18, st18⟩ := own_callS X17 hx hZ hown (hw _ (List.mem_of_getElem? (i := 0) rfl)) (hw _ (List.mem_of_getElem? (i := 1) rfl)) (hw _ (List.mem_of_getElem? (i := 2) rfl)) (hw _ (List.mem_of_getElem? (i := 3) rfl)) (argsL := [(.int (1 : Int32))]) (own_truth1 l Z a0 hw [] wt wf h0 O0 ST SF) 0 (by decide) (by decide) (by decide) (by decide) (by decide) e17 (g := (mkF m 18 #[.val (.int flag), .val (.int (1 : Int32)), .val (.ref wt), .unset, .unset, .unset, .unset, .unset, .unset, .unset] [(.int (1 : Int32))])) rfl (by rw [hml]; rfl) [] (lenOf own_pd__28Z_29Lcom_2fexample_2frising_block_2frisingblock_2fio_2fYamlNode_3b rfl) rfl (by show 2 * 0 + _ ≤ _; exact Nat.le_of_eq rfl) (hb hby at_18)
    obtain ⟨rfl, N18q, e18⟩ := q18
    have N18 := Fr.app N17 N18q
    refine own_st (T18.setTop (mkF m 21 #[.val (.int flag), .val (.int (1 : Int32)), .val (.ref wt), .unset, .unset, .unset, .unset, .unset, .unset, .unset] [(.ref wt)])) st18 ?_
    refine own_st (T18.setTop (mkF m 22 #[.val (.int flag), .val (.int (1 : Int32)), .val (.ref wt), .val (.ref wt), .unset, .unset, .unset, .unset, .unset, .unset] [])) (fun tq kq => XS.astoreN X18.here hx rfl (hb hby at_21) rfl (by rfl) (l' := #[.val (.int flag), .val (.int (1 : Int32)), .val (.ref wt), .val (.ref wt), .unset, .unset, .unset, .unset, .unset, .unset]) rfl kq) ?_
    refine own_st (T18.setTop (mkF m 23 #[.val (.int flag), .val (.int (1 : Int32)), .val (.ref wt), .val (.ref wt), .unset, .unset, .unset, .unset, .unset, .unset] [(.int (1 : Int32))])) (fun tq kq => XS.iloadN X18.here hx rfl (hb hby at_22) rfl kq) ?_
    refine own_st (T18.setTop (mkF m 30 #[.val (.int flag), .val (.int (1 : Int32)), .val (.ref wt), .val (.ref wt), .unset, .unset, .unset, .unset, .unset, .unset] [])) (fun tq kq => XS.ifYes X18.here hx rfl (pc0 := 23) (pc' := 30) rfl (hb hby at_23) rfl ((if0 _ _).trans (feq ((by decide) : ¬ ((1 : Int32) = (0 : Int32)))).2) (by decide) (by decide) kq) ?_
    refine own_st (T18.setTop (mkF m 31 #[.val (.int flag), .val (.int (1 : Int32)), .val (.ref wt), .val (.ref wt), .unset, .unset, .unset, .unset, .unset, .unset] [(.int (0 : Int32))])) (fun tq kq => XS.iconst X18.here hx rfl (hb hby at_30) kq) ?_
    obtain ⟨v19, T19, L19, X19, q19, st19⟩ := own_callS X18 hx hZ hown (hw _ (List.mem_of_getElem? (i := 0) rfl)) (hw _ (List.mem_of_getElem? (i := 1) rfl)) (hw _ (List.mem_of_getElem? (i := 2) rfl)) (hw _ (List.mem_of_getElem? (i := 3) rfl)) (argsL := [(.int (0 : Int32))]) (own_truth0 l Z a0 hw [] wt wf h0 O0 ST SF) 0 (by decide) (by decide) (by decide) (by decide) (by decide) e18 (g := (mkF m 31 #[.val (.int flag), .val (.int (1 : Int32)), .val (.ref wt), .val (.ref wt), .unset, .unset, .unset, .unset, .unset, .unset] [(.int (0 : Int32))])) rfl (by rw [hml]; rfl) [] (lenOf own_pd__28Z_29Lcom_2fexample_2frising_block_2frisingblock_2fio_2fYamlNode_3b rfl) rfl (by show 2 * 0 + _ ≤ _; exact Nat.le_of_eq rfl) (hb hby at_31)
    obtain ⟨rfl, N19q, e19⟩ := q19
    have N19 := Fr.app N18 N19q
    refine own_st (T19.setTop (mkF m 34 #[.val (.int flag), .val (.int (1 : Int32)), .val (.ref wt), .val (.ref wt), .unset, .unset, .unset, .unset, .unset, .unset] [(.ref wf)])) st19 ?_
    refine own_st (T19.setTop (mkF m 36 #[.val (.int flag), .val (.int (1 : Int32)), .val (.ref wt), .val (.ref wt), .val (.ref wf), .unset, .unset, .unset, .unset, .unset] [])) (fun tq kq => XS.astore X19.here hx rfl (hb hby at_34) rfl (by rfl) (l' := #[.val (.int flag), .val (.int (1 : Int32)), .val (.ref wt), .val (.ref wt), .val (.ref wf), .unset, .unset, .unset, .unset, .unset]) rfl kq) ?_
    refine own_st (T19.setTop (mkF m 37 #[.val (.int flag), .val (.int (1 : Int32)), .val (.ref wt), .val (.ref wt), .val (.ref wf), .unset, .unset, .unset, .unset, .unset] [(.int (1 : Int32))])) (fun tq kq => XS.iloadN X19.here hx rfl (hb hby at_36) rfl kq) ?_
    refine own_st (T19.setTop (mkF m 40 #[.val (.int flag), .val (.int (1 : Int32)), .val (.ref wt), .val (.ref wt), .val (.ref wf), .unset, .unset, .unset, .unset, .unset] [])) (fun tq kq => XS.ifNo X19.here hx rfl (hb hby at_37) rfl ((if0 _ _).trans (feq ((by decide) : ¬ ((1 : Int32) = (0 : Int32)))).1) kq) ?_
    obtain ⟨a20, T20, h20, k20, b20, c20, X20, e20, E20, hS20, hk20, hZ20, hown20, EA20, FC20, FV20, AV20, -, -, C20, -, nn20, st20⟩ := ldcCH X19 hx hZ hown (hw _ (List.mem_of_getElem? (i := 204) rfl)) (own_wS hw) e19 hS0 (Nat.zero_le _) hEL (by decide) R0.1 (vs := [(.int (116 : Int32)), (.int (114 : Int32)), (.int (117 : Int32)), (.int (101 : Int32))]) (z := (4 : Int32)) ⟨by decide, by decide⟩ (by decide) (by decide) (g := (mkF m 40 #[.val (.int flag), .val (.int (1 : Int32)), .val (.ref wt), .val (.ref wt), .val (.ref wf), .unset, .unset, .unset, .unset, .unset] [])) rfl (hb hby at_40) (n := 16) (by decide) (by decide) (by decide) (by decide)
    have R20 := R0.trans C20
    have O20 := O0.ext E20
    have K20 := (Keep.refl h0 []).ext E20
    refine own_st (T20.setTop (mkF m 42 #[.val (.int flag), .val (.int (1 : Int32)), .val (.ref wt), .val (.ref wt), .val (.ref wf), .unset, .unset, .unset, .unset, .unset] [(.ref a20)])) st20 ?_
    refine own_st (T20.setTop (mkF m 47 #[.val (.int flag), .val (.int (1 : Int32)), .val (.ref wt), .val (.ref wt), .val (.ref wf), .unset, .unset, .unset, .unset, .unset] [(.ref a20)])) (fun tq kq => XS.goto X20.here hx rfl (pc0 := 42) (pc' := 47) rfl (hb hby at_42) (by decide) (by decide) kq) ?_
    refine own_st (T20.setTop (mkF m 49 #[.val (.int flag), .val (.int (1 : Int32)), .val (.ref wt), .val (.ref wt), .val (.ref wf), .val (.ref a20), .unset, .unset, .unset, .unset] [])) (fun tq kq => XS.astore X20.here hx rfl (hb hby at_47) rfl (by rfl) (l' := #[.val (.int flag), .val (.int (1 : Int32)), .val (.ref wt), .val (.ref wt), .val (.ref wf), .val (.ref a20), .unset, .unset, .unset, .unset]) rfl kq) ?_
    refine own_st (T20.setTop (mkF m 51 #[.val (.int flag), .val (.int (1 : Int32)), .val (.ref wt), .val (.ref wt), .val (.ref wf), .val (.ref a20), .unset, .unset, .unset, .unset] [(.ref a20)])) (fun tq kq => XS.aload X20.here hx rfl (hb hby at_49) rfl (by rfl) kq) ?_
    refine own_st (T20.setTop (mkF m 52 #[.val (.int flag), .val (.int (1 : Int32)), .val (.ref wt), .val (.ref wt), .val (.ref wf), .val (.ref a20), .unset, .unset, .unset, .unset] [(.ref wt), (.ref a20)])) (fun tq kq => XS.aloadN X20.here hx rfl (hb hby at_51) rfl (by rfl) kq) ?_
    obtain ⟨v21, T21, L21, X21, q21, st21⟩ := own_callV X20 hx hZ20 hown20 (y := (⟨"com/example/rising_block/risingblock/io/YamlNode", "toString", "()Ljava/lang/String;"⟩ : MethodName)) (z := (⟨"com/example/rising_block/risingblock/io/YamlNode", "toString", "()Ljava/lang/String;"⟩ : MethodName)) (hw _ (List.mem_of_getElem? (i := 16) rfl)) (hw _ (List.mem_of_getElem? (i := 17) rfl)) (notFace_of_selects (args := a0) (hw _ (List.mem_of_getElem? (i := 19) rfl))) (hw _ (List.mem_of_getElem? (i := 19) rfl)) (hw _ (List.mem_of_getElem? (i := 18) rfl)) (hw _ (List.mem_of_getElem? (i := 2) rfl)) (hw _ (List.mem_of_getElem? (i := 20) rfl)) (tNE.ext O20.2) (b := wt) (argsL := []) (own_tos4 l Z a0 hw [] cz wt k0 st_ bt kkt (116 : Int32) (114 : Int32) (117 : Int32) (101 : Int32) h20 O20 SC hcz tNE tNK KE KO tNT tE tV tC tA) 1 (by decide) (by decide) (by decide) (by decide) (by decide) e20 (g := (mkF m 52 #[.val (.int flag), .val (.int (1 : Int32)), .val (.ref wt), .val (.ref wt), .val (.ref wf), .val (.ref a20), .unset, .unset, .unset, .unset] [(.ref wt), (.ref a20)])) rfl (by rw [hml]; rfl) [(.ref a20)] (lenOf own_pd__28_29Ljava_2flang_2fString_3b rfl) rfl (by show 2 * 0 + _ ≤ _; exact Nat.le_of_eq rfl) (hb hby at_52)
    obtain ⟨a21, b21, kb21, rfl, N21q, K21q, za21, sa21q, z21, s21q, E21q, fv21, fc21, f21q⟩ := q21
    have N21 := Fr.app N19 N21q
    have nf21a_a20 : a20 ≠ a21 := Nat.ne_of_lt (Nat.lt_of_lt_of_le EA20.lt sa21q)
    have nf21a_b20 : b20 ≠ a21 := Nat.ne_of_lt (Nat.lt_of_lt_of_le AV20.lt sa21q)
    have nf21_a20 : a20 ≠ b21 := Nat.ne_of_lt (Nat.lt_of_lt_of_le EA20.lt s21q)
    have nf21_b20 : b20 ≠ b21 := Nat.ne_of_lt (Nat.lt_of_lt_of_le AV20.lt s21q)
    have s21 : h0.size ≤ b21 := Nat.le_trans K20.1 s21q
    have sa21 : h0.size ≤ a21 := Nat.le_trans K20.1 sa21q
    have f22 := (EA20.keep K21q)
    have f23 := (FC20.keep K21q nin0)
    have f24 := (FV20.keep K21q nin0)
    have f25 := (AV20.keep K21q nin0)
    have O21 := O20.keep K21q all0
    have R21 := R20.trans (CHr.keep K21q all0 R20.1)
    have K21 := K20.trans K21q all0
    refine own_st (T21.setTop (mkF m 55 #[.val (.int flag), .val (.int (1 : Int32)), .val (.ref wt), .val (.ref wt), .val (.ref wf), .val (.ref a20), .unset, .unset, .unset, .unset] [(.ref a21), (.ref a20)])) st21 ?_
    obtain ⟨v26, T26, L26, X26, q26, st26⟩ := own_callV X21 hx hZ20 hown20 (y := (⟨"java/lang/String", "equals", "(Ljava/lang/Object;)Z"⟩ : MethodName)) (z := (⟨"java/lang/String", "equals", "(Ljava/lang/Object;)Z"⟩ : MethodName)) (hw _ (List.mem_of_getElem? (i := 157) rfl)) (hw _ (List.mem_of_getElem? (i := 158) rfl)) (notFace_of_selects (args := a0) (hw _ (List.mem_of_getElem? (i := 160) rfl))) (hw _ (List.mem_of_getElem? (i := 160) rfl)) (hw _ (List.mem_of_getElem? (i := 159) rfl)) (hw _ (List.mem_of_getElem? (i := 9) rfl)) (hw _ (List.mem_of_getElem? (i := 161) rfl)) f22 (b := a20) (argsL := [(.ref a21)]) (own_seq_4 l Z a0 hw [] cz a20 b20 a21 b21 c20 kb21 (116 : Int32) (114 : Int32) (117 : Int32) (101 : Int32) T21.heap O21 SC hcz f22 f24 f23 f25 E21q fv21 fc21 f21q) 0 (by decide) (by decide) (by decide) (by decide) (by decide) rfl (g := (mkF m 55 #[.val (.int flag), .val (.int (1 : Int32)), .val (.ref wt), .val (.ref wt), .val (.ref wf), .val (.ref a20), .unset, .unset, .unset, .unset] [(.ref a21), (.ref a20)])) rfl (by rw [hml]; rfl) [] (lenOf own_pd__28Ljava_2flang_2fObject_3b_29Z rfl) rfl (by show 2 * 0 + _ ≤ _; exact Nat.le_of_eq rfl) (hb hby at_55)
    obtain ⟨rfl, N26q, e26⟩ := q26
    have N26 := Fr.app N21 N26q
    refine own_st (T26.setTop (mkF m 58 #[.val (.int flag), .val (.int (1 : Int32)), .val (.ref wt), .val (.ref wt), .val (.ref wf), .val (.ref a20), .unset, .unset, .unset, .unset] [(.int (1 : Int32))])) st26 ?_
    refine own_st (T26.setTop (mkF m 60 #[.val (.int flag), .val (.int (1 : Int32)), .val (.ref wt), .val (.ref wt), .val (.ref wf), .val (.ref a20), .val (.int (1 : Int32)), .unset, .unset, .unset] [])) (fun tq kq => XS.istore X26.here hx rfl (hb hby at_58) rfl (l' := #[.val (.int flag), .val (.int (1 : Int32)), .val (.ref wt), .val (.ref wt), .val (.ref wf), .val (.ref a20), .val (.int (1 : Int32)), .unset, .unset, .unset]) rfl kq) ?_
    refine own_st (T26.setTop (mkF m 61 #[.val (.int flag), .val (.int (1 : Int32)), .val (.ref wt), .val (.ref wt), .val (.ref wf), .val (.ref a20), .val (.int (1 : Int32)), .unset, .unset, .unset] [(.ref wt)])) (fun tq kq => XS.aloadN X26.here hx rfl (hb hby at_60) rfl (by rfl) kq) ?_
    obtain ⟨v27, T27, L27, X27, q27, st27⟩ := own_callV X26 hx hZ20 hown20 (y := (⟨"com/example/rising_block/risingblock/io/YamlNode", "isMapping", "()Z"⟩ : MethodName)) (z := (⟨"com/example/rising_block/risingblock/io/YamlNode", "isMapping", "()Z"⟩ : MethodName)) (hw _ (List.mem_of_getElem? (i := 167) rfl)) (hw _ (List.mem_of_getElem? (i := 168) rfl)) (notFace_of_selects (args := a0) (hw _ (List.mem_of_getElem? (i := 170) rfl))) (hw _ (List.mem_of_getElem? (i := 170) rfl)) (hw _ (List.mem_of_getElem? (i := 169) rfl)) (hw _ (List.mem_of_getElem? (i := 2) rfl)) (hw _ (List.mem_of_getElem? (i := 171) rfl)) (tNE.ext O21.2) (b := wt) (argsL := []) (own_isMapping l Z a0 hw [] wt k0 k1 T21.heap O21 tNK SK1 nk1) 0 (by decide) (by decide) (by decide) (by decide) (by decide) e26 (g := (mkF m 61 #[.val (.int flag), .val (.int (1 : Int32)), .val (.ref wt), .val (.ref wt), .val (.ref wf), .val (.ref a20), .val (.int (1 : Int32)), .unset, .unset, .unset] [(.ref wt)])) rfl (by rw [hml]; rfl) [] (lenOf own_pd__28_29Z rfl) rfl (by show 2 * 0 + _ ≤ _; exact Nat.le_of_eq rfl) (hb hby at_61)
    obtain ⟨rfl, N27q, e27⟩ := q27
    have N27 := Fr.app N26 N27q
    refine own_st (T27.setTop (mkF m 64 #[.val (.int flag), .val (.int (1 : Int32)), .val (.ref wt), .val (.ref wt), .val (.ref wf), .val (.ref a20), .val (.int (1 : Int32)), .unset, .unset, .unset] [(.int (0 : Int32))])) st27 ?_
    refine own_st (T27.setTop (mkF m 67 #[.val (.int flag), .val (.int (1 : Int32)), .val (.ref wt), .val (.ref wt), .val (.ref wf), .val (.ref a20), .val (.int (1 : Int32)), .unset, .unset, .unset] [])) (fun tq kq => XS.ifNo X27.here hx rfl (hb hby at_64) rfl ((if0 _ _).trans (teq ((by decide) : (0 : Int32) = (0 : Int32))).2) kq) ?_
    refine own_st (T27.setTop (mkF m 68 #[.val (.int flag), .val (.int (1 : Int32)), .val (.ref wt), .val (.ref wt), .val (.ref wf), .val (.ref a20), .val (.int (1 : Int32)), .unset, .unset, .unset] [(.ref wt)])) (fun tq kq => XS.aloadN X27.here hx rfl (hb hby at_67) rfl (by rfl) kq) ?_
    obtain ⟨v28, T28, L28, X28, q28, st28⟩ := own_callV X27 hx hZ20 hown20 (y := (⟨"com/example/rising_block/risingblock/io/YamlNode", "isSequence", "()Z"⟩ : MethodName)) (z := (⟨"com/example/rising_block/risingblock/io/YamlNode", "isSequence", "()Z"⟩ : MethodName)) (hw _ (List.mem_of_getElem? (i := 174) rfl)) (hw _ (List.mem_of_getElem? (i := 175) rfl)) (notFace_of_selects (args := a0) (hw _ (List.mem_of_getElem? (i := 177) rfl))) (hw _ (List.mem_of_getElem? (i := 177) rfl)) (hw _ (List.mem_of_getElem? (i := 176) rfl)) (hw _ (List.mem_of_getElem? (i := 2) rfl)) (hw _ (List.mem_of_getElem? (i := 178) rfl)) (tNE.ext O21.2) (b := wt) (argsL := []) (own_isSequence l Z a0 hw [] wt k0 k2 T21.heap O21 tNK SK2 nk2) 0 (by decide) (by decide) (by decide) (by decide) (by decide) e27 (g := (mkF m 68 #[.val (.int flag), .val (.int (1 : Int32)), .val (.ref wt), .val (.ref wt), .val (.ref wf), .val (.ref a20), .val (.int (1 : Int32)), .unset, .unset, .unset] [(.ref wt)])) rfl (by rw [hml]; rfl) [] (lenOf own_pd__28_29Z rfl) rfl (by show 2 * 0 + _ ≤ _; exact Nat.le_of_eq rfl) (hb hby at_68)
    obtain ⟨rfl, N28q, e28⟩ := q28
    have N28 := Fr.app N27 N28q
    refine own_st (T28.setTop (mkF m 71 #[.val (.int flag), .val (.int (1 : Int32)), .val (.ref wt), .val (.ref wt), .val (.ref wf), .val (.ref a20), .val (.int (1 : Int32)), .unset, .unset, .unset] [(.int (0 : Int32))])) st28 ?_
    refine own_st (T28.setTop (mkF m 74 #[.val (.int flag), .val (.int (1 : Int32)), .val (.ref wt), .val (.ref wt), .val (.ref wf), .val (.ref a20), .val (.int (1 : Int32)), .unset, .unset, .unset] [])) (fun tq kq => XS.ifNo X28.here hx rfl (hb hby at_71) rfl ((if0 _ _).trans (teq ((by decide) : (0 : Int32) = (0 : Int32))).2) kq) ?_
    refine own_st (T28.setTop (mkF m 75 #[.val (.int flag), .val (.int (1 : Int32)), .val (.ref wt), .val (.ref wt), .val (.ref wf), .val (.ref a20), .val (.int (1 : Int32)), .unset, .unset, .unset] [(.ref wt)])) (fun tq kq => XS.aloadN X28.here hx rfl (hb hby at_74) rfl (by rfl) kq) ?_
    obtain ⟨v29, T29, L29, X29, q29, st29⟩ := own_callV X28 hx hZ20 hown20 (y := (⟨"com/example/rising_block/risingblock/io/YamlNode", "isText", "()Z"⟩ : MethodName)) (z := (⟨"com/example/rising_block/risingblock/io/YamlNode", "isText", "()Z"⟩ : MethodName)) (hw _ (List.mem_of_getElem? (i := 181) rfl)) (hw _ (List.mem_of_getElem? (i := 182) rfl)) (notFace_of_selects (args := a0) (hw _ (List.mem_of_getElem? (i := 184) rfl))) (hw _ (List.mem_of_getElem? (i := 184) rfl)) (hw _ (List.mem_of_getElem? (i := 183) rfl)) (hw _ (List.mem_of_getElem? (i := 2) rfl)) (hw _ (List.mem_of_getElem? (i := 185) rfl)) (tNE.ext O21.2) (b := wt) (argsL := []) (own_isText l Z a0 hw [] wt k0 k3 T21.heap O21 tNK SK3 nk3) 0 (by decide) (by decide) (by decide) (by decide) (by decide) e28 (g := (mkF m 75 #[.val (.int flag), .val (.int (1 : Int32)), .val (.ref wt), .val (.ref wt), .val (.ref wf), .val (.ref a20), .val (.int (1 : Int32)), .unset, .unset, .unset] [(.ref wt)])) rfl (by rw [hml]; rfl) [] (lenOf own_pd__28_29Z rfl) rfl (by show 2 * 0 + _ ≤ _; exact Nat.le_of_eq rfl) (hb hby at_75)
    obtain ⟨rfl, N29q, e29⟩ := q29
    have N29 := Fr.app N28 N29q
    refine own_st (T29.setTop (mkF m 78 #[.val (.int flag), .val (.int (1 : Int32)), .val (.ref wt), .val (.ref wt), .val (.ref wf), .val (.ref a20), .val (.int (1 : Int32)), .unset, .unset, .unset] [(.int (0 : Int32))])) st29 ?_
    refine own_st (T29.setTop (mkF m 81 #[.val (.int flag), .val (.int (1 : Int32)), .val (.ref wt), .val (.ref wt), .val (.ref wf), .val (.ref a20), .val (.int (1 : Int32)), .unset, .unset, .unset] [])) (fun tq kq => XS.ifNo X29.here hx rfl (hb hby at_78) rfl ((if0 _ _).trans (teq ((by decide) : (0 : Int32) = (0 : Int32))).2) kq) ?_
    refine own_st (T29.setTop (mkF m 82 #[.val (.int flag), .val (.int (1 : Int32)), .val (.ref wt), .val (.ref wt), .val (.ref wf), .val (.ref a20), .val (.int (1 : Int32)), .unset, .unset, .unset] [(.ref wt)])) (fun tq kq => XS.aloadN X29.here hx rfl (hb hby at_81) rfl (by rfl) kq) ?_
    obtain ⟨v30, T30, L30, X30, q30, st30⟩ := own_callV X29 hx hZ20 hown20 (y := (⟨"com/example/rising_block/risingblock/io/YamlNode", "isNumber", "()Z"⟩ : MethodName)) (z := (⟨"com/example/rising_block/risingblock/io/YamlNode", "isNumber", "()Z"⟩ : MethodName)) (hw _ (List.mem_of_getElem? (i := 188) rfl)) (hw _ (List.mem_of_getElem? (i := 189) rfl)) (notFace_of_selects (args := a0) (hw _ (List.mem_of_getElem? (i := 191) rfl))) (hw _ (List.mem_of_getElem? (i := 191) rfl)) (hw _ (List.mem_of_getElem? (i := 190) rfl)) (hw _ (List.mem_of_getElem? (i := 2) rfl)) (hw _ (List.mem_of_getElem? (i := 192) rfl)) (tNE.ext O21.2) (b := wt) (argsL := []) (own_isNumber l Z a0 hw [] wt k0 k4 T21.heap O21 tNK SK4 nk4) 0 (by decide) (by decide) (by decide) (by decide) (by decide) e29 (g := (mkF m 82 #[.val (.int flag), .val (.int (1 : Int32)), .val (.ref wt), .val (.ref wt), .val (.ref wf), .val (.ref a20), .val (.int (1 : Int32)), .unset, .unset, .unset] [(.ref wt)])) rfl (by rw [hml]; rfl) [] (lenOf own_pd__28_29Z rfl) rfl (by show 2 * 0 + _ ≤ _; exact Nat.le_of_eq rfl) (hb hby at_82)
    obtain ⟨rfl, N30q, e30⟩ := q30
    have N30 := Fr.app N29 N30q
    refine own_st (T30.setTop (mkF m 85 #[.val (.int flag), .val (.int (1 : Int32)), .val (.ref wt), .val (.ref wt), .val (.ref wf), .val (.ref a20), .val (.int (1 : Int32)), .unset, .unset, .unset] [(.int (0 : Int32))])) st30 ?_
    refine own_st (T30.setTop (mkF m 88 #[.val (.int flag), .val (.int (1 : Int32)), .val (.ref wt), .val (.ref wt), .val (.ref wf), .val (.ref a20), .val (.int (1 : Int32)), .unset, .unset, .unset] [])) (fun tq kq => XS.ifNo X30.here hx rfl (hb hby at_85) rfl ((if0 _ _).trans (teq ((by decide) : (0 : Int32) = (0 : Int32))).2) kq) ?_
    refine own_st (T30.setTop (mkF m 89 #[.val (.int flag), .val (.int (1 : Int32)), .val (.ref wt), .val (.ref wt), .val (.ref wf), .val (.ref a20), .val (.int (1 : Int32)), .unset, .unset, .unset] [(.int (1 : Int32))])) (fun tq kq => XS.iconst X30.here hx rfl (hb hby at_88) kq) ?_
    refine own_st (T30.setTop (mkF m 93 #[.val (.int flag), .val (.int (1 : Int32)), .val (.ref wt), .val (.ref wt), .val (.ref wf), .val (.ref a20), .val (.int (1 : Int32)), .unset, .unset, .unset] [(.int (1 : Int32))])) (fun tq kq => XS.goto X30.here hx rfl (pc0 := 89) (pc' := 93) rfl (hb hby at_89) (by decide) (by decide) kq) ?_
    refine own_st (T30.setTop (mkF m 95 #[.val (.int flag), .val (.int (1 : Int32)), .val (.ref wt), .val (.ref wt), .val (.ref wf), .val (.ref a20), .val (.int (1 : Int32)), .val (.int (1 : Int32)), .unset, .unset] [])) (fun tq kq => XS.istore X30.here hx rfl (hb hby at_93) rfl (l' := #[.val (.int flag), .val (.int (1 : Int32)), .val (.ref wt), .val (.ref wt), .val (.ref wf), .val (.ref a20), .val (.int (1 : Int32)), .val (.int (1 : Int32)), .unset, .unset]) rfl kq) ?_
    refine own_st (T30.setTop (mkF m 96 #[.val (.int flag), .val (.int (1 : Int32)), .val (.ref wt), .val (.ref wt), .val (.ref wf), .val (.ref a20), .val (.int (1 : Int32)), .val (.int (1 : Int32)), .unset, .unset] [(.ref wt)])) (fun tq kq => XS.aloadN X30.here hx rfl (hb hby at_95) rfl (by rfl) kq) ?_
    obtain ⟨v31, T31, L31, X31, q31, st31⟩ := own_callV X30 hx hZ20 hown20 (y := (⟨"com/example/rising_block/risingblock/io/YamlNode", "size", "()I"⟩ : MethodName)) (z := (⟨"com/example/rising_block/risingblock/io/YamlNode", "size", "()I"⟩ : MethodName)) (hw _ (List.mem_of_getElem? (i := 195) rfl)) (hw _ (List.mem_of_getElem? (i := 196) rfl)) (notFace_of_selects (args := a0) (hw _ (List.mem_of_getElem? (i := 198) rfl))) (hw _ (List.mem_of_getElem? (i := 198) rfl)) (hw _ (List.mem_of_getElem? (i := 197) rfl)) (hw _ (List.mem_of_getElem? (i := 2) rfl)) (hw _ (List.mem_of_getElem? (i := 199) rfl)) (tNE.ext O21.2) (b := wt) (argsL := []) (own_size l Z a0 hw [] wt T21.heap O21 tFK tFE) 0 (by decide) (by decide) (by decide) (by decide) (by decide) e30 (g := (mkF m 96 #[.val (.int flag), .val (.int (1 : Int32)), .val (.ref wt), .val (.ref wt), .val (.ref wf), .val (.ref a20), .val (.int (1 : Int32)), .val (.int (1 : Int32)), .unset, .unset] [(.ref wt)])) rfl (by rw [hml]; rfl) [] (lenOf own_pd__28_29I rfl) rfl (by show 2 * 0 + _ ≤ _; exact Nat.le_of_eq rfl) (hb hby at_96)
    obtain ⟨rfl, N31q, e31⟩ := q31
    have N31 := Fr.app N30 N31q
    refine own_st (T31.setTop (mkF m 99 #[.val (.int flag), .val (.int (1 : Int32)), .val (.ref wt), .val (.ref wt), .val (.ref wf), .val (.ref a20), .val (.int (1 : Int32)), .val (.int (1 : Int32)), .unset, .unset] [(.int (0 : Int32))])) st31 ?_
    refine own_st (T31.setTop (mkF m 102 #[.val (.int flag), .val (.int (1 : Int32)), .val (.ref wt), .val (.ref wt), .val (.ref wf), .val (.ref a20), .val (.int (1 : Int32)), .val (.int (1 : Int32)), .unset, .unset] [])) (fun tq kq => XS.ifNo X31.here hx rfl (hb hby at_99) rfl ((if0 _ _).trans (teq ((by decide) : (0 : Int32) = (0 : Int32))).2) kq) ?_
    refine own_st (T31.setTop (mkF m 103 #[.val (.int flag), .val (.int (1 : Int32)), .val (.ref wt), .val (.ref wt), .val (.ref wf), .val (.ref a20), .val (.int (1 : Int32)), .val (.int (1 : Int32)), .unset, .unset] [(.int (1 : Int32))])) (fun tq kq => XS.iconst X31.here hx rfl (hb hby at_102) kq) ?_
    refine own_st (T31.setTop (mkF m 107 #[.val (.int flag), .val (.int (1 : Int32)), .val (.ref wt), .val (.ref wt), .val (.ref wf), .val (.ref a20), .val (.int (1 : Int32)), .val (.int (1 : Int32)), .unset, .unset] [(.int (1 : Int32))])) (fun tq kq => XS.goto X31.here hx rfl (pc0 := 103) (pc' := 107) rfl (hb hby at_103) (by decide) (by decide) kq) ?_
    refine own_st (T31.setTop (mkF m 109 #[.val (.int flag), .val (.int (1 : Int32)), .val (.ref wt), .val (.ref wt), .val (.ref wf), .val (.ref a20), .val (.int (1 : Int32)), .val (.int (1 : Int32)), .val (.int (1 : Int32)), .unset] [])) (fun tq kq => XS.istore X31.here hx rfl (hb hby at_107) rfl (l' := #[.val (.int flag), .val (.int (1 : Int32)), .val (.ref wt), .val (.ref wt), .val (.ref wf), .val (.ref a20), .val (.int (1 : Int32)), .val (.int (1 : Int32)), .val (.int (1 : Int32)), .unset]) rfl kq) ?_
    refine own_st (T31.setTop (mkF m 110 #[.val (.int flag), .val (.int (1 : Int32)), .val (.ref wt), .val (.ref wt), .val (.ref wf), .val (.ref a20), .val (.int (1 : Int32)), .val (.int (1 : Int32)), .val (.int (1 : Int32)), .unset] [(.ref wt)])) (fun tq kq => XS.aloadN X31.here hx rfl (hb hby at_109) rfl (by rfl) kq) ?_
    refine own_st (T31.setTop (mkF m 111 #[.val (.int flag), .val (.int (1 : Int32)), .val (.ref wt), .val (.ref wt), .val (.ref wf), .val (.ref a20), .val (.int (1 : Int32)), .val (.int (1 : Int32)), .val (.int (1 : Int32)), .unset] [(.ref wt), (.ref wt)])) (fun tq kq => XS.aloadN X31.here hx rfl (hb hby at_110) rfl (by rfl) kq) ?_
    refine own_st (T31.setTop (mkF m 114 #[.val (.int flag), .val (.int (1 : Int32)), .val (.ref wt), .val (.ref wt), .val (.ref wf), .val (.ref a20), .val (.int (1 : Int32)), .val (.int (1 : Int32)), .val (.int (1 : Int32)), .unset] [])) (fun tq kq => Jvm.RoadKit.acmp (g := (mkF m 111 #[.val (.int flag), .val (.int (1 : Int32)), .val (.ref wt), .val (.ref wt), .val (.ref wf), .val (.ref a20), .val (.int (1 : Int32)), .val (.int (1 : Int32)), .val (.int (1 : Int32)), .unset] [(.ref wt), (.ref wt)])) X31 hx rfl (by rfl) (by rfl) (pc0 := 111) (pc' := 114) (same := true) rfl (hb hby at_111) rfl (decide_eq_true (congrArg Value.ref (rfl : wt = wt))) (by decide) (by decide) kq) ?_
    refine own_st (T31.setTop (mkF m 115 #[.val (.int flag), .val (.int (1 : Int32)), .val (.ref wt), .val (.ref wt), .val (.ref wf), .val (.ref a20), .val (.int (1 : Int32)), .val (.int (1 : Int32)), .val (.int (1 : Int32)), .unset] [(.ref wt)])) (fun tq kq => XS.aloadN X31.here hx rfl (hb hby at_114) rfl (by rfl) kq) ?_
    refine own_st (T31.setTop (mkF m 117 #[.val (.int flag), .val (.int (1 : Int32)), .val (.ref wt), .val (.ref wt), .val (.ref wf), .val (.ref a20), .val (.int (1 : Int32)), .val (.int (1 : Int32)), .val (.int (1 : Int32)), .unset] [(.ref wf), (.ref wt)])) (fun tq kq => XS.aload X31.here hx rfl (hb hby at_115) rfl (by rfl) kq) ?_
    refine own_st (T31.setTop (mkF m 120 #[.val (.int flag), .val (.int (1 : Int32)), .val (.ref wt), .val (.ref wt), .val (.ref wf), .val (.ref a20), .val (.int (1 : Int32)), .val (.int (1 : Int32)), .val (.int (1 : Int32)), .unset] [])) (fun tq kq => Jvm.RoadKit.acmp (g := (mkF m 117 #[.val (.int flag), .val (.int (1 : Int32)), .val (.ref wt), .val (.ref wt), .val (.ref wf), .val (.ref a20), .val (.int (1 : Int32)), .val (.int (1 : Int32)), .val (.int (1 : Int32)), .unset] [(.ref wf), (.ref wt)])) X31 hx rfl (by rfl) (by rfl) (pc0 := 117) (pc' := 120) (same := false) rfl (hb hby at_117) rfl (decide_eq_false (fun q => (ntf : ¬ (wt = wf)) (Value.ref.inj q))) (by decide) (by decide) kq) ?_
    refine own_st (T31.setTop (mkF m 121 #[.val (.int flag), .val (.int (1 : Int32)), .val (.ref wt), .val (.ref wt), .val (.ref wf), .val (.ref a20), .val (.int (1 : Int32)), .val (.int (1 : Int32)), .val (.int (1 : Int32)), .unset] [(.int (1 : Int32))])) (fun tq kq => XS.iconst X31.here hx rfl (hb hby at_120) kq) ?_
    refine own_st (T31.setTop (mkF m 125 #[.val (.int flag), .val (.int (1 : Int32)), .val (.ref wt), .val (.ref wt), .val (.ref wf), .val (.ref a20), .val (.int (1 : Int32)), .val (.int (1 : Int32)), .val (.int (1 : Int32)), .unset] [(.int (1 : Int32))])) (fun tq kq => XS.goto X31.here hx rfl (pc0 := 121) (pc' := 125) rfl (hb hby at_121) (by decide) (by decide) kq) ?_
    refine own_st (T31.setTop (mkF m 127 #[.val (.int flag), .val (.int (1 : Int32)), .val (.ref wt), .val (.ref wt), .val (.ref wf), .val (.ref a20), .val (.int (1 : Int32)), .val (.int (1 : Int32)), .val (.int (1 : Int32)), .val (.int (1 : Int32))] [])) (fun tq kq => XS.istore X31.here hx rfl (hb hby at_125) rfl (l' := #[.val (.int flag), .val (.int (1 : Int32)), .val (.ref wt), .val (.ref wt), .val (.ref wf), .val (.ref a20), .val (.int (1 : Int32)), .val (.int (1 : Int32)), .val (.int (1 : Int32)), .val (.int (1 : Int32))]) rfl kq) ?_
    refine own_st (T31.setTop (mkF m 129 #[.val (.int flag), .val (.int (1 : Int32)), .val (.ref wt), .val (.ref wt), .val (.ref wf), .val (.ref a20), .val (.int (1 : Int32)), .val (.int (1 : Int32)), .val (.int (1 : Int32)), .val (.int (1 : Int32))] [(.int (1 : Int32))])) (fun tq kq => XS.iload X31.here hx rfl (hb hby at_127) rfl kq) ?_
    refine own_st (T31.setTop (mkF m 132 #[.val (.int flag), .val (.int (1 : Int32)), .val (.ref wt), .val (.ref wt), .val (.ref wf), .val (.ref a20), .val (.int (1 : Int32)), .val (.int (1 : Int32)), .val (.int (1 : Int32)), .val (.int (1 : Int32))] [])) (fun tq kq => XS.ifNo X31.here hx rfl (hb hby at_129) rfl ((if0 _ _).trans (feq ((by decide) : ¬ ((1 : Int32) = (0 : Int32)))).1) kq) ?_
    refine own_st (T31.setTop (mkF m 134 #[.val (.int flag), .val (.int (1 : Int32)), .val (.ref wt), .val (.ref wt), .val (.ref wf), .val (.ref a20), .val (.int (1 : Int32)), .val (.int (1 : Int32)), .val (.int (1 : Int32)), .val (.int (1 : Int32))] [(.int (1 : Int32))])) (fun tq kq => XS.iload X31.here hx rfl (hb hby at_132) rfl kq) ?_
    refine own_st (T31.setTop (mkF m 137 #[.val (.int flag), .val (.int (1 : Int32)), .val (.ref wt), .val (.ref wt), .val (.ref wf), .val (.ref a20), .val (.int (1 : Int32)), .val (.int (1 : Int32)), .val (.int (1 : Int32)), .val (.int (1 : Int32))] [])) (fun tq kq => XS.ifNo X31.here hx rfl (hb hby at_134) rfl ((if0 _ _).trans (feq ((by decide) : ¬ ((1 : Int32) = (0 : Int32)))).1) kq) ?_
    refine own_st (T31.setTop (mkF m 139 #[.val (.int flag), .val (.int (1 : Int32)), .val (.ref wt), .val (.ref wt), .val (.ref wf), .val (.ref a20), .val (.int (1 : Int32)), .val (.int (1 : Int32)), .val (.int (1 : Int32)), .val (.int (1 : Int32))] [(.int (1 : Int32))])) (fun tq kq => XS.iload X31.here hx rfl (hb hby at_137) rfl kq) ?_
    refine own_st (T31.setTop (mkF m 142 #[.val (.int flag), .val (.int (1 : Int32)), .val (.ref wt), .val (.ref wt), .val (.ref wf), .val (.ref a20), .val (.int (1 : Int32)), .val (.int (1 : Int32)), .val (.int (1 : Int32)), .val (.int (1 : Int32))] [])) (fun tq kq => XS.ifNo X31.here hx rfl (hb hby at_139) rfl ((if0 _ _).trans (feq ((by decide) : ¬ ((1 : Int32) = (0 : Int32)))).1) kq) ?_
    refine own_st (T31.setTop (mkF m 144 #[.val (.int flag), .val (.int (1 : Int32)), .val (.ref wt), .val (.ref wt), .val (.ref wf), .val (.ref a20), .val (.int (1 : Int32)), .val (.int (1 : Int32)), .val (.int (1 : Int32)), .val (.int (1 : Int32))] [(.int (1 : Int32))])) (fun tq kq => XS.iload X31.here hx rfl (hb hby at_142) rfl kq) ?_
    refine own_st (T31.setTop (mkF m 147 #[.val (.int flag), .val (.int (1 : Int32)), .val (.ref wt), .val (.ref wt), .val (.ref wf), .val (.ref a20), .val (.int (1 : Int32)), .val (.int (1 : Int32)), .val (.int (1 : Int32)), .val (.int (1 : Int32))] [])) (fun tq kq => XS.ifNo X31.here hx rfl (hb hby at_144) rfl ((if0 _ _).trans (feq ((by decide) : ¬ ((1 : Int32) = (0 : Int32)))).1) kq) ?_
    refine own_st (T31.setTop (mkF m 148 #[.val (.int flag), .val (.int (1 : Int32)), .val (.ref wt), .val (.ref wt), .val (.ref wf), .val (.ref a20), .val (.int (1 : Int32)), .val (.int (1 : Int32)), .val (.int (1 : Int32)), .val (.int (1 : Int32))] [(.int (1 : Int32))])) (fun tq kq => XS.iconst X31.here hx rfl (hb hby at_147) kq) ?_
    refine own_st (T31.setTop (mkF m 152 #[.val (.int flag), .val (.int (1 : Int32)), .val (.ref wt), .val (.ref wt), .val (.ref wf), .val (.ref a20), .val (.int (1 : Int32)), .val (.int (1 : Int32)), .val (.int (1 : Int32)), .val (.int (1 : Int32))] [(.int (1 : Int32))])) (fun tq kq => XS.goto X31.here hx rfl (pc0 := 148) (pc' := 152) rfl (hb hby at_148) (by decide) (by decide) kq) ?_
    exact own_retW X31 hlk hS20 (Nat.le_trans hk20 K21q.1) hZ20 hEL R21 (v := some (.int (1 : Int32))) (fun h => by rw [hret] at h; cases h) e31 (fun vm1 C1 => ⟨rfl, N31⟩) (by decide) (by decide) (fun fs hr => own_retN X31 hx (t := .boolean) hret (by simp) (hb hby at_152) rfl hr)
set_option maxRecDepth 65536 in
set_option maxHeartbeats 40000000 in
theorem comes_1 {Post : Tables → Env → Array Value → State → Outcome → State → Prop} (hpost : ∀ tb e args s v u, (limb_1_1.after args s (.returned v) u = true ∧ limb_1_2.after args s (.returned v) u = true ∧ True) → ReturnedEndW s (.returned v) u (Jvm.fieldLocs frame_1_writes args s ++ Jvm.arrayLocs frame_1_arrays args s ++ Jvm.staticLocs frame_1_statics s) 24 2240 → Post tb e args s (.returned v) u) :
    ArmFor flags0 classFile x code maxLocals ret World_1 tables_1 room_1 Calls_1 rest_1 Pre_1 Post := by
  intro l hfl _ _ p e ha hc hk s m args below hf hA hF happ hP
  obtain ⟨hcalls, hrest, hpre⟩ := hP
  obtain ⟨-, -, -, hnamed, -, -, -, hat⟩ := (Spec.applies_iff hf).mp happ
  obtain ⟨hg, hn⟩ := and_e (Cond.before_iff.mp (show (Jvm.Cond.and given_1 narrow_1).before args s = true from hpre))
  obtain ⟨g1, g2⟩ := and_e hg
  obtain ⟨g3, g4⟩ := and_e hn
  obtain ⟨g5, g6⟩ := and_e g4
  obtain ⟨g7, g8⟩ := and_e g6
  obtain ⟨g9, g10⟩ := and_e g8
  obtain ⟨g11, g12⟩ := and_e g10
  obtain ⟨g13, g14⟩ := and_e g12
  obtain ⟨g15, g16⟩ := and_e g14
  obtain ⟨g17, g18⟩ := and_e g16
  obtain ⟨g19, g20⟩ := and_e g18
  obtain ⟨g21, g22⟩ := and_e g20
  obtain ⟨g23, g24⟩ := and_e g22
  obtain ⟨g25, g26⟩ := and_e g24
  obtain ⟨g27, g28⟩ := and_e g26
  obtain ⟨g29, g30⟩ := and_e g28
  obtain ⟨g31, g32⟩ := and_e g30
  obtain ⟨g33, g34⟩ := and_e g32
  obtain ⟨g35, g36⟩ := and_e g34
  obtain ⟨g37, g38⟩ := and_e g36
  obtain ⟨g39, g40⟩ := and_e g38
  obtain ⟨g41, g42⟩ := and_e g40
  obtain ⟨g43, g44⟩ := and_e g42
  obtain ⟨g45, g46⟩ := and_e g44
  obtain ⟨g47, g48⟩ := and_e g46
  obtain ⟨g49, g50⟩ := and_e g48
  obtain ⟨g51, g52⟩ := and_e g50
  obtain ⟨g53, g54⟩ := and_e g52
  obtain ⟨g55, g56⟩ := and_e g54
  obtain ⟨g57, g58⟩ := and_e g56
  obtain ⟨g59, g60⟩ := and_e g58
  obtain ⟨g61, g62⟩ := and_e g60
  obtain ⟨g63, g64⟩ := and_e g62
  obtain ⟨g65, g66⟩ := and_e g64
  obtain ⟨g67, g68⟩ := and_e g66
  obtain ⟨g69, g70⟩ := and_e g68
  obtain ⟨g71, g72⟩ := and_e g70
  obtain ⟨g73, g74⟩ := and_e g72
  obtain ⟨g75, g76⟩ := and_e g74
  obtain ⟨w0, rfl⟩ : ∃ w0 : Value, args = #[w0] := by
    have hs : args.size = 1 := by simpa [Cond.value, given_1] using g1
    obtain ⟨L⟩ := args
    match L, hs with
    | [w0], _ => exact ⟨w0, rfl⟩
  have hw := fun d (hd : d ∈ tables_1) => atoms_spec (ws := Jvm.Cond.code x code maxLocals ret :: tables_1) hat d (List.mem_cons_of_mem _ hd)
  have hfit : Fit s := fun {y c} hc i hi => by
    obtain ⟨ha, rfl⟩ := Array.getElem?_eq_some_iff.mp hc
    have q := List.all_eq_true.mp ((Array.all_eq_true_iff_forall_mem.mp hF) _ (Array.getElem_mem ha)) i (List.mem_range.mpr hi)
    simpa [Array.getElem?_eq_getElem hi] using q
  obtain ⟨hsets, hown0⟩ := atoms_of _ (rest_1_c_eq ▸ (show rest_1_c.before _ s = true from hrest))
  have hr0 := Cond.before_iff.mp hown0
  obtain ⟨i0, ei0⟩ := is_v g2
  obtain rfl : w0 = (.int i0) := Option.some.inj ei0
  obtain ⟨sa77, se78⟩ := exa_v g3
  have E79 : Exa s s.heap sa77 "com/example/rising_block/risingblock/io/YamlNode" := Exa.start se78 g3
  have S80 : Sta s s.heap "com/example/rising_block/risingblock/io/YamlNode" "FALSE" "Lcom/example/rising_block/risingblock/io/YamlNode;" (.ref sa77) := Sta.start se78 (Or.inr ⟨(hw _ (List.mem_of_getElem? (i := 2) rfl)), (hw _ (List.mem_of_getElem? (i := 5) rfl))⟩)
  obtain ⟨sa81, se82⟩ := exa_v g5
  have E83 : Exa s s.heap sa81 "com/example/rising_block/risingblock/io/YamlNode" := Exa.start se82 g5
  have S84 : Sta s s.heap "com/example/rising_block/risingblock/io/YamlNode" "TRUE" "Lcom/example/rising_block/risingblock/io/YamlNode;" (.ref sa81) := Sta.start se82 (Or.inr ⟨(hw _ (List.mem_of_getElem? (i := 2) rfl)), (hw _ (List.mem_of_getElem? (i := 7) rfl))⟩)
  obtain ⟨sa85, se86⟩ := exa_v g7
  have E87 : Exa s s.heap sa85 "com/example/rising_block/risingblock/io/YamlNode$Kind" := Exa.start se86 g7
  have S88 : Sta s s.heap "com/example/rising_block/risingblock/io/YamlNode$Kind" "BOOLEAN" "Lcom/example/rising_block/risingblock/io/YamlNode$Kind;" (.ref sa85) := Sta.start se86 (Or.inr ⟨(hw _ (List.mem_of_getElem? (i := 47) rfl)), (hw _ (List.mem_of_getElem? (i := 48) rfl))⟩)
  have se89 := own_eqR g9 se86
  have F90 : Fld s s.heap sa77 "com/example/rising_block/risingblock/io/YamlNode" "kind" "Lcom/example/rising_block/risingblock/io/YamlNode$Kind;" (.ref sa85) := Fld.start ((fld_at se78).symm.trans se89)
  have se91 := own_eqI g11 (Term.int_eval _)
  have F92 : Fld s s.heap sa85 "java/lang/Enum" "ordinal" "I" (.int (4 : Int32)) := Fld.start ((fld_at se86).symm.trans se91)
  obtain ⟨sa93, se94⟩ := exa_v g13
  have E95 : Exa s s.heap sa93 "java/lang/String" := Exa.start se94 g13
  have F96 : Fld s s.heap sa77 "com/example/rising_block/risingblock/io/YamlNode" "text" "Ljava/lang/String;" (.ref sa93) := Fld.start ((fld_at se78).symm.trans se94)
  obtain ⟨sa99, se100⟩ := arr_v g15
  have F101 : Fld s s.heap sa93 "java/lang/String" "value" "[B" (.ref sa99) := Fld.start ((fld_at se94).symm.trans se100)
  obtain ⟨cl97, A98⟩ := Arr.start se100 g15
  have E102 : Exa s s.heap sa99 "[B" := Exa.start se100 g17
  have se103 := own_eqI g19 (Term.int_eval _)
  have se104 := own_eqI g21 (Term.int_eval _)
  have F105 : Fld s s.heap sa93 "java/lang/String" "coder" "B" (.int (0 : Int32)) := Fld.start ((fld_at se94).symm.trans se104)
  obtain ⟨sa106, se107⟩ := exa_v g23
  have E108 : Exa s s.heap sa106 "com/example/rising_block/risingblock/io/YamlNode$Kind" := Exa.start se107 g23
  have S109 : Sta s s.heap "com/example/rising_block/risingblock/io/YamlNode$Kind" "MAPPING" "Lcom/example/rising_block/risingblock/io/YamlNode$Kind;" (.ref sa106) := Sta.start se107 (Or.inr ⟨(hw _ (List.mem_of_getElem? (i := 47) rfl)), (hw _ (List.mem_of_getElem? (i := 173) rfl))⟩)
  have se110 := own_eqI g25 (Term.int_eval _)
  have F111 : Fld s s.heap sa106 "java/lang/Enum" "ordinal" "I" (.int (0 : Int32)) := Fld.start ((fld_at se107).symm.trans se110)
  obtain ⟨sa112, se113⟩ := exa_v g27
  have E114 : Exa s s.heap sa112 "com/example/rising_block/risingblock/io/YamlNode$Kind" := Exa.start se113 g27
  have S115 : Sta s s.heap "com/example/rising_block/risingblock/io/YamlNode$Kind" "SEQUENCE" "Lcom/example/rising_block/risingblock/io/YamlNode$Kind;" (.ref sa112) := Sta.start se113 (Or.inr ⟨(hw _ (List.mem_of_getElem? (i := 47) rfl)), (hw _ (List.mem_of_getElem? (i := 180) rfl))⟩)
  have se116 := own_eqI g29 (Term.int_eval _)
  have F117 : Fld s s.heap sa112 "java/lang/Enum" "ordinal" "I" (.int (1 : Int32)) := Fld.start ((fld_at se113).symm.trans se116)
  obtain ⟨sa118, se119⟩ := exa_v g31
  have E120 : Exa s s.heap sa118 "com/example/rising_block/risingblock/io/YamlNode$Kind" := Exa.start se119 g31
  have S121 : Sta s s.heap "com/example/rising_block/risingblock/io/YamlNode$Kind" "TEXT" "Lcom/example/rising_block/risingblock/io/YamlNode$Kind;" (.ref sa118) := Sta.start se119 (Or.inr ⟨(hw _ (List.mem_of_getElem? (i := 47) rfl)), (hw _ (List.mem_of_getElem? (i := 187) rfl))⟩)
  have se122 := own_eqI g33 (Term.int_eval _)
  have F123 : Fld s s.heap sa118 "java/lang/Enum" "ordinal" "I" (.int (2 : Int32)) := Fld.start ((fld_at se119).symm.trans se122)
  obtain ⟨sa124, se125⟩ := exa_v g35
  have E126 : Exa s s.heap sa124 "com/example/rising_block/risingblock/io/YamlNode$Kind" := Exa.start se125 g35
  have S127 : Sta s s.heap "com/example/rising_block/risingblock/io/YamlNode$Kind" "NUMBER" "Lcom/example/rising_block/risingblock/io/YamlNode$Kind;" (.ref sa124) := Sta.start se125 (Or.inr ⟨(hw _ (List.mem_of_getElem? (i := 47) rfl)), (hw _ (List.mem_of_getElem? (i := 194) rfl))⟩)
  have se128 := own_eqI g37 (Term.int_eval _)
  have F129 : Fld s s.heap sa124 "java/lang/Enum" "ordinal" "I" (.int (3 : Int32)) := Fld.start ((fld_at se125).symm.trans se128)
  have se130 := null_v g39
  have F131 : Fld s s.heap sa77 "com/example/rising_block/risingblock/io/YamlNode" "keyed" "Ljava/util/Map;" .null := Fld.start ((fld_at se78).symm.trans se130)
  have se132 := null_v g41
  have F133 : Fld s s.heap sa77 "com/example/rising_block/risingblock/io/YamlNode" "elements" "Ljava/util/List;" .null := Fld.start ((fld_at se78).symm.trans se132)
  have ne134 : sa77 ≠ sa81 := fun q => gotF (eq_R se78 se82 rfl rfl) (not_v g43) (congrArg Value.ref q)
  have se135 := own_eqR g45 se86
  have F136 : Fld s s.heap sa81 "com/example/rising_block/risingblock/io/YamlNode" "kind" "Lcom/example/rising_block/risingblock/io/YamlNode$Kind;" (.ref sa85) := Fld.start ((fld_at se82).symm.trans se135)
  obtain ⟨sa137, se138⟩ := exa_v g47
  have E139 : Exa s s.heap sa137 "java/lang/String" := Exa.start se138 g47
  have F140 : Fld s s.heap sa81 "com/example/rising_block/risingblock/io/YamlNode" "text" "Ljava/lang/String;" (.ref sa137) := Fld.start ((fld_at se82).symm.trans se138)
  obtain ⟨sa143, se144⟩ := arr_v g49
  have F145 : Fld s s.heap sa137 "java/lang/String" "value" "[B" (.ref sa143) := Fld.start ((fld_at se138).symm.trans se144)
  obtain ⟨cl141, A142⟩ := Arr.start se144 g49
  have E146 : Exa s s.heap sa143 "[B" := Exa.start se144 g51
  have se147 := own_eqI g53 (Term.int_eval _)
  have se148 := own_eqI g55 (Term.int_eval _)
  have F149 : Fld s s.heap sa137 "java/lang/String" "coder" "B" (.int (0 : Int32)) := Fld.start ((fld_at se138).symm.trans se148)
  have se150 := own_eqI g57 (Term.int_eval _)
  have se151 := own_eqI g59 (Term.int_eval _)
  have se152 := own_eqI g61 (Term.int_eval _)
  have se153 := own_eqI g63 (Term.int_eval _)
  have se154 := null_v g65
  have F155 : Fld s s.heap sa81 "com/example/rising_block/risingblock/io/YamlNode" "keyed" "Ljava/util/Map;" .null := Fld.start ((fld_at se82).symm.trans se154)
  have se156 := null_v g67
  have F157 : Fld s s.heap sa81 "com/example/rising_block/risingblock/io/YamlNode" "elements" "Ljava/util/List;" .null := Fld.start ((fld_at se82).symm.trans se156)
  have se158 := own_eqI g69 (Term.int_eval _)
  have se159 := own_eqI g71 (Term.int_eval _)
  have se160 := own_eqI g73 (Term.int_eval _)
  have se161 := own_eqI g75 (Term.int_eval _)
  have se162 := own_eqI g76 (Term.int_eval _)
  have V163 : Arv s s.heap sa99 cl97.cls .byte (5 : Int32) [(.int (102 : Int32)), (.int (97 : Int32)), (.int (108 : Int32)), (.int (115 : Int32)), (.int (101 : Int32))] (.int (0 : Int32)) := own_arv hfit A98 se100 se103 (by decide) (by decide) ⟨(elem_in se158 se100 (Term.int_eval _) A98.1).2, (elem_in se159 se100 (Term.int_eval _) A98.1).2, (elem_in se160 se100 (Term.int_eval _) A98.1).2, (elem_in se161 se100 (Term.int_eval _) A98.1).2, (elem_in se162 se100 (Term.int_eval _) A98.1).2, trivial⟩
  have V164 : Arv s s.heap sa143 cl141.cls .byte (4 : Int32) [(.int (116 : Int32)), (.int (114 : Int32)), (.int (117 : Int32)), (.int (101 : Int32))] (.int (0 : Int32)) := own_arv hfit A142 se144 se147 (by decide) (by decide) ⟨(elem_in se150 se144 (Term.int_eval _) A142.1).2, (elem_in se151 se144 (Term.int_eval _) A142.1).2, (elem_in se152 se144 (Term.int_eval _) A142.1).2, (elem_in se153 se144 (Term.int_eval _) A142.1).2, trivial⟩
  obtain ⟨cz, ecz⟩ := is_v (Cond.before_iff.mp (hsets _ (List.mem_of_getElem? (i := 1) rfl)))
  have SC : Sta s s.heap "java/lang/String" "COMPACT_STRINGS" "Z" (.int cz) := Sta.start ecz (Or.inl (Cond.before_iff.mpr (Cond.before_iff.mp (hsets _ (List.mem_of_getElem? (i := 0) rfl)))))
  have hcz : ¬ (cz = (0 : Int32)) := gotF (Cond.eq_ints ecz (Term.int_eval (0))) (not_v (Cond.before_iff.mp (hsets _ (List.mem_of_getElem? (i := 2) rfl))))
  have hheld : ∀ p ∈ own_EL, Jvm.Lit.constHeld s p.1 p.2 := fun p hp => hcalls.1 p hp
  have hCH : CHv s own_EL s.vm s.heap := CHv.start (own_hEL hw) hheld (Cond.before_iff.mpr (Cond.before_iff.mp (hsets _ (List.mem_of_getElem? (i := 2) rfl)))) (hw _ (List.mem_of_getElem? (i := 11) rfl)) (hw _ (List.mem_of_getElem? (i := 10) rfl))
  obtain ⟨n, o, h1, h2, h3, _, L, rfl, ⟨rfl, N⟩, -, hq⟩ := own_law l s _ hw tables_1 cz i0 sa81 sa77 sa85 sa106 sa112 sa118 sa124 sa137 sa93 sa143 sa99 cl141.cls cl97.cls s.heap (Old.start s) SC hcz S84 S80 S88 S109 S115 S121 S127 E87 F92 (Fld.ne F92 F111 (by decide)) (Fld.ne F92 F117 (by decide)) (Fld.ne F92 F123 (by decide)) (Fld.ne F92 F129 (by decide)) E83 F136 F140 E139 F145 F149 V164 F155 F157 E79 F90 F96 E95 F101 F105 V163 F131 F133 (Ne.symm ne134) p e ha hc hk s m _ below hf ((Spec.applies_iff_loose hf).mp happ).1 ⟨rfl, State.Warmed39.refl s, rfl, hCH, all0⟩ trivial
  refine ⟨n, _, h1, h2, h3, hpost _ _ _ _ _ _ ⟨Cond.after_iff.mpr rfl, Cond.after_iff.mpr (eq_i res_at (Term.int_eval (1)) rfl), trivial⟩ ⟨hq.1, hq.2.1, hq.2.2.1, (hq.2.2.2.sift fun y hy => Or.inr (N y hy)).mono (by decide) (by decide)⟩⟩
theorem main_1_1 : Claimed_1_1 := comes_1 fun _ _ _ _ _ _ h hF => ⟨h.1, hF⟩
theorem main_1_2 : Claimed_1_2 := comes_1 fun _ _ _ _ _ _ h hF => ⟨h.2.1, hF⟩
end Jvm.Pilot.@@N@@
namespace Jvm.Pilot.@@N@@
open Jvm Jvm.ClassFile Sem Op Lib Jvm.Free Jvm.Stand Jvm.Pilot.@@N@@.Jvm.D
/-! MADE BY PROGRAM (witnessworld.py) out of the Statement's table words and the real class files: 25 classes; the members and pool entries that the words name. The judged class is class 1, her method 1. -/
namespace start1
open Jvm.ClassFile
def u (s : String) : CpInfo := .utf8 (stringToUtf16 s)
/-- a pool by its gaps: so many unusable entries, then the entry; so many at the end -/
def gap : Nat → List CpInfo → List CpInfo
  | 0, r => r
  | n + 1, r => .unusable :: gap n r
def poolList (es : List (Nat × CpInfo)) (last : Nat) : List CpInfo := es.foldr (fun e r => gap e.1 (e.2 :: r)) (gap last [])
def pool (es : List (Nat × CpInfo)) (last : Nat) : Array CpInfo := ⟨poolList es last⟩
def fileOf (pool : Array CpInfo) (this : Nat) (attrs : Array Attribute := #[]) (ms : Array MethodInfo := #[]) (fl : Nat := 33) (sup : Nat := 0) (ifs : Array Nat := #[]) (fds : Array FieldInfo := #[]) : ClassFile where
  minorVersion := 0
  majorVersion := 65
  constantPool := pool
  accessFlags := fl
  thisClass := this
  superClass := sup
  interfaces := ifs
  fields := fds
  methods := ms
  attributes := attrs
def plain (name : String) (sup : Option ClassId) : Class where
  name := name
  kind := .ordinary
  loader := none
  accessFlags := 33
  super := sup
  interfaces := #[]
  cf := none
  fields := #[]
  methods := #[]
  instanceTypes := #[]
  staticTypes := #[]
  resolved := #[]
  callSites := []
  init := .initialized
  statics := none
  mirror := none

def pool0 : Array CpInfo := pool [(5, u "<init>"), (0, u "()V"), (1, .class_ 10), (1, u "java/lang/Object")] 113

def k0c0 : Code := { maxStack := 0, maxLocals := 1, code := object_method_1_code, exceptionTable := #[], attributes := #[] }
def k0m0 : Method := { name := "<init>", desc := "()V", sig := { parameters := [], returnType := none }, accessFlags := 1, code := some k0c0 }
/-- java/lang/Object -/
def k0 : Class := { plain "java/lang/Object" none with
  accessFlags := 33
  interfaces := #[]
  cf := some (fileOf pool0 8 #[] #[{ accessFlags := 1, nameIndex := 5, descriptorIndex := 6, attributes := #[] }] 33 0 #[] #[])
  fields := #[]
  methods := #[k0m0]
  instanceTypes := #[]
  staticTypes := #[]
  resolved := Array.replicate 124 none
  statics := none }

def pool1 : Array CpInfo := pool [(2, .class_ 4), (1, u "java/lang/Object"), (0, u "<init>"), (0, u "()V"), (0, .methodref 8 9), (0, .class_ 10), (0, .nameAndType 11 12), (0, u "com/example/rising_block/risingblock/io/YamlNode"), (0, u "truth"), (0, u "(Z)Lcom/example/rising_block/risingblock/io/YamlNode;"), (0, .string 14), (0, u "true"), (0, .string 16), (0, u "false"), (0, .methodref 8 18), (0, .nameAndType 19 20), (0, u "toString"), (0, u "()Ljava/lang/String;"), (0, .methodref 22 23), (0, .class_ 24), (0, .nameAndType 25 26), (0, u "java/lang/String"), (0, u "equals"), (0, u "(Ljava/lang/Object;)Z"), (0, .methodref 8 28), (0, .nameAndType 29 30), (0, u "isMapping"), (0, u "()Z"), (0, .methodref 8 32), (0, .nameAndType 33 30), (0, u "isSequence"), (0, .methodref 8 35), (0, .nameAndType 36 30), (0, u "isText"), (0, .methodref 8 38), (0, .nameAndType 39 30), (0, u "isNumber"), (0, .methodref 8 41), (0, .nameAndType 42 43), (0, u "size"), (0, u "()I"), (0, .class_ 45), (0, u "com/example/rising_block/risingblock/io/YamlNodeTruthPinLaw"), (2, u "law"), (0, u "(I)Z")] 3

def k1m0 : Method := { name := "<init>", desc := "()V", sig := { parameters := [], returnType := none }, accessFlags := 1, code := none }
def k1c1 : Code := { maxStack := 2, maxLocals := 10, code := code, exceptionTable := #[], attributes := #[] }
def k1m1 : Method := { name := "law", desc := "(I)Z", sig := { parameters := [.int], returnType := some .boolean }, accessFlags := 9, code := some k1c1 }
/-- com/example/rising_block/risingblock/io/YamlNodeTruthPinLaw -/
def k1 : Class := { plain "com/example/rising_block/risingblock/io/YamlNodeTruthPinLaw" (some 0) with
  accessFlags := 49
  interfaces := #[]
  cf := some (fileOf pool1 44 #[] #[{ accessFlags := 1, nameIndex := 5, descriptorIndex := 6, attributes := #[] }, { accessFlags := 9, nameIndex := 48, descriptorIndex := 49, attributes := #[] }] 49 2 #[] #[])
  fields := #[]
  methods := #[k1m0, k1m1]
  instanceTypes := #[]
  staticTypes := #[]
  resolved := Array.replicate 53 none
  statics := none }

def pool2 : Array CpInfo := pool [(2, .class_ 4), (0, .nameAndType 5 6), (0, u "java/lang/Object"), (0, u "<init>"), (0, u "()V"), (0, .fieldref 8 9), (0, .class_ 10), (0, .nameAndType 11 12), (0, u "com/example/rising_block/risingblock/io/YamlNode"), (0, u "kind"), (0, u "Lcom/example/rising_block/risingblock/io/YamlNode$Kind;"), (0, .fieldref 8 14), (0, .nameAndType 15 16), (0, u "text"), (0, u "Ljava/lang/String;"), (2, u "number"), (0, u "Ljava/math/BigDecimal;"), (0, .fieldref 22 23), (0, .class_ 24), (0, .nameAndType 25 12), (0, u "com/example/rising_block/risingblock/io/YamlNode$Kind"), (0, u "MAPPING"), (3, .fieldref 8 30), (0, .nameAndType 31 32), (0, u "keyed"), (0, u "Ljava/util/Map;"), (0, .fieldref 22 34), (0, .nameAndType 35 12), (0, u "SEQUENCE"), (3, .fieldref 8 40), (0, .nameAndType 41 42), (0, u "elements"), (0, u "Ljava/util/List;"), (3, .fieldref 22 47), (0, .nameAndType 48 12), (0, u "TEXT"), (0, .fieldref 22 50), (0, .nameAndType 51 12), (0, u "NUMBER"), (0, .fieldref 8 53), (0, .nameAndType 54 55), (0, u "TRUE"), (0, u "Lcom/example/rising_block/risingblock/io/YamlNode;"), (0, .fieldref 8 57), (0, .nameAndType 58 55), (0, u "FALSE"), (2, u "NULL"), (9, .class_ 72), (0, u "com/example/rising_block/risingblock/io/YamlNode$Keyed"), (27, u "size"), (0, u "()I"), (13, .class_ 116), (0, u "java/lang/StringBuilder"), (0, .methodref 115 3), (0, .methodref 8 119), (0, .nameAndType 120 121), (0, u "write"), (0, u "(Ljava/lang/StringBuilder;)V"), (0, .methodref 115 123), (0, .nameAndType 124 125), (0, u "toString"), (0, u "()Ljava/lang/String;"), (0, .methodref 22 127), (0, .nameAndType 128 101), (0, u "ordinal"), (2, u "append"), (17, u "()Z"), (6, .methodref 115 157), (0, .nameAndType 131 158), (0, u "(Ljava/lang/String;)Ljava/lang/StringBuilder;"), (73, u "truth"), (0, u "(Z)Lcom/example/rising_block/risingblock/io/YamlNode;"), (2, u "isMapping"), (0, u "isSequence"), (0, u "isText"), (0, u "isNumber")] 20

def k2c0 : Code := { maxStack := 1, maxLocals := 1, code := prog_21_method_6_code, exceptionTable := #[], attributes := #[] }
def k2m0 : Method := { name := "truth", desc := "(Z)Lcom/example/rising_block/risingblock/io/YamlNode;", sig := { parameters := [.boolean], returnType := some (.object "com/example/rising_block/risingblock/io/YamlNode") }, accessFlags := 8, code := some k2c0 }
def k2c1 : Code := { maxStack := 2, maxLocals := 1, code := prog_21_method_9_code, exceptionTable := #[], attributes := #[] }
def k2m1 : Method := { name := "isMapping", desc := "()Z", sig := { parameters := [], returnType := some .boolean }, accessFlags := 0, code := some k2c1 }
def k2c2 : Code := { maxStack := 2, maxLocals := 1, code := prog_21_method_10_code, exceptionTable := #[], attributes := #[] }
def k2m2 : Method := { name := "isSequence", desc := "()Z", sig := { parameters := [], returnType := some .boolean }, accessFlags := 0, code := some k2c2 }
def k2c3 : Code := { maxStack := 2, maxLocals := 1, code := prog_21_method_11_code, exceptionTable := #[], attributes := #[] }
def k2m3 : Method := { name := "isText", desc := "()Z", sig := { parameters := [], returnType := some .boolean }, accessFlags := 0, code := some k2c3 }
def k2c4 : Code := { maxStack := 2, maxLocals := 1, code := prog_21_method_12_code, exceptionTable := #[], attributes := #[] }
def k2m4 : Method := { name := "isNumber", desc := "()Z", sig := { parameters := [], returnType := some .boolean }, accessFlags := 0, code := some k2c4 }
def k2c5 : Code := { maxStack := 1, maxLocals := 2, code := prog_21_method_21_code, exceptionTable := #[], attributes := #[] }
def k2m5 : Method := { name := "size", desc := "()I", sig := { parameters := [], returnType := some .int }, accessFlags := 0, code := some k2c5 }
def k2c6 : Code := { maxStack := 2, maxLocals := 2, code := prog_21_method_24_code, exceptionTable := #[], attributes := #[] }
def k2m6 : Method := { name := "toString", desc := "()Ljava/lang/String;", sig := { parameters := [], returnType := some (.object "java/lang/String") }, accessFlags := 1, code := some k2c6 }
def k2c7 : Code := { maxStack := 2, maxLocals := 5, code := prog_21_method_25_code, exceptionTable := #[], attributes := #[] }
def k2m7 : Method := { name := "write", desc := "(Ljava/lang/StringBuilder;)V", sig := { parameters := [(.object "java/lang/StringBuilder")], returnType := none }, accessFlags := 2, code := some k2c7 }
/-- com/example/rising_block/risingblock/io/YamlNode -/
def k2 : Class := { plain "com/example/rising_block/risingblock/io/YamlNode" (some 0) with
  accessFlags := 48
  interfaces := #[]
  cf := some (fileOf pool2 8 #[.nestMembers #[71, 22]] #[{ accessFlags := 8, nameIndex := 232, descriptorIndex := 233, attributes := #[] }, { accessFlags := 0, nameIndex := 236, descriptorIndex := 149, attributes := #[] }, { accessFlags := 0, nameIndex := 237, descriptorIndex := 149, attributes := #[] }, { accessFlags := 0, nameIndex := 238, descriptorIndex := 149, attributes := #[] }, { accessFlags := 0, nameIndex := 239, descriptorIndex := 149, attributes := #[] }, { accessFlags := 0, nameIndex := 100, descriptorIndex := 101, attributes := #[] }, { accessFlags := 1, nameIndex := 124, descriptorIndex := 125, attributes := #[] }, { accessFlags := 2, nameIndex := 120, descriptorIndex := 121, attributes := #[] }] 48 2 #[] #[{ accessFlags := 26, nameIndex := 54, descriptorIndex := 55, attributes := #[] }, { accessFlags := 26, nameIndex := 58, descriptorIndex := 55, attributes := #[] }, { accessFlags := 26, nameIndex := 61, descriptorIndex := 55, attributes := #[] }, { accessFlags := 18, nameIndex := 11, descriptorIndex := 12, attributes := #[] }, { accessFlags := 18, nameIndex := 15, descriptorIndex := 16, attributes := #[] }, { accessFlags := 18, nameIndex := 19, descriptorIndex := 20, attributes := #[] }, { accessFlags := 18, nameIndex := 31, descriptorIndex := 32, attributes := #[] }, { accessFlags := 18, nameIndex := 41, descriptorIndex := 42, attributes := #[] }])
  fields := #[{ name := "TRUE", type := (.object "com/example/rising_block/risingblock/io/YamlNode"), accessFlags := 26, slot := 0, constantValue := 0 }, { name := "FALSE", type := (.object "com/example/rising_block/risingblock/io/YamlNode"), accessFlags := 26, slot := 1, constantValue := 0 }, { name := "NULL", type := (.object "com/example/rising_block/risingblock/io/YamlNode"), accessFlags := 26, slot := 2, constantValue := 0 }, { name := "kind", type := (.object "com/example/rising_block/risingblock/io/YamlNode$Kind"), accessFlags := 18, slot := 0, constantValue := 0 }, { name := "text", type := (.object "java/lang/String"), accessFlags := 18, slot := 1, constantValue := 0 }, { name := "number", type := (.object "java/math/BigDecimal"), accessFlags := 18, slot := 2, constantValue := 0 }, { name := "keyed", type := (.object "java/util/Map"), accessFlags := 18, slot := 3, constantValue := 0 }, { name := "elements", type := (.object "java/util/List"), accessFlags := 18, slot := 4, constantValue := 0 }]
  methods := #[k2m0, k2m1, k2m2, k2m3, k2m4, k2m5, k2m6, k2m7]
  instanceTypes := #[(.object "com/example/rising_block/risingblock/io/YamlNode$Kind"), (.object "java/lang/String"), (.object "java/math/BigDecimal"), (.object "java/util/Map"), (.object "java/util/List")]
  staticTypes := #[(.object "com/example/rising_block/risingblock/io/YamlNode"), (.object "com/example/rising_block/risingblock/io/YamlNode"), (.object "com/example/rising_block/risingblock/io/YamlNode")]
  resolved := Array.replicate 260 none
  statics := some 0 }

def pool3 : Array CpInfo := pool [(1, .class_ 2), (0, u "java/io/Serializable"), (0, .class_ 4), (0, u "java/lang/Object")] 2

/-- java/io/Serializable -/
def k3 : Class := { plain "java/io/Serializable" (some 0) with
  accessFlags := 1537
  interfaces := #[]
  cf := some (fileOf pool3 1 #[] #[] 1537 3 #[] #[])
  fields := #[]
  methods := #[]
  instanceTypes := #[]
  staticTypes := #[]
  resolved := Array.replicate 7 none
  statics := none }

def pool4 : Array CpInfo := pool [(1, .class_ 2), (0, u "java/lang/Comparable"), (0, .class_ 4), (0, u "java/lang/Object")] 7

/-- java/lang/Comparable -/
def k4 : Class := { plain "java/lang/Comparable" (some 0) with
  accessFlags := 1537
  interfaces := #[]
  cf := some (fileOf pool4 1 #[] #[] 1537 3 #[] #[])
  fields := #[]
  methods := #[]
  instanceTypes := #[]
  staticTypes := #[]
  resolved := Array.replicate 12 none
  statics := none }

def pool5 : Array CpInfo := pool [(2, .class_ 4), (1, u "java/lang/CharSequence"), (42, .class_ 48), (0, u "java/lang/CharSequence$1CodePointIterator"), (10, .class_ 60), (0, u "java/lang/CharSequence$1CharIterator"), (5, .class_ 67), (0, u "java/lang/Object")] 63

/-- java/lang/CharSequence -/
def k5 : Class := { plain "java/lang/CharSequence" (some 0) with
  accessFlags := 1537
  interfaces := #[]
  cf := some (fileOf pool5 2 #[.nestMembers #[47, 59]] #[] 1537 66 #[] #[])
  fields := #[]
  methods := #[]
  instanceTypes := #[]
  staticTypes := #[]
  resolved := Array.replicate 131 none
  statics := none }

def pool6 : Array CpInfo := pool [(1, .class_ 2), (0, u "java/lang/constant/Constable"), (0, .class_ 4), (0, u "java/lang/Object")] 6

/-- java/lang/constant/Constable -/
def k6 : Class := { plain "java/lang/constant/Constable" (some 0) with
  accessFlags := 1537
  interfaces := #[]
  cf := some (fileOf pool6 1 #[] #[] 1537 3 #[] #[])
  fields := #[]
  methods := #[]
  instanceTypes := #[]
  staticTypes := #[]
  resolved := Array.replicate 11 none
  statics := none }

def pool7 : Array CpInfo := pool [(1, .class_ 2), (0, u "java/lang/constant/ConstantDesc"), (0, .class_ 4), (0, u "java/lang/Object")] 32

/-- java/lang/constant/ConstantDesc -/
def k7 : Class := { plain "java/lang/constant/ConstantDesc" (some 0) with
  accessFlags := 1537
  interfaces := #[]
  cf := some (fileOf pool7 1 #[] #[] 1537 3 #[] #[])
  fields := #[]
  methods := #[]
  instanceTypes := #[]
  staticTypes := #[]
  resolved := Array.replicate 37 none
  statics := none }

def pool8 : Array CpInfo := pool [(1, .methodref 2 3), (0, .class_ 4), (0, .nameAndType 5 6), (0, u "java/lang/Object"), (0, u "<init>"), (0, u "()V"), (2, .fieldref 10 11), (0, .class_ 12), (0, .nameAndType 13 14), (0, u "java/lang/String"), (0, u "value"), (0, u "[B"), (0, .fieldref 10 16), (0, .nameAndType 17 18), (0, u "coder"), (0, u "B"), (2, u "hash"), (0, u "I"), (2, u "hashIsZero"), (0, u "Z"), (11, .fieldref 10 39), (0, .nameAndType 40 26), (0, u "COMPACT_STRINGS"), (13, .methodref 55 56), (0, .class_ 57), (0, .nameAndType 58 59), (0, u "java/util/Arrays"), (0, u "copyOfRange"), (0, u "([BII)[B"), (47, .class_ 109), (1, u "java/lang/StringLatin1"), (32, u "()Z"), (50, .class_ 195), (1, u "java/lang/System"), (16, .methodref 193 213), (0, .nameAndType 214 215), (0, u "arraycopy"), (0, u "(Ljava/lang/Object;ILjava/lang/Object;II)V"), (118, u "()I"), (0, .methodref 10 336), (0, .nameAndType 17 337), (0, u "()B"), (2, u "()[B"), (148, .methodref 10 490), (0, .nameAndType 5 491), (0, u "(Ljava/lang/AbstractStringBuilder;Ljava/lang/Void;)V"), (1, .nameAndType 494 142), (0, u "isLatin1"), (11, .nameAndType 507 334), (0, u "length"), (24, u "getBytes"), (8, .methodref 107 542), (0, .nameAndType 543 544), (0, u "equals"), (0, u "([B[B)Z"), (4, .methodref 550 506), (0, .class_ 551), (0, u "java/lang/AbstractStringBuilder"), (0, .methodref 550 553), (0, .nameAndType 554 340), (0, u "getValue"), (18, u "(Ljava/lang/Object;)Z"), (1, .class_ 576), (0, u "java/lang/CharSequence"), (22, u "CASE_INSENSITIVE_ORDER"), (0, u "Ljava/util/Comparator;"), (220, u "([BIB)V"), (225, .methodref 550 493), (53, u "serialPersistentFields"), (0, u "[Ljava/io/ObjectStreamField;"), (0, .class_ 1104), (0, u "java/lang/String$CaseInsensitiveComparator"), (1, .class_ 1107), (0, u "java/io/Serializable"), (0, .class_ 1109), (0, u "java/lang/Comparable"), (0, .class_ 1111), (0, u "java/lang/constant/Constable"), (0, .class_ 1113), (0, u "java/lang/constant/ConstantDesc"), (2, u "serialVersionUID"), (0, u "J"), (3, u "REPL"), (0, u "C"), (2, u "LATIN1"), (1, u "UTF16"), (105, u "(Ljava/lang/StringBuilder;)V")] 217

def k8m0 : Method := { name := "<init>", desc := "()V", sig := { parameters := [], returnType := none }, accessFlags := 1, code := none }
def k8c1 : Code := { maxStack := 3, maxLocals := 2, code := jdk_42_method_53_code, exceptionTable := #[], attributes := #[] }
def k8m1 : Method := { name := "<init>", desc := "(Ljava/lang/StringBuilder;)V", sig := { parameters := [(.object "java/lang/StringBuilder")], returnType := none }, accessFlags := 1, code := some k8c1 }
def k8c2 : Code := { maxStack := 2, maxLocals := 1, code := jdk_42_method_54_code, exceptionTable := #[], attributes := #[] }
def k8m2 : Method := { name := "length", desc := "()I", sig := { parameters := [], returnType := some .int }, accessFlags := 1, code := some k8c2 }
def k8c3 : Code := { maxStack := 2, maxLocals := 3, code := jdk_42_method_66_code, exceptionTable := #[], attributes := #[] }
def k8m3 : Method := { name := "equals", desc := "(Ljava/lang/Object;)Z", sig := { parameters := [(.object "java/lang/Object")], returnType := some .boolean }, accessFlags := 1, code := some k8c3 }
def k8c4 : Code := { maxStack := 5, maxLocals := 4, code := jdk_42_method_147_code, exceptionTable := #[], attributes := #[] }
def k8m4 : Method := { name := "getBytes", desc := "([BIB)V", sig := { parameters := [(.array .byte), .int, .byte], returnType := none }, accessFlags := 0, code := some k8c4 }
def k8c5 : Code := { maxStack := 5, maxLocals := 5, code := jdk_42_method_150_code, exceptionTable := #[], attributes := #[] }
def k8m5 : Method := { name := "<init>", desc := "(Ljava/lang/AbstractStringBuilder;Ljava/lang/Void;)V", sig := { parameters := [(.object "java/lang/AbstractStringBuilder"), (.object "java/lang/Void")], returnType := none }, accessFlags := 0, code := some k8c5 }
def k8c6 : Code := { maxStack := 1, maxLocals := 1, code := jdk_42_method_152_code, exceptionTable := #[], attributes := #[] }
def k8m6 : Method := { name := "coder", desc := "()B", sig := { parameters := [], returnType := some .byte }, accessFlags := 0, code := some k8c6 }
/-- java/lang/String -/
def k8 : Class := { plain "java/lang/String" (some 0) with
  accessFlags := 49
  interfaces := #[3, 4, 5, 6, 7]
  cf := some (fileOf pool8 10 #[.nestMembers #[1103]] #[{ accessFlags := 1, nameIndex := 5, descriptorIndex := 6, attributes := #[] }, { accessFlags := 1, nameIndex := 5, descriptorIndex := 1233, attributes := #[] }, { accessFlags := 1, nameIndex := 507, descriptorIndex := 334, attributes := #[] }, { accessFlags := 1, nameIndex := 543, descriptorIndex := 573, attributes := #[] }, { accessFlags := 0, nameIndex := 532, descriptorIndex := 821, attributes := #[] }, { accessFlags := 0, nameIndex := 5, descriptorIndex := 491, attributes := #[] }, { accessFlags := 0, nameIndex := 17, descriptorIndex := 337, attributes := #[] }] 49 2 #[1106, 1108, 575, 1110, 1112] #[{ accessFlags := 18, nameIndex := 13, descriptorIndex := 14, attributes := #[] }, { accessFlags := 18, nameIndex := 17, descriptorIndex := 18, attributes := #[] }, { accessFlags := 2, nameIndex := 21, descriptorIndex := 22, attributes := #[] }, { accessFlags := 2, nameIndex := 25, descriptorIndex := 26, attributes := #[] }, { accessFlags := 26, nameIndex := 1116, descriptorIndex := 1117, attributes := #[] }, { accessFlags := 24, nameIndex := 40, descriptorIndex := 26, attributes := #[] }, { accessFlags := 26, nameIndex := 1101, descriptorIndex := 1102, attributes := #[] }, { accessFlags := 26, nameIndex := 1121, descriptorIndex := 1122, attributes := #[] }, { accessFlags := 25, nameIndex := 599, descriptorIndex := 600, attributes := #[] }, { accessFlags := 24, nameIndex := 1125, descriptorIndex := 18, attributes := #[] }, { accessFlags := 24, nameIndex := 1127, descriptorIndex := 18, attributes := #[] }])
  fields := #[{ name := "value", type := (.array .byte), accessFlags := 18, slot := 0, constantValue := 0 }, { name := "coder", type := .byte, accessFlags := 18, slot := 1, constantValue := 0 }, { name := "hash", type := .int, accessFlags := 2, slot := 2, constantValue := 0 }, { name := "hashIsZero", type := .boolean, accessFlags := 2, slot := 3, constantValue := 0 }, { name := "serialVersionUID", type := .long, accessFlags := 26, slot := 0, constantValue := 0 }, { name := "COMPACT_STRINGS", type := .boolean, accessFlags := 24, slot := 1, constantValue := 0 }, { name := "serialPersistentFields", type := (.array (.object "java/io/ObjectStreamField")), accessFlags := 26, slot := 2, constantValue := 0 }, { name := "REPL", type := .char, accessFlags := 26, slot := 3, constantValue := 0 }, { name := "CASE_INSENSITIVE_ORDER", type := (.object "java/util/Comparator"), accessFlags := 25, slot := 4, constantValue := 0 }, { name := "LATIN1", type := .byte, accessFlags := 24, slot := 5, constantValue := 0 }, { name := "UTF16", type := .byte, accessFlags := 24, slot := 6, constantValue := 0 }]
  methods := #[k8m0, k8m1, k8m2, k8m3, k8m4, k8m5, k8m6]
  instanceTypes := #[(.array .byte), .byte, .int, .boolean]
  staticTypes := #[.long, .boolean, (.array (.object "java/io/ObjectStreamField")), .char, (.object "java/util/Comparator"), .byte, .byte]
  resolved := Array.replicate 1451 none
  statics := some 1 }

def pool9 : Array CpInfo := pool [(1, .class_ 2), (0, u "java/lang/Appendable"), (0, .class_ 4), (0, u "java/lang/Object")] 9

/-- java/lang/Appendable -/
def k9 : Class := { plain "java/lang/Appendable" (some 0) with
  accessFlags := 1537
  interfaces := #[]
  cf := some (fileOf pool9 1 #[] #[] 1537 3 #[] #[])
  fields := #[]
  methods := #[]
  instanceTypes := #[]
  staticTypes := #[]
  resolved := Array.replicate 14 none
  statics := none }

def pool10 : Array CpInfo := pool [(1, .class_ 2), (0, u "java/lang/String"), (0, .methodref 4 5), (0, .class_ 6), (0, .nameAndType 7 8), (0, u "java/lang/Object"), (0, u "<init>"), (0, u "()V"), (1, .class_ 12), (1, u "java/lang/AbstractStringBuilder"), (0, u "EMPTYVALUE"), (0, u "[B"), (0, .fieldref 10 16), (0, .nameAndType 17 14), (0, u "value"), (0, .fieldref 1 19), (0, .nameAndType 20 21), (0, u "COMPACT_STRINGS"), (0, u "Z"), (0, .fieldref 10 23), (0, .nameAndType 24 25), (0, u "coder"), (0, u "B"), (6, .methodref 1 33), (0, .nameAndType 34 35), (0, u "length"), (0, u "()I"), (4, .methodref 1 41), (0, .nameAndType 24 42), (0, u "()B"), (2, u "append"), (0, u "(Ljava/lang/String;)Ljava/lang/AbstractStringBuilder;"), (1, .class_ 49), (0, u "java/lang/CharSequence"), (19, u "(Ljava/lang/String;)V"), (5, u "maybeLatin1"), (3, .fieldref 10 80), (0, .nameAndType 81 82), (0, u "count"), (0, u "I"), (2, u "isLatin1"), (0, u "()Z"), (13, .methodref 10 101), (0, .nameAndType 102 103), (0, u "ensureCapacityInternal"), (0, u "(I)V"), (104, .methodref 10 209), (0, .nameAndType 210 211), (0, u "putStringAt"), (0, u "(ILjava/lang/String;)V"), (5, u "inflateIfNeededFor"), (2, .nameAndType 221 222), (0, u "getBytes"), (0, u "([BIB)V"), (174, .methodref 10 398), (0, .nameAndType 217 69), (0, .methodref 1 220), (3, u "()[B"), (40, .class_ 445), (0, u "java/lang/Appendable"), (106, u "getValue")] 56

def k10m0 : Method := { name := "<init>", desc := "()V", sig := { parameters := [], returnType := none }, accessFlags := 0, code := none }
def k10c1 : Code := { maxStack := 2, maxLocals := 2, code := jdk_68_method_2_code, exceptionTable := #[], attributes := #[] }
def k10m1 : Method := { name := "<init>", desc := "(I)V", sig := { parameters := [.int], returnType := none }, accessFlags := 0, code := some k10c1 }
def k10c2 : Code := { maxStack := 1, maxLocals := 1, code := jdk_68_method_6_code, exceptionTable := #[], attributes := #[] }
def k10m2 : Method := { name := "length", desc := "()I", sig := { parameters := [], returnType := some .int }, accessFlags := 1, code := some k10c2 }
def k10c3 : Code := { maxStack := 4, maxLocals := 3, code := jdk_68_method_9_code, exceptionTable := #[], attributes := #[] }
def k10m3 : Method := { name := "ensureCapacityInternal", desc := "(I)V", sig := { parameters := [.int], returnType := none }, accessFlags := 2, code := some k10c3 }
def k10c4 : Code := { maxStack := 3, maxLocals := 3, code := jdk_68_method_22_code, exceptionTable := #[], attributes := #[] }
def k10m4 : Method := { name := "append", desc := "(Ljava/lang/String;)Ljava/lang/AbstractStringBuilder;", sig := { parameters := [(.object "java/lang/String")], returnType := some (.object "java/lang/AbstractStringBuilder") }, accessFlags := 1, code := some k10c4 }
def k10c5 : Code := { maxStack := 1, maxLocals := 1, code := jdk_68_method_64_code, exceptionTable := #[], attributes := #[] }
def k10m5 : Method := { name := "getValue", desc := "()[B", sig := { parameters := [], returnType := some (.array .byte) }, accessFlags := 16, code := some k10c5 }
def k10c6 : Code := { maxStack := 1, maxLocals := 1, code := jdk_68_method_68_code, exceptionTable := #[], attributes := #[] }
def k10m6 : Method := { name := "isLatin1", desc := "()Z", sig := { parameters := [], returnType := some .boolean }, accessFlags := 16, code := some k10c6 }
def k10c7 : Code := { maxStack := 2, maxLocals := 2, code := jdk_68_method_71_code, exceptionTable := #[], attributes := #[] }
def k10m7 : Method := { name := "inflateIfNeededFor", desc := "(Ljava/lang/String;)V", sig := { parameters := [(.object "java/lang/String")], returnType := none }, accessFlags := 2, code := some k10c7 }
def k10c8 : Code := { maxStack := 4, maxLocals := 3, code := jdk_68_method_73_code, exceptionTable := #[], attributes := #[] }
def k10m8 : Method := { name := "putStringAt", desc := "(ILjava/lang/String;)V", sig := { parameters := [.int, (.object "java/lang/String")], returnType := none }, accessFlags := 2, code := some k10c8 }
/-- java/lang/AbstractStringBuilder -/
def k10 : Class := { plain "java/lang/AbstractStringBuilder" (some 0) with
  accessFlags := 1056
  interfaces := #[9, 5]
  cf := some (fileOf pool10 10 #[] #[{ accessFlags := 0, nameIndex := 7, descriptorIndex := 8, attributes := #[] }, { accessFlags := 0, nameIndex := 7, descriptorIndex := 103, attributes := #[] }, { accessFlags := 1, nameIndex := 34, descriptorIndex := 35, attributes := #[] }, { accessFlags := 2, nameIndex := 102, descriptorIndex := 103, attributes := #[] }, { accessFlags := 1, nameIndex := 45, descriptorIndex := 46, attributes := #[] }, { accessFlags := 16, nameIndex := 552, descriptorIndex := 403, attributes := #[] }, { accessFlags := 16, nameIndex := 85, descriptorIndex := 86, attributes := #[] }, { accessFlags := 2, nameIndex := 217, descriptorIndex := 69, attributes := #[] }, { accessFlags := 2, nameIndex := 210, descriptorIndex := 211, attributes := #[] }] 1056 4 #[444, 48] #[{ accessFlags := 0, nameIndex := 17, descriptorIndex := 14, attributes := #[] }, { accessFlags := 0, nameIndex := 24, descriptorIndex := 25, attributes := #[] }, { accessFlags := 0, nameIndex := 75, descriptorIndex := 21, attributes := #[] }, { accessFlags := 0, nameIndex := 81, descriptorIndex := 82, attributes := #[] }, { accessFlags := 26, nameIndex := 13, descriptorIndex := 14, attributes := #[] }])
  fields := #[{ name := "value", type := (.array .byte), accessFlags := 0, slot := 0, constantValue := 0 }, { name := "coder", type := .byte, accessFlags := 0, slot := 1, constantValue := 0 }, { name := "maybeLatin1", type := .boolean, accessFlags := 0, slot := 2, constantValue := 0 }, { name := "count", type := .int, accessFlags := 0, slot := 3, constantValue := 0 }, { name := "EMPTYVALUE", type := (.array .byte), accessFlags := 26, slot := 0, constantValue := 0 }]
  methods := #[k10m0, k10m1, k10m2, k10m3, k10m4, k10m5, k10m6, k10m7, k10m8]
  instanceTypes := #[(.array .byte), .byte, .boolean, .int]
  staticTypes := #[(.array .byte)]
  resolved := Array.replicate 609 none
  statics := none }

def pool11 : Array CpInfo := pool [(1, .methodref 2 3), (0, .class_ 4), (0, .nameAndType 5 6), (0, u "java/lang/AbstractStringBuilder"), (0, u "<init>"), (0, u "(I)V"), (11, .class_ 20), (1, u "java/lang/String"), (3, .class_ 26), (1, u "java/lang/StringBuilder"), (0, u "append"), (0, u "(Ljava/lang/String;)Ljava/lang/StringBuilder;"), (0, .methodref 2 30), (0, .nameAndType 27 31), (0, u "(Ljava/lang/String;)Ljava/lang/AbstractStringBuilder;"), (105, .methodref 18 138), (0, .nameAndType 5 139), (0, u "(Ljava/lang/StringBuilder;)V"), (5, u "()V"), (10, u "()I"), (186, .methodref 2 344), (0, .nameAndType 345 156), (0, u "length"), (3, .class_ 350), (0, u "java/lang/Appendable"), (0, .class_ 352), (0, u "java/io/Serializable"), (0, .class_ 354), (0, u "java/lang/Comparable"), (0, .class_ 356), (0, u "java/lang/CharSequence"), (0, u "serialVersionUID"), (0, u "J"), (40, u "toString"), (0, u "()Ljava/lang/String;")] 21

def k11c0 : Code := { maxStack := 2, maxLocals := 1, code := jdk_67_method_1_code, exceptionTable := #[], attributes := #[] }
def k11m0 : Method := { name := "<init>", desc := "()V", sig := { parameters := [], returnType := none }, accessFlags := 1, code := some k11c0 }
def k11c1 : Code := { maxStack := 2, maxLocals := 2, code := jdk_67_method_7_code, exceptionTable := #[], attributes := #[] }
def k11m1 : Method := { name := "append", desc := "(Ljava/lang/String;)Ljava/lang/StringBuilder;", sig := { parameters := [(.object "java/lang/String")], returnType := some (.object "java/lang/StringBuilder") }, accessFlags := 1, code := some k11c1 }
def k11c2 : Code := { maxStack := 3, maxLocals := 1, code := jdk_67_method_42_code, exceptionTable := #[], attributes := #[] }
def k11m2 : Method := { name := "toString", desc := "()Ljava/lang/String;", sig := { parameters := [], returnType := some (.object "java/lang/String") }, accessFlags := 1, code := some k11c2 }
def k11c3 : Code := { maxStack := 1, maxLocals := 1, code := jdk_67_method_93_code, exceptionTable := #[], attributes := #[] }
def k11m3 : Method := { name := "length", desc := "()I", sig := { parameters := [], returnType := some .int }, accessFlags := 4161, code := some k11c3 }
/-- java/lang/StringBuilder -/
def k11 : Class := { plain "java/lang/StringBuilder" (some 10) with
  accessFlags := 49
  interfaces := #[9, 3, 4, 5]
  cf := some (fileOf pool11 24 #[] #[{ accessFlags := 1, nameIndex := 5, descriptorIndex := 145, attributes := #[] }, { accessFlags := 1, nameIndex := 27, descriptorIndex := 28, attributes := #[] }, { accessFlags := 1, nameIndex := 399, descriptorIndex := 400, attributes := #[] }, { accessFlags := 4161, nameIndex := 345, descriptorIndex := 156, attributes := #[] }] 49 2 #[349, 351, 353, 355] #[{ accessFlags := 24, nameIndex := 357, descriptorIndex := 358, attributes := #[] }])
  fields := #[{ name := "serialVersionUID", type := .long, accessFlags := 24, slot := 0, constantValue := 0 }]
  methods := #[k11m0, k11m1, k11m2, k11m3]
  instanceTypes := #[(.array .byte), .byte, .boolean, .int]
  staticTypes := #[.long]
  resolved := Array.replicate 422 none
  statics := none }

def pool12 : Array CpInfo := pool [(2, .class_ 4), (1, u "java/lang/Enum"), (0, u "name"), (0, u "Ljava/lang/String;"), (0, .fieldref 2 8), (0, .nameAndType 9 10), (0, u "ordinal"), (0, u "I"), (1, .class_ 14), (1, u "java/lang/Object"), (4, u "hash"), (86, .class_ 108), (1, u "java/lang/Enum$EnumDesc"), (2, .class_ 112), (0, u "java/lang/constant/Constable"), (0, .class_ 114), (0, u "java/lang/Comparable"), (0, .class_ 116), (0, u "java/io/Serializable"), (9, u "()I")] 77

def k12c0 : Code := { maxStack := 1, maxLocals := 1, code := jdk_37_method_2_code, exceptionTable := #[], attributes := #[] }
def k12m0 : Method := { name := "ordinal", desc := "()I", sig := { parameters := [], returnType := some .int }, accessFlags := 17, code := some k12c0 }
/-- java/lang/Enum -/
def k12 : Class := { plain "java/lang/Enum" (some 0) with
  accessFlags := 1057
  interfaces := #[6, 4, 3]
  cf := some (fileOf pool12 2 #[.nestMembers #[106]] #[{ accessFlags := 17, nameIndex := 9, descriptorIndex := 126, attributes := #[] }] 1057 12 #[111, 113, 115] #[{ accessFlags := 18, nameIndex := 5, descriptorIndex := 6, attributes := #[] }, { accessFlags := 18, nameIndex := 9, descriptorIndex := 10, attributes := #[] }, { accessFlags := 2, nameIndex := 19, descriptorIndex := 10, attributes := #[] }])
  fields := #[{ name := "name", type := (.object "java/lang/String"), accessFlags := 18, slot := 0, constantValue := 0 }, { name := "ordinal", type := .int, accessFlags := 18, slot := 1, constantValue := 0 }, { name := "hash", type := .int, accessFlags := 2, slot := 2, constantValue := 0 }]
  methods := #[k12m0]
  instanceTypes := #[(.object "java/lang/String"), .int, .int]
  staticTypes := #[]
  resolved := Array.replicate 204 none
  statics := none }

def pool13 : Array CpInfo := pool [(1, .class_ 2), (0, u "com/example/rising_block/risingblock/io/YamlNode$Kind"), (2, u "MAPPING"), (0, u "Lcom/example/rising_block/risingblock/io/YamlNode$Kind;"), (2, u "SEQUENCE"), (2, u "TEXT"), (2, u "NUMBER"), (2, u "BOOLEAN"), (2, u "NULL"), (2, u "OTHER"), (2, u "$VALUES"), (0, u "[Lcom/example/rising_block/risingblock/io/YamlNode$Kind;"), (6, .class_ 37), (1, u "java/lang/Enum"), (30, .class_ 69), (0, u "com/example/rising_block/risingblock/io/YamlNode")] 2

/-- com/example/rising_block/risingblock/io/YamlNode$Kind -/
def k13 : Class := { plain "com/example/rising_block/risingblock/io/YamlNode$Kind" (some 12) with
  accessFlags := 16432
  interfaces := #[]
  cf := some (fileOf pool13 1 #[.nestHost 68] #[] 16432 35 #[] #[{ accessFlags := 16409, nameIndex := 5, descriptorIndex := 6, attributes := #[] }, { accessFlags := 16409, nameIndex := 9, descriptorIndex := 6, attributes := #[] }, { accessFlags := 16409, nameIndex := 12, descriptorIndex := 6, attributes := #[] }, { accessFlags := 16409, nameIndex := 15, descriptorIndex := 6, attributes := #[] }, { accessFlags := 16409, nameIndex := 18, descriptorIndex := 6, attributes := #[] }, { accessFlags := 16409, nameIndex := 21, descriptorIndex := 6, attributes := #[] }, { accessFlags := 16409, nameIndex := 24, descriptorIndex := 6, attributes := #[] }, { accessFlags := 4122, nameIndex := 27, descriptorIndex := 28, attributes := #[] }])
  fields := #[{ name := "MAPPING", type := (.object "com/example/rising_block/risingblock/io/YamlNode$Kind"), accessFlags := 16409, slot := 0, constantValue := 0 }, { name := "SEQUENCE", type := (.object "com/example/rising_block/risingblock/io/YamlNode$Kind"), accessFlags := 16409, slot := 1, constantValue := 0 }, { name := "TEXT", type := (.object "com/example/rising_block/risingblock/io/YamlNode$Kind"), accessFlags := 16409, slot := 2, constantValue := 0 }, { name := "NUMBER", type := (.object "com/example/rising_block/risingblock/io/YamlNode$Kind"), accessFlags := 16409, slot := 3, constantValue := 0 }, { name := "BOOLEAN", type := (.object "com/example/rising_block/risingblock/io/YamlNode$Kind"), accessFlags := 16409, slot := 4, constantValue := 0 }, { name := "NULL", type := (.object "com/example/rising_block/risingblock/io/YamlNode$Kind"), accessFlags := 16409, slot := 5, constantValue := 0 }, { name := "OTHER", type := (.object "com/example/rising_block/risingblock/io/YamlNode$Kind"), accessFlags := 16409, slot := 6, constantValue := 0 }, { name := "$VALUES", type := (.array (.object "com/example/rising_block/risingblock/io/YamlNode$Kind")), accessFlags := 4122, slot := 7, constantValue := 0 }]
  methods := #[]
  instanceTypes := #[(.object "java/lang/String"), .int, .int]
  staticTypes := #[(.object "com/example/rising_block/risingblock/io/YamlNode$Kind"), (.object "com/example/rising_block/risingblock/io/YamlNode$Kind"), (.object "com/example/rising_block/risingblock/io/YamlNode$Kind"), (.object "com/example/rising_block/risingblock/io/YamlNode$Kind"), (.object "com/example/rising_block/risingblock/io/YamlNode$Kind"), (.object "com/example/rising_block/risingblock/io/YamlNode$Kind"), (.object "com/example/rising_block/risingblock/io/YamlNode$Kind"), (.array (.object "com/example/rising_block/risingblock/io/YamlNode$Kind"))]
  resolved := Array.replicate 72 none
  statics := some 2 }

def pool14 : Array CpInfo := pool [(2, .class_ 4), (1, u "java/lang/Object"), (0, u "<init>"), (0, u "()V"), (1, .class_ 10), (1, u "java/lang/System"), (0, u "allowSecurityManager"), (0, u "I"), (16, u "cons"), (0, u "Ljava/io/Console;"), (77, .class_ 110), (1, u "java/lang/System$CallersHolder"), (43, u "initialErrStream"), (0, u "Ljava/io/PrintStream;"), (19, u "security"), (0, u "Ljava/lang/SecurityManager;"), (31, .class_ 209), (0, u "java/lang/System$1"), (7, u "props"), (0, u "Ljava/util/Properties;"), (2, u "lineSeparator"), (0, u "Ljava/lang/String;"), (96, .class_ 321), (1, u "java/lang/System$LoggerFinder"), (5, .class_ 328), (0, u "java/lang/System$Logger"), (67, u "err"), (2, u "out"), (91, u "notSupportedJnuEncoding"), (15, u "in"), (17, u "initialIn"), (0, u "Ljava/io/InputStream;"), (35, u "bootLayer"), (0, u "Ljava/lang/ModuleLayer;"), (99, .class_ 664), (0, u "java/lang/System$2"), (9, u "NEVER"), (2, u "MAYBE"), (49, u "arraycopy"), (0, u "(Ljava/lang/Object;ILjava/lang/Object;II)V"), (72, .class_ 802), (0, u "java/lang/System$Logger$Level")] 31

def k14m0 : Method := { name := "<init>", desc := "()V", sig := { parameters := [], returnType := none }, accessFlags := 2, code := none }
def k14m1 : Method := { name := "arraycopy", desc := "(Ljava/lang/Object;ILjava/lang/Object;II)V", sig := { parameters := [(.object "java/lang/Object"), .int, (.object "java/lang/Object"), .int, .int], returnType := none }, accessFlags := 265, code := none }
/-- java/lang/System -/
def k14 : Class := { plain "java/lang/System" (some 0) with
  accessFlags := 49
  interfaces := #[]
  cf := some (fileOf pool14 8 #[.nestMembers #[319, 327, 801, 108, 663, 208]] #[{ accessFlags := 2, nameIndex := 5, descriptorIndex := 6, attributes := #[] }, { accessFlags := 265, nameIndex := 727, descriptorIndex := 728, attributes := #[] }] 49 2 #[] #[{ accessFlags := 25, nameIndex := 507, descriptorIndex := 526, attributes := #[] }, { accessFlags := 25, nameIndex := 399, descriptorIndex := 155, attributes := #[] }, { accessFlags := 25, nameIndex := 396, descriptorIndex := 155, attributes := #[] }, { accessFlags := 10, nameIndex := 525, descriptorIndex := 526, attributes := #[] }, { accessFlags := 26, nameIndex := 674, descriptorIndex := 12, attributes := #[] }, { accessFlags := 26, nameIndex := 677, descriptorIndex := 12, attributes := #[] }, { accessFlags := 10, nameIndex := 11, descriptorIndex := 12, attributes := #[] }, { accessFlags := 74, nameIndex := 175, descriptorIndex := 176, attributes := #[] }, { accessFlags := 10, nameIndex := 491, descriptorIndex := 222, attributes := #[] }, { accessFlags := 74, nameIndex := 29, descriptorIndex := 30, attributes := #[] }, { accessFlags := 74, nameIndex := 154, descriptorIndex := 155, attributes := #[] }, { accessFlags := 10, nameIndex := 217, descriptorIndex := 218, attributes := #[] }, { accessFlags := 10, nameIndex := 221, descriptorIndex := 222, attributes := #[] }, { accessFlags := 8, nameIndex := 562, descriptorIndex := 563, attributes := #[] }])
  fields := #[{ name := "in", type := (.object "java/io/InputStream"), accessFlags := 25, slot := 0, constantValue := 0 }, { name := "out", type := (.object "java/io/PrintStream"), accessFlags := 25, slot := 1, constantValue := 0 }, { name := "err", type := (.object "java/io/PrintStream"), accessFlags := 25, slot := 2, constantValue := 0 }, { name := "initialIn", type := (.object "java/io/InputStream"), accessFlags := 10, slot := 3, constantValue := 0 }, { name := "NEVER", type := .int, accessFlags := 26, slot := 4, constantValue := 0 }, { name := "MAYBE", type := .int, accessFlags := 26, slot := 5, constantValue := 0 }, { name := "allowSecurityManager", type := .int, accessFlags := 10, slot := 6, constantValue := 0 }, { name := "security", type := (.object "java/lang/SecurityManager"), accessFlags := 74, slot := 7, constantValue := 0 }, { name := "notSupportedJnuEncoding", type := (.object "java/lang/String"), accessFlags := 10, slot := 8, constantValue := 0 }, { name := "cons", type := (.object "java/io/Console"), accessFlags := 74, slot := 9, constantValue := 0 }, { name := "initialErrStream", type := (.object "java/io/PrintStream"), accessFlags := 74, slot := 10, constantValue := 0 }, { name := "props", type := (.object "java/util/Properties"), accessFlags := 10, slot := 11, constantValue := 0 }, { name := "lineSeparator", type := (.object "java/lang/String"), accessFlags := 10, slot := 12, constantValue := 0 }, { name := "bootLayer", type := (.object "java/lang/ModuleLayer"), accessFlags := 8, slot := 13, constantValue := 0 }]
  methods := #[k14m0, k14m1]
  instanceTypes := #[]
  staticTypes := #[(.object "java/io/InputStream"), (.object "java/io/PrintStream"), (.object "java/io/PrintStream"), (.object "java/io/InputStream"), .int, .int, .int, (.object "java/lang/SecurityManager"), (.object "java/lang/String"), (.object "java/io/Console"), (.object "java/io/PrintStream"), (.object "java/util/Properties"), (.object "java/lang/String"), (.object "java/lang/ModuleLayer")]
  resolved := Array.replicate 834 none
  statics := none }

def pool15 : Array CpInfo := pool [(2, .class_ 4), (1, u "java/lang/Object"), (0, u "<init>"), (0, u "()V"), (7, .class_ 16), (1, u "java/util/Arrays"), (57, .class_ 76), (1, u "java/util/Arrays$NaturalOrder"), (36, .class_ 115), (1, u "java/util/Arrays$LegacyMergeSort"), (1, u "Z"), (21, u "copyOfRange"), (10, .methodref 151 152), (0, .class_ 153), (0, .nameAndType 154 155), (0, u "java/lang/System"), (0, u "arraycopy"), (0, u "(Ljava/lang/Object;ILjava/lang/Object;II)V"), (148, .methodref 305 306), (0, .class_ 307), (0, .nameAndType 308 309), (0, u "java/lang/Math"), (0, u "min"), (0, u "(II)I"), (29, .methodref 14 340), (0, .nameAndType 341 342), (0, u "copyOfRangeByte"), (0, u "([BII)[B"), (0, .methodref 14 344), (0, .nameAndType 345 346), (0, u "checkLength"), (0, u "(II)V"), (28, .class_ 376), (0, u "java/util/Arrays$ArrayList"), (68, u "$assertionsDisabled"), (269, u "MIN_ARRAY_SORT_GRAN"), (0, u "I"), (2, u "INSERTIONSORT_THRESHOLD"), (255, .class_ 976), (0, u "java/util/Arrays$ArrayItr")] 52

def k15m0 : Method := { name := "<init>", desc := "()V", sig := { parameters := [], returnType := none }, accessFlags := 2, code := none }
def k15c1 : Code := { maxStack := 4, maxLocals := 2, code := jdk_65_method_131_code, exceptionTable := #[], attributes := #[] }
def k15m1 : Method := { name := "checkLength", desc := "(II)V", sig := { parameters := [.int, .int], returnType := none }, accessFlags := 10, code := some k15c1 }
def k15c2 : Code := { maxStack := 3, maxLocals := 3, code := jdk_65_method_132_code, exceptionTable := #[], attributes := #[] }
def k15m2 : Method := { name := "copyOfRange", desc := "([BII)[B", sig := { parameters := [(.array .byte), .int, .int], returnType := some (.array .byte) }, accessFlags := 9, code := some k15c2 }
def k15c3 : Code := { maxStack := 6, maxLocals := 5, code := jdk_65_method_133_code, exceptionTable := #[], attributes := #[] }
def k15m3 : Method := { name := "copyOfRangeByte", desc := "([BII)[B", sig := { parameters := [(.array .byte), .int, .int], returnType := some (.array .byte) }, accessFlags := 10, code := some k15c3 }
/-- java/util/Arrays -/
def k15 : Class := { plain "java/util/Arrays" (some 0) with
  accessFlags := 49
  interfaces := #[]
  cf := some (fileOf pool15 14 #[.nestMembers #[975, 375, 113, 74]] #[{ accessFlags := 2, nameIndex := 5, descriptorIndex := 6, attributes := #[] }, { accessFlags := 10, nameIndex := 345, descriptorIndex := 346, attributes := #[] }, { accessFlags := 9, nameIndex := 139, descriptorIndex := 342, attributes := #[] }, { accessFlags := 10, nameIndex := 341, descriptorIndex := 342, attributes := #[] }] 49 2 #[] #[{ accessFlags := 26, nameIndex := 715, descriptorIndex := 716, attributes := #[] }, { accessFlags := 26, nameIndex := 719, descriptorIndex := 716, attributes := #[] }, { accessFlags := 4120, nameIndex := 445, descriptorIndex := 117, attributes := #[] }])
  fields := #[{ name := "MIN_ARRAY_SORT_GRAN", type := .int, accessFlags := 26, slot := 0, constantValue := 0 }, { name := "INSERTIONSORT_THRESHOLD", type := .int, accessFlags := 26, slot := 1, constantValue := 0 }, { name := "$assertionsDisabled", type := .boolean, accessFlags := 4120, slot := 2, constantValue := 0 }]
  methods := #[k15m0, k15m1, k15m2, k15m3]
  instanceTypes := #[]
  staticTypes := #[.int, .int, .boolean]
  resolved := Array.replicate 1029 none
  statics := none }

def pool16 : Array CpInfo := pool [(1, .class_ 2), (0, u "java/lang/Math"), (1, .class_ 6), (1, u "java/lang/Object"), (0, u "<init>"), (0, u "()V"), (89, .class_ 100), (1, u "java/lang/Math$RandomNumberGeneratorHolder"), (71, u "negativeZeroFloatBits"), (0, u "J"), (2, u "negativeZeroDoubleBits"), (24, u "min"), (43, u "$assertionsDisabled"), (0, u "Z"), (88, u "(II)I"), (2, u "twoToTheDoubleScaleDown"), (0, u "D"), (4, u "twoToTheDoubleScaleUp"), (9, u "E"), (3, u "PI"), (2, u "TAU"), (2, u "DEGREES_TO_RADIANS"), (0, u "RADIANS_TO_DEGREES")] 94

def k16m0 : Method := { name := "<init>", desc := "()V", sig := { parameters := [], returnType := none }, accessFlags := 2, code := none }
def k16c1 : Code := { maxStack := 2, maxLocals := 2, code := jdk_29_method_69_code, exceptionTable := #[], attributes := #[] }
def k16m1 : Method := { name := "min", desc := "(II)I", sig := { parameters := [.int, .int], returnType := some .int }, accessFlags := 9, code := some k16c1 }
/-- java/lang/Math -/
def k16 : Class := { plain "java/lang/Math" (some 0) with
  accessFlags := 49
  interfaces := #[]
  cf := some (fileOf pool16 1 #[.nestMembers #[98]] #[{ accessFlags := 2, nameIndex := 7, descriptorIndex := 8, attributes := #[] }, { accessFlags := 9, nameIndex := 201, descriptorIndex := 335, attributes := #[] }] 49 4 #[] #[{ accessFlags := 25, nameIndex := 354, descriptorIndex := 339, attributes := #[] }, { accessFlags := 25, nameIndex := 358, descriptorIndex := 339, attributes := #[] }, { accessFlags := 25, nameIndex := 361, descriptorIndex := 339, attributes := #[] }, { accessFlags := 26, nameIndex := 364, descriptorIndex := 339, attributes := #[] }, { accessFlags := 26, nameIndex := 365, descriptorIndex := 339, attributes := #[] }, { accessFlags := 26, nameIndex := 172, descriptorIndex := 173, attributes := #[] }, { accessFlags := 26, nameIndex := 176, descriptorIndex := 173, attributes := #[] }, { accessFlags := 8, nameIndex := 344, descriptorIndex := 339, attributes := #[] }, { accessFlags := 8, nameIndex := 338, descriptorIndex := 339, attributes := #[] }, { accessFlags := 4120, nameIndex := 245, descriptorIndex := 246, attributes := #[] }])
  fields := #[{ name := "E", type := .double, accessFlags := 25, slot := 0, constantValue := 0 }, { name := "PI", type := .double, accessFlags := 25, slot := 1, constantValue := 0 }, { name := "TAU", type := .double, accessFlags := 25, slot := 2, constantValue := 0 }, { name := "DEGREES_TO_RADIANS", type := .double, accessFlags := 26, slot := 3, constantValue := 0 }, { name := "RADIANS_TO_DEGREES", type := .double, accessFlags := 26, slot := 4, constantValue := 0 }, { name := "negativeZeroFloatBits", type := .long, accessFlags := 26, slot := 5, constantValue := 0 }, { name := "negativeZeroDoubleBits", type := .long, accessFlags := 26, slot := 6, constantValue := 0 }, { name := "twoToTheDoubleScaleUp", type := .double, accessFlags := 8, slot := 7, constantValue := 0 }, { name := "twoToTheDoubleScaleDown", type := .double, accessFlags := 8, slot := 8, constantValue := 0 }, { name := "$assertionsDisabled", type := .boolean, accessFlags := 4120, slot := 9, constantValue := 0 }]
  methods := #[k16m0, k16m1]
  instanceTypes := #[]
  staticTypes := #[.double, .double, .double, .double, .double, .long, .long, .double, .double, .boolean]
  resolved := Array.replicate 460 none
  statics := none }

def pool17 : Array CpInfo := pool [(4, .class_ 6), (1, u "java/lang/Object"), (0, u "<init>"), (0, u "()V"), (5, .class_ 16), (1, u "java/lang/StringLatin1"), (104, u "$assertionsDisabled"), (0, u "Z"), (98, .class_ 223), (1, u "java/lang/StringLatin1$LinesSpliterator"), (57, u "equals"), (0, u "([B[B)Z"), (107, .class_ 391), (0, u "java/lang/StringLatin1$CharsSpliterator")] 3

def k17m0 : Method := { name := "<init>", desc := "()V", sig := { parameters := [], returnType := none }, accessFlags := 0, code := none }
def k17c1 : Code := { maxStack := 3, maxLocals := 3, code := jdk_43_method_13_code, exceptionTable := #[], attributes := #[] }
def k17m1 : Method := { name := "equals", desc := "([B[B)Z", sig := { parameters := [(.array .byte), (.array .byte)], returnType := some .boolean }, accessFlags := 9, code := some k17c1 }
/-- java/lang/StringLatin1 -/
def k17 : Class := { plain "java/lang/StringLatin1" (some 0) with
  accessFlags := 48
  interfaces := #[]
  cf := some (fileOf pool17 14 #[.nestMembers #[390, 221]] #[{ accessFlags := 0, nameIndex := 7, descriptorIndex := 8, attributes := #[] }, { accessFlags := 9, nameIndex := 281, descriptorIndex := 282, attributes := #[] }] 48 4 #[] #[{ accessFlags := 4120, nameIndex := 121, descriptorIndex := 122, attributes := #[] }])
  fields := #[{ name := "$assertionsDisabled", type := .boolean, accessFlags := 4120, slot := 0, constantValue := 0 }]
  methods := #[k17m0, k17m1]
  instanceTypes := #[]
  staticTypes := #[.boolean]
  resolved := Array.replicate 395 none
  statics := none }

def pool18 : Array CpInfo := pool [(2, .class_ 4), (1, u "java/lang/Object"), (0, u "<init>"), (0, u "()V"), (17, .class_ 26), (1, u "jdk/internal/util/Preconditions"), (28, .class_ 56), (0, u "jdk/internal/util/Preconditions$4"), (57, .class_ 115), (0, u "jdk/internal/util/Preconditions$1"), (7, u "SIOOBE_FORMATTER"), (0, u "Ljava/util/function/BiFunction;"), (0, .class_ 126), (0, u "jdk/internal/util/Preconditions$2"), (3, u "AIOOBE_FORMATTER"), (0, .class_ 132), (0, u "jdk/internal/util/Preconditions$3"), (3, u "IOOBE_FORMATTER")] 57

def k18m0 : Method := { name := "<init>", desc := "()V", sig := { parameters := [], returnType := none }, accessFlags := 1, code := none }
/-- jdk/internal/util/Preconditions -/
def k18 : Class := { plain "jdk/internal/util/Preconditions" (some 0) with
  accessFlags := 33
  interfaces := #[]
  cf := some (fileOf pool18 24 #[.nestMembers #[55, 131, 125, 114]] #[{ accessFlags := 1, nameIndex := 5, descriptorIndex := 6, attributes := #[] }] 33 2 #[] #[{ accessFlags := 25, nameIndex := 123, descriptorIndex := 124, attributes := #[] }, { accessFlags := 25, nameIndex := 130, descriptorIndex := 124, attributes := #[] }, { accessFlags := 25, nameIndex := 136, descriptorIndex := 124, attributes := #[] }])
  fields := #[{ name := "SIOOBE_FORMATTER", type := (.object "java/util/function/BiFunction"), accessFlags := 25, slot := 0, constantValue := 0 }, { name := "AIOOBE_FORMATTER", type := (.object "java/util/function/BiFunction"), accessFlags := 25, slot := 1, constantValue := 0 }, { name := "IOOBE_FORMATTER", type := (.object "java/util/function/BiFunction"), accessFlags := 25, slot := 2, constantValue := 0 }]
  methods := #[k18m0]
  instanceTypes := #[]
  staticTypes := #[(.object "java/util/function/BiFunction"), (.object "java/util/function/BiFunction"), (.object "java/util/function/BiFunction")]
  resolved := Array.replicate 194 none
  statics := some 3 }

def pool19 : Array CpInfo := pool [(9, u "<init>"), (6, .class_ 18), (1, u "java/lang/Object"), (0, u "()V"), (1, .class_ 23), (1, u "jdk/internal/util/ArraysSupport"), (0, u "LOG2_ARRAY_LONG_INDEX_SCALE"), (0, u "I"), (2, u "U"), (0, u "Ljdk/internal/misc/Unsafe;"), (8, u "BIG_ENDIAN"), (0, u "Z"), (8, u "LOG2_BYTE_BIT_SIZE"), (4, u "LOG2_ARRAY_INT_INDEX_SCALE"), (54, u "JLA"), (0, u "Ljdk/internal/access/JavaLangAccess;"), (11, u "LOG2_ARRAY_BOOLEAN_INDEX_SCALE"), (9, u "LOG2_ARRAY_BYTE_INDEX_SCALE"), (5, u "LOG2_ARRAY_CHAR_INDEX_SCALE"), (5, u "LOG2_ARRAY_SHORT_INDEX_SCALE"), (18, u "LOG2_ARRAY_FLOAT_INDEX_SCALE"), (24, u "LOG2_ARRAY_DOUBLE_INDEX_SCALE"), (89, u "T_BOOLEAN"), (2, u "T_CHAR"), (1, u "T_FLOAT"), (1, u "T_DOUBLE"), (1, u "T_BYTE"), (1, u "T_SHORT"), (1, u "T_INT"), (1, u "T_LONG"), (1, u "SOFT_MAX_ARRAY_LENGTH")] 83

def k19m0 : Method := { name := "<init>", desc := "()V", sig := { parameters := [], returnType := none }, accessFlags := 2, code := none }
/-- jdk/internal/util/ArraysSupport -/
def k19 : Class := { plain "jdk/internal/util/ArraysSupport" (some 0) with
  accessFlags := 33
  interfaces := #[]
  cf := some (fileOf pool19 21 #[] #[{ accessFlags := 2, nameIndex := 9, descriptorIndex := 19, attributes := #[] }] 33 16 #[] #[{ accessFlags := 24, nameIndex := 28, descriptorIndex := 29, attributes := #[] }, { accessFlags := 26, nameIndex := 38, descriptorIndex := 39, attributes := #[] }, { accessFlags := 25, nameIndex := 121, descriptorIndex := 25, attributes := #[] }, { accessFlags := 25, nameIndex := 131, descriptorIndex := 25, attributes := #[] }, { accessFlags := 25, nameIndex := 137, descriptorIndex := 25, attributes := #[] }, { accessFlags := 25, nameIndex := 143, descriptorIndex := 25, attributes := #[] }, { accessFlags := 25, nameIndex := 53, descriptorIndex := 25, attributes := #[] }, { accessFlags := 25, nameIndex := 24, descriptorIndex := 25, attributes := #[] }, { accessFlags := 25, nameIndex := 162, descriptorIndex := 25, attributes := #[] }, { accessFlags := 25, nameIndex := 187, descriptorIndex := 25, attributes := #[] }, { accessFlags := 26, nameIndex := 48, descriptorIndex := 25, attributes := #[] }, { accessFlags := 25, nameIndex := 277, descriptorIndex := 25, attributes := #[] }, { accessFlags := 25, nameIndex := 280, descriptorIndex := 25, attributes := #[] }, { accessFlags := 25, nameIndex := 282, descriptorIndex := 25, attributes := #[] }, { accessFlags := 25, nameIndex := 284, descriptorIndex := 25, attributes := #[] }, { accessFlags := 25, nameIndex := 286, descriptorIndex := 25, attributes := #[] }, { accessFlags := 25, nameIndex := 288, descriptorIndex := 25, attributes := #[] }, { accessFlags := 25, nameIndex := 290, descriptorIndex := 25, attributes := #[] }, { accessFlags := 25, nameIndex := 292, descriptorIndex := 25, attributes := #[] }, { accessFlags := 26, nameIndex := 108, descriptorIndex := 109, attributes := #[] }, { accessFlags := 25, nameIndex := 294, descriptorIndex := 25, attributes := #[] }])
  fields := #[{ name := "U", type := (.object "jdk/internal/misc/Unsafe"), accessFlags := 24, slot := 0, constantValue := 0 }, { name := "BIG_ENDIAN", type := .boolean, accessFlags := 26, slot := 1, constantValue := 0 }, { name := "LOG2_ARRAY_BOOLEAN_INDEX_SCALE", type := .int, accessFlags := 25, slot := 2, constantValue := 0 }, { name := "LOG2_ARRAY_BYTE_INDEX_SCALE", type := .int, accessFlags := 25, slot := 3, constantValue := 0 }, { name := "LOG2_ARRAY_CHAR_INDEX_SCALE", type := .int, accessFlags := 25, slot := 4, constantValue := 0 }, { name := "LOG2_ARRAY_SHORT_INDEX_SCALE", type := .int, accessFlags := 25, slot := 5, constantValue := 0 }, { name := "LOG2_ARRAY_INT_INDEX_SCALE", type := .int, accessFlags := 25, slot := 6, constantValue := 0 }, { name := "LOG2_ARRAY_LONG_INDEX_SCALE", type := .int, accessFlags := 25, slot := 7, constantValue := 0 }, { name := "LOG2_ARRAY_FLOAT_INDEX_SCALE", type := .int, accessFlags := 25, slot := 8, constantValue := 0 }, { name := "LOG2_ARRAY_DOUBLE_INDEX_SCALE", type := .int, accessFlags := 25, slot := 9, constantValue := 0 }, { name := "LOG2_BYTE_BIT_SIZE", type := .int, accessFlags := 26, slot := 10, constantValue := 0 }, { name := "T_BOOLEAN", type := .int, accessFlags := 25, slot := 11, constantValue := 0 }, { name := "T_CHAR", type := .int, accessFlags := 25, slot := 12, constantValue := 0 }, { name := "T_FLOAT", type := .int, accessFlags := 25, slot := 13, constantValue := 0 }, { name := "T_DOUBLE", type := .int, accessFlags := 25, slot := 14, constantValue := 0 }, { name := "T_BYTE", type := .int, accessFlags := 25, slot := 15, constantValue := 0 }, { name := "T_SHORT", type := .int, accessFlags := 25, slot := 16, constantValue := 0 }, { name := "T_INT", type := .int, accessFlags := 25, slot := 17, constantValue := 0 }, { name := "T_LONG", type := .int, accessFlags := 25, slot := 18, constantValue := 0 }, { name := "JLA", type := (.object "jdk/internal/access/JavaLangAccess"), accessFlags := 26, slot := 19, constantValue := 0 }, { name := "SOFT_MAX_ARRAY_LENGTH", type := .int, accessFlags := 25, slot := 20, constantValue := 0 }]
  methods := #[k19m0]
  instanceTypes := #[]
  staticTypes := #[(.object "jdk/internal/misc/Unsafe"), .boolean, .int, .int, .int, .int, .int, .int, .int, .int, .int, .int, .int, .int, .int, .int, .int, .int, .int, (.object "jdk/internal/access/JavaLangAccess"), .int]
  resolved := Array.replicate 378 none
  statics := none }

def pool20 : Array CpInfo := pool [(1, u "java/lang/Cloneable"), (0, .class_ 1), (0, u "java/lang/Object"), (0, .class_ 3)] 3

/-- java/lang/Cloneable -/
def k20 : Class := { plain "java/lang/Cloneable" (some 0) with
  accessFlags := 1537
  interfaces := #[]
  cf := some (fileOf pool20 2 #[] #[] 1537 4 #[] #[])
  fields := #[]
  methods := #[]
  instanceTypes := #[]
  staticTypes := #[]
  resolved := Array.replicate 8 none
  statics := none }

/-- the primitive byte -/
def k21 : Class := { plain "byte" none with kind := .primitive 'B', accessFlags := 0x411 }
/-- [B -/
def k22 : Class := { plain "[B" (some 0) with kind := .array 21 .byte, interfaces := #[20, 3], accessFlags := 1041 }

/-- the primitive int -/
def k23 : Class := { plain "int" none with kind := .primitive 'I', accessFlags := 0x411 }
/-- [I -/
def k24 : Class := { plain "[I" (some 0) with kind := .array 23 .int, interfaces := #[20, 3], accessFlags := 1041 }

def heap : Heap := #[{ cls := 2, slots := #[.ref 11, .ref 14, .null], vm := .statics 2 },
  { cls := 8, slots := #[.long 0, .int 1, .null, .int 0, .null, .int 0, .int 0], vm := .statics 8 },
  { cls := 13, slots := #[.ref 4, .ref 5, .ref 6, .ref 7, .ref 8, .null, .null, .null], vm := .statics 13 },
  { cls := 18, slots := #[.null, .null, .null], vm := .statics 18 },
  { cls := 13, slots := #[.null, .int 0, .int 0], vm := .none },
  { cls := 13, slots := #[.null, .int 1, .int 0], vm := .none },
  { cls := 13, slots := #[.null, .int 2, .int 0], vm := .none },
  { cls := 13, slots := #[.null, .int 3, .int 0], vm := .none },
  { cls := 13, slots := #[.null, .int 4, .int 0], vm := .none },
  { cls := 22, slots := #[.int 116, .int 114, .int 117, .int 101], vm := .none },
  { cls := 8, slots := #[.ref 9, .int 0, .int 0, .int 0], vm := .none },
  { cls := 2, slots := #[.ref 8, .ref 10, .null, .null, .null], vm := .none },
  { cls := 22, slots := #[.int 102, .int 97, .int 108, .int 115, .int 101], vm := .none },
  { cls := 8, slots := #[.ref 12, .int 0, .int 0, .int 0], vm := .none },
  { cls := 2, slots := #[.ref 8, .ref 13, .null, .null, .null], vm := .none }]
def classes : Array Class := #[k0, k1, k2, k3, k4, k5, k6, k7, k8, k9, k10, k11, k12, k13, k14, k15, k16, k17, k18, k19, k20, k21, k22, k23, k24]
def interned : List (Array UInt16 × Addr) := []
def slotsUsed : Nat := 63
def theMethod : MethodId := ⟨1, 1⟩
def args0 : Array Value := #[.int 1]
def aboutOver (below : List Frame) : State where
  vm := { classes := classes, interned := interned.toArray }
  heap := heap
  slotsUsed := slotsUsed
  threads := #[{ frames := .invoking theMethod args0 :: below }]
def below0 : List Frame := [.native { method := ⟨0, 0⟩, args := #[] }]
def about1 : State := aboutOver below0
def p0 : Program := .bare "" "" ""
def e0 : Env := launch0.env 0 0 0
theorem w_frames : about1.frames = Frame.invoking theMethod args0 :: below0 := rfl
set_option maxRecDepth 65536 in
theorem w_args : argsFit about1.vm theMethod args0 = true := by decide +kernel
set_option maxRecDepth 65536 in
theorem w_heap : heapFits about1 = true := by decide +kernel
set_option maxRecDepth 65536 in
theorem w_runnable : about1.curStatus? = some .runnable := by decide +kernel
set_option maxRecDepth 65536 in
theorem w_alone : about1.alone = true := by decide +kernel
set_option maxRecDepth 65536 in
theorem w_named : about1.methodNamed? x = some theMethod := by decide +kernel
set_option maxRecDepth 65536 in
theorem w_hears : about1.hears theMethod below0 = true := by decide +kernel
set_option maxRecDepth 65536 in
theorem w_ripe : about1.ripe theMethod args0 below0 = true := by decide +kernel
theorem w_running : about1.status = .running := rfl
set_option maxRecDepth 65536 in
theorem w_room : about1.hasRoom e0.platform room_1 = true :=
  launch0.hasRoom_least _ room_1 (by decide +kernel) (by decide +kernel) (by decide +kernel) (by decide +kernel) (by decide +kernel) (by decide +kernel)
theorem allAtoms_all (ts : List Jvm.Cond) (a : Array Jvm.Value) (st : Jvm.State) : (allAtoms ts).before a st = ts.all (fun c => c.before a st) := by
  induction ts with
  | nil => rfl
  | cons c t ih =>
    show (Jvm.Cond.and c (allAtoms t)).before a st = _
    rw [Jvm.Cond.before_and, ih, List.all_cons]
def words1 : List Jvm.Cond := Jvm.Cond.code x code maxLocals ret :: tables_1
/-- a 'code' word, met by the world's own term for the bytes: nothing is compared byte by byte -/
theorem code_word {y : MethodName} {bytes : ByteArray} {mx : Nat} {rt : Option FieldType} {a : Array Value} {s : State} {m : MethodId} {meth : Method} {c : Code} (h1 : s.methodNamed? y = some m) (h2 : s.vm.method? m = some meth) (h3 : meth.code = some c) (h4 : c.code = bytes)
    (h5 : (c.maxLocals == mx && c.exceptionTable.isEmpty && decide (c.maxStack ≤ mostOperands) && decide (meth.sig.returnType = rt) && !meth.locks && decide (parseMethodDescriptor y.desc = some meth.sig)) = true) : (Jvm.Cond.code y bytes mx rt).before a s = true := by
  simp only [Bool.and_eq_true, beq_iff_eq, Bool.not_eq_true', decide_eq_true_eq] at h5
  obtain ⟨⟨⟨⟨⟨g1, g2⟩, g3⟩, g4⟩, g5⟩, g6⟩ := h5
  simp [Cond.before, Cond.holds, Cond.value, h1, h2, h3, h4, g1, g2, g3, g4, g5, g6]
def isCode : Jvm.Cond → Bool
  | .code _ _ _ _ => true
  | _ => false
theorem all_split {L : List Jvm.Cond} {P : Jvm.Cond → Bool} (h1 : L.all (fun c => isCode c || P c) = true) (h2 : ∀ c ∈ L.filter isCode, P c = true) : L.all P = true := by
  refine List.all_eq_true.mpr fun c hc => ?_
  have h := List.all_eq_true.mp h1 c hc
  rcases Bool.eq_false_or_eq_true (isCode c) with hi | hi
  · exact h2 c (List.mem_filter.mpr ⟨hc, hi⟩)
  · simpa [hi] using h
set_option maxRecDepth 65536 in
theorem w_c0 : (Jvm.Cond.code x code maxLocals ret).before args0 about1 = true := code_word (m := ⟨1, 1⟩) (meth := k1m1) (c := k1c1) (by decide +kernel) rfl rfl rfl (by decide +kernel)
set_option maxRecDepth 65536 in
theorem w_c1 : (Jvm.Cond.code ({ cls := "com/example/rising_block/risingblock/io/YamlNode", name := "truth", desc := "(Z)Lcom/example/rising_block/risingblock/io/YamlNode;" } : Jvm.MethodName) prog_21_method_6_code (1 : Nat) (Option.some (Jvm.ClassFile.FieldType.object "com/example/rising_block/risingblock/io/YamlNode"))).before args0 about1 = true := code_word (m := ⟨2, 0⟩) (meth := k2m0) (c := k2c0) (by decide +kernel) rfl rfl rfl (by decide +kernel)
set_option maxRecDepth 65536 in
theorem w_c2 : (Jvm.Cond.code ({ cls := "com/example/rising_block/risingblock/io/YamlNode", name := "toString", desc := "()Ljava/lang/String;" } : Jvm.MethodName) prog_21_method_24_code (2 : Nat) (Option.some (Jvm.ClassFile.FieldType.object "java/lang/String"))).before args0 about1 = true := code_word (m := ⟨2, 6⟩) (meth := k2m6) (c := k2c6) (by decide +kernel) rfl rfl rfl (by decide +kernel)
set_option maxRecDepth 65536 in
theorem w_c3 : (Jvm.Cond.code ({ cls := "java/lang/StringBuilder", name := "<init>", desc := "()V" } : Jvm.MethodName) jdk_67_method_1_code (1 : Nat) (Option.none : Option Jvm.ClassFile.FieldType)).before args0 about1 = true := code_word (m := ⟨11, 0⟩) (meth := k11m0) (c := k11c0) (by decide +kernel) rfl rfl rfl (by decide +kernel)
set_option maxRecDepth 65536 in
theorem w_c4 : (Jvm.Cond.code ({ cls := "java/lang/AbstractStringBuilder", name := "<init>", desc := "(I)V" } : Jvm.MethodName) jdk_68_method_2_code (2 : Nat) (Option.none : Option Jvm.ClassFile.FieldType)).before args0 about1 = true := code_word (m := ⟨10, 1⟩) (meth := k10m1) (c := k10c1) (by decide +kernel) rfl rfl rfl (by decide +kernel)
set_option maxRecDepth 65536 in
theorem w_c5 : (Jvm.Cond.code ({ cls := "java/lang/Object", name := "<init>", desc := "()V" } : Jvm.MethodName) object_method_1_code (1 : Nat) (Option.none : Option Jvm.ClassFile.FieldType)).before args0 about1 = true := code_word (m := ⟨0, 0⟩) (meth := k0m0) (c := k0c0) (by decide +kernel) rfl rfl rfl (by decide +kernel)
set_option maxRecDepth 65536 in
theorem w_c6 : (Jvm.Cond.code ({ cls := "com/example/rising_block/risingblock/io/YamlNode", name := "write", desc := "(Ljava/lang/StringBuilder;)V" } : Jvm.MethodName) prog_21_method_25_code (5 : Nat) (Option.none : Option Jvm.ClassFile.FieldType)).before args0 about1 = true := code_word (m := ⟨2, 7⟩) (meth := k2m7) (c := k2c7) (by decide +kernel) rfl rfl rfl (by decide +kernel)
set_option maxRecDepth 65536 in
theorem w_c7 : (Jvm.Cond.code ({ cls := "java/lang/Enum", name := "ordinal", desc := "()I" } : Jvm.MethodName) jdk_37_method_2_code (1 : Nat) (Option.some Jvm.ClassFile.FieldType.int)).before args0 about1 = true := code_word (m := ⟨12, 0⟩) (meth := k12m0) (c := k12c0) (by decide +kernel) rfl rfl rfl (by decide +kernel)
set_option maxRecDepth 65536 in
theorem w_c8 : (Jvm.Cond.code ({ cls := "java/lang/StringBuilder", name := "append", desc := "(Ljava/lang/String;)Ljava/lang/StringBuilder;" } : Jvm.MethodName) jdk_67_method_7_code (2 : Nat) (Option.some (Jvm.ClassFile.FieldType.object "java/lang/StringBuilder"))).before args0 about1 = true := code_word (m := ⟨11, 1⟩) (meth := k11m1) (c := k11c1) (by decide +kernel) rfl rfl rfl (by decide +kernel)
set_option maxRecDepth 65536 in
theorem w_c9 : (Jvm.Cond.code ({ cls := "java/lang/AbstractStringBuilder", name := "append", desc := "(Ljava/lang/String;)Ljava/lang/AbstractStringBuilder;" } : Jvm.MethodName) jdk_68_method_22_code (3 : Nat) (Option.some (Jvm.ClassFile.FieldType.object "java/lang/AbstractStringBuilder"))).before args0 about1 = true := code_word (m := ⟨10, 4⟩) (meth := k10m4) (c := k10c4) (by decide +kernel) rfl rfl rfl (by decide +kernel)
set_option maxRecDepth 65536 in
theorem w_c10 : (Jvm.Cond.code ({ cls := "java/lang/String", name := "length", desc := "()I" } : Jvm.MethodName) jdk_42_method_54_code (1 : Nat) (Option.some Jvm.ClassFile.FieldType.int)).before args0 about1 = true := code_word (m := ⟨8, 2⟩) (meth := k8m2) (c := k8c2) (by decide +kernel) rfl rfl rfl (by decide +kernel)
set_option maxRecDepth 65536 in
theorem w_c11 : (Jvm.Cond.code ({ cls := "java/lang/String", name := "coder", desc := "()B" } : Jvm.MethodName) jdk_42_method_152_code (1 : Nat) (Option.some Jvm.ClassFile.FieldType.byte)).before args0 about1 = true := code_word (m := ⟨8, 6⟩) (meth := k8m6) (c := k8c6) (by decide +kernel) rfl rfl rfl (by decide +kernel)
set_option maxRecDepth 65536 in
theorem w_c12 : (Jvm.Cond.code ({ cls := "java/lang/AbstractStringBuilder", name := "ensureCapacityInternal", desc := "(I)V" } : Jvm.MethodName) jdk_68_method_9_code (3 : Nat) (Option.none : Option Jvm.ClassFile.FieldType)).before args0 about1 = true := code_word (m := ⟨10, 3⟩) (meth := k10m3) (c := k10c3) (by decide +kernel) rfl rfl rfl (by decide +kernel)
set_option maxRecDepth 65536 in
theorem w_c13 : (Jvm.Cond.code ({ cls := "java/lang/AbstractStringBuilder", name := "putStringAt", desc := "(ILjava/lang/String;)V" } : Jvm.MethodName) jdk_68_method_73_code (3 : Nat) (Option.none : Option Jvm.ClassFile.FieldType)).before args0 about1 = true := code_word (m := ⟨10, 8⟩) (meth := k10m8) (c := k10c8) (by decide +kernel) rfl rfl rfl (by decide +kernel)
set_option maxRecDepth 65536 in
theorem w_c14 : (Jvm.Cond.code ({ cls := "java/lang/AbstractStringBuilder", name := "inflateIfNeededFor", desc := "(Ljava/lang/String;)V" } : Jvm.MethodName) jdk_68_method_71_code (2 : Nat) (Option.none : Option Jvm.ClassFile.FieldType)).before args0 about1 = true := code_word (m := ⟨10, 7⟩) (meth := k10m7) (c := k10c7) (by decide +kernel) rfl rfl rfl (by decide +kernel)
set_option maxRecDepth 65536 in
theorem w_c15 : (Jvm.Cond.code ({ cls := "java/lang/String", name := "getBytes", desc := "([BIB)V" } : Jvm.MethodName) jdk_42_method_147_code (4 : Nat) (Option.none : Option Jvm.ClassFile.FieldType)).before args0 about1 = true := code_word (m := ⟨8, 4⟩) (meth := k8m4) (c := k8c4) (by decide +kernel) rfl rfl rfl (by decide +kernel)
set_option maxRecDepth 65536 in
theorem w_c16 : (Jvm.Cond.code ({ cls := "java/lang/StringBuilder", name := "toString", desc := "()Ljava/lang/String;" } : Jvm.MethodName) jdk_67_method_42_code (1 : Nat) (Option.some (Jvm.ClassFile.FieldType.object "java/lang/String"))).before args0 about1 = true := code_word (m := ⟨11, 2⟩) (meth := k11m2) (c := k11c2) (by decide +kernel) rfl rfl rfl (by decide +kernel)
set_option maxRecDepth 65536 in
theorem w_c17 : (Jvm.Cond.code ({ cls := "java/lang/String", name := "<init>", desc := "(Ljava/lang/StringBuilder;)V" } : Jvm.MethodName) jdk_42_method_53_code (2 : Nat) (Option.none : Option Jvm.ClassFile.FieldType)).before args0 about1 = true := code_word (m := ⟨8, 1⟩) (meth := k8m1) (c := k8c1) (by decide +kernel) rfl rfl rfl (by decide +kernel)
set_option maxRecDepth 65536 in
theorem w_c18 : (Jvm.Cond.code ({ cls := "java/lang/String", name := "<init>", desc := "(Ljava/lang/AbstractStringBuilder;Ljava/lang/Void;)V" } : Jvm.MethodName) jdk_42_method_150_code (5 : Nat) (Option.none : Option Jvm.ClassFile.FieldType)).before args0 about1 = true := code_word (m := ⟨8, 5⟩) (meth := k8m5) (c := k8c5) (by decide +kernel) rfl rfl rfl (by decide +kernel)
set_option maxRecDepth 65536 in
theorem w_c19 : (Jvm.Cond.code ({ cls := "java/lang/AbstractStringBuilder", name := "getValue", desc := "()[B" } : Jvm.MethodName) jdk_68_method_64_code (1 : Nat) (Option.some (Jvm.ClassFile.FieldType.array Jvm.ClassFile.FieldType.byte))).before args0 about1 = true := code_word (m := ⟨10, 5⟩) (meth := k10m5) (c := k10c5) (by decide +kernel) rfl rfl rfl (by decide +kernel)
set_option maxRecDepth 65536 in
theorem w_c20 : (Jvm.Cond.code ({ cls := "java/lang/StringBuilder", name := "length", desc := "()I" } : Jvm.MethodName) jdk_67_method_93_code (1 : Nat) (Option.some Jvm.ClassFile.FieldType.int)).before args0 about1 = true := code_word (m := ⟨11, 3⟩) (meth := k11m3) (c := k11c3) (by decide +kernel) rfl rfl rfl (by decide +kernel)
set_option maxRecDepth 65536 in
theorem w_c21 : (Jvm.Cond.code ({ cls := "java/lang/AbstractStringBuilder", name := "length", desc := "()I" } : Jvm.MethodName) jdk_68_method_6_code (1 : Nat) (Option.some Jvm.ClassFile.FieldType.int)).before args0 about1 = true := code_word (m := ⟨10, 2⟩) (meth := k10m2) (c := k10c2) (by decide +kernel) rfl rfl rfl (by decide +kernel)
set_option maxRecDepth 65536 in
theorem w_c22 : (Jvm.Cond.code ({ cls := "java/lang/AbstractStringBuilder", name := "isLatin1", desc := "()Z" } : Jvm.MethodName) jdk_68_method_68_code (1 : Nat) (Option.some Jvm.ClassFile.FieldType.boolean)).before args0 about1 = true := code_word (m := ⟨10, 6⟩) (meth := k10m6) (c := k10c6) (by decide +kernel) rfl rfl rfl (by decide +kernel)
set_option maxRecDepth 65536 in
theorem w_c23 : (Jvm.Cond.code ({ cls := "java/util/Arrays", name := "copyOfRange", desc := "([BII)[B" } : Jvm.MethodName) jdk_65_method_132_code (3 : Nat) (Option.some (Jvm.ClassFile.FieldType.array Jvm.ClassFile.FieldType.byte))).before args0 about1 = true := code_word (m := ⟨15, 2⟩) (meth := k15m2) (c := k15c2) (by decide +kernel) rfl rfl rfl (by decide +kernel)
set_option maxRecDepth 65536 in
theorem w_c24 : (Jvm.Cond.code ({ cls := "java/util/Arrays", name := "copyOfRangeByte", desc := "([BII)[B" } : Jvm.MethodName) jdk_65_method_133_code (5 : Nat) (Option.some (Jvm.ClassFile.FieldType.array Jvm.ClassFile.FieldType.byte))).before args0 about1 = true := code_word (m := ⟨15, 3⟩) (meth := k15m3) (c := k15c3) (by decide +kernel) rfl rfl rfl (by decide +kernel)
set_option maxRecDepth 65536 in
theorem w_c25 : (Jvm.Cond.code ({ cls := "java/util/Arrays", name := "checkLength", desc := "(II)V" } : Jvm.MethodName) jdk_65_method_131_code (2 : Nat) (Option.none : Option Jvm.ClassFile.FieldType)).before args0 about1 = true := code_word (m := ⟨15, 1⟩) (meth := k15m1) (c := k15c1) (by decide +kernel) rfl rfl rfl (by decide +kernel)
set_option maxRecDepth 65536 in
theorem w_c26 : (Jvm.Cond.code ({ cls := "java/lang/Math", name := "min", desc := "(II)I" } : Jvm.MethodName) jdk_29_method_69_code (2 : Nat) (Option.some Jvm.ClassFile.FieldType.int)).before args0 about1 = true := code_word (m := ⟨16, 1⟩) (meth := k16m1) (c := k16c1) (by decide +kernel) rfl rfl rfl (by decide +kernel)
set_option maxRecDepth 65536 in
theorem w_c27 : (Jvm.Cond.code ({ cls := "java/lang/String", name := "equals", desc := "(Ljava/lang/Object;)Z" } : Jvm.MethodName) jdk_42_method_66_code (3 : Nat) (Option.some Jvm.ClassFile.FieldType.boolean)).before args0 about1 = true := code_word (m := ⟨8, 3⟩) (meth := k8m3) (c := k8c3) (by decide +kernel) rfl rfl rfl (by decide +kernel)
set_option maxRecDepth 65536 in
theorem w_c28 : (Jvm.Cond.code ({ cls := "java/lang/StringLatin1", name := "equals", desc := "([B[B)Z" } : Jvm.MethodName) jdk_43_method_13_code (3 : Nat) (Option.some Jvm.ClassFile.FieldType.boolean)).before args0 about1 = true := code_word (m := ⟨17, 1⟩) (meth := k17m1) (c := k17c1) (by decide +kernel) rfl rfl rfl (by decide +kernel)
set_option maxRecDepth 65536 in
theorem w_c29 : (Jvm.Cond.code ({ cls := "com/example/rising_block/risingblock/io/YamlNode", name := "isMapping", desc := "()Z" } : Jvm.MethodName) prog_21_method_9_code (1 : Nat) (Option.some Jvm.ClassFile.FieldType.boolean)).before args0 about1 = true := code_word (m := ⟨2, 1⟩) (meth := k2m1) (c := k2c1) (by decide +kernel) rfl rfl rfl (by decide +kernel)
set_option maxRecDepth 65536 in
theorem w_c30 : (Jvm.Cond.code ({ cls := "com/example/rising_block/risingblock/io/YamlNode", name := "isSequence", desc := "()Z" } : Jvm.MethodName) prog_21_method_10_code (1 : Nat) (Option.some Jvm.ClassFile.FieldType.boolean)).before args0 about1 = true := code_word (m := ⟨2, 2⟩) (meth := k2m2) (c := k2c2) (by decide +kernel) rfl rfl rfl (by decide +kernel)
set_option maxRecDepth 65536 in
theorem w_c31 : (Jvm.Cond.code ({ cls := "com/example/rising_block/risingblock/io/YamlNode", name := "isText", desc := "()Z" } : Jvm.MethodName) prog_21_method_11_code (1 : Nat) (Option.some Jvm.ClassFile.FieldType.boolean)).before args0 about1 = true := code_word (m := ⟨2, 3⟩) (meth := k2m3) (c := k2c3) (by decide +kernel) rfl rfl rfl (by decide +kernel)
set_option maxRecDepth 65536 in
theorem w_c32 : (Jvm.Cond.code ({ cls := "com/example/rising_block/risingblock/io/YamlNode", name := "isNumber", desc := "()Z" } : Jvm.MethodName) prog_21_method_12_code (1 : Nat) (Option.some Jvm.ClassFile.FieldType.boolean)).before args0 about1 = true := code_word (m := ⟨2, 4⟩) (meth := k2m4) (c := k2c4) (by decide +kernel) rfl rfl rfl (by decide +kernel)
set_option maxRecDepth 65536 in
theorem w_c33 : (Jvm.Cond.code ({ cls := "com/example/rising_block/risingblock/io/YamlNode", name := "size", desc := "()I" } : Jvm.MethodName) prog_21_method_21_code (2 : Nat) (Option.some Jvm.ClassFile.FieldType.int)).before args0 about1 = true := code_word (m := ⟨2, 5⟩) (meth := k2m5) (c := k2c5) (by decide +kernel) rfl rfl rfl (by decide +kernel)
def codes1 : List Jvm.Cond := [Jvm.Cond.code x code maxLocals ret, Jvm.Cond.code ({ cls := "com/example/rising_block/risingblock/io/YamlNode", name := "truth", desc := "(Z)Lcom/example/rising_block/risingblock/io/YamlNode;" } : Jvm.MethodName) prog_21_method_6_code (1 : Nat) (Option.some (Jvm.ClassFile.FieldType.object "com/example/rising_block/risingblock/io/YamlNode")), Jvm.Cond.code ({ cls := "com/example/rising_block/risingblock/io/YamlNode", name := "toString", desc := "()Ljava/lang/String;" } : Jvm.MethodName) prog_21_method_24_code (2 : Nat) (Option.some (Jvm.ClassFile.FieldType.object "java/lang/String")), Jvm.Cond.code ({ cls := "java/lang/StringBuilder", name := "<init>", desc := "()V" } : Jvm.MethodName) jdk_67_method_1_code (1 : Nat) (Option.none : Option Jvm.ClassFile.FieldType), Jvm.Cond.code ({ cls := "java/lang/AbstractStringBuilder", name := "<init>", desc := "(I)V" } : Jvm.MethodName) jdk_68_method_2_code (2 : Nat) (Option.none : Option Jvm.ClassFile.FieldType), Jvm.Cond.code ({ cls := "java/lang/Object", name := "<init>", desc := "()V" } : Jvm.MethodName) object_method_1_code (1 : Nat) (Option.none : Option Jvm.ClassFile.FieldType), Jvm.Cond.code ({ cls := "com/example/rising_block/risingblock/io/YamlNode", name := "write", desc := "(Ljava/lang/StringBuilder;)V" } : Jvm.MethodName) prog_21_method_25_code (5 : Nat) (Option.none : Option Jvm.ClassFile.FieldType), Jvm.Cond.code ({ cls := "java/lang/Enum", name := "ordinal", desc := "()I" } : Jvm.MethodName) jdk_37_method_2_code (1 : Nat) (Option.some Jvm.ClassFile.FieldType.int), Jvm.Cond.code ({ cls := "java/lang/StringBuilder", name := "append", desc := "(Ljava/lang/String;)Ljava/lang/StringBuilder;" } : Jvm.MethodName) jdk_67_method_7_code (2 : Nat) (Option.some (Jvm.ClassFile.FieldType.object "java/lang/StringBuilder")), Jvm.Cond.code ({ cls := "java/lang/AbstractStringBuilder", name := "append", desc := "(Ljava/lang/String;)Ljava/lang/AbstractStringBuilder;" } : Jvm.MethodName) jdk_68_method_22_code (3 : Nat) (Option.some (Jvm.ClassFile.FieldType.object "java/lang/AbstractStringBuilder")), Jvm.Cond.code ({ cls := "java/lang/String", name := "length", desc := "()I" } : Jvm.MethodName) jdk_42_method_54_code (1 : Nat) (Option.some Jvm.ClassFile.FieldType.int), Jvm.Cond.code ({ cls := "java/lang/String", name := "coder", desc := "()B" } : Jvm.MethodName) jdk_42_method_152_code (1 : Nat) (Option.some Jvm.ClassFile.FieldType.byte), Jvm.Cond.code ({ cls := "java/lang/AbstractStringBuilder", name := "ensureCapacityInternal", desc := "(I)V" } : Jvm.MethodName) jdk_68_method_9_code (3 : Nat) (Option.none : Option Jvm.ClassFile.FieldType), Jvm.Cond.code ({ cls := "java/lang/AbstractStringBuilder", name := "putStringAt", desc := "(ILjava/lang/String;)V" } : Jvm.MethodName) jdk_68_method_73_code (3 : Nat) (Option.none : Option Jvm.ClassFile.FieldType), Jvm.Cond.code ({ cls := "java/lang/AbstractStringBuilder", name := "inflateIfNeededFor", desc := "(Ljava/lang/String;)V" } : Jvm.MethodName) jdk_68_method_71_code (2 : Nat) (Option.none : Option Jvm.ClassFile.FieldType), Jvm.Cond.code ({ cls := "java/lang/String", name := "getBytes", desc := "([BIB)V" } : Jvm.MethodName) jdk_42_method_147_code (4 : Nat) (Option.none : Option Jvm.ClassFile.FieldType), Jvm.Cond.code ({ cls := "java/lang/StringBuilder", name := "toString", desc := "()Ljava/lang/String;" } : Jvm.MethodName) jdk_67_method_42_code (1 : Nat) (Option.some (Jvm.ClassFile.FieldType.object "java/lang/String")), Jvm.Cond.code ({ cls := "java/lang/String", name := "<init>", desc := "(Ljava/lang/StringBuilder;)V" } : Jvm.MethodName) jdk_42_method_53_code (2 : Nat) (Option.none : Option Jvm.ClassFile.FieldType), Jvm.Cond.code ({ cls := "java/lang/String", name := "<init>", desc := "(Ljava/lang/AbstractStringBuilder;Ljava/lang/Void;)V" } : Jvm.MethodName) jdk_42_method_150_code (5 : Nat) (Option.none : Option Jvm.ClassFile.FieldType), Jvm.Cond.code ({ cls := "java/lang/AbstractStringBuilder", name := "getValue", desc := "()[B" } : Jvm.MethodName) jdk_68_method_64_code (1 : Nat) (Option.some (Jvm.ClassFile.FieldType.array Jvm.ClassFile.FieldType.byte)), Jvm.Cond.code ({ cls := "java/lang/StringBuilder", name := "length", desc := "()I" } : Jvm.MethodName) jdk_67_method_93_code (1 : Nat) (Option.some Jvm.ClassFile.FieldType.int), Jvm.Cond.code ({ cls := "java/lang/AbstractStringBuilder", name := "length", desc := "()I" } : Jvm.MethodName) jdk_68_method_6_code (1 : Nat) (Option.some Jvm.ClassFile.FieldType.int), Jvm.Cond.code ({ cls := "java/lang/AbstractStringBuilder", name := "isLatin1", desc := "()Z" } : Jvm.MethodName) jdk_68_method_68_code (1 : Nat) (Option.some Jvm.ClassFile.FieldType.boolean), Jvm.Cond.code ({ cls := "java/util/Arrays", name := "copyOfRange", desc := "([BII)[B" } : Jvm.MethodName) jdk_65_method_132_code (3 : Nat) (Option.some (Jvm.ClassFile.FieldType.array Jvm.ClassFile.FieldType.byte)), Jvm.Cond.code ({ cls := "java/util/Arrays", name := "copyOfRangeByte", desc := "([BII)[B" } : Jvm.MethodName) jdk_65_method_133_code (5 : Nat) (Option.some (Jvm.ClassFile.FieldType.array Jvm.ClassFile.FieldType.byte)), Jvm.Cond.code ({ cls := "java/util/Arrays", name := "checkLength", desc := "(II)V" } : Jvm.MethodName) jdk_65_method_131_code (2 : Nat) (Option.none : Option Jvm.ClassFile.FieldType), Jvm.Cond.code ({ cls := "java/lang/Math", name := "min", desc := "(II)I" } : Jvm.MethodName) jdk_29_method_69_code (2 : Nat) (Option.some Jvm.ClassFile.FieldType.int), Jvm.Cond.code ({ cls := "java/lang/String", name := "equals", desc := "(Ljava/lang/Object;)Z" } : Jvm.MethodName) jdk_42_method_66_code (3 : Nat) (Option.some Jvm.ClassFile.FieldType.boolean), Jvm.Cond.code ({ cls := "java/lang/StringLatin1", name := "equals", desc := "([B[B)Z" } : Jvm.MethodName) jdk_43_method_13_code (3 : Nat) (Option.some Jvm.ClassFile.FieldType.boolean), Jvm.Cond.code ({ cls := "com/example/rising_block/risingblock/io/YamlNode", name := "isMapping", desc := "()Z" } : Jvm.MethodName) prog_21_method_9_code (1 : Nat) (Option.some Jvm.ClassFile.FieldType.boolean), Jvm.Cond.code ({ cls := "com/example/rising_block/risingblock/io/YamlNode", name := "isSequence", desc := "()Z" } : Jvm.MethodName) prog_21_method_10_code (1 : Nat) (Option.some Jvm.ClassFile.FieldType.boolean), Jvm.Cond.code ({ cls := "com/example/rising_block/risingblock/io/YamlNode", name := "isText", desc := "()Z" } : Jvm.MethodName) prog_21_method_11_code (1 : Nat) (Option.some Jvm.ClassFile.FieldType.boolean), Jvm.Cond.code ({ cls := "com/example/rising_block/risingblock/io/YamlNode", name := "isNumber", desc := "()Z" } : Jvm.MethodName) prog_21_method_12_code (1 : Nat) (Option.some Jvm.ClassFile.FieldType.boolean), Jvm.Cond.code ({ cls := "com/example/rising_block/risingblock/io/YamlNode", name := "size", desc := "()I" } : Jvm.MethodName) prog_21_method_21_code (2 : Nat) (Option.some Jvm.ClassFile.FieldType.int)]
set_option maxRecDepth 65536 in
theorem codes_eq : words1.filter isCode = codes1 := rfl
theorem w_codes : ∀ c ∈ words1.filter isCode, c.before args0 about1 = true := by
  rw [codes_eq]
  intro c hc
  simp only [codes1, List.mem_cons, List.not_mem_nil, or_false] at hc
  rcases hc with rfl | rfl | rfl | rfl | rfl | rfl | rfl | rfl | rfl | rfl | rfl | rfl | rfl | rfl | rfl | rfl | rfl | rfl | rfl | rfl | rfl | rfl | rfl | rfl | rfl | rfl | rfl | rfl | rfl | rfl | rfl | rfl | rfl | rfl
  · exact w_c0
  · exact w_c1
  · exact w_c2
  · exact w_c3
  · exact w_c4
  · exact w_c5
  · exact w_c6
  · exact w_c7
  · exact w_c8
  · exact w_c9
  · exact w_c10
  · exact w_c11
  · exact w_c12
  · exact w_c13
  · exact w_c14
  · exact w_c15
  · exact w_c16
  · exact w_c17
  · exact w_c18
  · exact w_c19
  · exact w_c20
  · exact w_c21
  · exact w_c22
  · exact w_c23
  · exact w_c24
  · exact w_c25
  · exact w_c26
  · exact w_c27
  · exact w_c28
  · exact w_c29
  · exact w_c30
  · exact w_c31
  · exact w_c32
  · exact w_c33
set_option maxRecDepth 65536 in
theorem w_t1 : (words1.take 24).all (fun c => isCode c || c.before args0 about1) = true := by decide +kernel
set_option maxRecDepth 65536 in
theorem w_t2 : ((words1.drop 24).take 24).all (fun c => isCode c || c.before args0 about1) = true := by decide +kernel
set_option maxRecDepth 65536 in
theorem w_t3 : (((words1.drop 24).drop 24).take 24).all (fun c => isCode c || c.before args0 about1) = true := by decide +kernel
set_option maxRecDepth 65536 in
theorem w_t4 : ((((words1.drop 24).drop 24).drop 24).take 24).all (fun c => isCode c || c.before args0 about1) = true := by decide +kernel
set_option maxRecDepth 65536 in
theorem w_t5 : (((((words1.drop 24).drop 24).drop 24).drop 24).take 24).all (fun c => isCode c || c.before args0 about1) = true := by decide +kernel
set_option maxRecDepth 65536 in
theorem w_t6 : ((((((words1.drop 24).drop 24).drop 24).drop 24).drop 24).take 24).all (fun c => isCode c || c.before args0 about1) = true := by decide +kernel
set_option maxRecDepth 65536 in
theorem w_t7 : (((((((words1.drop 24).drop 24).drop 24).drop 24).drop 24).drop 24).take 24).all (fun c => isCode c || c.before args0 about1) = true := by decide +kernel
set_option maxRecDepth 65536 in
theorem w_t8 : ((((((((words1.drop 24).drop 24).drop 24).drop 24).drop 24).drop 24).drop 24).take 24).all (fun c => isCode c || c.before args0 about1) = true := by decide +kernel
set_option maxRecDepth 65536 in
theorem w_t9 : ((((((((words1.drop 24).drop 24).drop 24).drop 24).drop 24).drop 24).drop 24).drop 24).all (fun c => isCode c || c.before args0 about1) = true := by decide +kernel
theorem w_tables : (allAtoms (Jvm.Cond.code x code maxLocals ret :: tables_1)).before args0 about1 = true := by
  rw [allAtoms_all]
  show words1.all (fun c => c.before args0 about1) = true
  refine all_split ?_ w_codes
  rw [← List.take_append_drop 24 words1, List.all_append, w_t1, ← List.take_append_drop 24 (words1.drop 24), List.all_append, w_t2, ← List.take_append_drop 24 ((words1.drop 24).drop 24), List.all_append, w_t3, ← List.take_append_drop 24 (((words1.drop 24).drop 24).drop 24), List.all_append, w_t4, ← List.take_append_drop 24 ((((words1.drop 24).drop 24).drop 24).drop 24), List.all_append, w_t5, ← List.take_append_drop 24 (((((words1.drop 24).drop 24).drop 24).drop 24).drop 24), List.all_append, w_t6, ← List.take_append_drop 24 ((((((words1.drop 24).drop 24).drop 24).drop 24).drop 24).drop 24), List.all_append, w_t7, ← List.take_append_drop 24 (((((((words1.drop 24).drop 24).drop 24).drop 24).drop 24).drop 24).drop 24), List.all_append, w_t8, w_t9]
  rfl
set_option maxRecDepth 65536 in
theorem w_rest : rest_1_c.before args0 about1 = true := by decide +kernel
set_option maxRecDepth 65536 in
theorem w_case : (Jvm.Cond.and given_1 narrow_1).before args0 about1 = true := by decide +kernel
set_option maxRecDepth 65536 in
theorem w_consts : constsHeld consts_1 about1 := Jvm.Lit.constsHeldB_iff.mp (by decide +kernel)
theorem w_applies : (headSpec (Jvm.Cond.code x code maxLocals ret :: tables_1) room_1).applies x e0.platform about1 = true :=
  (Spec.applies_iff w_frames).mpr ⟨w_running, w_runnable, w_alone, w_named, w_hears, w_ripe, w_room, w_tables⟩
theorem atStart : AtStart classFile x code maxLocals ret World_1 tables_1 room_1 Calls_1 rest_1 Pre_1 launch0 p0 e0 about1 theMethod args0 below0 :=
  ⟨lists_1, trivial, launch0.admits_env _ _ _, launch0.least_env, fairChoices_fair.cas, fairChoices_fair.clock, w_frames, w_args, w_heap, w_applies, ⟨w_consts, trivial⟩, w_rest, w_case⟩
end start1
theorem witness_1 : WitnessClaimed_1 := ⟨start1.p0, start1.e0, start1.about1, start1.theMethod, start1.args0, start1.below0, start1.atStart⟩
end Jvm.Pilot.@@N@@
